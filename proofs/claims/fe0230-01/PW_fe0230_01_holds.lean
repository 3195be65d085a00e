import PyProof.Rows.All
import Wide.All
import OpenK.AllK
import Wide.FinOn
import PySem.Challenge.RW_fe0230_01
set_option Elab.async false
section
namespace Mine
/-- the number that a row of digits writes in base b -/
def val (b : Int) (ds : List Int) : Int := ds.foldl (fun v d => v * b + d) 0
/-- how many zeros stand ahead -/
def lead (ds : List Int) : Int := ((ds.takeWhile (fun d => d == 0)).length : Int)

theorem val_nil (b : Int) : val b [] = 0 := rfl
theorem val_snoc (b : Int) (ds : List Int) (d : Int) : val b (ds ++ [d]) = val b ds * b + d := by
  simp [val, List.foldl_append]
theorem foldl_from (b : Int) : ∀ (ds : List Int) (a : Int), ds.foldl (fun v d => v * b + d) a = a * b ^ ds.length + val b ds
  | [], a => by simp [val]
  | d :: r, a => by
    rw [List.foldl_cons, foldl_from b r, List.length_cons]
    have h : val b (d :: r) = d * b ^ r.length + val b r := by
      show (d :: r).foldl _ 0 = _
      rw [List.foldl_cons, foldl_from b r]
      simp
    rw [h, Int.pow_succ, Int.add_mul, Int.mul_assoc, Int.mul_comm b, ← Int.mul_assoc]
    omega
theorem val_cons (b d : Int) (r : List Int) : val b (d :: r) = d * b ^ r.length + val b r := by
  show (d :: r).foldl _ 0 = _
  rw [List.foldl_cons, foldl_from b r]
  simp
theorem val_nonneg {b : Int} (hb : 0 ≤ b) : ∀ {ds : List Int}, (∀ d ∈ ds, 0 ≤ d) → 0 ≤ val b ds
  | [], _ => Int.le_refl _
  | d :: r, h => by
    rw [val_cons]
    have h1 := val_nonneg hb (ds := r) fun x hx => h x (.tail _ hx)
    have h2 : 0 ≤ d * b ^ r.length := Int.mul_nonneg (h d (.head _)) (Int.pow_nonneg hb)
    omega
theorem val_zero_iff {b : Int} (hb : 0 < b) : ∀ {ds : List Int}, (∀ d ∈ ds, 0 ≤ d) → (val b ds = 0 ↔ ∀ d ∈ ds, d = 0)
  | [], _ => by simp [val]
  | d :: r, h => by
    have h1 := val_nonneg (Int.le_of_lt hb) (ds := r) fun x hx => h x (.tail _ hx)
    have hp : (0 : Int) < b ^ r.length := Int.pow_pos hb
    have hd := h d (.head _)
    have h2 : 0 ≤ d * b ^ r.length := Int.mul_nonneg hd (Int.le_of_lt hp)
    have ih := val_zero_iff hb (ds := r) fun x hx => h x (.tail _ hx)
    rw [val_cons]
    constructor
    · intro e
      have e1 : d * b ^ r.length = 0 := by omega
      have e2 : val b r = 0 := by omega
      intro x hx
      rcases List.mem_cons.mp hx with rfl | hx
      · rcases Int.mul_eq_zero.mp e1 with q | q
        · exact q
        · omega
      · exact ih.mp e2 x hx
    · intro e
      rw [e d (.head _), ih.mpr fun x hx => e x (.tail _ hx)]
      simp
theorem takeWhile_snoc_all {ds : List Int} (h : ∀ d ∈ ds, d = 0) (d : Int) :
    (ds ++ [d]).takeWhile (fun d => d == 0) = ds ++ (if d = 0 then [d] else []) := by
  induction ds with
  | nil =>
    by_cases hd : d = 0
    · simp [hd]
    · simp [hd]
  | cons x r ih =>
    have hx := h x (.head _)
    subst hx
    simp [ih fun y hy => h y (.tail _ hy)]
theorem lead_nil : lead [] = 0 := rfl
theorem lead_all {ds : List Int} (h : ∀ d ∈ ds, d = 0) : lead ds = ds.length := by
  unfold lead
  congr 2
  induction ds with
  | nil => rfl
  | cons x r ih =>
    have hx := h x (.head _)
    subst hx
    simp [ih fun y hy => h y (.tail _ hy)]
theorem lead_append_of_not {ds : List Int} (h : ¬ ∀ d ∈ ds, d = 0) (es : List Int) : lead (ds ++ es) = lead ds := by
  unfold lead
  induction ds with
  | nil => exact absurd (fun d hd => nomatch hd) h
  | cons x r ih =>
    by_cases hx : x = 0
    · subst hx
      have h' : ¬ ∀ d ∈ r, d = 0 := fun q => h fun d hd => by
        rcases List.mem_cons.mp hd with rfl | hd
        · rfl
        · exact q d hd
      have := ih h'
      simp only [List.cons_append, List.takeWhile_cons, beq_self_eq_true, if_true, List.length_cons] at this ⊢
      omega
    · simp [hx]
theorem lead_snoc_zero {ds : List Int} {d : Int} (h : ∀ x ∈ ds ++ [d], x = 0) : lead (ds ++ [d]) = lead ds + 1 := by
  rw [lead_all h, lead_all fun x hx => h x (List.mem_append_left _ hx), List.length_append]
  simp
theorem lead_snoc_pos {ds : List Int} {d : Int} (h : ¬ ∀ x ∈ ds ++ [d], x = 0) : lead (ds ++ [d]) = lead ds := by
  by_cases q : ∀ x ∈ ds, x = 0
  · have hd : d ≠ 0 := fun e => h fun x hx => by
      rcases List.mem_append.mp hx with hx | hx
      · exact q x hx
      · rw [List.mem_singleton.mp hx]; exact e
    unfold lead
    rw [takeWhile_snoc_all q, if_neg hd]
    have := lead_all q
    unfold lead at this
    simp only [List.append_nil]
    omega
  · exact lead_append_of_not q _

/-- what to_long knows between two turns, over the octets taken so far -/
def ToInv (b sh : Int) (pre : List Int) (p v : Int) : Prop := v = val b (pre.map fun c => c - sh) ∧ p = lead (pre.map fun c => c - sh)
theorem toInv_nil (b sh : Int) : ToInv b sh [] 0 0 := ⟨rfl, rfl⟩
theorem toInv_zero {b sh : Int} {pre : List Int} {n p v : Int} (hb : 2 ≤ b) (h : ∀ c ∈ pre ++ [n], sh ≤ c) (i : ToInv b sh pre p v) (e : v * b + (n - sh) = 0) : ToInv b sh (pre ++ [n]) (p + 1) (v * b + (n - sh)) := by
  obtain ⟨hv, hp⟩ := i
  have e1 : v * b + (n - sh) = val b ((pre ++ [n]).map fun c => c - sh) := by rw [List.map_append, List.map_singleton, val_snoc, hv]
  have hall : ∀ d ∈ (pre ++ [n]).map fun c => c - sh, 0 ≤ d := fun d hd => by
    obtain ⟨c, hc, rfl⟩ := List.mem_map.mp hd
    have := h c hc
    omega
  refine ⟨e1, ?_⟩
  rw [e1] at e
  have hz := (val_zero_iff (by omega) hall).mp e
  rw [List.map_append, List.map_singleton] at hz ⊢
  rw [lead_snoc_zero hz, hp]
theorem toInv_pos {b sh : Int} {pre : List Int} {n p v : Int} (hb : 2 ≤ b) (h : ∀ c ∈ pre ++ [n], sh ≤ c) (i : ToInv b sh pre p v) (e : ¬ v * b + (n - sh) = 0) : ToInv b sh (pre ++ [n]) p (v * b + (n - sh)) := by
  obtain ⟨hv, hp⟩ := i
  have e1 : v * b + (n - sh) = val b ((pre ++ [n]).map fun c => c - sh) := by rw [List.map_append, List.map_singleton, val_snoc, hv]
  have hall : ∀ d ∈ (pre ++ [n]).map fun c => c - sh, 0 ≤ d := fun d hd => by
    obtain ⟨c, hc, rfl⟩ := List.mem_map.mp hd
    have := h c hc
    omega
  refine ⟨e1, ?_⟩
  rw [e1] at e
  have hz := fun q => e ((val_zero_iff (by omega) hall).mpr q)
  rw [List.map_append, List.map_singleton] at hz ⊢
  rw [lead_snoc_pos hz, hp]
theorem prefix_le {sh : Int} {ds pre post : List Int} {n : Int} (h : ∀ d ∈ ds, 0 ≤ d) (e : ds.map (fun k => k + sh) = pre ++ n :: post) : ∀ c ∈ pre ++ [n], sh ≤ c := by
  intro c hc
  have hm : c ∈ ds.map (fun k => k + sh) := by
    rw [e]
    rcases List.mem_append.mp hc with q | q
    · exact List.mem_append_left _ q
    · rw [List.mem_singleton.mp q]; exact List.mem_append_right _ (.head _)
  obtain ⟨d, hd, rfl⟩ := List.mem_map.mp hm
  have := h d hd
  omega
end Mine
end
section
open PySem PySem.W PySem.Calls PyProof.Rows
namespace Mine
/-- what the law's own sum knows between two turns -/
def DueInv (b : Int) (pre : List Int) (due power : Int) : Prop := due = val b pre.reverse ∧ power = b ^ pre.length
theorem dueInv_nil (b : Int) : DueInv b [] 0 1 := ⟨rfl, (Int.pow_zero b).symm⟩
theorem dueInv_snoc {b : Int} {pre : List Int} {d due power : Int} (h : DueInv b pre due power) : DueInv b (pre ++ [d]) (due + d * power) (power * b) := by
  obtain ⟨h1, h2⟩ := h
  constructor
  · rw [List.reverse_append, List.reverse_singleton, List.singleton_append, val_cons, List.length_reverse, h1, h2]
    omega
  · rw [List.length_append, List.length_singleton, Int.pow_succ, h2]

section
variable {prog : Program} {w : World} {A : Around} {E : Value → Shared → Prop} {s : Shared} {env : Env} {h₀ : Heap} {x y1 y2 : Str} {body : List Stmt} {Q : Flow → Shared → Prop}
/-- «for x in reversed(a list of ints)» whose turns store two int names -/
theorem rev_loop2 {ax I : Addr} {vs : List Value} {ns : List Int} {n : Nat} {m₀ : Str → Option Value} {news : List (Addr × Obj)} {a₀ b₀ : Int} {ta₀ tb₀ : Tok} (P : List Int → Int → Int → Prop)
    (hh : A.handled = none) (F : Fr h₀ env.locals s.heap m₀) (N : News h₀ env.locals s.heap ((I, revObj ax ((vs.length : Int) - 1)) :: news)) (hof : OffI I (revObj ax ((vs.length : Int) - 1)) news)
    (hm : (ax, W.listOf vs.toArray n) ∈ news) (hi : IntsAre vs ns) (h1 : m₀ y1 = some (.int a₀ ta₀)) (h2 : m₀ y2 = some (.int b₀ tb₀)) (hp : P [] a₀ b₀)
    (turn : ∀ (pre post : List Int) (d a b : Int) (t ta tb : Tok) (it : Obj) (h : Heap) (tk : Nat), ns.reverse = pre ++ d :: post → P pre a b →
      Fr h₀ env.locals h (fun y => if y = x then some (.int d t) else if y = y1 then some (.int a ta) else if y = y2 then some (.int b tb) else m₀ y) → News h₀ env.locals h ((I, it) :: news) →
      wpAny (model prog w) A (execs body env) (UnrPost h₀ env.locals { s with heap := h, toks := tk } I it
        (fun m' n' => n' = news ∧ (∃ a' b' ta' tb', m' y1 = some (.int a' ta') ∧ m' y2 = some (.int b' tb') ∧ P (pre ++ [d]) a' b') ∧ ∀ z, z ≠ x → z ≠ y1 → z ≠ y2 → m' z = m₀ z) Q) E { s with heap := h, toks := tk })
    (done : ∀ (a b : Int) (ta tb : Tok) (u : Option Value) (h : Heap) (tk : Nat), P ns.reverse a b →
      Fr h₀ env.locals h (fun y => if y = x then u else if y = y1 then some (.int a ta) else if y = y2 then some (.int b tb) else m₀ y) → News h₀ env.locals h news → Q .next { s with heap := h, toks := tk }) :
    wpAny (model prog w) A (pyIter (.ref I)) (fun it s₂ => LoopAtV prog w A h₀ env x body Q E it s₂) E s := by
  refine iter_revUnr (lo := W.listOf vs.toArray n) (vs := vs) hh F N hof hm rfl rfl ?_
  suffices H : ∀ (r : List Value) (rs pre : List Int), ns.reverse = pre ++ rs → IntsAre r rs → ∀ (m : Str → Option Value) (a b : Int) (ta tb : Tok), m y1 = some (.int a ta) → m y2 = some (.int b tb) → P pre a b →
      (∀ z, z ≠ x → z ≠ y1 → z ≠ y2 → m z = m₀ z) → RevRest prog w A E h₀ env x body Q s I (ax, W.listOf vs.toArray n) r m news from
    H vs.reverse ns.reverse [] rfl (IntsAre.reverse hi) m₀ a₀ b₀ ta₀ tb₀ h1 h2 hp fun _ _ _ _ => rfl
  have shape : ∀ (v : Option Value) (m : Str → Option Value) (a b : Int) (ta tb : Tok), m y1 = some (.int a ta) → m y2 = some (.int b tb) → (∀ z, z ≠ x → z ≠ y1 → z ≠ y2 → m z = m₀ z) →
      (fun y => if y = x then v else m y) = fun y => if y = x then v else if y = y1 then some (.int a ta) else if y = y2 then some (.int b tb) else m₀ y := by
    intro v m a b ta tb e1 e2 e3
    funext y
    by_cases q : y = x
    · rw [if_pos q, if_pos q]
    · rw [if_neg q, if_neg q]
      by_cases q1 : y = y1
      · rw [if_pos q1, q1, e1]
      · rw [if_neg q1]
        by_cases q2 : y = y2
        · rw [if_pos q2, q2, e2]
        · rw [if_neg q2, e3 y q q1 q2]
  intro r
  induction r with
  | nil =>
    intro rs pre e hr m a b ta tb e1 e2 hP e3
    obtain rfl : rs = [] := by cases hr; rfl
    rw [List.append_nil] at e
    refine RevRest.zero fun h tk F₁ N₁ => ?_
    refine done a b ta tb (m x) h tk (by rw [e]; exact hP) ?_ N₁
    rw [← shape (m x) m a b ta tb e1 e2 e3]
    have em : (fun y => if y = x then m x else m y) = m := by
      funext y
      by_cases q : y = x
      · rw [if_pos q, q]
      · rw [if_neg q]
    rw [em]
    exact F₁
  | cons v r ih =>
    intro rs pre e hr m a b ta tb e1 e2 hP e3
    cases hr with
    | cons d t hr' =>
      rename_i rs'
      refine RevRest.succ fun it h tk hc F₁ N₁ => ?_
      rw [shape _ m a b ta tb e1 e2 e3] at F₁
      refine wpAny_mono (turn pre rs' d a b t ta tb it h tk e hP F₁ N₁) (fun f s₂ p => ?_) fun _ _ q => q
      have up : UnrEnd h₀ env.locals { s with heap := h, toks := tk } I it
          (fun m' n' => n' = news ∧ (∃ a' b' ta' tb', m' y1 = some (.int a' ta') ∧ m' y2 = some (.int b' tb') ∧ P (pre ++ [d]) a' b') ∧ ∀ z, z ≠ x → z ≠ y1 → z ≠ y2 → m' z = m₀ z) s₂ →
          UnrEnd h₀ env.locals { s with heap := h, toks := tk } I it (fun m' n' => (ax, W.listOf vs.toArray n) ∈ n' ∧ RevRest prog w A E h₀ env x body Q s I (ax, W.listOf vs.toArray n) r m' n') s₂ := by
        rintro ⟨h', tk', m', news', es, F', N', off, en, ⟨a', b', ta', tb', g1, g2, g3⟩, g4⟩
        cases en
        exact ⟨h', tk', m', news, es, F', N', off, hm, ih rs' (pre ++ [d]) (by rw [List.append_assoc]; exact e) hr' m' a' b' ta' tb' g1 g2 g3 g4⟩
      cases f with
      | ret v => exact p
      | brk => exact p
      | next => exact up p
      | cont => exact up p
end
end Mine
end
section
open PySem PySem.W PySem.Calls PyProof.Rows
open PySem.Sem (wp)
set_option maxRecDepth 100000
namespace Mine

/-! A variant of the library's logic: over those contexts alone whose stack holds none of the decoders that may hold a bytearray. -/
def cleanCode : Code → Bool
  | .builtin id _ => !(Builtin.Bytes.decodersThatHold.contains id)
  | _ => true
def CleanB (Γ : Ctx) : Prop := ∀ x ∈ Γ.below, cleanCode x.1 = true
def wpX {α : Type} (M : Model) (A : Around) (t : Sem α) (Q : α → Shared → Prop) (E : Value → Shared → Prop) (s : Shared) : Prop :=
  ∀ Γ p, Γ.In A → cleanCode Γ.code = true → CleanB Γ → wp M Γ t (fun a _ s' => Q a s') (fun e _ s' => E e s') p s
def codeX (M : Model) (A : Around) (c : Code) (R : Result → Shared → Prop) (s : Shared) : Prop :=
  ∀ Γ p, Γ.code = c → Γ.Below A → CleanB Γ → wpCode M Γ R p s

section
variable {α β : Type} {M : Model} {A : Around} {E : Value → Shared → Prop} {s : Shared}
theorem wpX_any {t : Sem α} {Q : α → Shared → Prop} (h : wpAny M A t Q E s) : wpX M A t Q E s := fun Γ p hΓ _ _ => h Γ p hΓ
theorem wpX_pure {a : α} {Q : α → Shared → Prop} (h : Q a s) : wpX M A (pure a) Q E s := fun _ _ _ _ _ => h
theorem wpX_mono {t : Sem α} {Q Q' : α → Shared → Prop} {E' : Value → Shared → Prop} (h : wpX M A t Q E s) (hQ : ∀ a s, Q a s → Q' a s) (hE : ∀ e s, E e s → E' e s) : wpX M A t Q' E' s :=
  fun Γ p hΓ hc hb => Sem.wp_mono M Γ t (fun a _ s => hQ a s) (fun e _ s => hE e s) p s (h Γ p hΓ hc hb)
theorem wpX_bind {m : Sem α} {f : α → Sem β} {Q : β → Shared → Prop} (h : wpX M A m (fun a s' => wpX M A (f a) Q E s') E s) : wpX M A (m >>= f) Q E s := fun Γ p hΓ hc hb => by
  rw [Sem.wp_bind']
  exact Sem.wp_mono M Γ m (fun a p' s' h' => h' Γ p' hΓ hc hb) (fun _ _ _ h' => h') p s (h Γ p hΓ hc hb)
theorem wpX_anyBind {m : Sem α} {f : α → Sem β} {Q : β → Shared → Prop} (h : wpAny M A m (fun a s' => wpX M A (f a) Q E s') E s) : wpX M A (m >>= f) Q E s := wpX_bind (wpX_any h)
theorem wpX_holding {vs : List Value} {m : Sem α} {Q : α → Shared → Prop} (h : wpX M A m Q E s) : wpX M A (holding vs m) Q E s := fun Γ p hΓ hc hb => by
  rw [Sem.wp_holding]; exact h Γ p hΓ hc hb
theorem wpX_keep {vs : List Value} {m : Sem α} {Q : α → Shared → Prop} (h : wpX M A m Q E s) : wpX M A (m.keep vs) Q E s := fun Γ p hΓ hc hb => by
  rw [Sem.wp_keep]; exact h Γ p hΓ hc hb
theorem wpX_attempt {m : Sem α} {Q : Except Value α → Shared → Prop} (h : wpX M A m (fun a => Q (.ok a)) (fun e => Q (.error e)) s) : wpX M A m.attempt Q E s := fun Γ p hΓ hc hb => by
  rw [Sem.wp_attempt]; exact h Γ p hΓ hc hb
theorem wpX_onRaise {m : Sem α} {k : Value → Sem Unit} {Q : α → Shared → Prop} (h : wpX M A m Q (fun e s' => wpX M A (k e) (fun _ s'' => E e s'') E s') s) : wpX M A (m.onRaise k) Q E s := fun Γ p hΓ hc hb => by
  rw [Sem.wp_onRaise]
  exact Sem.wp_mono M Γ m (fun _ _ _ h' => h') (fun e p' s' h' => h' Γ p' hΓ hc hb) p s (h Γ p hΓ hc hb)
theorem wpX_tryCatch {m : Sem α} {k : Value → Sem α} {Q : α → Shared → Prop} (h : wpX M A m Q (fun e s' => wpX M A (k e) Q E s') s) : wpX M A (tryCatch m k) Q E s := fun Γ p hΓ hc hb => by
  rw [Sem.wp_tryCatch']
  exact Sem.wp_mono M Γ m (fun _ _ _ h' => h') (fun e p' s' h' => h' Γ p' hΓ hc hb) p s (h Γ p hΓ hc hb)
theorem codeX_any {c : Code} {R : Result → Shared → Prop} (h : codeAny M A c R s) : codeX M A c R s := fun Γ p hc hΓ _ => h Γ p hc hΓ
theorem codeX_mono {c : Code} {R R' : Result → Shared → Prop} (h : codeX M A c R s) (hR : ∀ r s, R r s → R' r s) : codeX M A c R' s := fun Γ p hc hΓ hb => wpCode_mono hR (h Γ p hc hΓ hb)
theorem cleanB_enter {Γ : Ctx} (hc : cleanCode Γ.code = true) (hb : CleanB Γ) (c : Code) (h : Option Value) (p : Pos) : CleanB (Γ.enter c h p) := fun x hx => by
  rcases List.mem_cons.mp hx with rfl | hx
  · exact hc
  · exact hb x hx
theorem wpX_run {c : Code} {h : Option Value} {Q : Flow → Shared → Prop} (hc : codeX M (A.mark h) c (fun r s' => match r with | .ok f => Q f s' | .error e => E e s') s) (hnb : h ≠ some byPass := by intro x; cases x) :
    wpX M A (run c h) Q E s := fun Γ p hΓ hk hb => by
  rw [Sem.wp_run]; exact hc _ p rfl (hΓ.enter c h p hnb) (cleanB_enter hk hb c h p)
theorem wpX_runValue {c : Code} {Q : Value → Shared → Prop} (hc : codeX M A c (fun r s' => match r with | .ok (.ret v) => Q v s' | .ok _ => False | .error e => E e s') s) : wpX M A (runValue c) Q E s := fun Γ p hΓ hk hb => by
  rw [Sem.wp_runValue]; exact hc _ p rfl (hΓ.enter c none p (by intro x; cases x)) (cleanB_enter hk hb c none p)
theorem wpX_call {f : Value} {pos : List Value} {kw : List (Str × Value)} {Q : Value → Shared → Prop}
    (hc : codeX M A (.call f ⟨pos, kw⟩) (fun r s' => match r with | .ok (.ret v) => Q v s' | .ok _ => False | .error e => E e s') s) : wpX M A (call f pos kw) Q E s := wpX_runValue hc
theorem codeX_of_tree {c : Code} {R : Result → Shared → Prop}
    (h : wpX M (A.under c) (M.den c) (fun fin s' => match fin with | .done f => R (.ok f) s' | .again c' => c'.quiet = true ∧ codeX M A c' R s') (fun e s' => R (.error e) s') s) (hk : cleanCode c = true := by rfl) : codeX M A c R s := fun Γ p hc hΓ hb => by
  rw [wpCode_iff_wp, hc]
  refine Sem.wp_mono M Γ _ (fun fin p' s' h' => ?_) (fun _ _ _ h' => h') p s (h Γ p (hc ▸ hΓ.in) (by rw [hc]; exact hk) hb)
  cases fin with
  | done f => exact h'
  | again c' => exact ⟨h'.1, h'.2 (Γ.goto c') p' rfl (hΓ.goto c') hb⟩
theorem codeX_loop {c : Code} {R : Result → Shared → Prop} (hq : c.quiet = true) (I : Nat → Shared → Prop)
    (turn : ∀ n s, I n s → wpX M (A.under c) (M.den c) (fun fin s' => match fin with | .done f => R (.ok f) s' | .again c' => c' = c ∧ ∃ m, m < n ∧ I m s') (fun e s' => R (.error e) s') s)
    (n : Nat) (h : I n s) (hk : cleanCode c = true := by rfl) : codeX M A c R s := by
  induction n using Nat.strongRecOn generalizing s with
  | ind n ih =>
    refine codeX_of_tree (wpX_mono (turn n s h) (fun fin s' hf => ?_) fun _ _ h' => h') hk
    cases fin with
    | done f => exact hf
    | again c' => obtain ⟨rfl, m, hm, hI⟩ := hf; exact ⟨hq, ih m hm hI⟩
/-- what the stack looks like from a clean context -/
theorem wpX_stack {Q : List (Code × Pos) → Shared → Prop} (h : ∀ st : List (Code × Pos), (∀ g, A.guards = some g → guardsOf st = g) → (∀ x ∈ st, cleanCode x.1 = true) → Q st s) : wpX M A stack Q E s := fun Γ p hΓ hc hb => by
  show Q ((Γ.code, p) :: Γ.below) s
  refine h _ (fun g hg => by rw [guardsOf_cons]; exact hΓ.2.2.2.1 g hg) fun x hx => ?_
  rcases List.mem_cons.mp hx with rfl | hx
  · exact hc
  · exact hb x hx
end

/-! The head, in that logic. -/
theorem caller_clean {M : Model} {t : Sem Fin} {R : Result → Shared → Prop} {s : Shared}
    (h : wpX M callerA t (fun fin s' => ∃ f, fin = .done f ∧ R (.ok f) s') (fun e s' => R (.error e) s') s) (p : Pos) :
    wp M ⟨.builtin "claim.caller" {}, none, none, [], none⟩ t (Sem.finPost M ⟨.builtin "claim.caller" {}, none, none, [], none⟩ R) (fun e _ s' => R (.error e) s') p s := by
  refine Sem.wp_mono M _ t (fun fin p' s' h' => ?_) (fun _ _ _ h' => h') p s (h _ p caller_in (by decide +kernel) fun x hx => nomatch hx)
  obtain ⟨f, rfl, hf⟩ := h'
  exact hf

abbrev WalkX (q : Program) (loose : List Str) (XP : (Str → Option Value) → Heap → Prop) (YP : World → Heap → Prop) (r : RowW) (d : DefRec) (kwd : List (Str × Expr)) : Prop :=
  ∀ (w : World) (s₀ s₁ : Shared) (mg mb : Str → Option Value), Ground q loose r.records XP w s₀ mg mb s₁.heap → YP w s₁.heap → ∀ (a : Addr) (o : Obj) (pm cd doc dV kV : Value), s₁.heap.get? a = some o →
    o.data = .func { docDef d.name d.params d.body d.scope pm cd doc with defaults := dV, kwdefaults := kV } → s₁.heap.CodeRec cd d.name → Dflts mg s₁.heap d.params kwd dV kV → mg d.name = some (.ref a) → s₁.gens = #[] →
    ∀ (args : List WData) (vals : List Value) (as : List Addr), r.claim.pre args = true → WData.layableAll args = true → ReadsAllW r.records (classAt s₀.heap) s₁.heap vals args as → WellAll w.params s₁.heap vals args → (∀ a ∈ as, (a == sysModules) = false) →
      wpX (model r.prog w) callerA (PySem.call (.ref a) vals) (fun v s' => GoodWG r.claim (classAt s₀.heap) (ExcName.means s₀.heap) args s₁ (.ok (.ret v)) s')
        (fun e s' => GoodWG r.claim (classAt s₀.heap) (ExcName.means s₀.heap) args s₁ (.error e) s') s₁

theorem callFrom_of_specX {c : ClaimW} {tree : List Value → Sem Fin} {w : World} {s : Shared} {free : Addr → Prop} {gens : Prop} {kept : Heap → Prop} (hz : s.asleep) (hgens : s.gens = #[])
    (hspec : ∀ args, c.pre args = true → WData.layableAll args = true → ∀ ord : List DictEntry → List DictEntry, (∀ l, (ord l).Perm l) →
      ∃ vs s₁, layAllW c.records (classAt s.heap) w.params ord args s = some (vs, s₁) ∧
        wpX (model c.prog w) callerA (tree vs) (fun fin s' => ∃ f, fin = .done f ∧ (c.Ends s args vs s₁ (.ok f) s' ∧ s'.os = s.os ∧ AllBare s'.gens ∧ kept s'.heap))
          (fun e s' => c.Ends s args vs s₁ (.error e) s' ∧ s'.os = s.os ∧ AllBare s'.gens ∧ kept s'.heap) s₁) :
    c.CallFrom (fun vs => ⟨tree vs, .builtin "claim.caller" {}, default, []⟩) w free gens kept s := by
  intro args hpre hlay ord hord
  obtain ⟨vs, s₁, hlaid, hcode⟩ := hspec args hpre hlay ord hord
  have rest := layAllW_rest _ _ _ hlaid
  have sleep : s₁.asleep := Shared.asleep_of_life rest.2.2.2 hz
  have hw := caller_clean (R := fun r s' => (c.Ends s args vs s₁ r s' ∧ s'.os = s.os ∧ kept s'.heap) ∧ leftWithCleanup s'.gens = false)
    (wpX_mono hcode (fun _ _ ⟨f, e, a, b, d, k⟩ => ⟨f, e, ⟨a, b, k⟩, leftWithCleanup_false_of_bare d⟩) fun _ _ ⟨a, b, d, k⟩ => ⟨⟨a, b, k⟩, leftWithCleanup_false_of_bare d⟩) default
  obtain ⟨n, r, s', s'', hs, hn, hfo, hends, hos, hkp⟩ := wp_halts_full (M := model c.prog w) (R := fun r s' => c.Ends s args vs s₁ r s' ∧ s'.os = s.os ∧ kept s'.heap) sleep hw
  obtain ⟨eh, _, _, eo, _⟩ := Shared.forget_eq hfo
  have hends' := hends.congr eh
  have hlife : s''.heap.life = s.heap.life := (runN_life _ _ _ hn).trans rest.2.2.2
  refine ⟨vs, s₁, hlaid, n, _, s'', hs, ?_, (fun _ i x hx => by rw [hgens] at hx; simp at hx), (by rw [eh]; exact hkp), by rw [hlife], Shared.rest_eq (eo.trans hos)⟩
  rcases hends' with ⟨v, rfl, d1, d2, d3, d4, d5⟩ | ⟨e, ob, cls, rfl, d1, d2, d3, d4, d5⟩
  · exact .inl ⟨v, rfl, d1, d2, d3, fun b o y _ => d4 b o y, d5⟩
  · exact .inr ⟨e, ob, cls, rfl, d1, d2, d3, d4, fun b o y _ => d5 b o y⟩
end Mine

namespace Mine.PySem.W
theorem holds_open {r : OpenRow} {q : Program} {loose : List Str} {Xt : Shared → Bool} {XP : (Str → Option Value) → Heap → Prop} {α : Type} {Yf : Shared → α} {Ya : World → α} {YP : World → Heap → Prop} {d : DefRec} {kwd : List (Str × Expr)} {N : Nat}
    (left : LeftO r.prog q loose Xt Yf Ya N) (hY : ∀ w s, Yf s = Ya w → YP w s.heap) (hYk : ∀ w h h', YP w h → (∀ b o, h.get? b = some o → h'.get? b = some o) → YP w h')
    (hX : ∀ s, Xt s = true → XP (s.heap.nsMap mainGlobals) s.heap) (hXk : ∀ mg h h', XP mg h → (∀ b o, h.get? b = some o → h'.get? b = some o) → XP mg h')
    (hdef : defOf q r.name = some (d, kwd)) (hp : r.prog.theDef r.name = some (d.params, d.body, d.scope)) (hk : kwWritten? d.params.kwonlyargs d.params.kw_defaults = some kwd) (hRf : ∀ s, Xt s = true → RecFacts r.records s.heap) (hwr : (!r.writes || r.records.isEmpty) = true)
    (k1 : r.wellSaid = true) (ok : (chainsOk q && opensWell r.prog && (frees r.toRowW && r.within.isEmpty)) = true) (hb : r.prog.bare) (hw : r.toRowW.promised)
    (call : WalkX q loose XP YP r.toRowW d kwd) : r.Holds := by
  obtain ⟨ok1, k5⟩ := Bool.and_eq_true_iff.mp ok
  obtain ⟨hch, o1⟩ := Bool.and_eq_true_iff.mp ok1
  obtain ⟨k5, k6⟩ := Bool.and_eq_true_iff.mp k5
  obtain ⟨hsame, hu, ha, hap, hm⟩ := frees_parts k5
  have hi := ident_freeW hu ha hap
  have hwi : r.toRowW.claim.within = [] := List.isEmpty_iff.mp k6
  refine ⟨k1, hw, ⟨⟨hb, o1, by show r.toRowW.makers.map _ = []; rw [hm]; rfl⟩, hw.witness, fun w => ?_⟩⟩
  have lb := left.behind (XP := fun mg h => XP mg h ∧ RecFacts r.records h) (fun s hs => ⟨hX s hs, hRf s hs⟩) hch w
  refine ⟨lb.1, fun s' hs' => ?_⟩
  obtain ⟨s₀, hf, hg0, s, hT, hz, hgens, hg, G00, y⟩ := lb.2 s' hs'
  have G0 : Ground q loose [] XP w s (s.heap.nsMap mainGlobals) (s.heap.nsMap builtinsNs) s.heap := ⟨G00.T, G00.B, G00.D, G00.TE, G00.TD, G00.W, G00.X.1, G00.cls, G00.has, G00.apart, G00.once, G00.K⟩
  have RF := G00.X.2
  have hT' := hT
  refine ⟨s₀, hf, hg0, s, hT, fun n hn => ?_, RF.1, RF.2.1, ?_⟩
  · obtain rfl : n = r.name := by split at hn <;> simp_all
    exact pinned_of_view hg G0 hdef hp hk
  have hgens : s.gens = #[] := Array.eq_empty_of_size_eq_zero (beq_iff_eq.mp hgens)
  have G : Ground q loose r.records XP w s _ _ s.heap := RF.ground G0
  refine callFrom_of_specX (c := r.toRowW.claim) hz hgens fun args hpre hlay ord hord => ?_
  obtain ⟨⟨vs, s₁⟩, hlaid⟩ := Option.isSome_iff_exists.mp (layAllW_isSome (P := w.params) (ord := ord) G.has args r.toRowW.args s (pre_splitW hpre).1)
  have keeps := layAllW_keeps _ _ _ hlaid
  have hal := layAllW_rest _ _ _ hlaid
  obtain ⟨as, hrd, hin, hold⟩ := reads_layAllW hord _ _ _ hlaid hlay s₁.heap (fun _ _ e => e)
  have L : Laid r.records w s s₁ args vs as := ⟨⟨ord, hord, hlaid⟩, hrd, hin, hold, keeps, hal.1.trans hgens, hal.2.2.1⟩
  have G₁ := G.keeps hXk keeps
  obtain ⟨a, o, pm, cd, doc, dV, kV, h1, h2, h3, h4, h5⟩ := G₁.fn hdef
  have hwalk := call w s s₁ _ _ G₁ (hYk _ _ _ (hY w s y) keeps) a o pm cd doc dV kV h2 h3 h4 h5 (defOf_name hdef ▸ h1) L.gens args vs as hpre hlay L.reads L.well (L.low G.low)
  refine ⟨vs, s₁, hlaid, ?_⟩
  refine wpX_anyBind (wpAny_nsGet G₁.T.g ?_)
  rw [h1]
  have up : ∀ (res : Result) (s' : Shared), GoodWG r.toRowW.claim (classAt s.heap) (ExcName.means s.heap) args s₁ res s' → r.toRowW.claim.Ends s args vs s₁ res s' ∧ s'.os = s.os ∧ AllBare s'.gens ∧
      (r.writes = true → namesKept r.toRowW.claim.prog r.keeps s.heap s'.heap ∧ ∀ x ∈ r.toRowW.claim.records, ∀ a, classAt s.heap x.1 = some a → recordClass s'.heap a x.1 (x.2.map (·.1)) = true) := fun res s' g =>
    have z := g.laid (c := r.toRowW.claim) hsame hwi hi L
    ⟨z.1, z.2.1, z.2.2, fun q => ⟨namesKept_of hT' hg r.keeps keeps g.2.1.old, noTable hwr q⟩⟩
  exact wpX_bind (wpX_mono hwalk (fun v s' g => wpX_pure ⟨_, rfl, up _ _ g⟩) fun e s' g => up _ _ g)
end Mine.PySem.W
end
section
open PySem PySem.W PySem.Calls PyProof.Rows
open PySem.Sem (wp)
set_option maxRecDepth 100000
namespace Mine

section
variable {prog : Program} {w : World} {A : Around} {E : Value → Shared → Prop} {R : Result → Shared → Prop} {s : Shared}
theorem codeX_func {body : List Stmt} {env : Env}
    (h : wpX (model prog w) (A.deeper env) (execs body env) (fun f s' => R (.ok (.ret (match f with | .ret v => v | _ => .none))) s')
      (fun e s' => wpAny (model prog w) (A.deeper env) (leaving env e) (fun _ s'' => R (.error e) s'') (fun e' s'' => R (.error e') s'') s') s) :
    codeX (model prog w) A (.func body env) R s := by
  refine codeX_of_tree ?_
  show wpX _ (A.deeper env) (do point; match ← (execs body env).onRaise (leaving env) with | .ret v => ret v | _ => ret .none) _ _ s
  refine wpX_anyBind (wpAny_point (wpX_bind (wpX_onRaise (wpX_mono h (fun f s' h' => ?_) fun _ _ h' => wpX_any h'))))
  cases f <;> exact wpX_pure h'
theorem codeX_call_function {a : Addr} {args : Args} {o : Obj} {fd : FuncData} {body : List Stmt} (hroom : A.depth < recursionLimit) (ho : s.heap.get? a = some o)
    (hd' : o.data = .func fd) (hco : fd.scope.isCoroutine = false) (hgen : fd.scope.isGenerator = false) (hbody : fd.body = .stmts body) (hcd : s.heap.CodeRec fd.code fd.qualname)
    (h : wpAny (model prog w) A.in1 (bindArgs fd args) (fun binds s₁ =>
      wpAny (model prog w) A.in1 (newFunctionEnv fd.scope fd.globals fd.closure binds (fd.qualname ++ ".<locals>.") (some a) fd.code none fd.builtins)
        (fun env s₂ => s₂.heap.NoLimit ∧ codeX (model prog w) A (.func body env) R s₂) (fun e s' => R (.error e) s') s₁) (fun e s' => R (.error e) s') s) :
    codeX (model prog w) A (.call (.ref a) args) R s := by
  refine codeX_of_tree (wpX_any ?_)
  show wpAny _ A.in1 (callAny (.ref a) args) _ _ s
  simp only [callAny]
  refine wpAny_bind (wpAny_load ho ?_)
  obtain ⟨c, oc, vs, tq, hc, hoc, hdc, hq⟩ := hcd
  simp only [hd', callFunction, hco, hgen, hbody, hc]
  rw [hc] at h
  refine wpAny_bind (m := field (.ref c) 1) (wpAny_field hoc hdc hq (wpAny_bind (wpAny_pure ?_)))
  exact wpAny_bind (wpAny_mono h (fun binds s₁ h₁ => wpAny_bind (wpAny_mono h₁ (fun env s₂ h₂ => wpAny_bind (wpAny_enterFrame h₂.1 hroom
    (wpAny_pure (And.intro rfl h₂.2)))) fun _ _ h' => h')) fun _ _ h' => h')

/-- the law's own frame: a def whose names are captured -/
theorem call_cellsX {name : Str} {params : Arguments} {body : List Stmt} {scope : Scope} {pm cd doc : Value} {a : Addr} {o : Obj} {args : List Value} {binds : List (Str × Value)}
    (hroom : A.depth < recursionLimit) (ho : s.heap.get? a = some o) (hdata : o.data = .func (Calls.docDef name params body scope pm cd doc)) (hlim : s.heap.NoLimit) (hcd : s.heap.CodeRec cd name)
    (hbind : bindArgs (Calls.docDef name params body scope pm cd doc) ⟨args, []⟩ = pure binds)
    (hkind : ∀ x ∈ binds, scope.names.lookup x.1 = some .local ∨ (scope.names.lookup x.1 = some .cell ∧ ((cellsFrom (s.heap.objs.size + 1) scope.names []).lookup x.1).isSome = true))
    (hnd : ((cellsFrom 0 scope.names []).map (·.1)).Nodup)
    (h : ∀ h₁ tk cells, Fr s.heap s.heap.objs.size h₁ (bindL (envOfC name scope s.heap.objs.size a cd).kindOf binds fun _ => none) → News s.heap s.heap.objs.size h₁ cells →
      CellsAre (bindC (envOfC name scope s.heap.objs.size a cd).kindOf binds fun _ => none) (cellsFrom (s.heap.objs.size + 1) scope.names []) cells →
      wpX (model prog w) (A.deeper (envOfC name scope s.heap.objs.size a cd)) (execs body (envOfC name scope s.heap.objs.size a cd))
        (fun f s' => R (.ok (.ret (match f with | .ret v => v | _ => .none))) s')
        (fun e s' => wpAny (model prog w) (A.deeper (envOfC name scope s.heap.objs.size a cd)) (leaving (envOfC name scope s.heap.objs.size a cd) e)
          (fun _ s'' => R (.error e) s'') (fun e' s'' => R (.error e') s'') s')
        { s with heap := h₁, toks := tk })
    (hco : scope.isCoroutine = false := by rfl) (hgen : scope.isGenerator = false := by rfl) (hk : scope.kind = .function := by rfl) :
    codeX (model prog w) A (.call (.ref a) ⟨args, []⟩) R s := by
  refine codeX_call_function (fd := Calls.docDef name params body scope pm cd doc) hroom ho hdata hco hgen rfl hcd ?_
  rw [hbind]
  refine wpAny_pure (wpAny_newFunctionEnv_cells hk hkind fun env he s' x => ?_)
  subst he
  refine ⟨hlim.keeps x.toInCall.keep, codeX_func ?_⟩
  obtain ⟨h₁, tk, rfl, _⟩ := x.done
  obtain ⟨cells, N, Y⟩ := Cl.news (h₀ := s.heap) (Nat.le_refl _) fun n c hm => ⟨x.cell n c (lookup_of_mem_nodup (cellsFrom_names scope.names 0 (s.heap.objs.size + 1) [] [] rfl ▸ hnd) hm), x.above n c hm⟩
  exact h h₁ tk cells ⟨x.toInCall.ns, x.toInCall.keep, x.toInCall.fresh⟩ N Y
end

section
variable {prog : Program} {w : World} {A₀ A : Around} {s : Shared} {base h₀ : Heap} {outer : List Env} {L : Addr} {m mg mb : Str → Option Value} {env : Env} {news : List (Addr × Obj)} {K : Frag} {p : Program} {loose : List Str} {mean : ExcName → Option Value}
  {R : Result → Shared → Prop} {name qual : Str} {params : Arguments} {body : List Stmt} {scope : Scope} {dV kV doc pm cdv ct oc : Value} {an od : Option Addr} {osl : Array (Option Value)} {f : Addr} {args : Args} {binds : List (Str × Value)}
/-- a def of the text's top, entered -/
theorem codeX_def (B : Below A₀ base outer h₀) (F : Fr h₀ L s.heap m) (X₀ : K.In h₀) (N : News h₀ L s.heap news) (T : Top p loose mean mg mb h₀) (hA : A.frames = some (env :: outer)) (hf : env.frame = some L) (hke : env.scope.kind = .function)
    (ho : K.lookup f = some ⟨oc, od, .func (fnOf name qual params body scope dV kV doc pm an cdv ct), osl⟩) (hcd : codeIn K cdv qual = true) (hroom : A.depth < recursionLimit)
    (hbind : BindsTo s (fnOf name qual params body scope dV kV doc pm an cdv ct) args binds) (hloc : ∀ y ∈ binds, scope.names.lookup y.1 = some .local)
    (h : ∀ g L' h₁, Fr h₀ L g m → Fr g L' h₁ (fun y => binds.reverse.lookup y) → News g L' h₁ news → Below A base (env :: outer) g → K.In g → Top p loose mean mg mb g →
      wpX (model prog w) (A.deeper (envOf qual scope L' f cdv)) (execs body (envOf qual scope L' f cdv))
        (fun fl s' => LeaveK h₀ L m g R (match fl with | .ret v => v | _ => .none) s')
        (fun e s' => wpAny (model prog w) (A.deeper (envOf qual scope L' f cdv)) (leaving (envOf qual scope L' f cdv) e) (fun _ s'' => R (.error e) s'') (fun e' s'' => R (.error e') s'') s')
        { s with heap := h₁, toks := s.toks + binds.length })
    (hco : scope.isCoroutine = false) (hgen : scope.isGenerator = false) (hk : scope.kind = .function) (hcell : ∀ x ∈ scope.names, x.2 ≠ .cell) : codeX (model prog w) A (.call (.ref f) args) R s := by
  obtain ⟨FG, BG, st, lv⟩ := groundX (R := R) B F N hA hf hke
  refine codeX_call_function (fd := fnOf name qual params body scope dV kV doc pm an cdv ct) hroom ((X₀.keeps F.keep) _ _ ho) rfl hco hgen rfl (codeRec_of (X₀.keeps F.keep) hcd) (hbind _ _ _ _ ?_)
  refine wpAny_newFunctionEnv hcell hloc (fun h₁ hns hsb => ⟨(T.nolimit.keeps F.keep).fresh _ hsb, codeX_func ?_⟩) hk
  have hk₁ : ∀ b o, s.heap.get? b = some o → h₁.get? b = some o := fun b o e => hsb.extBut b o (Nat.ne_of_lt (Heap.lt_size e)) (Heap.get?_push_of_some _ e)
  exact wpX_mono (h _ s.heap.objs.size h₁ FG ⟨hns, fun b o e => hk₁ b o (of_hideAll _ e), Nat.le_of_eq (hideAll_size _ _)⟩
    (fun p hp => ⟨hk₁ _ _ (N p hp).1, Nat.ne_of_lt (Heap.lt_size (N p hp).1), hideAll_none _ (List.mem_map_of_mem hp)⟩) BG (X₀.keeps st) (T.keeps st)) (fun fl s' hl => lv _ _ hl) fun _ _ y => y
end

theorem enter_callX {M : Model} {A : Around} {s : Shared} {f : Value} {pos : List Value} {kw : List (Str × Value)} {c : ClaimW} {cl : Str → Option Addr} {mean : ExcName → Option Value} {args : List WData} {s₁ : Shared}
    (h : codeX M A (.call f ⟨pos, kw⟩) (GoodWG c cl mean args s₁) s) : wpX M A (PySem.call f pos kw) (fun v s' => GoodWG c cl mean args s₁ (.ok (.ret v)) s') (fun e s' => GoodWG c cl mean args s₁ (.error e) s') s :=
  wpX_call (codeX_mono h fun res s' g => by rcases g.1 with ⟨v, _, _, rfl, _⟩ | ⟨e, _, _, rfl, _⟩ <;> exact g)

/-- kn_post, at one result: read off at a model whose one code ends at once -/
theorem kn_point {M : Model} {s' s₁ : Shared} {r : Result} {cw : ClaimW} {cl : Str → Option Addr} {mean : ExcName → Option Value} {args : List WData} {tabs : List (Addr × Addr)} (hT : TabsAt tabs s₁.heap) (hr : ∀ a x, cw.raises a x = false)
    (q : GoodW cw cl mean args { s₁ with heap := ghostOf s₁.heap tabs } r s' ∧ GrownAll tabs s'.heap) : GoodWG cw cl mean args s₁ r s' := by
  have below : (⟨.call .none {}, none, none, [], none⟩ : Ctx).Below {} := ⟨rfl, Nat.le_refl _, (fun _ hl => nomatch hl), (fun _ hg => nomatch hg), Nat.zero_le _⟩
  cases r with
  | ok f =>
    have h := kn_post (M := ⟨fun _ => pure (.done f), M.prog, M.w⟩) (A := {}) (cd := .call .none {}) (s := s') hT hr (fun Γ p _ _ => (wpCode_iff_wp _ _ _ _ _).mpr q) _ default rfl below
    exact (wpCode_iff_wp _ _ _ _ _).mp h
  | error e =>
    have h := kn_post (M := ⟨fun _ => throw e, M.prog, M.w⟩) (A := {}) (cd := .call .none {}) (s := s') hT hr (fun Γ p _ _ => (wpCode_iff_wp _ _ _ _ _).mpr q) _ default rfl below
    exact (wpCode_iff_wp _ _ _ _ _).mp h
theorem kn_postX {M : Model} {A : Around} {cd : Code} {s s₁ : Shared} {cw : ClaimW} {cl : Str → Option Addr} {mean : ExcName → Option Value} {args : List WData} {tabs : List (Addr × Addr)} (hT : TabsAt tabs s₁.heap) (hr : ∀ a x, cw.raises a x = false)
    (h : codeX M A cd (fun r s' => GoodW cw cl mean args { s₁ with heap := ghostOf s₁.heap tabs } r s' ∧ GrownAll tabs s'.heap) s) : codeX M A cd (GoodWG cw cl mean args s₁) s :=
  codeX_mono h fun _ _ q => kn_point (M := M) hT hr q
end Mine
end
section
open PySem PySem.W PySem.Calls PyProof.Rows
open PySem.Sem (wp)
set_option maxRecDepth 100000
namespace Mine

section
variable {M : Model} {A : Around} {E : Value → Shared → Prop} {s : Shared} {env : Env}
theorem wpX_execs_nil {Q : Flow → Shared → Prop} (h : Q .next s) : wpX M A (execs [] env) Q E s := wpX_pure h
theorem wpX_execs_cons {st : Stmt} {rest : List Stmt} {Q : Flow → Shared → Prop}
    (h : wpX M A (exec st env) (fun f s' => match f with | .next => wpX M A (execs rest env) Q E s' | f => Q f s') E s) : wpX M A (execs (st :: rest) env) Q E s := by
  rw [execs_cons]
  refine wpX_bind (wpX_mono h (fun f s' h' => ?_) fun _ _ x => x)
  cases f <;> first | exact h' | exact wpX_pure h'
theorem wpX_execs_any {st : Stmt} {rest : List Stmt} {Q : Flow → Shared → Prop}
    (h : wpAny M A (exec st env) (fun f s' => match f with | .next => wpX M A (execs rest env) Q E s' | f => Q f s') E s) : wpX M A (execs (st :: rest) env) Q E s := wpX_execs_cons (wpX_any h)
theorem wpX_Assign_Name {x : Str} {pos' : Pos} {value : Expr} {pos : Pos} {Q : Flow → Shared → Prop}
    (h : wpX M A (eval value env) (fun v s₁ => wpAny M A (storeName env x v) (fun _ => Q .next) E s₁) E s)
    (hs : swapsWith value (some (.Name x pos')) pos.line env = pure false := by rfl) : wpX M A (exec (.Assign [.Name x pos'] value pos) env) Q E s := by
  rw [exec_Assign_Name env x pos' value pos hs]
  refine wpX_anyBind (wpAny_standAt (wpX_bind (wpX_mono h (fun v s₁ h₁ => ?_) fun _ _ x => x)))
  exact wpX_any (by
    first
      | exact wpAny_bind (wpAny_standAt (wpAny_bind (wpAny_bindName (wpAny_mono h₁ (fun _ _ h₂ => wpAny_pure h₂) fun _ _ x => x))))
      | exact wpAny_bind (wpAny_bindName (wpAny_mono h₁ (fun _ _ h₂ => wpAny_pure h₂) fun _ _ x => x)))
theorem wpX_Return {e : Expr} {pos : Pos} {Q : Flow → Shared → Prop} (h : wpX M A (eval e env) (fun v => Q (.ret v)) E s) : wpX M A (exec (.Return (some e) pos) env) Q E s := by
  rw [exec_Return_some]
  exact wpX_anyBind (wpAny_standAt (wpX_bind (wpX_mono h (fun _ _ h' => wpX_pure h') fun _ _ x => x)))
theorem wpX_If {test : Expr} {body orelse : List Stmt} {pos : Pos} {Q : Flow → Shared → Prop}
    (h : wpX M A (isTrue test env (eval test env)) (fun b s₂ => if b = true then wpX M A (execs body env) Q E s₂ else wpX M A (execs orelse env) Q E s₂) E s) : wpX M A (exec (.If test body orelse pos) env) Q E s := by
  rw [exec_If]
  refine wpX_anyBind (wpAny_standAt (wpX_bind (wpX_mono h (fun b s₂ h₂ => ?_) fun _ _ x => x)))
  cases b <;> exact h₂
theorem wpX_isTrue_Compare1 {l : Expr} {op : CmpOp} {r : Expr} {pos : Pos} {whole : Sem Value} {Q : Bool → Shared → Prop}
    (h : wpX M A (eval l env) (fun a s₁ => wpAny M A (eval r env) (fun b s₂ => wpAny M A (compareOp op a b) (fun c s₃ => wpAny M A (truthy c) Q E s₃) E s₂) E s₁) E s)
    (hm : behindInMarks op r = false := by with_unfolding_all rfl) : wpX M A (isTrue (.Compare l [op] [r] pos) env whole) Q E s := fun Γ p hΓ hc hb => by
  simp only [isTrue_Compare1, markedBehindIn_of_false hm, Sem.wp_bind', Sem.wp_holding, Sem.wp_cmd_standAt, Sem.wp_operate]
  exact Sem.wp_mono M Γ _ (fun a p₁ s₁ h₁ => Sem.wp_mono M Γ _ (fun b _ s₂ h₂ => Sem.wp_mono M Γ _ (fun c p₃ s₃ h₃ => h₃ Γ p₃ hΓ)
    (fun _ _ _ h' => h') _ _ (h₂ Γ _ hΓ)) (fun _ _ _ h' => h') _ _ (h₁ Γ p₁ hΓ)) (fun _ _ _ h' => h') _ _ (h Γ p hΓ hc hb)
theorem wpX_Call {func : Expr} {args : List Expr} {pos : Pos} {Q : Value → Shared → Prop}
    (h : wpAny M A (eval func env) (fun f s₁ => wpX M A (callWith pos f [] (backTo pos (starEach args env)) []) Q E s₁) E s)
    (he : eval (.Call func args [] pos) env = (do callWith pos (← eval func env) [] (backTo pos (starEach args env)) (backToKw pos (keywordEach [] env))) := by rfl) :
    wpX M A (eval (.Call func args [] pos) env) Q E s := by
  rw [he]; exact wpX_anyBind h
theorem wpX_MethodCall {o : Expr} {name : Str} {apos pos : Pos} {args : List Expr} {pl : Sem Bool} {Q : Value → Shared → Prop}
    (h : wpAny M A (eval o env) (fun ov s₁ => wpAny M A (getMethod ov name pl) (fun fx s₂ => wpX M A (callWith pos fx.1 fx.2 (backTo pos (starEach args env)) []) Q E s₂) E s₁) E s)
    (he : eval (.Call (.Attribute o name apos) args [] pos) env = (do
      let ov ← eval o env
      standAt apos.atName
      let (f, first) ← holding [ov] (getMethod ov name pl)
      callWith pos f first (backTo pos (starEach args env)) []) := by rfl) :
    wpX M A (eval (.Call (.Attribute o name apos) args [] pos) env) Q E s := by
  rw [he]
  exact wpX_anyBind (wpAny_mono h (fun ov s₁ h₁ => wpX_anyBind (wpAny_standAt (wpX_anyBind (wpAny_holding (wpAny_mono h₁ (fun fx s₂ h₂ => h₂) fun _ _ x => x))))) fun _ _ x => x)
theorem wpX_Expr {e : Expr} {pos : Pos} {Q : Flow → Shared → Prop} (h : wpX M A (eval e env) (fun v s' => match v with | .ref _ => False | _ => Q .next s') E s)
    (hi : interactive env = false := by rfl) (hs : swapsWith e none pos.line env = pure false := by rfl) : wpX M A (exec (.Expr e pos) env) Q E s := by
  rw [exec_Expr env e pos hi hs]
  refine wpX_anyBind (wpAny_standAt (wpX_bind (wpX_mono h (fun v s' h' => ?_) fun _ _ x => x)))
  have hv : ∀ a, v ≠ .ref a := fun a hva => by subst hva; exact h'
  rw [dropValue_plain hv]
  refine wpX_pure ?_
  cases v <;> first | exact h' | exact (hv _ rfl).elim
theorem wpX_tail {t : Sem Value} {Q : Value → Shared → Prop} (h : wpX M A t Q E s) : wpX M A (t >>= fun r => holding [r] point >>= fun _ => pure r) Q E s :=
  wpX_bind (wpX_mono h (fun _ _ hr => wpX_anyBind (wpAny_holding (wpAny_point (wpX_pure hr)))) fun _ _ x => x)
theorem wpX_callWith_builtin {pos : Pos} {id : String} {first : List Value} {args : List (Bool × Sem Value)} {Q : Value → Shared → Prop} (hplain : args.any (·.1) = false)
    (h : wpAny M A (evalArgs (.builtin id) true args []) (fun a s₁ => wpX M A (call (.builtin id) (first ++ a.pos) a.kw) Q E s₁) E s) : wpX M A (callWith pos (.builtin id) first args []) Q E s := by
  unfold callWith
  refine wpX_anyBind (wpAny_holding (wpAny_mono h (fun a s₁ h₁ => wpX_anyBind (wpAny_standAt ?_)) fun _ _ x => x))
  simp only [hplain, List.any_nil, Bool.or_false]
  exact wpX_anyBind (wpAny_pure (wpX_tail h₁))
theorem wpX_callWith_type {pos : Pos} {T : String} {Q : Value → Shared → Prop} (h : wpX M A (call (.type T) []) Q E s) : wpX M A (callWith pos (.type T) [] [] []) Q E s := by
  unfold callWith
  refine wpX_anyBind (wpAny_holding (PyProof.Rows.evalArgs_none (wpX_anyBind (wpAny_standAt ?_))))
  simp only [List.any_nil, Bool.or_false]
  exact wpX_anyBind (wpAny_pure (wpX_tail h))
theorem wpX_callWith_function {pos : Pos} {a : Addr} {o : Obj} {fd : FuncData} {args : List (Bool × Sem Value)} {Q : Value → Shared → Prop} (hplain : args.any (·.1) = false) (hlen : args.length ≤ 30)
    (h : wpAny M A (evalArgs (.ref a) true args []) (fun x s₁ => (s₁.heap.get? a = some o ∧ o.data = .func fd) ∧ wpX M A (call (.ref a) x.pos x.kw) Q E s₁) E s) : wpX M A (callWith pos (.ref a) [] args []) Q E s := by
  unfold callWith
  refine wpX_anyBind (wpAny_holding (wpAny_mono h (fun x s₁ h₁ => wpX_anyBind (wpAny_standAt ?_)) fun _ _ x => x))
  simp only [hplain, List.any_nil, Bool.or_false]
  refine wpX_anyBind (m := keeperOf (.ref a)) ?_
  unfold keeperOf
  refine wpAny_bind (wpAny_load h₁.1.1 ?_)
  rw [h₁.1.2]
  refine wpAny_pure ?_
  have hl : ¬ (args.length + 2 * ([] : List (Option Str × Sem Value)).length > 30) := by simp only [List.length_nil]; omega
  dsimp only
  rw [if_neg hl]
  exact wpX_tail (wpX_keep h₁.2)
end
end Mine
end
section
open PySem PySem.W PySem.Calls PyProof.Rows
open PySem.Sem (wp)
open PySem.Builtin.Bytes (exported exportsOf checkResize write payload payload? byteValue decodersThatHold)
set_option maxRecDepth 100000
namespace Mine

/-! Facts of the type bytearray. -/
theorem ba_mro : mroOf (.type "bytearray") = pure [.type "bytearray", .type "object"] := by rw [mroOf_type]; kernel_rfl
theorem ba_lookup_new : typeLookup (.type "bytearray") "__new__" = pure (some (.builtin "bytearray.__new__")) := by rw [typeLookup_type, builtinLookup_eq_fast]; kernel_rfl
theorem ba_slot_init : Slot "bytearray" "__init__" "bytearray.__init__" :=
  .of (owner := "bytearray") (n := "__init__") (by rw [typeLookup_type, builtinLookup_eq_fast]; kernel_rfl) (by decide +kernel) (by decide +kernel) (by decide +kernel)
    (by first | exact .inl (by decide +kernel) | exact .inr (by decide +kernel)) (by rw [isSubtype_type]; kernel_rfl)
theorem ba_slot_append : Slot "bytearray" "append" "bytearray.append" :=
  .of (owner := "bytearray") (n := "append") (by rw [typeLookup_type, builtinLookup_eq_fast]; kernel_rfl) (by decide +kernel) (by decide +kernel) (by decide +kernel)
    (by first | exact .inl (by decide +kernel) | exact .inr (by decide +kernel)) (by rw [isSubtype_type]; kernel_rfl)
theorem ba_slot_extend : Slot "bytearray" "extend" "bytearray.extend" :=
  .of (owner := "bytearray") (n := "extend") (by rw [typeLookup_type, builtinLookup_eq_fast]; kernel_rfl) (by decide +kernel) (by decide +kernel) (by decide +kernel)
    (by first | exact .inl (by decide +kernel) | exact .inr (by decide +kernel)) (by rw [isSubtype_type]; kernel_rfl)
theorem ba_slot_reverse : Slot "bytearray" "reverse" "bytearray.reverse" :=
  .of (owner := "bytearray") (n := "reverse") (by rw [typeLookup_type, builtinLookup_eq_fast]; kernel_rfl) (by decide +kernel) (by decide +kernel) (by decide +kernel)
    (by first | exact .inl (by decide +kernel) | exact .inr (by decide +kernel)) (by rw [isSubtype_type]; kernel_rfl)
theorem ba_called : TypeCalled "bytearray" "bytearray.__new__" "bytearray.__init__" :=
  ⟨by decide +kernel, by decide +kernel, ⟨_, _, ba_mro⟩, madeBy_type ba_mro ba_lookup_new (by decide +kernel), by decide +kernel, by rw [isSubtype_type]; kernel_rfl, ba_slot_init⟩
theorem ba_typeCall : checkTypeCall "bytearray" ⟨[], []⟩ = pure () := by kernel_rfl
theorem ba_newCall : checkBuiltinCall "bytearray.__new__" ⟨[.type "bytearray"], []⟩ = pure () := by kernel_rfl
theorem ba_plain_new : plainId "bytearray.__new__" = true := by decide +kernel
theorem ba_entry_new : entryFor table "bytearray.__new__" = some Builtin.«list.__new__» :=
  entryFor_alias (id' := "list.__new__") (by kernel_rfl) (by first | rfl | decide +kernel | (unfold String.splitOn; simp +decide [String.splitOnAux])) (by decide +kernel) (by kernel_rfl)
theorem ba_entry_init : entryFor table "bytearray.__init__" = some Builtin.«bytearray.__init__» := entryFor_of_tree (by kernel_rfl)
theorem ba_entry_append : entryFor table "bytearray.append" = some Builtin.«bytearray.append» := entryFor_of_tree (by kernel_rfl)
theorem ba_entry_extend : entryFor table "bytearray.extend" = some Builtin.«bytearray.extend» := entryFor_of_tree (by kernel_rfl)
theorem ba_entry_extend_loop : entryFor table "bytearray.extend.loop" = some Builtin.«bytearray.extend.loop» := entryFor_of_tree (by kernel_rfl)
theorem ba_entry_extend_end : entryFor table "bytearray.extend.end" = some Builtin.«bytearray.extend.end» := entryFor_of_tree (by kernel_rfl)
theorem ba_entry_reverse : entryFor table "bytearray.reverse" = some Builtin.«bytearray.reverse» := entryFor_of_tree (by kernel_rfl)
set_option maxRecDepth 1000000 in
set_option maxHeartbeats 4000000 in
theorem ba_owner_new : ("bytearray.__new__".splitOn ".__new__").headD "" = "bytearray" := by simp +decide [String.splitOn, String.splitOnAux]
theorem ba_sub_self : isSubtype (.type "bytearray") (.type "bytearray") = pure true := by rw [isSubtype_type]; kernel_rfl
theorem ba_owner : Manifest.owners.lookup (String.ofList ['y', 'a', 'r', 'r', 'a', 'e', 't', 'y', 'b'].reverse) = some Manifest.sig_bytearray := by kernel_rfl
theorem ba_args_append (a b : Value) : argsOk "bytearray.append" ⟨[a, b], []⟩ := by
  unfold argsOk; rw [signature?_of (id := "bytearray.append") (n := ['d', 'n', 'e', 'p', 'p', 'a']) (o := ['y', 'a', 'r', 'r', 'a', 'e', 't', 'y', 'b']) (by kernel_rfl) ba_owner]; kernel_rfl
theorem ba_args_extend (a b : Value) : argsOk "bytearray.extend" ⟨[a, b], []⟩ := by
  unfold argsOk; rw [signature?_of (id := "bytearray.extend") (n := ['d', 'n', 'e', 't', 'x', 'e']) (o := ['y', 'a', 'r', 'r', 'a', 'e', 't', 'y', 'b']) (by kernel_rfl) ba_owner]; kernel_rfl
theorem ba_args_reverse (a : Value) : argsOk "bytearray.reverse" ⟨[a], []⟩ := by
  unfold argsOk; rw [signature?_of (id := "bytearray.reverse") (n := ['e', 's', 'r', 'e', 'v', 'e', 'r']) (o := ['y', 'a', 'r', 'r', 'a', 'e', 't', 'y', 'b']) (by kernel_rfl) ba_owner]; kernel_rfl
theorem ba_args_init (a : Value) : argsOk "bytearray.__init__" ⟨[a], []⟩ := by
  unfold argsOk; rw [signature?_of (id := "bytearray.__init__") (n := ['_', '_', 't', 'i', 'n', 'i', '_', '_']) (o := ['y', 'a', 'r', 'r', 'a', 'e', 't', 'y', 'b']) (by kernel_rfl) ba_owner]; kernel_rfl
theorem ba_getattribute : typeLookup (.type "bytearray") "__getattribute__" = pure (some (.builtin "bytearray.__getattribute__")) := by rw [typeLookup_type, builtinLookup_eq_fast]; kernel_rfl
theorem ba_canon_getattribute : (Manifest.canonical "bytearray.__getattribute__" != "object.__getattribute__") = false := by decide +kernel
theorem ba_getattr_none : typeLookup (.type "bytearray") "__getattr__" = pure none := by rw [typeLookup_type, builtinLookup_eq_fast]; kernel_rfl
theorem ba_type_append : typeOf (.builtin "bytearray.append") = pure (.type "method_descriptor") := by show builtinType _ = _; rw [builtinType_eq_fast]; kernel_rfl
theorem ba_type_extend : typeOf (.builtin "bytearray.extend") = pure (.type "method_descriptor") := by show builtinType _ = _; rw [builtinType_eq_fast]; kernel_rfl
theorem ba_type_reverse : typeOf (.builtin "bytearray.reverse") = pure (.type "method_descriptor") := by show builtinType _ = _; rw [builtinType_eq_fast]; kernel_rfl
end Mine
end
section
open PySem PySem.W PySem.Calls PyProof.Rows
open PySem.Sem (wp)
open PySem.Builtin.Bytes (exported exportsOf checkResize write payload payload? byteValue decodersThatHold)
set_option maxRecDepth 100000
namespace Mine
abbrev baObj (b : Array UInt8) : Obj := { cls := .type "bytearray", data := .bytearray b }

section
variable {M : Model} {A : Around} {E : Value → Shared → Prop} {s : Shared}
theorem noGuard {st : List (Code × Pos)} (hg : guardsOf st = []) : ∀ x ∈ st, x.1.isGuard = false := fun x hx => by
  cases h : x.1.isGuard with
  | false => rfl
  | true =>
    have : x.1 ∈ guardsOf st := List.mem_filter.mpr ⟨List.mem_map_of_mem hx, h⟩
    rw [hg] at this
    exact nomatch this
theorem wpX_exported {ba : Addr} {Q : Bool → Shared → Prop} (hg : A.guards = some []) (h : Q false s) : wpX M A (exported (.ref ba)) Q E s := by
  unfold exported
  refine wpX_bind (wpX_stack fun st hst hcl => ?_)
  refine wpX_pure ?_
  have hno := noGuard (hst [] hg)
  rw [List.any_eq_false.mpr ?_]
  · exact h
  · rintro ⟨c, p⟩ hx
    have h1 := hno _ hx
    have h2 := hcl _ hx
    dsimp only at h1 h2
    cases c with
    | builtin id args =>
      have h3 : Code.isGuard (.builtin id args) = guardIds.contains id := rfl
      rw [h3] at h1
      have h4 : decodersThatHold.contains id = false := by
        have : (!(decodersThatHold.contains id)) = true := h2
        simpa using this
      split
      · rename_i e; cases e; exact absurd h1 (by decide +kernel)
      · rename_i e; cases e; exact absurd h1 (by decide +kernel)
      · rename_i e; cases e; exact absurd h1 (by decide +kernel)
      · rename_i e; cases e; exact absurd h1 (by decide +kernel)
      · rename_i e; cases e; exact absurd h1 (by decide +kernel)
      · rename_i e; cases e; rw [h4, Bool.and_false]; exact Bool.false_ne_true
      · exact Bool.false_ne_true
    | _ => exact Bool.false_ne_true
theorem wpAny_exportsOf {ba : Addr} {b : Array UInt8} {Q : Nat → Shared → Prop} (ho : s.heap.get? ba = some (baObj b)) (h : Q 0 s) : wpAny M A (exportsOf (.ref ba)) Q E s := by
  unfold exportsOf
  exact wpAny_bind (wpAny_load ho (wpAny_pure h))
theorem wpX_exp {ba : Addr} {b : Array UInt8} {Q : Bool → Shared → Prop} (hg : A.guards = some []) (ho : s.heap.get? ba = some (baObj b)) (h : Q false s) :
    wpX M A (exported (.ref ba) <||> (do return (← exportsOf (.ref ba)) > 0)) Q E s := by
  unfold orM
  refine wpX_bind (wpX_exported hg ?_)
  exact wpX_any (wpAny_bind (wpAny_exportsOf ho (wpAny_pure h)))
theorem wpX_checkResize {ba : Addr} {b : Array UInt8} {Q : Unit → Shared → Prop} (hg : A.guards = some []) (ho : s.heap.get? ba = some (baObj b)) (h : Q () s) : wpX M A (checkResize (.ref ba)) Q E s := by
  unfold checkResize
  refine wpX_bind (wpX_exp hg ho ?_)
  exact wpX_pure h
theorem wpAny_write {ba : Addr} {b : Array UInt8} {f : Array UInt8 → Array UInt8} {Q : Unit → Shared → Prop} (ho : s.heap.get? ba = some (baObj b)) (hz : (f b).size ≤ sizeLine)
    (h : ∀ h', Heap.SameBut ba s.heap h' → h'.get? ba = some (baObj (f b)) → Q () { s with heap := h' }) : wpAny M A (write (.ref ba) f) Q E s := by
  show wpAny M A (updateBytearray ba f) Q E s
  unfold updateBytearray
  refine wpAny_bind (wpAny_load ho ?_)
  have ho' : (s.heap.update ba (Obj.mapBytearray f)).get? ba = some (baObj (f b)) := Heap.get?_update_self _ ho rfl
  refine wpAny_bind (wpAny_update ho (wpAny_lookBehind ho' ?_ (h _ (.update ..) ho')))
  show (if (f b).size > sizeLine then some "bytearray:memory" else none) = none
  rw [if_neg (Nat.not_lt.mpr hz)]
theorem wpAny_payload {ba : Addr} {b : Array UInt8} {Q : Array UInt8 → Shared → Prop} (ho : s.heap.get? ba = some (baObj b)) (h : Q b s) : wpAny M A (payload (.ref ba)) Q E s := by
  unfold payload payload?
  exact wpAny_bind (wpAny_bind (wpAny_load ho (wpAny_pure (wpAny_pure h))))
theorem wpAny_byteValue {n : Int} {t : Tok} {Q : UInt8 → Shared → Prop} (h0 : 0 ≤ n) (h1 : n < 256) (h : Q n.toNat.toUInt8 s) : wpAny M A (byteValue (.int n t)) Q E s := by
  unfold byteValue
  refine wpAny_bind (wpAny_of_eq (rfl : asIndex (.int n t) = pure n) ?_)
  have hc : ¬ ((decide (n < 0) || decide (n ≥ 256)) = true) := by simp only [Bool.or_eq_true, decide_eq_true_eq]; omega
  show wpAny M A (if (decide (n < 0) || decide (n ≥ 256)) = true then _ else _) Q E s
  rw [if_neg hc]
  exact wpAny_pure h

theorem getMethod_ba {ba : Addr} {b : Array UInt8} {name : Str} {id : String} {pl : Sem Bool} {Q : Value × List Value → Shared → Prop} (ho : s.heap.get? ba = some (baObj b))
    (slot : Slot "bytearray" name id) (hty : typeOf (.builtin id) = pure (.type "method_descriptor")) (h : Q (.builtin id, [.ref ba]) s) : wpAny M A (getMethod (.ref ba) name pl) Q E s := by
  have hT : s.TypeIs (.ref ba) "bytearray" := ⟨_, ho, rfl⟩
  unfold getMethod
  refine wpAny_bind (wpAny_specialOf hT ba_getattribute ?_)
  show wpAny M A (if (Manifest.canonical "bytearray.__getattribute__" != "object.__getattribute__") = true then _ else _) Q E s
  rw [ba_canon_getattribute, if_neg Bool.false_ne_true]
  refine wpAny_bind (wpAny_specialOf hT ba_getattr_none ?_)
  refine wpAny_bind (wpAny_specialOf hT slot.lookup ?_)
  refine wpAny_bind (wpAny_of_eq hty ?_)
  refine wpAny_bind (wpAny_load ho ?_)
  exact wpAny_bind (wpAny_rule (wpAny_pure h))
end

section
variable {prog : Program} {w : World} {A : Around} {E : Value → Shared → Prop} {R : Result → Shared → Prop} {s : Shared}
theorem codeX_builtin {id : String} {args : Args} {b : Builtin} (hb : entryFor table id = some b) (hq : plainId id = true) (hk : decodersThatHold.contains id = false)
    (h : wpX (model prog w) A.in1 (b args) (fun fin s' => match fin with | .done f => R (.ok f) s' | .again c' => c'.quiet = true ∧ codeX (model prog w) A c' R s') (fun e s' => R (.error e) s') s) :
    codeX (model prog w) A (.builtin id args) R s := by
  refine codeX_of_tree ?_ (by show (!(decodersThatHold.contains id)) = true; rw [hk]; rfl)
  rw [Around.under_plainId hq args]
  show wpX _ _ (match entryFor table id with | some b => b args | none => unsupported ((withoutEnding? id "#data").getD id)) _ _ s
  rw [hb]; exact h
theorem codeX_call_builtin {id : String} {args : Args} {b : Builtin} (hq : plainId id = true) (hb : entryFor table id = some b) (hk : decodersThatHold.contains id = false)
    (h : wpAny (model prog w) A.in1 (checkBuiltinCall id args) (fun _ s₁ => wpX (model prog w) A.in1 (b args)
      (fun fin s' => match fin with | .done f => R (.ok f) s' | .again c' => c'.quiet = true ∧ codeX (model prog w) A c' R s') (fun e s' => R (.error e) s') s₁)
      (fun e s' => R (.error e) s') s) : codeX (model prog w) A (.call (.builtin id) args) R s := by
  refine codeX_of_tree ?_
  show wpX _ A.in1 (do checkBuiltinCall id args; again (.builtin id args)) _ _ s
  exact wpX_anyBind (wpAny_mono h (fun _ s₁ h₁ => wpX_pure ⟨plainId_quiet hq args, codeX_builtin hb hq hk h₁⟩) fun _ _ h' => h')

/-- ba.append(n) -/
theorem call_append {ba : Addr} {b : Array UInt8} {n : Int} {t : Tok} {Q : Value → Shared → Prop} (hg : A.guards = some []) (ho : s.heap.get? ba = some (baObj b)) (h0 : 0 ≤ n) (h1 : n < 256) (hz : b.size + 1 ≤ sizeLine)
    (h : ∀ h', Heap.SameBut ba s.heap h' → h'.get? ba = some (baObj (b.push n.toNat.toUInt8)) → Q .none { s with heap := h' }) :
    wpX (model prog w) A (call (.builtin "bytearray.append") [.ref ba, .int n t]) Q E s := by
  have hT : s.TypeIs (.ref ba) "bytearray" := ⟨_, ho, rfl⟩
  refine wpX_call (codeX_call_builtin ba_slot_append.plain ba_entry_append (by decide +kernel) (ba_slot_append.check _ _ _ _ _ _ _ _ hT (ba_args_append _ _) ?_))
  unfold Builtin.«bytearray.append»
  refine wpX_anyBind (wpAny_of_eq (a := (Value.ref ba, Value.int n t)) rfl ?_)
  refine wpX_anyBind (wpAny_byteValue h0 h1 ?_)
  refine wpX_bind (wpX_checkResize hg ho ?_)
  refine wpX_anyBind (wpAny_write ho (by rw [Array.size_push]; exact hz) fun h' hs ho' => ?_)
  exact wpX_pure (h h' hs ho')
end
end Mine
end
section
open PySem PySem.W PySem.Calls PyProof.Rows
open PySem.Sem (wp)
open PySem.Builtin.Bytes (exported exportsOf checkResize write payload payload? byteValue decodersThatHold)
set_option maxRecDepth 100000
namespace Mine
theorem ba_no_bytes : typeLookup (.type "bytearray") "__bytes__" = pure none := by rw [typeLookup_type, builtinLookup_eq_fast]; kernel_rfl
theorem ba_no_index : typeLookup (.type "bytearray") "__index__" = pure none := by rw [typeLookup_type, builtinLookup_eq_fast]; kernel_rfl
theorem ba_buffer : typeLookup (.type "bytearray") "__buffer__" = pure (some (.builtin "bytearray.__buffer__")) := by rw [typeLookup_type, builtinLookup_eq_fast]; kernel_rfl
theorem ba_release : typeLookup (.type "bytearray") "__release_buffer__" = pure (some (.builtin "bytearray.__release_buffer__")) := by rw [typeLookup_type, builtinLookup_eq_fast]; kernel_rfl

section
variable {M : Model} {A : Around} {E : Value → Shared → Prop} {s : Shared}
theorem wpAny_own_buffer {ba : Addr} {b : Array UInt8} {Q : Bool → Shared → Prop} (ho : s.heap.get? ba = some (baObj b)) (h : Q true s) : wpAny M A (Builtin.Bytes.slotIsOwn (.ref ba) "__buffer__") Q E s := by
  have hT : s.TypeIs (.ref ba) "bytearray" := ⟨_, ho, rfl⟩
  unfold Builtin.Bytes.slotIsOwn
  refine wpAny_bind (wpAny_specialOf hT ba_buffer ?_)
  have e1 : ("bytearray.__buffer__" : String).endsWith ("." ++ "__buffer__") = true := by decide +kernel
  have e2 : (("bytearray.__buffer__" : String).dropRight (("__buffer__" : String).length + 1)) = "bytearray" := by decide +kernel
  dsimp only
  rw [e1, e2]
  exact wpAny_isInstance hT ba_sub_self h
theorem wpAny_own_release {ba : Addr} {b : Array UInt8} {Q : Bool → Shared → Prop} (ho : s.heap.get? ba = some (baObj b)) (h : Q false s) : wpAny M A (Builtin.Bytes.ownRelease (.ref ba)) Q E s := by
  have hT : s.TypeIs (.ref ba) "bytearray" := ⟨_, ho, rfl⟩
  unfold Builtin.Bytes.ownRelease Builtin.Bytes.slotIsOwn
  refine wpAny_bind (wpAny_bind (wpAny_specialOf hT ba_release ?_))
  have e1 : ("bytearray.__release_buffer__" : String).endsWith ("." ++ "__release_buffer__") = true := by decide +kernel
  have e2 : (("bytearray.__release_buffer__" : String).dropRight (("__release_buffer__" : String).length + 1)) = "bytearray" := by decide +kernel
  dsimp only
  rw [e1, e2]
  exact wpAny_isInstance hT ba_sub_self (wpAny_pure h)
theorem wpAny_buffer_ba {ba : Addr} {b : Array UInt8} {id : String} {full : Bool} {Q : Option (Array UInt8) → Shared → Prop} (ho : s.heap.get? ba = some (baObj b)) (h : Q (some b) s) : wpAny M A (Builtin.Bytes.buffer? id (.ref ba) full) Q E s := by
  have hT : s.TypeIs (.ref ba) "bytearray" := ⟨_, ho, rfl⟩
  unfold Builtin.Bytes.buffer?
  refine wpAny_bind (wpAny_specialOf hT ba_buffer ?_)
  (try dsimp only)
  refine wpAny_bind (wpAny_own_buffer ho ?_)
  refine bm_if_false rfl ?_
  first
    | refine wpAny_bind (wpAny_specialOf hT ba_buffer ?_)
    | refine wpAny_bind (wpAny_pure (wpAny_bind (wpAny_specialOf hT ba_buffer ?_)))
  (try dsimp only)
  refine wpAny_bind (wpAny_own_release ho ?_)
  refine bm_if_false rfl ?_
  first
    | exact wpAny_bind (wpAny_payload ho (wpAny_pure h))
    | exact wpAny_bind (wpAny_pure (wpAny_bind (wpAny_payload ho (wpAny_pure h))))
end

section
variable {prog : Program} {w : World} {A : Around} {E : Value → Shared → Prop} {R : Result → Shared → Prop} {s : Shared}
/-- ba.reverse() -/
theorem call_reverse {ba : Addr} {b : Array UInt8} {Q : Value → Shared → Prop} (ho : s.heap.get? ba = some (baObj b)) (hz : b.size ≤ sizeLine)
    (h : ∀ h', Heap.SameBut ba s.heap h' → h'.get? ba = some (baObj b.reverse) → Q .none { s with heap := h' }) : wpAny (model prog w) A (call (.builtin "bytearray.reverse") [.ref ba]) Q E s := by
  refine wpAny_call_entry ba_slot_reverse ⟨_, ho, rfl⟩ ba_entry_reverse ?_ (ba_args_reverse _)
  unfold Builtin.«bytearray.reverse»
  refine wpAny_bind (wpAny_of_eq (a := Value.ref ba) rfl ?_)
  refine wpAny_bind (wpAny_write ho (by rw [Array.size_reverse]; exact hz) fun h' hs ho' => ?_)
  exact wpAny_pure ⟨_, rfl, h h' hs ho'⟩

/-- bytes(ba) -/
theorem new_bytes_ba {ba : Addr} {b : Array UInt8} {Q : Value → Shared → Prop} (ho : s.heap.get? ba = some (baObj b)) (hz : b.size ≤ sizeLine)
    (h : ∀ t k, Q (.bytes b t) { s with toks := k }) : codeAny (model prog w) A (.call (.builtin "bytes.__new__") ⟨[.type "bytes", .ref ba], []⟩) (wants Q E) s := by
  refine codeAny_of_tree ?_
  show wpAny _ A.in1 (do checkBuiltinCall "bytes.__new__" ⟨[.type "bytes", .ref ba], []⟩; again (.builtin "bytes.__new__" ⟨[.type "bytes", .ref ba], []⟩)) _ _ s
  refine wpAny_bind (wpAny_of_eq (F.bm_newCall _) (wpAny_pure ⟨plainId_quiet F.bm_plain _, codeAny_builtin F.bm_entry ?_⟩))
  rw [Around.under_plainId F.bm_plain _]
  have hT : s.TypeIs (.ref ba) "bytearray" := ⟨_, ho, rfl⟩
  unfold Builtin.«bytes.__new__»
  refine wpAny_bind (wpAny_of_eq (a := true) rfl ?_)
  refine bm_if_false rfl ?_
  refine wpAny_bind (wpAny_of_eq F.bm_sub ?_)
  refine bm_if_false rfl ?_
  refine wpAny_bind (wpAny_of_eq (F.bm_bind _) ?_)
  refine wpAny_bind (wpAny_of_eq (a := ()) rfl ?_)
  refine wpAny_bind (wpAny_of_eq (a := ()) rfl ?_)
  refine bm_if_false rfl ?_
  refine wpAny_bind (wpAny_specialOf hT ba_no_bytes ?_)
  refine wpAny_bind (wpAny_bind ?_)
  show wpAny _ _ (load ba >>= _) _ _ _
  refine wpAny_bind (wpAny_load ho ?_)
  refine wpAny_pure (wpAny_pure ?_)
  refine bm_if_false rfl ?_
  refine wpAny_bind (wpAny_specialOf hT ba_no_index ?_)
  refine bm_if_true rfl ?_
  first
    | show wpAny _ _ (Builtin.Bytes.buffer? "bytes.__new__" (.ref ba) true >>= _) _ _ _
    | (refine wpAny_bind ?_; show wpAny _ _ (Builtin.Bytes.buffer? "bytes.__new__" (.ref ba) true >>= _) _ _ _)
  refine wpAny_bind (wpAny_buffer_ba ho ?_)
  dsimp only
  refine wpAny_bind (wpAny_rule ?_)
  refine wpAny_bind (wpAny_mkBytes ?_ hz)
  show wpAny _ _ (if (Value.type "bytes" == Value.type "bytes") = true then _ else _) _ _ _
  refine bm_if_true (by decide) ?_
  exact wpAny_pure (h _ _)
theorem call_bytes_ba {ba : Addr} {b : Array UInt8} {Q : Value → Shared → Prop} (ho : s.heap.get? ba = some (baObj b)) (hz : b.size ≤ sizeLine)
    (h : ∀ t k, Q (.bytes b t) { s with toks := k }) : wpAny (model prog w) A (call (.type "bytes") [.ref ba]) Q E s := by
  refine callType_codes (Q₁ := fun obj s₁ => s₁.TypeIs obj "bytes" ∧ Q obj s₁) F.bm_called (F.bm_typeCall _) F.entry_object_init
    (new_bytes_ba ho hz fun t k => ⟨PySem.W.typeIs_bytes _ _ _, h t k⟩) fun obj s₁ h₁ => ?_
  exact ⟨h₁.1, F.args_object_init_2 obj _, object_init_meets F.bm_called.init.lookup F.bm_called.made (by decide) prog w A.in1 _ s₁ ⟨h₁.1, rfl, h₁.2⟩⟩
end
end Mine
end
section
open PySem PySem.W PySem.Calls PyProof.Rows
open PySem.Sem (wp)
open PySem.Builtin.Bytes (exported exportsOf checkResize write payload payload? byteValue decodersThatHold)
set_option maxRecDepth 100000
namespace Mine
section
variable {prog : Program} {w : World} {A : Around} {E : Value → Shared → Prop} {R : Result → Shared → Prop} {s : Shared}
theorem wpX_if_false {α : Type} {M : Model} {c : Bool} {a b : Sem α} {Q : α → Shared → Prop} (hc : c = false) (h : wpX M A b Q E s) : wpX M A (if c = true then a else b) Q E s := by
  subst hc
  exact h
theorem wpX_if_true {α : Type} {M : Model} {c : Bool} {a b : Sem α} {Q : α → Shared → Prop} (hc : c = true) (h : wpX M A a Q E s) : wpX M A (if c = true then a else b) Q E s := by
  subst hc
  exact h
theorem codeX_builtin_gen {id : String} {args : Args} {b : Builtin} (hb : entryFor table id = some b) (hk : decodersThatHold.contains id = false)
    (h : wpX (model prog w) (A.under (.builtin id args)) (b args) (fun fin s' => match fin with | .done f => R (.ok f) s' | .again c' => c'.quiet = true ∧ codeX (model prog w) A c' R s') (fun e s' => R (.error e) s') s) :
    codeX (model prog w) A (.builtin id args) R s := by
  refine codeX_of_tree ?_ (by show (!(decodersThatHold.contains id)) = true; rw [hk]; rfl)
  show wpX _ _ (match entryFor table id with | some b => b args | none => unsupported ((withoutEnding? id "#data").getD id)) _ _ s
  rw [hb]; exact h
/-- bytearray.__new__ -/
theorem code_ba_new {Q₁ : Value → Shared → Prop} (h : Q₁ (.ref s.heap.objs.size) { s with heap := s.heap.push (baObj #[]) }) :
    codeAny (model prog w) A (.call (.builtin "bytearray.__new__") ⟨[.type "bytearray"], []⟩) (wants Q₁ E) s := by
  refine codeAny_of_tree ?_
  show wpAny _ A.in1 (do checkBuiltinCall "bytearray.__new__" ⟨[.type "bytearray"], []⟩; again (.builtin "bytearray.__new__" ⟨[.type "bytearray"], []⟩)) _ _ s
  refine wpAny_bind (wpAny_of_eq ba_newCall (wpAny_pure ⟨plainId_quiet ba_plain_new _, codeAny_builtin_stack ba_entry_new rfl fun p st => ?_⟩))
  rw [Around.under_plainId ba_plain_new _]
  have hsub := ba_sub_self
  have hown := ba_owner_new
  obtain ⟨hp, g, d, tk, os⟩ := s
  simp only [hown]
  wp_walk
  exact h
theorem wpX_callSpecial {M : Model} {self : Value} {T : String} {name : Str} {id : String} {args : List Value} {Q : Option Value → Shared → Prop} (hT : s.TypeIs self T) (h : Slot T name id)
    (hc : wpX M A (call (.builtin id) (self :: args) []) (fun v => Q (some v)) E s) : wpX M A (callSpecial? self name args) Q E s := by
  simp only [callSpecial?]
  refine wpX_anyBind (wpAny_specialOf hT h.lookup ?_)
  simp only [h.bind]
  exact wpX_holding (wpX_anyBind (wpAny_pure (wpX_bind (wpX_mono hc (fun v s' h' => wpX_pure h') fun _ _ h' => h'))))
/-- bytearray.__init__(self) -/
theorem init_ba {ba : Addr} {Q : Value → Shared → Prop} (hg : A.guards = some []) (ho : s.heap.get? ba = some (baObj #[]))
    (h : ∀ h', Heap.SameBut ba s.heap h' → h'.get? ba = some (baObj #[]) → Q .none { s with heap := h' }) :
    wpX (model prog w) A (call (.builtin "bytearray.__init__") [.ref ba]) Q E s := by
  have hT : s.TypeIs (.ref ba) "bytearray" := ⟨_, ho, rfl⟩
  refine wpX_call (codeX_call_builtin ba_slot_init.plain ba_entry_init (by decide +kernel) (ba_slot_init.check _ _ _ _ _ _ _ _ hT (ba_args_init _) ?_))
  unfold Builtin.«bytearray.__init__»
  dsimp only
  refine wpX_anyBind (wpAny_own_release ho ?_)
  refine wpX_if_false rfl ?_
  have hb : Builtin.Bytes.bindOptional "bytearray.__init__" "bytearray" ["source", "encoding", "errors"] [] [] = pure [none, none, none] := by kernel_rfl
  refine wpX_anyBind (wpAny_of_eq hb ?_)
  dsimp only
  refine wpX_anyBind (wpAny_of_eq (a := ()) rfl ?_)
  refine wpX_anyBind (wpAny_of_eq (a := ()) rfl ?_)
  refine wpX_bind (wpX_exp hg ho ?_)
  refine wpX_if_false rfl ?_
  refine wpX_anyBind (wpAny_write ho (Nat.zero_le _) fun h' hs ho' => ?_)
  exact wpX_pure (h h' hs ho')
/-- bytearray() -/
theorem call_ba {Q : Value → Shared → Prop} (hg : A.guards = some [])
    (h : ∀ h', (∀ b o, s.heap.get? b = some o → h'.get? b = some o) → h'.get? s.heap.objs.size = some (baObj #[]) → Q (.ref s.heap.objs.size) { s with heap := h' }) :
    wpX (model prog w) A (call (.type "bytearray") []) Q E s := by
  obtain ⟨c, tl, hmro⟩ := ba_called.mro
  have hmade := ba_called.made
  have h1 := ba_called.notType
  have h2 := ba_called.canCreate
  refine wpX_call (codeX_of_tree ?_)
  show wpX _ _ (callAny (.type "bytearray") ⟨[], []⟩) _ _ _
  refine wpX_pure ⟨Code.quiet_builtin _ (by decide +kernel), codeX_builtin_gen F.entry_type_call (by decide +kernel) ?_⟩
  rw [Around.under_plain (weight_type_call_type "bytearray" [] []) rfl]
  unfold Builtin.«type.__call__»
  dsimp only
  refine wpX_if_false h1 ?_
  refine wpX_if_false h2 ?_
  refine wpX_anyBind (wpAny_of_eq ba_typeCall ?_)
  refine wpX_anyBind (wpAny_of_eq hmro ?_)
  refine wpX_if_false rfl ?_
  refine wpX_anyBind (wpAny_of_eq hmade ?_)
  refine wpX_anyBind (wpAny_pure ?_)
  refine wpX_anyBind (wpAny_holding (wpAny_call (codeAny_mono (code_ba_new (E := fun _ _ => False) (Q₁ := fun obj s₁ => obj = .ref s.heap.objs.size ∧ s₁ = { s with heap := s.heap.push (baObj #[]) }) ⟨rfl, rfl⟩) fun r s₁ hr => ?_)))
  cases r with
  | error e => exact hr.elim
  | ok fl =>
    cases fl with
    | ret obj =>
      obtain ⟨rfl, rfl⟩ := hr
      have ho : (s.heap.push (baObj #[])).get? s.heap.objs.size = some (baObj #[]) := Heap.get?_push_size _ rfl
      have hT : ({ s with heap := s.heap.push (baObj #[]) } : Shared).TypeIs (.ref s.heap.objs.size) "bytearray" := ⟨_, ho, rfl⟩
      dsimp only
      refine wpX_anyBind (wpAny_isInstance hT ba_sub_self ?_)
      refine wpX_if_false rfl ?_
      refine wpX_bind (wpX_holding (wpX_callSpecial hT ba_slot_init ?_))
      refine init_ba (by exact hg) ho fun h' hs ho' => ?_
      dsimp only
      refine wpX_if_false rfl (wpX_pure ?_)
      exact h h' (fun b o e => (hs.2 b (Nat.ne_of_lt (Heap.lt_size e))).trans (Heap.get?_push_of_some _ e)) ho'
    | _ => exact hr.elim

/-- ba.extend(a list of ints) -/
theorem extend_loop {ba I S l : Addr} {b : Array UInt8} {vs : List Value} {ns : List Int} (hg : A.guards = some []) (hh : A.handled = none) (hi : IntsAre vs ns) (hr : ∀ n ∈ ns, 0 ≤ n ∧ n < 256) (hz : b.size + ns.length ≤ sizeLine)
    (hIS : I ≠ S) (hlI : l ≠ I) (hlS : l ≠ S) (hbI : ba ≠ I) (hbS : ba ≠ S) :
    ∀ (k i : Nat) (s : Shared), ns.length - i = k → i ≤ ns.length → s.heap.IsList l vs.toArray → s.heap.IsListIter I l i → s.heap.get? S = some (baObj (byteArr (ns.take i))) → s.heap.get? ba = some (baObj b) →
      (∀ h', (∀ a o, a ≠ I → a ≠ S → a ≠ ba → s.heap.get? a = some o → h'.get? a = some o) → h'.get? ba = some (baObj (b ++ byteArr ns)) → R (.ok (.ret .none)) { s with heap := h' }) →
      codeX (model prog w) A (.builtin "bytearray.extend.loop" ⟨[.ref ba, .ref l, .ref I, .ref S], []⟩) R s := by
  have hlen : vs.length = ns.length := hi.length
  intro k
  induction k with
  | zero =>
    intro i s hk hle hl hit hS hb hR
    have hin : i = ns.length := by omega
    subst hin
    refine codeX_builtin ba_entry_extend_loop (by decide +kernel) (by decide +kernel) ?_
    unfold Builtin.«bytearray.extend.loop»
    dsimp only
    refine wpX_anyBind (wpAny_pyNext_list_end hh hit hl (by simp [hlen]) fun h' he => ?_)
    have hS' : h'.get? S = some (baObj (byteArr (ns.take ns.length))) := he S _ (Ne.symm hIS) hS
    have hb' : h'.get? ba = some (baObj b) := he ba _ hbI hb
    dsimp only
    refine wpX_pure ⟨plainId_quiet (by decide +kernel) _, codeX_builtin ba_entry_extend_end (by decide +kernel) (by decide +kernel) ?_⟩
    unfold Builtin.«bytearray.extend.end»
    dsimp only
    refine wpX_anyBind (wpAny_point ?_)
    refine wpX_anyBind (wpAny_payload hS' ?_)
    rw [List.take_length]
    have hsz : (b ++ byteArr ns).size ≤ sizeLine := by rw [Array.size_append, byteArr_size]; exact hz
    have hsz : (b ++ byteArr ns).size ≤ sizeLine := by rw [Array.size_append, byteArr_size]; exact hz
    have fin : wpX (model prog w) A.in1 (write (.ref ba) (· ++ byteArr ns) >>= fun _ => ret .none) (fun fin s' => match fin with | .done f => R (.ok f) s' | .again c' => c'.quiet = true ∧ codeX (model prog w) A c' R s') (fun e s' => R (.error e) s') { s with heap := h' } :=
      wpX_anyBind (wpAny_write hb' hsz fun h2 hs2 ho2 => wpX_pure (hR h2 (fun a o ha _ hab e => (hs2.2 a hab).trans (he a o ha e)) ho2))
    show wpX _ _ (if (!(byteArr ns).isEmpty) = true then (checkResize (.ref ba) >>= fun _ => write (.ref ba) (· ++ byteArr ns) >>= fun _ => ret .none) else (write (.ref ba) (· ++ byteArr ns) >>= fun _ => ret .none)) _ _ _
    cases (byteArr ns).isEmpty with
    | true => exact fin
    | false => exact wpX_bind (wpX_checkResize (by exact hg) hb' fin)
  | succ k ih =>
    intro i s hk hle hl hit hS hb hR
    have hlt : i < ns.length := by omega
    obtain ⟨x, hx⟩ : ∃ x, vs[i]? = some x := ⟨vs[i]'(by omega), List.getElem?_eq_getElem (by omega)⟩
    obtain ⟨n, t, rfl, hn⟩ := IntsAre.at hi i x hx
    obtain ⟨h0, h1⟩ := hr n (List.mem_of_getElem? hn)
    refine codeX_builtin ba_entry_extend_loop (by decide +kernel) (by decide +kernel) ?_
    unfold Builtin.«bytearray.extend.loop»
    dsimp only
    refine wpX_anyBind (wpAny_pyNext_list_item (x := .int n t) hit hl (by simpa using hx) fun h' hit' hs => ?_)
    have hS' : h'.get? S = some (baObj (byteArr (ns.take i))) := (hs.2 S (Ne.symm hIS)).trans hS
    have hb' : h'.get? ba = some (baObj b) := (hs.2 ba hbI).trans hb
    dsimp only
    refine wpX_anyBind (wpAny_tryCatch (wpAny_holding (wpAny_byteValue h0 h1 ?_)))
    refine wpX_anyBind (wpAny_letGo ?_)
    have hsz : ((byteArr (ns.take i)).push n.toNat.toUInt8).size ≤ sizeLine := by
      rw [Array.size_push, byteArr_size, List.length_take]; omega
    refine wpX_anyBind (wpAny_write hS' hsz fun h2 hs2 ho2 => ?_)
    rw [← byteArr_take hn] at ho2
    refine wpX_pure ⟨plainId_quiet (by decide +kernel) _, ih (i + 1) { s with heap := h2 } (by omega) hlt ?_ ?_ ho2 ((hs2.2 ba hbS).trans hb') fun h3 hk3 ho3 => ?_⟩
    · exact (hl.extBut hs.extBut hlI).extBut hs2.extBut hlS
    · exact hit'.extBut hs2.extBut hIS
    · exact hR h3 (fun a o haI haS hab e => hk3 a o haI haS hab ((hs2.2 a haS).trans ((hs.2 a haI).trans e))) ho3
theorem call_extend {ba l : Addr} {b : Array UInt8} {vs : List Value} {ns : List Int} {Q : Value → Shared → Prop} (hg : A.guards = some []) (hh : A.handled = none) (ho : s.heap.get? ba = some (baObj b)) (hl : s.heap.IsList l vs.toArray)
    (hi : IntsAre vs ns) (hr : ∀ n ∈ ns, 0 ≤ n ∧ n < 256) (hz : b.size + ns.length ≤ sizeLine)
    (h : ∀ h', (∀ a o, a ≠ ba → s.heap.get? a = some o → h'.get? a = some o) → h'.get? ba = some (baObj (b ++ byteArr ns)) → Q .none { s with heap := h' }) :
    wpX (model prog w) A (call (.builtin "bytearray.extend") [.ref ba, .ref l]) Q E s := by
  have hT : s.TypeIs (.ref ba) "bytearray" := ⟨_, ho, rfl⟩
  have hTl : s.TypeIs (.ref l) "list" := hl.typeIs
  obtain ⟨ol, hol, hoc, nl, hod⟩ := id hl
  have hbl : ba ≠ l := fun e => by
    rw [← e, ho] at hol
    cases hol
    injection hoc with q
    exact absurd q (by decide)
  refine wpX_call (codeX_call_builtin ba_slot_extend.plain ba_entry_extend (by decide +kernel) (ba_slot_extend.check _ _ _ _ _ _ _ _ hT (ba_args_extend _ _) ?_))
  unfold Builtin.«bytearray.extend»
  refine wpX_anyBind (wpAny_of_eq (a := (Value.ref ba, Value.ref l)) rfl ?_)
  dsimp only
  refine wpX_anyBind (wpAny_specialOf hTl F.bm_no_buffer ?_)
  refine wpX_if_false rfl ?_
  refine wpX_anyBind (wpAny_tryCatch (wpAny_pyIter_list hl ?_))
  have hl₁ : (s.heap.push { cls := .type "list_iterator", data := .fields #[.ref l, .int 0 0] }).IsList l vs.toArray := hl.push _
  have hT₁ : ({ s with heap := s.heap.push { cls := .type "list_iterator", data := .fields #[.ref l, .int 0 0] } } : Shared).TypeIs (.ref l) "list" := Heap.IsList.typeIs (s := { s with heap := s.heap.push { cls := .type "list_iterator", data := .fields #[.ref l, .int 0 0] } }) hl₁
  refine wpX_anyBind (wpAny_holding ?_)
  unfold Builtin.Bytes.lengthHint
  refine wpAny_bind (wpAny_specialOf hT₁ slot_list_len.lookup ?_)
  dsimp only
  rw [F.bm_split]
  dsimp only
  refine wpAny_bind (wpAny_isInstance hT₁ F.bm_sub_list ?_)
  refine bm_if_false rfl ?_
  refine bm_if_true (by decide +kernel) ?_
  refine wpAny_pure ?_
  refine wpX_anyBind ?_
  unfold Builtin.Bytes.newBytearray
  refine wpAny_newObj_type ?_ (Nat.zero_le _)
  have hsz : (s.heap.push { cls := .type "list_iterator", data := .fields #[.ref l, .int 0 0] }).objs.size = s.heap.objs.size + 1 := Heap.size_push _ _
  have hlt : l < s.heap.objs.size := Heap.lt_size hol
  have hbt : ba < s.heap.objs.size := Heap.lt_size ho
  refine wpX_pure ⟨plainId_quiet (by decide +kernel) _, extend_loop (by exact hg) hh hi hr hz (I := s.heap.objs.size) (S := (s.heap.push { cls := .type "list_iterator", data := .fields #[.ref l, .int 0 0] }).objs.size)
    (by rw [hsz]; exact Nat.ne_of_lt (Nat.lt_succ_self _)) (Nat.ne_of_lt hlt) (by rw [hsz]; exact Nat.ne_of_lt (Nat.lt_succ_of_lt hlt)) (Nat.ne_of_lt hbt) (by rw [hsz]; exact Nat.ne_of_lt (Nat.lt_succ_of_lt hbt))
    ns.length 0 _ rfl (Nat.zero_le _) (hl₁.push _) ⟨_, Heap.get?_push_of_some _ (Heap.get?_push_size _ rfl), rfl, rfl⟩ (Heap.get?_push_size _ rfl) (Heap.get?_push_of_some _ (Heap.get?_push_of_some _ ho)) fun h' hk ho' => ?_⟩
  exact h h' (fun a o ha e => hk a o (Nat.ne_of_lt (Heap.lt_size e)) (by rw [hsz]; exact Nat.ne_of_lt (Nat.lt_succ_of_lt (Heap.lt_size e))) ha (Heap.get?_push_of_some _ (Heap.get?_push_of_some _ e))) ho'
end
end Mine
end
section
open PySem PySem.W PySem.Calls PyProof.Rows
open PySem.Sem (wp)
set_option maxRecDepth 100000
namespace Mine
section
variable {prog : Program} {w : World} {A : Around} {E : Value → Shared → Prop} {s : Shared} {env : Env}
/-- a while whose turns raise nothing -/
theorem wpX_While {test : Expr} {body : List Stmt} {pos : Pos} {Q : Flow → Shared → Prop} (J : Nat → Shared → Prop) {n₀ : Nat} (h0 : J n₀ s)
    (turn : ∀ n s₁, J n s₁ → wpAny (model prog w) A (isTrue test env (eval test env)) (fun b s₂ => if b = true then wpX (model prog w) A (execs body env)
      (fun f s₃ => match f with | .next | .cont => ∃ m, m < n ∧ J m s₃ | .brk => Q .next s₃ | .ret v => Q (.ret v) s₃) (fun _ _ => False) s₂ else Q .next s₂) (fun _ _ => False) s₁) :
    wpX (model prog w) A (exec (.While test body [] pos) env) Q E s := by
  rw [exec_While]
  refine wpX_anyBind (wpAny_standAt ?_)
  unfold runOwn
  refine wpX_onRaise (wpX_mono (E := fun _ _ => False) (Q := Q) (wpX_run ?_) (fun _ _ x => x) fun _ _ x => x.elim)
  refine codeX_loop rfl J (fun n s hJ => ?_) n₀ h0
  show wpX _ A ((whileTurn test body [] env).onRaise (fun x => do noteFrame x env; theTreesLotGoes x)) _ _ s
  refine wpX_onRaise (wpX_mono (E := fun _ _ => False) ?_ (fun _ _ x => x) fun _ _ x => x.elim)
  simp only [whileTurn]
  refine wpX_anyBind (wpAny_mono (turn n s hJ) (fun b s₂ h₂ => ?_) fun _ _ h' => h')
  cases b with
  | false =>
    simp only [Bool.false_eq_true, if_false] at h₂ ⊢
    exact wpX_bind (wpX_execs_nil (wpX_pure h₂))
  | true =>
    simp only [if_true] at h₂ ⊢
    refine wpX_bind (wpX_mono h₂ (fun f s₃ h₃ => ?_) fun _ _ h' => h')
    cases f with
    | next => exact wpX_pure ⟨rfl, h₃⟩
    | cont => exact wpX_pure ⟨rfl, h₃⟩
    | brk => exact wpX_pure h₃
    | ret v => exact wpX_pure h₃
/-- a try whose suite raises nothing -/
theorem wpX_Try_calm {body : List Stmt} {h₀ : ExceptHandler} {hs : List ExceptHandler} {pos : Pos} {Q : Flow → Shared → Prop}
    (h : wpX (model prog w) A (execs body env) Q (fun _ _ => False) s) : wpX (model prog w) A (exec (.Try body (h₀ :: hs) [] [] pos) env) Q E s := by
  rw [arm_exec_Try]
  refine wpX_anyBind (wpAny_standAt ?_)
  unfold tryStmt
  simp only [List.isEmpty_nil, if_true, List.isEmpty_cons, Bool.false_and, Bool.false_eq_true, if_false]
  refine wpX_bind (wpX_attempt (wpX_mono h (fun f s₁ h₁ => ?_) fun _ _ x => x.elim))
  cases f <;> first | exact wpX_execs_nil h₁ | exact wpX_pure h₁
/-- a try whose handlers are the library's business -/
theorem wpX_Try_any {body : List Stmt} {h₀ : ExceptHandler} {hs : List ExceptHandler} {pos : Pos} {Q : Flow → Shared → Prop}
    (h : wpX (model prog w) A (execs body env) Q
      (fun e s₁ => wpAny (model prog w) A (noteFrame e env) (fun _ s₂ => wpAny (model prog w) A (setFlight e none) (fun _ s₃ => wpAny (model prog w) A (handleBy e env (h₀ :: hs)) Q E s₃) E s₂) E s₁) s) :
    wpX (model prog w) A (exec (.Try body (h₀ :: hs) [] [] pos) env) Q E s := by
  rw [arm_exec_Try]
  refine wpX_anyBind (wpAny_standAt ?_)
  unfold tryStmt
  simp only [List.isEmpty_nil, if_true, List.isEmpty_cons, Bool.false_and, Bool.false_eq_true, if_false]
  refine wpX_bind (wpX_attempt (wpX_mono h (fun f s₁ h₁ => ?_) fun e s₁ h₁ => ?_))
  · cases f <;> first | exact wpX_execs_nil h₁ | exact wpX_pure h₁
  · exact wpX_any (wpAny_bind (wpAny_mono h₁ (fun _ _ h₂ => wpAny_bind h₂) fun _ _ x => x))
end
end Mine
end
section
open PySem PySem.W PyProof.Rows
set_option maxRecDepth 100000
set_option maxHeartbeats 8000000
namespace Mine
open_top hdX for PySem.Challenge.rw_fe0230_01
end Mine
end
section
namespace Mine
/-- what from_long knows between two turns: the digits found so far, the highest ahead -/
def FromInv (b V : Int) (top : List Int) (v : Int) : Prop := 0 ≤ v ∧ V = val b top + v * b ^ top.length ∧ (∀ d ∈ top, 0 ≤ d ∧ d < b) ∧ (v = 0 → lead top = 0)
theorem fromInv_start {b V : Int} (h : 0 ≤ V) : FromInv b V [] V := ⟨h, by simp [val_nil], fun _ q => (nomatch q), fun _ => rfl⟩
theorem lead_cons_pos {d : Int} {r : List Int} (h : d ≠ 0) : lead (d :: r) = 0 := by simp [lead, h]
theorem lead_cons_zero {r : List Int} : lead (0 :: r) = lead r + 1 := by simp [lead]
theorem fromInv_turn {b V v : Int} {top : List Int} (hb : 2 ≤ b) (hv : 0 < v) (i : FromInv b V top v) : FromInv b V (v.fmod b :: top) (v.fdiv b) := by
  obtain ⟨_, e, r, _⟩ := i
  have h0 := Int.fmod_nonneg_of_pos v (b := b) (by omega)
  have h1 := Int.fmod_lt_of_pos v (b := b) (by omega)
  have hd := Int.mul_fdiv_add_fmod v b
  have hq : 0 ≤ v.fdiv b := Int.fdiv_nonneg (by omega) (by omega)
  refine ⟨hq, ?_, ?_, fun z => ?_⟩
  · rw [val_cons, List.length_cons, Int.pow_succ, e]
    have : v * b ^ top.length = (b * v.fdiv b + v.fmod b) * b ^ top.length := by rw [hd]
    rw [this, Int.add_mul]
    have e2 : v.fdiv b * (b ^ top.length * b) = b * v.fdiv b * b ^ top.length := by
      rw [Int.mul_comm (b ^ top.length) b, ← Int.mul_assoc, Int.mul_comm (v.fdiv b) b]
    omega
  · intro d hd
    rcases List.mem_cons.mp hd with rfl | hd
    · exact ⟨h0, h1⟩
    · exact r d hd
  · refine lead_cons_pos fun q => ?_
    rw [z, q] at hd
    omega
theorem fdiv_half {b v : Int} {n : Nat} (hb : 2 ≤ b) (hv : 0 < v) (h : v < 2 ^ n) : ∃ m, n = m + 1 ∧ v.fdiv b < 2 ^ m := by
  cases n with
  | zero => simp at h; omega
  | succ m =>
    refine ⟨m, rfl, ?_⟩
    have hd := Int.mul_fdiv_add_fmod v b
    have h0 := Int.fmod_nonneg_of_pos v (b := b) (by omega)
    have hq : 0 ≤ v.fdiv b := Int.fdiv_nonneg (by omega) (by omega)
    have h2 : 2 * v.fdiv b ≤ b * v.fdiv b := Int.mul_le_mul_of_nonneg_right hb hq
    rw [Int.pow_succ] at h
    omega
/-- zeros ahead -/
theorem lead_replicate (p : Nat) {top : List Int} (h : lead top = 0) : lead (List.replicate p 0 ++ top) = p := by
  induction p with
  | zero => simpa using h
  | succ p ih => rw [List.replicate_succ, List.cons_append, lead_cons_zero, ih]; omega
theorem val_replicate (b : Int) (p : Nat) (top : List Int) : val b (List.replicate p 0 ++ top) = val b top := by
  induction p with
  | zero => rfl
  | succ p ih => rw [List.replicate_succ, List.cons_append, val_cons, ih]; omega
theorem val_lt {b : Int} (hb : 0 < b) : ∀ {ds : List Int}, (∀ d ∈ ds, 0 ≤ d ∧ d < b) → val b ds < b ^ ds.length
  | [], _ => by simp [val_nil]
  | d :: r, h => by
    have h1 := val_lt hb (ds := r) fun x hx => h x (.tail _ hx)
    obtain ⟨h2, h3⟩ := h d (.head _)
    have hp : (0 : Int) < b ^ r.length := Int.pow_pos hb
    rw [val_cons, List.length_cons, Int.pow_succ]
    have : d * b ^ r.length ≤ (b - 1) * b ^ r.length := Int.mul_le_mul_of_nonneg_right (by omega) (Int.le_of_lt hp)
    rw [Int.sub_mul, Int.one_mul] at this
    rw [Int.mul_comm (b ^ r.length) b]
    omega
theorem lead_zero_pos {b : Int} (hb : 0 < b) {ds : List Int} (h : ∀ d ∈ ds, 0 ≤ d ∧ d < b) (hl : lead ds = 0) (hne : ds ≠ []) : b ^ (ds.length - 1) ≤ val b ds := by
  cases ds with
  | nil => exact absurd rfl hne
  | cons d r =>
    have hd : d ≠ 0 := fun q => by
      rw [q, lead_cons_zero] at hl
      have : 0 ≤ lead r := Int.natCast_nonneg _
      omega
    have h0 := (h d (.head _)).1
    have h1 := val_nonneg (Int.le_of_lt hb) (ds := r) fun x hx => (h x (.tail _ hx)).1
    have hp : (0 : Int) < b ^ r.length := Int.pow_pos hb
    rw [val_cons, List.length_cons, Nat.add_sub_cancel]
    have : 1 * b ^ r.length ≤ d * b ^ r.length := Int.mul_le_mul_of_nonneg_right (by omega) (Int.le_of_lt hp)
    omega
theorem val_inj {b : Int} (hb : 0 < b) : ∀ {ds es : List Int}, ds.length = es.length → (∀ d ∈ ds, 0 ≤ d ∧ d < b) → (∀ d ∈ es, 0 ≤ d ∧ d < b) → val b ds = val b es → ds = es
  | [], [], _, _, _, _ => rfl
  | [], _ :: _, h, _, _, _ => nomatch h
  | _ :: _, [], h, _, _, _ => nomatch h
  | d :: r, e :: q, hl, hd, he, hv => by
    have hl' : r.length = q.length := by simpa using hl
    have hr : ∀ x ∈ r, 0 ≤ x ∧ x < b := fun x hx => hd x (.tail _ hx)
    have hq : ∀ x ∈ q, 0 ≤ x ∧ x < b := fun x hx => he x (.tail _ hx)
    have r1 := val_lt hb hr
    have r0 := val_nonneg (Int.le_of_lt hb) fun x hx => (hr x hx).1
    have q1 := val_lt hb hq
    have q0 := val_nonneg (Int.le_of_lt hb) fun x hx => (hq x hx).1
    rw [val_cons, val_cons, hl'] at hv
    rw [hl'] at r1
    have hp : (0 : Int) < b ^ q.length := Int.pow_pos hb
    have hde : d = e := by
      rcases Int.lt_trichotomy d e with h | h | h
      · have : (d + 1) * b ^ q.length ≤ e * b ^ q.length := Int.mul_le_mul_of_nonneg_right (by omega) (Int.le_of_lt hp)
        rw [Int.add_mul, Int.one_mul] at this
        omega
      · exact h
      · have : (e + 1) * b ^ q.length ≤ d * b ^ q.length := Int.mul_le_mul_of_nonneg_right (by omega) (Int.le_of_lt hp)
        rw [Int.add_mul, Int.one_mul] at this
        omega
    subst hde
    rw [val_inj hb hl' hr hq (by omega)]
theorem pow_mono {b : Int} (hb : 1 ≤ b) (n k : Nat) : b ^ n ≤ b ^ (n + k) := by
  induction k with
  | zero => exact Int.le_refl _
  | succ k ih =>
    rw [← Nat.add_assoc, Int.pow_succ]
    have hp : (0 : Int) < b ^ (n + k) := Int.pow_pos (by omega)
    have : b ^ (n + k) * 1 ≤ b ^ (n + k) * b := Int.mul_le_mul_of_nonneg_left hb (Int.le_of_lt hp)
    omega
/-- the row of a number, zeros and all, is one -/
theorem split_lead : ∀ (ds : List Int), ∃ top, ds = List.replicate (lead ds).toNat 0 ++ top ∧ lead top = 0
  | [] => ⟨[], rfl, rfl⟩
  | d :: r => by
    by_cases hd : d = 0
    · subst hd
      obtain ⟨top, e, h⟩ := split_lead r
      have h0 : 0 ≤ lead r := Int.natCast_nonneg _
      refine ⟨top, ?_, h⟩
      rw [lead_cons_zero, show (lead r + 1).toNat = (lead r).toNat + 1 by omega, List.replicate_succ, List.cons_append, ← e]
    · exact ⟨d :: r, by rw [lead_cons_pos hd]; rfl, lead_cons_pos hd⟩
theorem top_unique {b : Int} (hb : 2 ≤ b) {ds es : List Int} (hd : ∀ d ∈ ds, 0 ≤ d ∧ d < b) (he : ∀ d ∈ es, 0 ≤ d ∧ d < b) (ld : lead ds = 0) (le : lead es = 0) (hv : val b ds = val b es) : ds = es := by
  have hb0 : 0 < b := by omega
  have mono : ∀ {n m : Nat}, n ≤ m → b ^ n ≤ b ^ m := fun {n m} h => by have := pow_mono (b := b) (by omega) n (m - n); rwa [Nat.add_sub_cancel' h] at this
  have key : ∀ {xs ys : List Int}, (∀ d ∈ xs, 0 ≤ d ∧ d < b) → (∀ d ∈ ys, 0 ≤ d ∧ d < b) → lead ys = 0 → val b xs = val b ys → ys.length ≤ xs.length := by
    intro xs ys hx hy ly e
    cases hys : ys with
    | nil => exact Nat.zero_le _
    | cons y r =>
      have hne : ys ≠ [] := by rw [hys]; exact List.cons_ne_nil _ _
      have h1 := lead_zero_pos hb0 hy ly hne
      have h2 := val_lt hb0 hx
      rw [← hys]
      apply Decidable.byContradiction
      intro hn
      have := mono (n := xs.length) (m := ys.length - 1) (by omega)
      omega
  exact val_inj hb0 (Nat.le_antisymm (key he hd ld hv.symm) (key hd he le hv)) hd he hv
theorem row_unique {b : Int} (hb : 2 ≤ b) {ds top : List Int} {p : Nat} (hd : ∀ d ∈ ds, 0 ≤ d ∧ d < b) (ht : ∀ d ∈ top, 0 ≤ d ∧ d < b) (lt : lead top = 0) (hv : val b top = val b ds) (hp : lead ds = p) : List.replicate p 0 ++ top = ds := by
  obtain ⟨t', e, h'⟩ := split_lead ds
  rw [hp, Int.toNat_natCast] at e
  have : top = t' := top_unique hb ht (fun d q => hd d (by rw [e]; exact List.mem_append_right _ q)) lt h' (by rw [hv, e, val_replicate])
  rw [this, ← e]
end Mine
end
section
open PySem PySem.W PySem.Calls PyProof.Rows
set_option maxRecDepth 100000
set_option maxHeartbeats 8000000
namespace Mine
abbrev lamParams (x : Str) (p0 : Pos) : Arguments := { posonlyargs := [], args := [{ arg := x, annotation := none, pos := p0 }], vararg := none, kwonlyargs := [], kw_defaults := [], kwarg := none, defaults := [] }
abbrev lamScope (x y : Str) : Scope := { kind := ScopeKind.function, names := [(x, NameKind.local), (y, NameKind.free)], isGenerator := false, isCoroutine := false }
abbrev lamBody (x y : Str) (op : Operator) (p1 p2 p3 : Pos) : Expr := .BinOp (.Name x p1) op (.Name y p2) p3
/-- lambda digit: digit + shift, called -/
theorem lam_add {prog : Program} {w : World} {A A₀ : Around} {s : Shared} {L : Addr} {h₀ base : Heap} {m mg mb : Str → Option Value} {news : List (Addr × Obj)} {loose : List Str} {p : Program} {mean : ExcName → Option Value}
    {env : Env} {outer : List Env} {qual : Str} {p0 p1 p2 p3 : Pos} {pm ctv : Value} {c' f cs : Addr} {K : Frag} {d sh : Int} {td ts : Tok} {Q : Value → Shared → Prop} {E : Value → Shared → Prop}
    (B : Below A₀ base outer h₀) (F : Fr h₀ L s.heap m) (X₀ : K.In h₀) (N : News h₀ L s.heap news) (T : Top p loose mean mg mb h₀) (hA : A.frames = some (env :: outer)) (hf : env.frame = some L) (hke : env.scope.kind = .function)
    (ho : (f, kla_obj (Str.ofString "<lambda>") qual (lamParams (Str.ofString "digit") p0) (lamBody (Str.ofString "digit") (Str.ofString "shift") .Add p1 p2 p3) (lamScope (Str.ofString "digit") (Str.ofString "shift")) [(Str.ofString "shift", cs)] pm c' ctv) ∈ news)
    (hcd : s.heap.CodeRec (.ref c') qual) (hcs : ∃ oc, (cs, oc) ∈ news ∧ oc.data = .cell (some (.int sh ts))) (hroom : A.depth < recursionLimit)
    (h : ∀ h' tk t, Fr h₀ L h' m → News h₀ L h' news → Q (.int (d + sh) t) { s with heap := h', toks := tk }) :
    wpAny (model prog w) A (call (.ref f) [.int d td] []) Q E s := by
  obtain ⟨oc, hm, hd⟩ := hcs
  refine wpAny_call (kla_code B F X₀ N T hA hf hke ho hcd hroom rfl (locs rfl) ?_ rfl rfl rfl (by decide))
  intro g L' h1 FG F1 N1 B1 X1 T1
  refine wpAny_BinOp (nameX_L F1 (by rfl) (nameX_F N1 (by rfl) hm hd (P.add_int ?_)))
  exact leaveK_ F1 N1 fun F2 N2 => h _ _ _ F2 N2
end Mine
end
section
open PySem PySem.W PySem.Calls PyProof.Rows
set_option maxRecDepth 100000
set_option maxHeartbeats 8000000
namespace Mine
abbrev lamAdd (qual : Str) (p0 p1 p2 p3 : Pos) (cs : Addr) (pm ctv : Value) (c' : Addr) : Obj :=
  kla_obj (Str.ofString "<lambda>") qual (lamParams (Str.ofString "digit") p0) (lamBody (Str.ofString "digit") (Str.ofString "shift") .Add p1 p2 p3) (lamScope (Str.ofString "digit") (Str.ofString "shift")) [(Str.ofString "shift", cs)] pm c' ctv

section
variable {prog : Program} {w : World} {A₀ A : Around} {s : Shared} {base h₀ : Heap} {outer : List Env} {L : Addr} {m mg mb : Str → Option Value} {env : Env} {news : List (Addr × Obj)} {K : Frag} {p : Program} {loose : List Str} {mean : ExcName → Option Value}
  {R : Result → Shared → Prop} {name qual : Str} {params : Arguments} {body : List Stmt} {scope : Scope} {dV kV doc pm cdv ct oc : Value} {an od : Option Addr} {osl : Array (Option Value)} {f : Addr} {args : Args} {binds : List (Str × Value)}
/-- codeX_def, and what the caller's heap keeps -/
theorem codeX_def2 (B : Below A₀ base outer h₀) (F : Fr h₀ L s.heap m) (X₀ : K.In h₀) (N : News h₀ L s.heap news) (T : Top p loose mean mg mb h₀) (hA : A.frames = some (env :: outer)) (hf : env.frame = some L) (hke : env.scope.kind = .function)
    (ho : K.lookup f = some ⟨oc, od, .func (fnOf name qual params body scope dV kV doc pm an cdv ct), osl⟩) (hcd : codeIn K cdv qual = true) (hroom : A.depth < recursionLimit)
    (hbind : BindsTo s (fnOf name qual params body scope dV kV doc pm an cdv ct) args binds) (hloc : ∀ y ∈ binds, scope.names.lookup y.1 = some .local)
    (h : ∀ g L' h₁, (∀ b o, s.heap.get? b = some o → b ∉ news.map (·.1) → g.get? b = some o) → Fr h₀ L g m → Fr g L' h₁ (fun y => binds.reverse.lookup y) → News g L' h₁ news → Below A base (env :: outer) g → K.In g → Top p loose mean mg mb g →
      wpX (model prog w) (A.deeper (envOf qual scope L' f cdv)) (execs body (envOf qual scope L' f cdv))
        (fun fl s' => LeaveK h₀ L m g R (match fl with | .ret v => v | _ => .none) s')
        (fun e s' => wpAny (model prog w) (A.deeper (envOf qual scope L' f cdv)) (leaving (envOf qual scope L' f cdv) e) (fun _ s'' => R (.error e) s'') (fun e' s'' => R (.error e') s'') s')
        { s with heap := h₁, toks := s.toks + binds.length })
    (hco : scope.isCoroutine = false) (hgen : scope.isGenerator = false) (hk : scope.kind = .function) (hcell : ∀ x ∈ scope.names, x.2 ≠ .cell) : codeX (model prog w) A (.call (.ref f) args) R s := by
  obtain ⟨FG, BG, st, lv⟩ := groundX (R := R) B F N hA hf hke
  refine codeX_call_function (fd := fnOf name qual params body scope dV kV doc pm an cdv ct) hroom ((X₀.keeps F.keep) _ _ ho) rfl hco hgen rfl (codeRec_of (X₀.keeps F.keep) hcd) (hbind _ _ _ _ ?_)
  refine wpAny_newFunctionEnv hcell hloc (fun h₁ hns hsb => ⟨(T.nolimit.keeps F.keep).fresh _ hsb, codeX_func ?_⟩) hk
  have hk₁ : ∀ b o, s.heap.get? b = some o → h₁.get? b = some o := fun b o e => hsb.extBut b o (Nat.ne_of_lt (Heap.lt_size e)) (Heap.get?_push_of_some _ e)
  exact wpX_mono (h _ s.heap.objs.size h₁ (fun b o e hb => hideAll_get _ e hb) FG ⟨hns, fun b o e => hk₁ b o (of_hideAll _ e), Nat.le_of_eq (hideAll_size _ _)⟩
    (fun p hp => ⟨hk₁ _ _ (N p hp).1, Nat.ne_of_lt (Heap.lt_size (N p hp).1), hideAll_none _ (List.mem_map_of_mem hp)⟩) BG (X₀.keeps st) (T.keeps st)) (fun fl s' hl => lv _ _ hl) fun _ _ y => y
end
end Mine
end
section
open PySem PySem.W PySem.Calls PyProof.Rows
set_option maxRecDepth 100000
set_option maxHeartbeats 8000000
namespace Mine
section
variable {g h h' : Heap} {L ba : Addr} {m : Str → Option Value} {news rest : List (Addr × Obj)} {o o' : Obj}
theorem fr_but (F : Fr g L h m) (N : News g L h ((ba, o) :: rest)) (hk : ∀ a o, a ≠ ba → h.get? a = some o → h'.get? a = some o) : Fr g L h' m := by
  obtain ⟨h1, h2, h3⟩ := N _ (.head _)
  obtain ⟨oL, es, ep, hL, hLd, hLk, hLf⟩ := F.ns
  refine ⟨⟨oL, es, ep, hk _ _ (Ne.symm h2) hL, hLd, hLk, hLf⟩, fun b ob e => hk b ob (fun q => ?_) (F.keep b ob e), F.above⟩
  rw [q, h3] at e; cases e
theorem news_but (N : News g L h ((ba, o) :: rest)) (hne : ∀ p ∈ rest, p.1 ≠ ba) (hk : ∀ a o, a ≠ ba → h.get? a = some o → h'.get? a = some o) (ho : h'.get? ba = some o') : News g L h' ((ba, o') :: rest) := fun p hp => by
  rcases List.mem_cons.mp hp with rfl | hp
  · exact ⟨ho, (N _ (.head _)).2⟩
  · exact ⟨hk _ _ (hne p hp) (N _ (.tail _ hp)).1, (N _ (.tail _ hp)).2⟩
theorem news_tail {q : Addr × Obj} (N : News g L h (q :: rest)) : News g L h rest := fun p hp => N p (.tail _ hp)
end
theorem boot_bytearray : bootBuiltins (Str.ofString "bytearray") = some (.type "bytearray") := by decide +kernel
structure FlM (M : Str → Option Value) (v : Int) (tv : Tok) (p : Int) (tp : Tok) (b : Int) (tb : Tok) (f ba : Addr) : Prop where
  v : M (Str.ofString "v") = some (.int v tv)
  prefix_ : M (Str.ofString "prefix") = some (.int p tp)
  base : M (Str.ofString "base") = some (.int b tb)
  charset : M (Str.ofString "charset") = some (.ref f)
  ba : M (Str.ofString "ba") = some (.ref ba)
theorem ints_replicate (p : Nat) (n : Int) (t : Tok) : IntsAre (List.replicate p [Value.int n t]).flatten (List.replicate p n) := by
  induction p with
  | zero => exact .nil
  | succ p ih => rw [List.replicate_succ, List.replicate_succ]; exact .cons _ _ ih
theorem byteArr_snoc (ns : List Int) (n : Int) : byteArr (ns ++ [n]) = (byteArr ns).push n.toNat.toUInt8 := by simp [byteArr]
theorem byteArr_app (ns ms : List Int) : byteArr (ns ++ ms) = byteArr ns ++ byteArr ms := by simp [byteArr]
theorem byteArr_rev (ns : List Int) : (byteArr ns).reverse = byteArr ns.reverse := by simp [byteArr]
section
variable {M : Model} {A : Around} {E : Value → Shared → Prop} {s : Shared} {env : Env}
theorem wpX_method1 {pos : Pos} {id : String} {first : List Value} {e : Expr} {rest : List Expr} {Q : Value → Shared → Prop}
    (h : wpAny M A (spliced (backTo pos (starEach (e :: rest) env))) (fun vs s₁ => wpX M A (call (.builtin id) (first ++ vs)) Q E s₁) E s)
    (he : starEach (e :: rest) env = (false, eval e env) :: starEach rest env := by rfl)
    (hplain : (backTo pos (starEach rest env)).any (·.1) = false := by rfl) :
    wpX M A (callWith pos (.builtin id) first (backTo pos (starEach (e :: rest) env)) []) Q E s := by
  rw [he] at h ⊢
  exact wpX_callWith_builtin (by show (false || (backTo pos (starEach rest env)).any (·.1)) = false; rw [hplain]; rfl) (evalArgs_plain h)
end
theorem from_long_ok {w : World} {s : Shared} {base₀ h₀ : Heap} {L : Addr} {m mg mb : Str → Option Value} {env : Env} {news : List (Addr × Obj)} {loose : List Str} {mean : ExcName → Option Value} {R : Result → Shared → Prop}
    {qual : Str} {p0 p1 p2 p3 : Pos} {pm ctv : Value} {c' f cs : Addr} {v b sh : Int} {p : Nat} {tv tp tb ts : Tok} {oc' ocs : Obj} {vs' : Array Value} {tq' : Nat}
    (B : Below callerA base₀ [] h₀) (F : Fr h₀ L s.heap m) (X₀ : (hdX.heap_39 w.params).In h₀) (N : News h₀ L s.heap news) (T : Top topProg loose mean mg mb h₀) (hf : env.frame = some L) (hke : env.scope.kind = .function)
    (hm1 : (f, lamAdd qual p0 p1 p2 p3 cs pm ctv c') ∈ news) (hm2 : (c', oc') ∈ news) (hm3 : (cs, ocs) ∈ news)
    (hd' : oc'.data = .fields vs') (hq' : vs'[1]? = some (.str qual tq')) (hcs : ocs.data = .cell (some (.int sh ts)))
    (hv : 0 ≤ v) (hvm : v < 2 ^ 300) (hb : 2 ≤ b) (hb1 : b ≤ 200) (hs0 : 0 ≤ sh) (hs1 : sh < 50) (hp : p ≤ 100)
    (h : ∀ h' tk t top, (∀ a o, s.heap.get? a = some o → h'.get? a = some o) → Fr h₀ L h' m → val b top = v → lead top = 0 → (∀ d ∈ top, 0 ≤ d ∧ d < b) → top.length ≤ 300 →
      R (.ok (.ret (.bytes (byteArr ((List.replicate p 0 ++ top).map fun d => d + sh)) t))) { s with heap := h', toks := tk }) :
    codeX (model PySem.Challenge.rw_fe0230_01.row.prog w) (callerA.deeper env) (.call (.ref 41) ⟨[.int v tv, .int p tp, .int b tb, .ref f], []⟩) R s := by
  w_top off
  k_with_none
  revert X₀; k_fill; intro X₀
  have N3 : News h₀ L s.heap [(f, lamAdd qual p0 p1 p2 p3 cs pm ctv c'), (c', oc'), (cs, ocs)] := fun q hq => N q (by
    simp only [List.mem_cons, List.not_mem_nil, or_false] at hq
    rcases hq with rfl | rfl | rfl <;> assumption)
  refine' codeX_def2 B F X₀ N3 T rfl hf hke ?k6 ?k7 ?k8 ?k9 ?kB ?_ ?c2 ?c3 ?c4 ?c5
  case k6 => k_is
  case k7 => k_is
  case k8 => k_room
  case k9 => exact BindsTo.of_eq rfl
  case c5 => decide
  case kB => exact locs rfl
  case c2 => exact rfl
  case c3 => exact rfl
  case c4 => exact rfl
  intro g L' h1 hgs FG F1 N1 B1 X1 T1
  refine wpX_execs_cons (wpX_Assign_Name (wpX_Call (nameX_B F1 X1 (topRead_of T1) (by k_is) boot_bytearray (by decide) (wpX_callWith_type (call_ba (by rfl) fun h2 hk2 ho2 => ?_)))))
  have hne : ∀ q ∈ [(f, lamAdd qual p0 p1 p2 p3 cs pm ctv c'), (c', oc'), (cs, ocs)], q.1 ≠ h1.objs.size := fun q hq => Nat.ne_of_lt (Heap.lt_size (N1 q hq).1)
  have key : ∃ M0, Fr g L' h2 M0 ∧ M0 (Str.ofString "v") = some (.int v tv) ∧ M0 (Str.ofString "prefix") = some (.int p tp) ∧ M0 (Str.ofString "base") = some (.int b tb) ∧ M0 (Str.ofString "charset") = some (.ref f) := ⟨_, F1.keeps hk2, rfl, rfl, rfl, rfl⟩
  obtain ⟨M0, F2, mv, mp, mb', mc⟩ := key
  have N2 : News g L' h2 ((h1.objs.size, baObj #[]) :: _) := fun q hq => by
    rcases List.mem_cons.mp hq with rfl | hq
    · exact ⟨ho2, fun e => absurd F1.ns.lt (by rw [← e]; exact Nat.lt_irrefl _), by
        cases q : g.get? h1.objs.size with
        | none => rfl
        | some o => exact absurd (Heap.lt_size (F1.keep _ _ q)) (Nat.lt_irrefl _)⟩
    · exact ⟨hk2 _ _ (N1 q hq).1, (N1 q hq).2⟩
  dsimp only
  generalize h1.objs.size = ba at hne N2 ⊢
  clear F1 N1 hk2 ho2
  refine storeX_L F2 N2 ?_
  intro h3 F3 N3'
  clear F2 N2
  dsimp only
  refine wpX_execs_cons ?_
  have fm : FlM (fun y => if y = Str.ofString "ba" then some (Value.ref ba) else M0 y) v tv p tp b tb f ba := ⟨mv, mp, mb', mc, rfl⟩
  generalize (fun y => if y = Str.ofString "ba" then some (Value.ref ba) else M0 y) = M1 at F3 fm
  clear mv mp mb' mc
  refine wpX_mono (E := fun _ _ => False) (Q := fun fl s₃ => fl = .next ∧ ∃ h tk top tv' M, s₃ = { s with heap := h, toks := tk } ∧ Fr g L' h M ∧ FlM M 0 tv' p tp b tb f ba ∧
    News g L' h ((ba, baObj (byteArr (top.reverse.map fun d => d + sh))) :: [(f, lamAdd qual p0 p1 p2 p3 cs pm ctv c'), (c', oc'), (cs, ocs)]) ∧ FromInv b v top 0 ∧ top.length ≤ 300)
    (wpX_While (fun n s₃ => ∃ h tk top v' tv' M, s₃ = { s with heap := h, toks := tk } ∧ Fr g L' h M ∧ FlM M v' tv' p tp b tb f ba ∧
    News g L' h ((ba, baObj (byteArr (top.reverse.map fun d => d + sh))) :: [(f, lamAdd qual p0 p1 p2 p3 cs pm ctv c'), (c', oc'), (cs, ocs)]) ∧ FromInv b v top v' ∧ v' < 2 ^ n ∧ top.length + n ≤ 300) (n₀ := 300) ?_ ?_) ?_ ?_
  · exact ⟨h3, _, [], v, tv, M1, rfl, F3, fm, N3', fromInv_start hv, hvm, Nat.le_refl _⟩
  · rintro n s₃ ⟨h, tk, top, v', tv', M, rfl, F4, fm4, N4, inv, hlt, hlen⟩
    clear F3 N3' fm
    refine wpAny_isTrue_Compare1 (nameX_L F4 fm4.v (wpAny_Constant_int (P.gt_int (wpAny_truthy_bool ?_))))
    by_cases hpos : v' > 0
    · rw [decide_eq_true hpos, if_pos rfl]
      refine wpX_execs_cons (wpX_Try_calm (wpX_execs_any (Assign_Tuple (Call_ (nameX_B F4 X1 (topRead_of T1) (by k_is) (by boot_fast) (by decide) (callWith_builtin1 (args_cons (nameX_L F4 fm4.v (args_cons (nameX_L F4 fm4.base (args_nil
        (divmod_N F4 N4 (by omega) (fun h5 F5 N5 => ?_) (Or.inl (PyProof.noPylong_small (by omega)))))))))))))))
      refine unpackN_ F5 N5 (News.isTup N5 (.head _)) rfl rfl rfl fun h6 F6 N6 => ?_
      refine assignInOrder_cons (assign_Name (storeX_L F6 N6 fun h7 F7 N7 => assignInOrder_cons (assign_Name (storeX_L F7 N7 fun h8 F8 N8 => assignInOrder_nil ?_))))
      clear F5 N5 F6 N6 F7 N7
      dsimp only
      have inv' := fromInv_turn hb hpos inv
      have hmod := inv'.2.2.1 _ (.head _)
      obtain ⟨n', rfl, hlt'⟩ := fdiv_half hb hpos hlt
      generalize v'.fmod b = mo at hmod F8 inv' ⊢
      generalize v'.fdiv b = v'' at hlt' F8 inv' ⊢
      have N9 := news_tail N8
      clear N8
      have key8 : ∃ M8 tv8 tmo, Fr g L' h8 M8 ∧ FlM M8 v'' tv8 p tp b tb f ba ∧ M8 (Str.ofString "mod") = some (.int mo tmo) := ⟨_, _, _, F8, ⟨rfl, fm4.prefix_, fm4.base, fm4.charset, fm4.ba⟩, rfl⟩
      obtain ⟨M8, tv8, tmo, F8', fm8, mm8⟩ := key8
      clear F8
      clear F4 fm4 N4
      refine wpX_execs_cons (wpX_Expr (wpX_MethodCall (nameX_L F8' fm8.ba ?_)))
      refine getMethod_ba (N9.get (.head _)) ba_slot_append ba_type_append ?_
      refine wpX_method1 (args_cons (Call_ (nameX_L F8' fm8.charset ?_)))
      refine callWith_def (o := lamAdd qual p0 p1 p2 p3 cs pm ctv c') rfl (args_cons (nameX_L F8' mm8 (args_nil ⟨N9.get (.tail _ (.head _)), ?_⟩)))
      refine lam_add B1 F8' X1 N9 T1 rfl rfl rfl (.tail _ (.head _)) (codeRec_news N9 (.tail _ (.tail _ (.head _))) hd' hq') ⟨ocs, .tail _ (.tail _ (.tail _ (.head _))), hcs⟩ (by k_room) fun h9 tk9 t9 F9 N9' => ?_
      clear F8' N9
      refine args_nil ?_
      refine call_append (by rfl) (N9'.get (.head _)) (by omega) (by omega) (by rw [byteArr_size]; simp only [List.length_map, List.length_reverse]; show _ ≤ 2 ^ 24; omega) fun h10 hs10 ho10 => ?_
      refine wpX_execs_nil (wpX_execs_nil ?_)
      have hk10 : ∀ a o, a ≠ ba → h9.get? a = some o → h10.get? a = some o := fun a o ha e => (hs10.2 a ha).trans e
      rw [← byteArr_snoc] at ho10
      have e10 : (top.reverse.map fun d => d + sh) ++ [mo + sh] = (mo :: top).reverse.map fun d => d + sh := by simp
      rw [e10] at ho10
      exact ⟨n', Nat.lt_succ_self _, h10, _, mo :: top, v'', tv8, M8, rfl, fr_but F9 N9' hk10, fm8, news_but N9' hne hk10 ho10, inv', hlt', by simp only [List.length_cons]; omega⟩
    · rw [decide_eq_false hpos, if_neg Bool.false_ne_true]
      have h0 : v' = 0 := by have := inv.1; omega
      subst h0
      exact ⟨rfl, h, _, top, tv', M, rfl, F4, fm4, N4, inv, by omega⟩
  · rintro fl s₃ ⟨rfl, hx4, tk, top, tv', M, rfl, F4, fm4, N4, inv, hlen⟩
    clear F3 N3' fm
    refine wpX_execs_cons (wpX_Expr (wpX_MethodCall (nameX_L F4 fm4.ba ?_)))
    refine getMethod_ba (N4.get (.head _)) ba_slot_extend ba_type_extend ?_
    refine wpX_method1 (args_cons (wpAny_BinOp (List_ (args_cons (Call_ (nameX_L F4 fm4.charset ?_))))))
    refine callWith_def (o := lamAdd qual p0 p1 p2 p3 cs pm ctv c') rfl (args_cons (wpAny_Constant_int (args_nil ⟨N4.get (.tail _ (.head _)), ?_⟩)))
    refine lam_add B1 F4 X1 N4 T1 rfl rfl rfl (.tail _ (.head _)) (codeRec_news N4 (.tail _ (.tail _ (.head _))) hd' hq') ⟨ocs, .tail _ (.tail _ (.tail _ (.head _))), hcs⟩ (by k_room) fun h5 tk5 t5 F5 N5 => ?_
    clear F4 N4
    refine args_nil ?_
    refine newList_N F5 N5 (fun h6 F6 N6 => ?_) (by simp [sizeLine])
    refine nameX_L F6 fm4.prefix_ ?_
    refine mul_list_is (vs := [Value.int (0 + sh) t5]) (ds := [.int (0 + sh)]) F6 N6 (News.isList N6 (.head _)) (.cons (.int _ _) .nil) (by omega) (by omega) (by simp; omega) fun h7 F7 N7 _ hl7 _ => ?_
    have N8 := news_tail N7
    clear F5 N5 F6 N6 N7
    refine args_nil ?_
    rw [Int.toNat_natCast] at hl7
    refine call_extend (by rfl) (by rfl) (N8.get (.head _)) hl7 (ints_replicate p (0 + sh) t5) (fun n hn => by have := List.eq_of_mem_replicate hn; omega) (by rw [byteArr_size]; simp only [List.length_map, List.length_reverse, List.length_replicate]; show _ ≤ 2 ^ 24; omega) fun h9 hk9 ho9 => ?_
    rw [← byteArr_app] at ho9
    have F9 := fr_but F7 N8 hk9
    have N9 := news_but N8 hne hk9 ho9
    clear F7 N8 hk9 ho9 hl7
    refine wpX_execs_cons (wpX_Expr (wpX_any (MethodCall_ (nameX_L F9 fm4.ba ?_))))
    refine getMethod_ba (N9.get (.head _)) ba_slot_reverse ba_type_reverse ?_
    refine callWith_method0 ?_
    refine call_reverse (N9.get (.head _)) (by rw [byteArr_size]; simp only [List.length_append, List.length_map, List.length_reverse, List.length_replicate]; show _ ≤ 2 ^ 24; omega) fun h10 hs10 ho10 => ?_
    have hk10 : ∀ a o, a ≠ ba → h9.get? a = some o → h10.get? a = some o := fun a o ha e => (hs10.2 a ha).trans e
    rw [byteArr_rev] at ho10
    have e10 : ((top.reverse.map fun d => d + sh) ++ List.replicate p (0 + sh)).reverse = (List.replicate p 0 ++ top).map fun d => d + sh := by simp
    rw [e10] at ho10
    have F10 := fr_but F9 N9 hk10
    have N10 := news_but N9 hne hk10 ho10
    clear F9 N9 hk10 ho10 hs10
    refine wpX_execs_cons (wpX_Return (wpX_any (Call_ (nameX_B F10 X1 (topRead_of T1) (by k_is) (by boot_fast) (by decide) ?_))))
    refine PyProof.Rows.callWith_type1 (args_cons (nameX_L F10 fm4.ba (args_nil ?_)))
    refine call_bytes_ba (N10.get (.head _)) (by rw [byteArr_size]; simp only [List.length_append, List.length_map, List.length_replicate]; show _ ≤ 2 ^ 24; omega) fun t k => ?_
    refine leaveK_ F10 (news_tail N10) fun F11 N11 => ?_
    refine h _ _ _ top (fun a o e => ?_) F11 ?_ (inv.2.2.2 rfl) inv.2.2.1 hlen
    · by_cases hm : a ∈ List.map (fun x => x.fst) [(f, lamAdd qual p0 p1 p2 p3 cs pm ctv c'), (c', oc'), (cs, ocs)]
      · obtain ⟨q, hq, rfl⟩ := List.mem_map.mp hm
        have e1 := (N3 q hq).1
        have e2 := (N11 q hq).1
        rw [e1] at e
        cases e
        exact e2
      · exact F10.keep a o (hgs a o e hm)
    · have := inv.2.1
      omega
  · exact fun _ _ x => x.elim
end Mine
end
section
open PySem PySem.W PySem.Calls PyProof.Rows
set_option maxRecDepth 100000
namespace Mine
theorem abs_nonneg (ns : List Int) : ∀ x ∈ List.map (fun k' : Int => if k' < 0 then -k' else k') (ns ++ [4, 1, 2, 0]), 0 ≤ x := by
  intro x hx
  obtain ⟨y, _, rfl⟩ := List.mem_map.1 hx
  split <;> omega
theorem digs_in {nums digs : List Int} {base : Int} {n : Nat} (hb : 2 ≤ base) (hD : List.map (fun k' : Int => (0:Int)) (rangeKs 0 n) ++ List.map (fun k' : Int => if ¬ base = 0 then (k'.fdiv 5).fmod base else k') (List.take 30 nums) = digs) :
    ∀ d ∈ digs, 0 ≤ d ∧ d < base := by
  subst hD
  intro d hd
  rcases List.mem_append.mp hd with h | h
  · obtain ⟨y, _, rfl⟩ := List.mem_map.1 h
    omega
  · obtain ⟨y, _, rfl⟩ := List.mem_map.1 h
    rw [if_pos (by omega)]
    exact ⟨Int.fmod_nonneg_of_pos _ (by omega), Int.fmod_lt_of_pos _ (by omega)⟩
theorem digs_len {nums digs : List Int} {base : Int} {n : Nat} (hn : n ≤ 2) (hD : List.map (fun k' : Int => (0:Int)) (rangeKs 0 n) ++ List.map (fun k' : Int => if ¬ base = 0 then (k'.fdiv 5).fmod base else k') (List.take 30 nums) = digs) :
    digs.length ≤ 32 := by
  subst hD
  simp only [List.length_append, List.length_map, rangeKs_length, List.length_take]
  omega
theorem row_in {digs : List Int} {base shift : Int} (h : ∀ d ∈ digs, 0 ≤ d ∧ d < base) (hb : base ≤ 200) (h0 : 0 ≤ shift) (h1 : shift < 50) : KBa.In (List.map (fun k' => k' + shift) digs) := by
  intro n hn
  obtain ⟨d, hd, rfl⟩ := List.mem_map.1 hn
  have := h d hd
  omega
theorem sub_news {h₀ h : Heap} {L : Addr} {news led : List (Addr × Obj)} (N : News h₀ L h news) (hs : ∀ p ∈ led, p ∈ news) : News h₀ L h led := fun p hp => N p (hs p hp)
theorem trim {h₀ h : Heap} {L : Addr} {p0 p1 p2 p3 p4 p5 p6 p7 p8 p9 p10 p11 p12 : Addr × Obj} (N : News h₀ L h [p0, p1, p2, p3, p4, p5, p6, p7, p8, p9, p10, p11, p12]) : News h₀ L h [p1, p8, p9, p10, p11, p12] :=
  sub_news N fun p hp => by
    simp only [List.mem_cons, List.not_mem_nil, or_false] at hp ⊢
    rcases hp with h | h | h | h | h | h <;> simp [h]
end Mine
namespace Mine
section
variable {h₀ h : Heap} {L : Addr} {p0 p1 p2 p3 p4 p5 p6 p7 p8 p9 : Addr × Obj}
theorem trimA (N : News h₀ L h [p0, p1, p2, p3, p4, p5, p6, p7]) : News h₀ L h [p0, p3, p4, p5, p6, p7] :=
  sub_news N fun p hp => by
    simp only [List.mem_cons, List.not_mem_nil, or_false] at hp ⊢
    rcases hp with h | h | h | h | h | h <;> simp [h]
end
theorem num_fmod {nums : List Int} (k m : Int) (hm : 0 < m) : 0 ≤ (nums.getD (Int.toNat k) 0).fmod m ∧ (nums.getD (Int.toNat k) 0).fmod m < m := ⟨Int.fmod_nonneg_of_pos _ hm, Int.fmod_lt_of_pos _ hm⟩
end Mine
namespace Mine
section
variable {h₀ h : Heap} {L : Addr} {p0 p1 p2 p3 p4 p5 p6 p7 p8 p9 : Addr × Obj}
theorem trimB (N : News h₀ L h [p0, p1, p2, p3, p4, p5, p6, p7, p8, p9]) : News h₀ L h [p0, p5, p6, p7, p8, p9] :=
  sub_news N fun p hp => by
    simp only [List.mem_cons, List.not_mem_nil, or_false] at hp ⊢
    rcases hp with h | h | h | h | h | h <;> simp [h]
end
theorem digs_inB {nums digs : List Int} {base : Int} {n : Nat} (hb : 2 ≤ base) (hD : List.map (fun k' : Int => (0:Int)) (rangeKs 0 n) ++ List.map (fun k' : Int => (k'.fdiv 5).fmod base) (List.take 30 nums) = digs) :
    ∀ d ∈ digs, 0 ≤ d ∧ d < base := by
  subst hD
  intro d hd
  rcases List.mem_append.mp hd with h | h
  · obtain ⟨y, _, rfl⟩ := List.mem_map.1 h
    omega
  · obtain ⟨y, _, rfl⟩ := List.mem_map.1 h
    exact ⟨Int.fmod_nonneg_of_pos _ (by omega), Int.fmod_lt_of_pos _ (by omega)⟩
theorem digs_lenB {nums digs : List Int} {base : Int} {n : Nat} (hn : n ≤ 2) (hD : List.map (fun k' : Int => (0:Int)) (rangeKs 0 n) ++ List.map (fun k' : Int => (k'.fdiv 5).fmod base) (List.take 30 nums) = digs) :
    digs.length ≤ 32 := by
  subst hD
  simp only [List.length_append, List.length_map, rangeKs_length, List.length_take]
  omega
end Mine
namespace Mine
section
variable {h₀ h : Heap} {L : Addr} {p0 p1 p2 p3 p4 p5 p6 p7 p8 p9 : Addr × Obj}
theorem trimC (N : News h₀ L h (p0 :: p1 :: [p2, p3, p4, p5, p6])) : News h₀ L h [p1, p2, p3, p4, p5, p6] := fun p hp => N p (.tail _ hp)
end
end Mine
end
section
open PySem PySem.W PySem.Calls PyProof.Rows
set_option maxRecDepth 100000
namespace Mine
section
variable {h₀ h : Heap} {L : Addr} {p0 p1 p2 p3 p4 p5 p6 p7 p8 p9 : Addr × Obj}
theorem trimD (N : News h₀ L h [p0, p1, p2, p3, p4, p5, p6, p7, p8]) : News h₀ L h [p3, p4, p5, p6, p7, p8] := news_tail' (news_tail' (news_tail' N))
where news_tail' {h₀ h : Heap} {L : Addr} {q : Addr × Obj} {rest : List (Addr × Obj)} (N : News h₀ L h (q :: rest)) : News h₀ L h rest := fun p hp => N p (.tail _ hp)
end
theorem toInv_digs {b sh v p : Int} {ds : List Int} (h : ToInv b sh (ds.map fun d => d + sh) p v) : v = val b ds ∧ p = lead ds := by
  have e : ((ds.map fun d => d + sh).map fun c => c - sh) = ds := by
    rw [List.map_map]
    have : ((fun c : Int => c - sh) ∘ fun d => d + sh) = id := by funext d; simp
    rw [this, List.map_id]
  obtain ⟨h1, h2⟩ := h
  rw [e] at h1 h2
  exact ⟨h1, h2⟩
end Mine
namespace Mine
theorem wpAny_calm {α : Type} {M : Model} {A : Around} {t : Sem α} {Q : α → Shared → Prop} {E : Value → Shared → Prop} {s : Shared} (h : wpAny M A t Q (fun _ _ => False) s) : wpAny M A t Q E s :=
  wpAny_mono h (fun _ _ x => x) fun _ _ x => x.elim
end Mine
end
section
open PySem PySem.W PySem.Calls PyProof.Rows
set_option maxRecDepth 100000
namespace Mine
def ZeroTo (ds : List Int) (a : Int) : Prop := 0 ≤ a ∧ a ≤ ds.length ∧ ∀ d ∈ ds.take a.toNat, d = 0
theorem zeroTo_start (ds : List Int) : ZeroTo ds 0 := ⟨Int.le_refl _, Int.natCast_nonneg _, by simp⟩
theorem zeroTo_step {ds : List Int} {a : Int} (h : ZeroTo ds a) (hl : a < ds.length) (e : ds.getD a.toNat 0 = 0) : ZeroTo ds (a + 1) := by
  obtain ⟨h0, _, h2⟩ := h
  have hlt : a.toNat < ds.length := by omega
  refine ⟨by omega, by omega, fun d hd => ?_⟩
  rw [show (a + 1).toNat = a.toNat + 1 by omega, List.take_succ_eq_append_getElem hlt] at hd
  rcases List.mem_append.mp hd with hd | hd
  · exact h2 d hd
  · rw [List.mem_singleton] at hd
    rw [List.getD_eq_getElem?_getD, List.getElem?_eq_getElem hlt, Option.getD_some] at e
    rw [hd, e]
theorem lead_take {ds : List Int} {n : Nat} (h : ∀ d ∈ ds.take n, d = 0) (hl : n ≤ ds.length) : lead ds = n + lead (ds.drop n) := by
  have e := List.take_append_drop n ds
  have h2 : ds.take n = List.replicate n 0 := List.eq_replicate_iff.mpr ⟨by simp; omega, h⟩
  rw [h2] at e
  rw [← e]
  have : ∀ (p : Nat) (top : List Int), lead (List.replicate p 0 ++ top) = p + lead top := by
    intro p top
    induction p with
    | zero => simp
    | succ p ih => rw [List.replicate_succ, List.cons_append, lead_cons_zero, ih]; omega
  rw [this]
  simp
theorem zeroTo_end1 {ds : List Int} {a : Int} (h : ZeroTo ds a) (hl : ¬ a < ds.length) : a = lead ds := by
  obtain ⟨h0, h1, h2⟩ := h
  rw [lead_take h2 (by omega), List.drop_eq_nil_of_le (by omega), lead_nil]
  omega
theorem zeroTo_end2 {ds : List Int} {a : Int} (h : ZeroTo ds a) (hl : a < ds.length) (e : ¬ ds.getD a.toNat 0 = 0) : a = lead ds := by
  obtain ⟨h0, h1, h2⟩ := h
  have hlt : a.toNat < ds.length := by omega
  rw [lead_take h2 (by omega), List.drop_eq_getElem_cons hlt]
  rw [List.getD_eq_getElem?_getD, List.getElem?_eq_getElem hlt, Option.getD_some] at e
  rw [lead_cons_pos e]
  omega
section
variable {prog : Program} {w : World} {A : Around} {E : Value → Shared → Prop} {s : Shared} {env : Env} {gh : Heap} {L : Addr} {led : List (Addr × Obj)} {x : Str}
def ScanNext (gh : Heap) (L : Addr) (s : Shared) (led : List (Addr × Obj)) (x : Str) (M : Str → Option Value) (ds : List Int) (a : Int) (s₃ : Shared) : Prop :=
  ∃ h tk ta, s₃ = { s with heap := h, toks := tk } ∧ Fr gh L h (fun y => if y = x then some (.int a ta) else M y) ∧ News gh L h led ∧ ZeroTo ds a
/-- a while that counts the zeros ahead -/
theorem while_scan {test : Expr} {body : List Stmt} {pos : Pos} {Q : Flow → Shared → Prop} {M : Str → Option Value} {t₀ : Tok} {ds : List Int}
    (F : Fr gh L s.heap (fun y => if y = x then some (.int 0 t₀) else M y)) (N : News gh L s.heap led)
    (turn : ∀ a ta h tk, ZeroTo ds a → Fr gh L h (fun y => if y = x then some (.int a ta) else M y) → News gh L h led →
      wpAny (model prog w) A (isTrue test env (eval test env)) (fun b s₂ => if b = true then wpAny (model prog w) A (execs body env)
        (fun f s₃ => f = .next ∧ ScanNext gh L s led x M ds (a + 1) s₃) (fun _ _ => False) s₂ else a = lead ds ∧ ScanNext gh L s led x M ds a s₂) (fun _ _ => False) { s with heap := h, toks := tk })
    (done : ∀ ta h tk, Fr gh L h (fun y => if y = x then some (.int (lead ds) ta) else M y) → News gh L h led → Q .next { s with heap := h, toks := tk }) :
    wpX (model prog w) A (exec (.While test body [] pos) env) Q E s := by
  refine wpX_mono (E := fun _ _ => False) (Q := Q) (wpX_While (fun n s₁ => ∃ a, ScanNext gh L s led x M ds a s₁ ∧ n = ds.length - a.toNat) (n₀ := ds.length) ⟨0, ⟨_, _, _, rfl, F, N, zeroTo_start ds⟩, by simp⟩ ?_) (fun _ _ q => q) fun _ _ q => q.elim
  rintro n s₁ ⟨a, ⟨h, tk, ta, rfl, F1, N1, z⟩, rfl⟩
  refine wpAny_mono (turn a ta h tk z F1 N1) (fun b s₂ h₂ => ?_) fun _ _ q => q
  cases b with
  | true =>
    rw [if_pos rfl] at h₂ ⊢
    refine wpX_any (wpAny_mono h₂ (fun f s₃ q => ?_) fun _ _ q => q)
    obtain ⟨rfl, q⟩ := q
    have z' : ZeroTo ds (a + 1) := by obtain ⟨_, _, _, _, _, _, z'⟩ := q; exact z'
    obtain ⟨z0, _, _⟩ := z
    obtain ⟨_, z2, _⟩ := z'
    exact ⟨_, by omega, _, q, rfl⟩
  | false =>
    rw [if_neg Bool.false_ne_true] at h₂ ⊢
    obtain ⟨rfl, h', tk', ta', rfl, F', N', _⟩ := h₂
    exact done ta' h' tk' F' N'
end
end Mine
end
section
open PySem PySem.W PySem.Calls PyProof.Rows
namespace Mine
theorem fr_twice {g h : Heap} {L : Addr} {x : Str} {a b : Option Value} {M : Str → Option Value} (F : Fr g L h (fun y => if y = x then a else if y = x then b else M y)) : Fr g L h (fun y => if y = x then a else M y) := by
  have e : (fun y => if y = x then a else if y = x then b else M y) = fun y => if y = x then a else M y := by
    funext y
    by_cases h1 : y = x
    · simp only [if_pos h1]
    · simp only [if_neg h1]
  rw [← e]; exact F
end Mine
end
section
open PySem PySem.W PySem.Calls PyProof.Rows
set_option maxRecDepth 100000
namespace Mine
def KeepsF (gh h : Heap) : Prop := ∀ b o, gh.get? b = some o → h.get? b = some o
section
variable {M : Model} {A : Around} {E : Value → Shared → Prop} {s : Shared} {env : Env} {gh : Heap}
theorem wpX_callWith_K {K : Frag} {pos : Pos} {f : Addr} {oc : Value} {od : Option Addr} {osl : Array (Option Value)} {fd : FuncData} {e : Expr} {rest : List Expr} {Q : Value → Shared → Prop} (X : K.In gh) (ho : K.lookup f = some ⟨oc, od, .func fd, osl⟩)
    (h : wpAny M A (spliced (backTo pos (starEach (e :: rest) env))) (fun vs s₁ => KeepsF gh s₁.heap ∧ wpX M A (call (.ref f) vs) Q E s₁) E s)
    (he : starEach (e :: rest) env = (false, eval e env) :: starEach rest env := by rfl) (hplain : (backTo pos (starEach rest env)).any (·.1) = false := by rfl) (hlen : (backTo pos (starEach (e :: rest) env)).length ≤ 30 := by decide) :
    wpX M A (callWith pos (.ref f) [] (backTo pos (starEach (e :: rest) env)) []) Q E s := by
  rw [he] at h hlen ⊢
  exact wpX_callWith_function (o := ⟨oc, od, .func fd, osl⟩) (fd := fd) (by show (false || (backTo pos (starEach rest env)).any (·.1)) = false; rw [hplain]; rfl) hlen
    (evalArgs_plain (wpAny_mono h (fun vs s₁ h₁ => ⟨⟨h₁.1 _ _ (X _ _ ho), rfl⟩, h₁.2⟩) fun _ _ x => x))
theorem trimE {h₀ h : Heap} {L : Addr} {p q : Addr × Obj} {r : List (Addr × Obj)} (N : News h₀ L h (p :: q :: r)) : News h₀ L h r := news_tail (news_tail N)
end
end Mine
end
section
open PySem PySem.W PySem.Calls PyProof.Rows
set_option maxRecDepth 100000
namespace Mine
theorem pow_le_left {b c : Int} (h0 : 0 ≤ b) (h : b ≤ c) : ∀ n : Nat, b ^ n ≤ c ^ n
  | 0 => by simp
  | n + 1 => by
    rw [Int.pow_succ, Int.pow_succ]
    have ih := pow_le_left h0 h n
    have hp : 0 ≤ b ^ n := Int.pow_nonneg h0
    exact Int.le_trans (Int.mul_le_mul_of_nonneg_right ih h0) (Int.mul_le_mul_of_nonneg_left h (Int.le_trans hp ih))
theorem val_small {b : Int} {ds : List Int} (hb : 2 ≤ b) (hb1 : b ≤ 200) (hd : ∀ d ∈ ds, 0 ≤ d ∧ d < b) (hl : ds.length ≤ 32) : 0 ≤ val b ds ∧ val b ds < 2 ^ 300 := by
  refine ⟨val_nonneg (by omega) fun d h => (hd d h).1, ?_⟩
  have h1 := val_lt (by omega) hd
  have h2 := pow_le_left (by omega) hb1 ds.length
  have h3 := pow_mono (b := 200) (by omega) ds.length (32 - ds.length)
  rw [Nat.add_sub_cancel' hl] at h3
  have h4 : (200 : Int) ^ 32 < 2 ^ 300 := by decide +kernel
  omega
abbrev ahead (ds : List Int) : Nat := (ds.takeWhile (fun d => d == 0)).length
theorem ahead_le (ds : List Int) : ahead ds ≤ ds.length := (List.takeWhile_prefix _).length_le
/-- what from_long's row says of its number -/
theorem told_row {b V : Int} {p : Nat} {top : List Int} (hb : 2 ≤ b) (hv : val b top = V) (hl : lead top = 0) (hd : ∀ d ∈ top, 0 ≤ d ∧ d < b) (hp : p ≤ 32) (hlen : top.length ≤ 300) :
    val b (List.replicate p 0 ++ top) = V ∧ lead (List.replicate p 0 ++ top) = p ∧ (∀ d ∈ List.replicate p 0 ++ top, 0 ≤ d ∧ d < b) ∧ (List.replicate p 0 ++ top).length ≤ 400 := by
  refine ⟨by rw [val_replicate, hv], lead_replicate p hl, fun d h => ?_, by simp; omega⟩
  rcases List.mem_append.mp h with h | h
  · rw [List.eq_of_mem_replicate h]; omega
  · exact hd d h
end Mine
end
section
open PySem PySem.W PySem.Calls PyProof.Rows
set_option maxRecDepth 100000
set_option maxHeartbeats 8000000
namespace Mine
section
variable {M : Model} {A : Around} {E : Value → Shared → Prop} {s' : Shared} {base g h : Heap} {outer : List Env} {env : Env} {L e : Addr} {m : Str → Option Value} {Q : Unit → Shared → Prop} {news : List (Addr × Obj)}
/-- a fresh exception leaves a frame of any kind -/
theorem leave_newX {cls : String} (K : Below A base outer g) (hx : Heap.NewExc h s'.heap e cls) (F : Fr g L h m) (N : News g L h news) (hf : env.frame = some L) (hk : env.scope.kind = .function)
    (hQ : ∀ h', RaisedSN base g outer e (.type cls) news h' → g.UpToSlots h' → Q () { s' with heap := h' }) : wpAny M (A.deeper env) (leaving env (.ref e)) Q E s' := by
  have B := pushX K F hf hk
  generalize hfs : (env :: outer).filterMap (·.frame) = fs
  have inFs : ∀ x ∈ env :: outer, ∀ b, x.frame = some b → b ∈ fs := fun x hx b hb => hfs ▸ List.mem_filterMap.mpr ⟨x, hx, hb⟩
  have noBase : ∀ b ∈ fs, base.get? b = none := fun b hb => (B.frames.mem (hfs.symm ▸ hb)).1
  have stays : base.StaysIn (hideAll h fs) := fun b o q => hideAll_get _ (B.stays b o q) fun hm => by
    have := noBase b hm
    rw [q] at this; cases this
  have same : ∀ b o, g.get? b = some o → b ∉ outer.filterMap (·.frame) → (hideAll h fs).get? b = some o := fun b o q nm => hideAll_get _ (F.keep b o q) fun hm => by
    rw [← hfs] at hm
    obtain ⟨x, hx, hfx⟩ := List.mem_filterMap.mp hm
    rcases List.mem_cons.mp hx with rfl | hx
    · have hbL : b = L := Option.some.inj (hfx.symm.trans hf)
      rw [hbL, kts_self F] at q; cases q
    · exact nm (List.mem_filterMap.mpr ⟨x, hx, hfx⟩)
  have led : ∀ q ∈ news, (hideAll h fs).get? q.1 = some q.2 ∧ g.get? q.1 = none ∧ base.get? q.1 = none := fun q hq => by
    obtain ⟨n1, n2, n3⟩ := N q hq
    refine ⟨hideAll_get _ n1 fun hm => ?_, n3, fresh_of_stays K.stays n3⟩
    rw [← hfs] at hm
    obtain ⟨x, hx, hfx⟩ := List.mem_filterMap.mp hm
    rcases List.mem_cons.mp hx with rfl | hx
    · exact n2 (Option.some.inj (hfx.symm.trans hf))
    · obtain ⟨o, ho, _⟩ := (K.frames.mem (List.mem_filterMap.mpr ⟨x, hx, hfx⟩)).2
      rw [n3] at ho; cases ho
  obtain ⟨ob, tp, he, hcls, hd⟩ := hx.there
  have hen : (hideAll h fs).get? e = none := by
    cases q : (hideAll h fs).get? e with
    | none => rfl
    | some o =>
      have := of_hideAll _ q
      rw [hx.new] at this; cases this
  refine wpAny_leaving_firstW (a0 := tp) B.stack ((funFrames_hide B.frames inFs).of_keeps fun b o hb _ => ⟨o, hx.keeps b o hb, rfl⟩) hf he (fun b o hb => hx.keeps b o (of_hideAll _ hb)) hen hd rfl rfl fun h' hL => ?_
  obtain ⟨k1, ⟨_, _, k2⟩, k3, k4⟩ := hL
  refine hQ h' ⟨_, tp, stays, same, led, k1, hen, k2, by rw [← hcls]; exact k3⟩ ?_
  exact ((Heap.UpToSlots.of_keeps F.keep).trans (Heap.UpToSlots.of_keeps hx.keeps)).trans k4
end
abbrev itemBody (x y : Str) (p1 p2 p3 : Pos) : Expr := .Subscript (.Name y p1) (.Name x p2) p3
abbrev lamItem (qual : Str) (p0 p1 p2 p3 : Pos) (cs : Addr) (pm ctv : Value) (c' : Addr) : Obj :=
  kla_obj (Str.ofString "<lambda>") qual (lamParams (Str.ofString "octet") p0) (itemBody (Str.ofString "octet") (Str.ofString "signs") p1 p2 p3) (lamScope (Str.ofString "octet") (Str.ofString "signs")) [(Str.ofString "signs", cs)] pm c' ctv
/-- lambda octet: signs[octet], called -/
theorem lam_item {prog : Program} {w : World} {A A₀ : Around} {s : Shared} {L : Addr} {h₀ base : Heap} {m mg mb : Str → Option Value} {news : List (Addr × Obj)} {loose : List Str} {p : Program} {mean : ExcName → Option Value}
    {env : Env} {outer : List Env} {qual : Str} {p0 p1 p2 p3 : Pos} {pm ctv : Value} {c' f cs dl : Addr} {K : Frag} {d : Int} {td : Tok} {vs : List Value} {ns : List Int} {n : Nat} {Q : Value → Shared → Prop} {E : Value → Shared → Prop}
    (B : Below A₀ base outer h₀) (F : Fr h₀ L s.heap m) (X₀ : K.In h₀) (N : News h₀ L s.heap news) (T : Top p loose mean mg mb h₀) (hA : A.frames = some (env :: outer)) (hf : env.frame = some L) (hke : env.scope.kind = .function)
    (ho : (f, lamItem qual p0 p1 p2 p3 cs pm ctv c') ∈ news) (hcd : s.heap.CodeRec (.ref c') qual) (hcs : ∃ oc, (cs, oc) ∈ news ∧ oc.data = .cell (some (.ref dl))) (hl : (dl, W.listOf vs.toArray n) ∈ news) (hi : IntsAre vs ns)
    (hroom : A.depth < recursionLimit) (hd0 : 0 ≤ d) (hd1 : d < 256) (hn : A.handled = none)
    (h1 : d < ns.length → ∀ h' tk t, Fr h₀ L h' m → News h₀ L h' news → Q (.int (ns.getD d.toNat 0) t) { s with heap := h', toks := tk })
    (h0 : (ns.length : Int) ≤ d → ∀ g' h' tk e, Fr h₀ L g' m → RaisedSN base g' (env :: outer) e (.type "IndexError") news h' → g'.UpToSlots h' → E (.ref e) { s with heap := h', toks := tk }) :
    wpAny (model prog w) A (call (.ref f) [.int d td] []) Q E s := by
  obtain ⟨oc, hm, hd⟩ := hcs
  refine wpAny_call (kla_code B F X₀ N T hA hf hke ho hcd hroom rfl (locs rfl) ?_ rfl rfl rfl (by decide))
  intro g L' h2 FG F1 N1 B1 X1 T1
  refine Subscript_ (nameX_F N1 (by rfl) hm hd (nameX_L F1 (by rfl) ?_))
  by_cases hin : d < ns.length
  · refine item_list_ints (News.isList N1 hl) hi hd0 hin (by omega) fun t => ?_
    exact leaveK_ F1 N1 fun F2 N2 => h1 hin _ _ _ F2 N2
  · have hlen : vs.length = ns.length := hi.length
    refine item_outK hn (News.isList N1 hl) (by right; simp only [List.size_toArray]; omega) (by omega) (by omega) fun h' tk e hx => ?_
    refine leave_newX (A := A) B1 hx F1 N1 rfl rfl fun h3 R U => ?_
    exact h0 (by omega) g h3 tk e FG R U
end Mine
end
section
open PySem
set_option maxHeartbeats 4000000
namespace Mine
theorem runs_det {M : Model} {Γ : Ctx} {p : Pos} {t : Sem Fin} {fs : List Frame} {s s' : Shared} {e : End} (h : Runs M Γ p t fs s e s') : ∀ e2 s2, Runs M Γ p t fs s e2 s2 → e = e2 ∧ s' = s2 := by
  induction h <;> intro e2 s2 h2
  case done => cases h2; exact ⟨rfl, rfl⟩
  case raise => cases h2; exact ⟨rfl, rfl⟩
  case again ih => cases h2; exact ih _ _ ‹_›
  case rule ih => cases h2; exact ih _ _ ‹_›
  case «at» ih => cases h2; exact ih _ _ ‹_›
  case load ho _ ih => cases h2 with | load ho2 r => rw [ho] at ho2; cases ho2; exact ih _ _ r
  case update ih => cases h2; exact ih _ _ ‹_›
  case loadIfAlive ih => cases h2; exact ih _ _ ‹_›
  case point ih => cases h2; exact ih _ _ ‹_›
  case alloc ih => cases h2; exact ih _ _ ‹_›
  case fresh ih => cases h2; exact ih _ _ ‹_›
  case ask ih => cases h2; exact ih _ _ ‹_›
  case choose ih => cases h2; exact ih _ _ ‹_›
  case os ih => cases h2; exact ih _ _ ‹_›
  case handled ih => cases h2; exact ih _ _ ‹_›
  case genState ho _ ih => cases h2 with | genState ho2 r => rw [ho] at ho2; cases ho2; exact ih _ _ r
  case stack ih => cases h2; exact ih _ _ ‹_›
  case thread ih => cases h2; exact ih _ _ ‹_›
  case newGen ih => cases h2; exact ih _ _ ‹_›
  case call ih1 ih2 =>
    cases h2 with
    | call r1 r2 => obtain ⟨q1, rfl⟩ := ih1 _ _ r1; cases q1; exact ih2 _ _ r2
    | callSusp r1 => obtain ⟨q1, _⟩ := ih1 _ _ r1; cases q1
  case callSusp ih1 =>
    cases h2 with
    | call r1 r2 => obtain ⟨q1, _⟩ := ih1 _ _ r1; cases q1
    | callSusp r1 => obtain ⟨q1, rfl⟩ := ih1 _ _ r1; cases q1; exact ⟨rfl, rfl⟩
  case yield => cases h2; exact ⟨rfl, rfl⟩
  case resumeFresh ho _ _ _ ih1 ih2 =>
    cases h2 with
    | resumeFresh ho2 r1 q r2 => rw [ho] at ho2; cases ho2; obtain ⟨rfl, rfl⟩ := ih1 _ _ r1; exact ih2 _ _ r2
    | resumeSuspended ho2 => rw [ho] at ho2; cases ho2
    | resumeJustStarted ho2 hv => exact absurd rfl hv
    | resumeRunning ho2 => rw [ho] at ho2; cases ho2
    | resumeFinished ho2 => rw [ho] at ho2; cases ho2
  case resumeSuspended ho _ _ _ ih1 ih2 =>
    cases h2 with
    | resumeFresh ho2 => rw [ho] at ho2; cases ho2
    | resumeSuspended ho2 r1 q r2 => rw [ho] at ho2; cases ho2; obtain ⟨rfl, rfl⟩ := ih1 _ _ r1; exact ih2 _ _ r2
    | resumeJustStarted ho2 => rw [ho] at ho2; cases ho2
    | resumeThrowFresh ho2 => rw [ho] at ho2; cases ho2
    | resumeRunning ho2 => rw [ho] at ho2; cases ho2
    | resumeFinished ho2 => rw [ho] at ho2; cases ho2
  case resumeJustStarted ho hv _ ih =>
    cases h2 with
    | resumeFresh ho2 => exact absurd rfl hv
    | resumeSuspended ho2 => rw [ho] at ho2; cases ho2
    | resumeJustStarted ho2 hv r => exact ih _ _ r
    | resumeRunning ho2 => rw [ho] at ho2; cases ho2
    | resumeFinished ho2 => rw [ho] at ho2; cases ho2
  case resumeThrowFresh ho _ ih =>
    cases h2 with
    | resumeSuspended ho2 => rw [ho] at ho2; cases ho2
    | resumeThrowFresh ho2 r => exact ih _ _ r
    | resumeRunning ho2 => rw [ho] at ho2; cases ho2
    | resumeFinished ho2 => rw [ho] at ho2; cases ho2
  case resumeRunning ho _ ih =>
    cases h2 with
    | resumeFresh ho2 => rw [ho] at ho2; cases ho2
    | resumeSuspended ho2 => rw [ho] at ho2; cases ho2
    | resumeJustStarted ho2 => rw [ho] at ho2; cases ho2
    | resumeThrowFresh ho2 => rw [ho] at ho2; cases ho2
    | resumeRunning ho2 r => exact ih _ _ r
    | resumeFinished ho2 => rw [ho] at ho2; cases ho2
  case resumeFinished ho _ ih =>
    cases h2 with
    | resumeFresh ho2 => rw [ho] at ho2; cases ho2
    | resumeSuspended ho2 => rw [ho] at ho2; cases ho2
    | resumeJustStarted ho2 => rw [ho] at ho2; cases ho2
    | resumeThrowFresh ho2 => rw [ho] at ho2; cases ho2
    | resumeRunning ho2 => rw [ho] at ho2; cases ho2
    | resumeFinished ho2 r => exact ih _ _ r
  case segRet ih1 ih2 =>
    cases h2 with
    | segRet r1 r2 => obtain ⟨q1, rfl⟩ := ih1 _ _ r1; cases q1; exact ih2 _ _ r2
    | segSuspOut _ r1 => obtain ⟨q1, _⟩ := ih1 _ _ r1; cases q1
    | segSuspGen _ r1 => obtain ⟨q1, _⟩ := ih1 _ _ r1; cases q1
  case segGen ih1 ih2 =>
    cases h2 with
    | segGen r1 r2 => obtain ⟨q1, rfl⟩ := ih1 _ _ r1; cases q1; exact ih2 _ _ r2
    | segSuspOut _ r1 => obtain ⟨q1, _⟩ := ih1 _ _ r1; cases q1
    | segSuspGen _ r1 => obtain ⟨q1, _⟩ := ih1 _ _ r1; cases q1
  case segSuspOut hs _ ih1 =>
    cases h2 with
    | segRet r1 r2 => obtain ⟨q1, _⟩ := ih1 _ _ r1; cases q1
    | segGen r1 r2 => obtain ⟨q1, _⟩ := ih1 _ _ r1; cases q1
    | segSuspOut _ r1 => obtain ⟨q1, rfl⟩ := ih1 _ _ r1; cases q1; exact ⟨rfl, rfl⟩
    | segSuspGen hs2 r1 => rw [hs] at hs2; cases hs2
  case segSuspGen hs _ _ _ ih1 ih2 =>
    cases h2 with
    | segRet r1 r2 => obtain ⟨q1, _⟩ := ih1 _ _ r1; cases q1
    | segGen r1 r2 => obtain ⟨q1, _⟩ := ih1 _ _ r1; cases q1
    | segSuspOut hs2 r1 => rw [hs] at hs2; cases hs2
    | segSuspGen hs2 r1 q r2 => rw [hs] at hs2; cases hs2; obtain ⟨q1, rfl⟩ := ih1 _ _ r1; cases q1; exact ih2 _ _ r2
end Mine
end
section
open PySem
open PySem.Sem (wp)
set_option maxHeartbeats 4000000
namespace Mine
theorem wakes_det {M : Model} {Γ : Ctx} {p : Pos} {g : Nat} {r : Resume} {s s1 s2 : Shared} {r1 r2 : GenResult} (h1 : Wakes M Γ p g r s r1 s1) (h2 : Wakes M Γ p g r s r2 s2) : r1 = r2 ∧ s1 = s2 := by
  unfold Wakes at h1 h2
  cases hg : s.gens[g]? with
  | none => rw [hg] at h1; exact h1.elim
  | some x =>
    rw [hg] at h1 h2
    cases x with
    | fresh c =>
      cases r with
      | send v =>
        cases v <;> first
          | (obtain ⟨e1, t1, a1, _, rfl, rfl⟩ := h1; obtain ⟨e2, t2, a2, _, rfl, rfl⟩ := h2; obtain ⟨rfl, rfl⟩ := runs_det a1 _ _ a2; exact ⟨rfl, rfl⟩)
          | exact ⟨h1.1.trans h2.1.symm, h1.2.trans h2.2.symm⟩
      | throw x => exact ⟨h1.1.trans h2.1.symm, h1.2.trans h2.2.symm⟩
    | suspended k l c p fs cl => obtain ⟨e1, t1, a1, _, rfl, rfl⟩ := h1; obtain ⟨e2, t2, a2, _, rfl, rfl⟩ := h2; obtain ⟨rfl, rfl⟩ := runs_det a1 _ _ a2; exact ⟨rfl, rfl⟩
    | running => exact ⟨h1.1.trans h2.1.symm, h1.2.trans h2.2.symm⟩
    | finished => exact ⟨h1.1.trans h2.1.symm, h1.2.trans h2.2.symm⟩
/-- two promises of one tree hold together -/
theorem wp_conj {α : Type} (M : Model) (Γ : Ctx) (t : Sem α) : ∀ (Q1 Q2 : α → Pos → Shared → Prop) (E1 E2 : Value → Pos → Shared → Prop) (p : Pos) (s : Shared), wp M Γ t Q1 E1 p s → wp M Γ t Q2 E2 p s →
    wp M Γ t (fun a p' s' => Q1 a p' s' ∧ Q2 a p' s') (fun e p' s' => E1 e p' s' ∧ E2 e p' s') p s := by
  induction t with
  | pure a => intro Q1 Q2 E1 E2 p s h1 h2; exact ⟨h1, h2⟩
  | raise e => intro Q1 Q2 E1 E2 p s h1 h2; exact ⟨h1, h2⟩
  | unsupported _ => intro Q1 Q2 E1 E2 p s h1 h2; exact h1
  | finish _ => intro Q1 Q2 E1 E2 p s h1 h2; exact h1
  | rule _ k ih => intro Q1 Q2 E1 E2 p s h1 h2; exact ih () _ _ _ _ _ _ h1 h2
  | «at» p' k ih => intro Q1 Q2 E1 E2 p s h1 h2; exact ih () _ _ _ _ _ _ h1 h2
  | load a pr k ih =>
    intro Q1 Q2 E1 E2 p s h1 h2
    obtain ⟨o, ho, h1⟩ := h1
    obtain ⟨o2, ho2, h2⟩ := h2
    rw [ho] at ho2; cases ho2
    exact ⟨o, ho, ih o _ _ _ _ _ _ h1 h2⟩
  | update a pr f k ih => intro Q1 Q2 E1 E2 p s h1 h2; exact ⟨h1.1, ih () _ _ _ _ _ _ h1.2 h2.2⟩
  | loadIfAlive a k ih => intro Q1 Q2 E1 E2 p s h1 h2; exact ih _ _ _ _ _ _ _ h1 h2
  | point l k ih => intro Q1 Q2 E1 E2 p s h1 h2; exact ih () _ _ _ _ _ _ h1 h2
  | register _ _ => intro Q1 Q2 E1 E2 p s h1 h2; exact h1
  | alloc o k ih => intro Q1 Q2 E1 E2 p s h1 h2; exact ih _ _ _ _ _ _ _ h1 h2
  | fresh k ih => intro Q1 Q2 E1 E2 p s h1 h2; exact ih _ _ _ _ _ _ _ h1 h2
  | ask k ih => intro Q1 Q2 E1 E2 p s h1 h2; exact ih _ _ _ _ _ _ _ h1 h2
  | choose src n k ih => intro Q1 Q2 E1 E2 p s h1 h2; exact ⟨h1.1, ih _ _ _ _ _ _ _ h1.2 h2.2⟩
  | os q l k ih => intro Q1 Q2 E1 E2 p s h1 h2; exact ih _ _ _ _ _ _ _ h1 h2
  | call c h g l k ih =>
    intro Q1 Q2 E1 E2 p s h1 h2
    obtain ⟨r, s', a1, h1⟩ := h1
    obtain ⟨r2, s2, a2, h2⟩ := h2
    obtain ⟨q, rfl⟩ := runs_det a1 _ _ a2
    cases q
    exact ⟨r, s', a1, ih r _ _ _ _ _ _ h1 h2⟩
  | handled own k ih => intro Q1 Q2 E1 E2 p s h1 h2; exact ih _ _ _ _ _ _ _ h1 h2
  | genState g k ih =>
    intro Q1 Q2 E1 E2 p s h1 h2
    obtain ⟨o, ho, h1⟩ := h1
    obtain ⟨o2, ho2, h2⟩ := h2
    rw [ho] at ho2; cases ho2
    exact ⟨o, ho, ih _ _ _ _ _ _ _ h1 h2⟩
  | newGen c k ih => intro Q1 Q2 E1 E2 p s h1 h2; exact ih _ _ _ _ _ _ _ h1 h2
  | resume g r l k ih =>
    intro Q1 Q2 E1 E2 p s h1 h2
    obtain ⟨r1, s1, a1, h1⟩ := h1
    obtain ⟨r2, s2, a2, h2⟩ := h2
    obtain ⟨rfl, rfl⟩ := wakes_det a1 a2
    exact ⟨r1, s1, a1, ih _ _ _ _ _ _ _ h1 h2⟩
  | yield v g l k _ => intro Q1 Q2 E1 E2 p s h1 h2; exact h1
  | stack k ih => intro Q1 Q2 E1 E2 p s h1 h2; exact ih _ _ _ _ _ _ _ h1 h2
  | fork => intro Q1 Q2 E1 E2 p s h1 h2; exact h1
  | thread k ih => intro Q1 Q2 E1 E2 p s h1 h2; exact ih _ _ _ _ _ _ _ h1 h2
  | await => intro Q1 Q2 E1 E2 p s h1 h2; exact h1
theorem wpAny_conj {α : Type} {M : Model} {A : Around} {t : Sem α} {Q1 Q2 : α → Shared → Prop} {E1 E2 : Value → Shared → Prop} {s : Shared} (h1 : wpAny M A t Q1 E1 s) (h2 : wpAny M A t Q2 E2 s) :
    wpAny M A t (fun a s' => Q1 a s' ∧ Q2 a s') (fun e s' => E1 e s' ∧ E2 e s') s := fun Γ p hΓ => wp_conj M Γ t _ _ _ _ p s (h1 Γ p hΓ) (h2 Γ p hΓ)
end Mine
end
section
open PySem PySem.W PySem.Calls PyProof.Rows
open PySem.Sem (wp)
set_option maxRecDepth 100000
set_option maxHeartbeats 4000000
namespace Mine
/-- an exception without a context -/
def E2x (cx : Value) (h : Heap) (e : Addr) : Prop := ∃ o vs, h.get? e = some o ∧ o.data = .fields vs ∧ vs[2]? = some cx
abbrev E2 (h : Heap) (e : Addr) : Prop := E2x .none h e
section
variable {M : Model} {A : Around} {E : Value → Shared → Prop} {s : Shared} {base : Heap} {env : Env} {outer : List Env} {L e : Addr} {cls a0 fl cx : Value}
theorem e2_setFlight (ht : s.heap.TracedAtW base e cls a0 fl) (h2 : E2x cx s.heap e) : wpAny M A (setFlight (.ref e) none) (fun _ s' => E2x cx s'.heap e) E s := by
  obtain ⟨oe, vs, T, oT, ts, he, hcls, hd, h1, hnT, hTe, hT, hdT, h3⟩ := ht
  obtain ⟨o, ws, ho, hw, hz⟩ := h2
  rw [he] at ho; cases ho
  rw [hd] at hw; cases hw
  unfold setFlight
  refine wpAny_bind (wpAny_field he hd h1 ?_)
  rw [if_pos (show (Value.ref T != Value.none) = true from by simp)]
  refine wpAny_setField hT hdT (Array.getElem?_eq_some_iff.mp h3).1 ?_
  exact ⟨oe, vs, (Heap.get?_update_other _ _ hTe).trans he, hd, hz⟩
theorem e2_entry {oe : Obj} {vs : Array Value} {head : Value} {hadNext : Bool} (hfr : A.frames = some (env :: outer)) (hl : s.heap.FunFrames base (env :: outer)) (hf : env.frame = some L)
    (he : s.heap.get? e = some oe) (hd : oe.data = .fields vs) (hsz : 1 < vs.size) (hz : vs[2]? = some cx) :
    wpAny M A (do let a ← frameOf env; let pl ← entryPlaceOf L hadNext; let b ← EntryCells.newEntry head a .none (rawInt L) .none pl; setField (.ref e) 1 b) (fun _ s' => E2x cx s'.heap e) E s := by
  have hene : e ∉ (env :: outer).filterMap (·.frame) := fun hm => by
    obtain ⟨_, o, ho, hnf⟩ := hl.mem hm
    rw [he] at ho; cases ho
    exact hnf vs hd
  refine wpAny_bind (wpAny_frameOf_fun hfr hl hf fun h₁ hs₁ => ?_)
  refine wpAny_bind (wpAny_entryPlaceOf fun pl hpl => ?_)
  unfold EntryCells.newEntry newFields
  refine wpAny_bind (wpAny_newObj_type ?_ (hpl.sizeOk5 _ _ _ _ _))
  have he₁ : h₁.get? e = some oe := (hs₁.2.1 e hene).trans he
  refine wpAny_setField (Heap.get?_push_of_some _ he₁) hd hsz ?_
  have hd₃ := Obj.data_mapFields hd (·.setIfInBounds 1 (Value.ref h₁.objs.size))
  exact ⟨_, _, Heap.get?_update_self _ (Heap.get?_push_of_some _ he₁) (Obj.isFreed_of_fields hd₃), hd₃, by rw [Array.getElem?_setIfInBounds_ne (by decide)]; exact hz⟩
theorem e2_noteFrame_on (hfr : A.frames = some (env :: outer)) (hl : s.heap.FunFrames base (env :: outer)) (hf : env.frame = some L) (ht : s.heap.TracedW base e cls a0) (h2 : E2x cx s.heap e) :
    wpAny M A (noteFrame (.ref e) env) (fun _ s' => E2x cx s'.heap e) E s := by
  obtain ⟨oe, vs, T, oT, ts, he, hcls, hd, h1, hnT, hTe, hT, hdT, h3⟩ := ht
  obtain ⟨o, ws, ho, hw, hz⟩ := h2
  rw [he] at ho; cases ho
  rw [hd] at hw; cases hw
  unfold noteFrame
  simp only [hf]
  refine wpAny_bind (wpAny_field he hd h1 ?_)
  rw [if_pos (show (Value.ref T != Value.none) = true from by simp)]
  refine wpAny_bind (wpAny_field hT hdT h3 ?_)
  rw [if_neg (show ¬ ((Value.none == rawInt L) = true) from by simp [rawInt])]
  refine wpAny_bind (wpAny_setField hT hdT (Array.getElem?_eq_some_iff.mp h3).1 ?_)
  have other : ∀ b, b ≠ T → (s.heap.update T (Obj.mapFields (·.setIfInBounds 3 Value.none))).get? b = s.heap.get? b := fun b hb => Heap.get?_update_other _ _ (Ne.symm hb)
  refine e2_entry hfr (hl.of_keeps fun b o hb hnf => ⟨o, (other b fun q => ?_).trans hb, rfl⟩) hf ((other e (Ne.symm hTe)).trans he) hd (Array.getElem?_eq_some_iff.mp h1).1 hz
  rw [q, hT] at hb; cases hb
  exact hnf ts hdT
end
end Mine
end
section
open PySem PySem.W PySem.Calls PyProof.Rows
open PySem.Sem (wp)
set_option maxRecDepth 100000
set_option maxHeartbeats 4000000
namespace Mine
section
variable {M : Model} {A : Around} {E : Value → Shared → Prop} {s s' : Shared} {base g h : Heap} {env : Env} {outer : List Env} {L e : Addr} {m : Str → Option Value} {Q : Unit → Shared → Prop} {news : List (Addr × Obj)}
theorem e2_leaving_first {oe : Obj} {vs : Array Value} {a0 cx : Value} (hfr : A.frames = some (env :: outer)) (hl : s.heap.FunFrames base (env :: outer)) (hf : env.frame = some L)
    (he : s.heap.get? e = some oe) (hkb : base.StaysIn s.heap) (hen : base.get? e = none) (hd : oe.data = .fields vs) (h1 : vs[1]? = some .none) (h0 : vs[0]? = some a0) (hz : vs[2]? = some cx) :
    wpAny M A (leaving env (.ref e)) (fun _ s' => E2x cx s'.heap e) E s := by
  have hsz := (Array.getElem?_eq_some_iff.mp h1).1
  unfold leaving noteFrame
  simp only [hf]
  refine wpAny_bind (wpAny_bind (wpAny_field he hd h1 ?_))
  rw [if_neg (by decide)]
  refine wpAny_mono (wpAny_conj (Q1 := fun _ s₂ => ∃ h₂, s₂ = { s with heap := h₂ } ∧ h₂.TracedAtW base e oe.cls a0 (rawInt L)) (E1 := fun _ _ => False) (E2 := fun _ _ => False)
    (wpAny_entryW hfr hl hf he hkb hen hd hsz h0 fun h' hN => ⟨h', rfl, hN.2.2.1⟩) (e2_entry hfr hl hf he hd hsz hz)) (fun _ s₂ q => ?_) fun _ _ q => q.1.elim
  obtain ⟨⟨h₂, rfl, ht⟩, h2⟩ := q
  exact e2_setFlight ht h2
theorem leave_newX2 {cls : String} (K : Below A base outer g) (hx : Heap.NewExc h s'.heap e cls) (F : Fr g L h m) (N : News g L h news) (hf : env.frame = some L) (hk : env.scope.kind = .function)
    (hQ : ∀ h', RaisedSN base g outer e (.type cls) news h' → E2 h' e → g.UpToSlots h' → Q () { s' with heap := h' }) : wpAny M (A.deeper env) (leaving env (.ref e)) Q E s' := by
  have B := pushX K F hf hk
  have fr := funFrames_hide (as := (env :: outer).filterMap (·.frame)) B.frames fun x hx b hb => List.mem_filterMap.mpr ⟨x, hx, hb⟩
  obtain ⟨ob, tp, he, hcls, hd⟩ := hx.there
  have hen : (hideAll h ((env :: outer).filterMap (·.frame))).get? e = none := by
    cases q : (hideAll h ((env :: outer).filterMap (·.frame))).get? e with
    | none => rfl
    | some o =>
      have := of_hideAll _ q
      rw [hx.new] at this; cases this
  refine wpAny_mono (wpAny_conj (Q1 := fun _ s₂ => ∃ h', s₂ = { s' with heap := h' } ∧ RaisedSN base g outer e (.type cls) news h' ∧ g.UpToSlots h') (E1 := fun _ _ => False) (E2 := fun _ _ => False)
    (leave_newX K hx F N hf hk fun h' R U => ⟨h', rfl, R, U⟩)
    (e2_leaving_first (a0 := tp) B.stack (fr.of_keeps fun b o hb _ => ⟨o, hx.keeps b o hb, rfl⟩) hf he (fun b o hb => hx.keeps b o (of_hideAll _ hb)) hen hd rfl rfl rfl)) (fun _ s₂ q => ?_) fun _ _ q => q.1.elim
  obtain ⟨⟨h', rfl, R, U⟩, h2⟩ := q
  exact hQ h' R h2 U
end
end Mine
end
section
open PySem PySem.W PySem.Calls PyProof.Rows
open PySem.Sem (wp)
set_option maxRecDepth 100000
set_option maxHeartbeats 4000000
namespace Mine
section
variable {M : Model} {A : Around} {E : Value → Shared → Prop} {s : Shared} {base : Heap} {env : Env} {outer : List Env} {L e : Addr} {cls a0 cx : Value} {Q : Unit → Shared → Prop}
theorem looks2 (hfr : A.frames = some (env :: outer)) (hf : env.frame = some L) (hfl : Heap.FlyingW base (env :: outer) e cls a0 s.heap) (h2 : E2x cx s.heap e)
    (hQ : ∀ h', Heap.HeldW base (env :: outer) e cls a0 L h' → E2x cx h' e → s.heap.UpToSlots h' → Q () { s with heap := h' }) : wpAny M A (noteFrame (.ref e) env) Q E s := by
  refine wpAny_mono (wpAny_conj (Q1 := fun _ s₂ => ∃ h', s₂ = { s with heap := h' } ∧ Heap.HeldW base (env :: outer) e cls a0 L h' ∧ s.heap.UpToSlots h') (E1 := fun _ _ => False) (E2 := fun _ _ => False)
    (wpAny_looks_onW hfr hf hfl fun h' a b => ⟨h', rfl, a, b⟩) (e2_noteFrame_on hfr hfl.2.2.1 hf hfl.2.2.2 h2)) (fun _ s₂ q => ?_) fun _ _ q => q.1.elim
  obtain ⟨⟨h', rfl, a, b⟩, c⟩ := q
  exact hQ h' a c b
theorem lands2 {l : List Env} (hh : Heap.HeldW base l e cls a0 L s.heap) (h2 : E2x cx s.heap e)
    (hQ : ∀ h', Heap.FlyingW base l e cls a0 h' → E2x cx h' e → s.heap.UpToSlots h' → Q () { s with heap := h' }) : wpAny M A (setFlight (.ref e) none) Q E s := by
  refine wpAny_mono (wpAny_conj (Q1 := fun _ s₂ => ∃ h', s₂ = { s with heap := h' } ∧ Heap.FlyingW base l e cls a0 h' ∧ s.heap.UpToSlots h') (E1 := fun _ _ => False) (E2 := fun _ _ => False)
    (wpAny_landsW hh fun h' a b => ⟨h', rfl, a, b⟩) (e2_setFlight hh.2.2.2 h2)) (fun _ s₂ q => ?_) fun _ _ q => q.1.elim
  obtain ⟨⟨h', rfl, a, b⟩, c⟩ := q
  exact hQ h' a c b
theorem again2 {l : List Env} (hh : Heap.FlyingW base l e cls a0 s.heap) (h2 : E2x cx s.heap e)
    (hQ : ∀ h', Heap.FlyingW base l e cls a0 h' → E2x cx h' e → s.heap.UpToSlots h' → Q () { s with heap := h' }) : wpAny M A (setFlight (.ref e) none) Q E s := by
  refine wpAny_mono (wpAny_conj (Q1 := fun _ s₂ => ∃ h', s₂ = { s with heap := h' } ∧ Heap.FlyingW base l e cls a0 h' ∧ s.heap.UpToSlots h') (E1 := fun _ _ => False) (E2 := fun _ _ => False)
    (lands_againW hh fun h' a b => ⟨h', rfl, a, b⟩) (e2_setFlight hh.2.2.2.at h2)) (fun _ s₂ q => ?_) fun _ _ q => q.1.elim
  obtain ⟨⟨h', rfl, a, b⟩, c⟩ := q
  exact hQ h' a c b
end
section
variable {prog : Program} {w : World} {A₀ : Around} {E : Value → Shared → Prop} {s' : Shared} {base g G : Heap} {outer : List Env} {L a e : Addr} {m : Str → Option Value} {name : Str} {scope : Scope} {cd cx : Value}
  {b₀ : Stmt} {suite : List Stmt} {pos np : Pos} {rest : List ExceptHandler} {Q : Flow → Shared → Prop} {news : List (Addr × Obj)} {KF : Frag} {p : Program} {loose : List Str} {mean : ExcName → Option Value} {mg mb : Str → Option Value} {x : Str} {X T' : String}
/-- caught by a clause, and still without a context -/
theorem caught_X0 (R : RaisedSN base G (envOf name scope L a cd :: outer) e (.type X) news s'.heap) (h2 : E2x cx s'.heap e) (F : Fr g L G m) (K : Below A₀ base outer g) (hsm : G.UpToSlots s'.heap) (XB : KF.In base) (TB : Top p loose mean mg mb base)
    (ex : nsIn KF mainGlobals x = some none) (hv : bootBuiltins x = some (.type T')) (hn' : x ≠ "__name__")
    (hexc : isSubtype (.type T') (.type "BaseException") = pure true) (hnt : isSubtype (.type ((Manifest.find? T').elim "type" fun y => y.metatype)) (.type "tuple") = pure false) (hsub : isSubtype (.type X) (.type T') = pure true)
    (k : ∀ h' g', KtsTurn (outer.filterMap (·.frame)) g g' → Fr g' L h' m → News g' L h' news → Below A₀ base outer g' → KF.In g' → Top p loose mean mg mb g' → E2x cx h' e →
      wpAny (model prog w) ((A₀.deeper (envOf name scope L a cd)).mark (some (.ref e))) (execs (b₀ :: suite) (envOf name scope L a cd)) Q E { s' with heap := h' })
    (hk : scope.kind = .function := by rfl) (hx : (envOf name scope L a cd).kindOf x = some .globalImplicit := by rfl) (hd : (x == ("__debug__" : Str)) = false := by decide)
    (hE : PassesOwnAt (model prog w) ((A₀.deeper (envOf name scope L a cd)).mark (some (.ref e))) (A₀.deeper (envOf name scope L a cd)) (envOf name scope L a cd) E := by passes_own) :
    wpAny (model prog w) (A₀.deeper (envOf name scope L a cd)) (noteFrame (.ref e) (envOf name scope L a cd))
      (fun _ s₂ => wpAny (model prog w) (A₀.deeper (envOf name scope L a cd)) (setFlight (.ref e) none) (fun _ s₃ =>
        wpAny (model prog w) (A₀.deeper (envOf name scope L a cd)) (handleBy (.ref e) (envOf name scope L a cd) (.ExceptHandler (some (.Name x np)) none (b₀ :: suite) pos :: rest)) Q E s₃) E s₂) E s' := by
  obtain ⟨B, a0, hB, hBG, hl, hfl⟩ := R
  have hL : B.get? L = none := by
    obtain ⟨_, ⟨L', _, hf, hn', _⟩, _⟩ := hfl.2.2.1
    obtain rfl : L = L' := Option.some.inj hf
    exact hn'
  refine looks2 (Around.frames_deeper K.stack) rfl hfl h2 fun h₄ held₄ h2₄ u₄ => ?_
  refine lands2 held₄ h2₄ fun h₅ fl₅ h2₅ u₅ => ?_
  have u₅' := hsm.trans (u₄.trans u₅)
  obtain ⟨g₅, T₅, F₅, K₅⟩ := kts_ground K F hBG fl₅.1 u₅'
  obtain ⟨ob, hob, hobc⟩ := fl₅.there
  refine wpAny_handleBy_builtin (X := X) (T := T') (b := true) hexc hnt hsub (name_B F₅ (XB.keeps K₅.stays) (topRead_of (TB.keeps K₅.stays)) ex hv hn' ⟨rfl, ⟨ob, hob, hobc⟩, ?_⟩ hk hx hd)
  refine again2 fl₅ h2₅ fun h₆ fl₆ h2₆ u₆ => ?_
  obtain ⟨g₆, T₆, F₆, K₆⟩ := kts_ground K F hBG fl₆.1 (u₅'.trans u₆)
  have Nl : News g₆ L h₆ news := fun q hq => ⟨fl₆.1 _ _ (hl q hq).1, (fun z => by have := (hl q hq).1; rw [z, hL] at this; cases this), T₆.none_ _ (kts_none F.keep (hl q hq).2.1)⟩
  exact wpAny_passesOwnAt hE (k h₆ g₆ T₆ F₆ Nl K₆ (XB.keeps K₆.stays) (TB.keeps K₆.stays) h2₆)
end
theorem raisedSN_off {base g h : Heap} {l : List Env} {e : Addr} {cls : Value} {news : List (Addr × Obj)} (R : RaisedSN base g l e cls news h) : g.get? e = none := by
  obtain ⟨B, a0, x1, x2, x3, x4, x5, x6, x7⟩ := R
  cases q : g.get? e with
  | none => rfl
  | some o =>
    by_cases m : e ∈ l.filterMap (·.frame)
    · obtain ⟨_, o', ho, hnf⟩ := x6.mem m
      obtain ⟨oe, vs, T, oT, ts, he, hcls, hd, _⟩ := x7
      rw [he] at ho; cases ho
      exact absurd hd (hnf vs)
    · rw [x2 e o q m] at x5; cases x5
theorem raisedSN_turn {base g g' h : Heap} {l : List Env} {e : Addr} {cls : Value} {news : List (Addr × Obj)} (T : KtsTurn (l.filterMap (·.frame)) g g') (R : RaisedSN base g' l e cls news h) : RaisedSN base g l e cls news h := by
  obtain ⟨B, a0, x1, x2, x3, x4⟩ := R
  refine ⟨B, a0, x1, fun b o e' m => x2 b o (T.other b o e' m) m, fun q hq => ⟨(x3 q hq).1, ?_, (x3 q hq).2.2⟩, x4⟩
  cases q' : g.get? q.1 with
  | none => rfl
  | some o =>
    obtain ⟨sl, hs⟩ := T.up q'
    rw [(x3 q hq).2.1] at hs; cases hs
theorem turn_upTo {fs : List Addr} {g g' : Heap} (T : KtsTurn fs g g') : g.UpToSlots g' := fun _ _ e _ => T.up e
end Mine
end
section
open PySem PySem.W PySem.Calls PyProof.Rows
open PySem.Sem (wp)
set_option maxRecDepth 100000
set_option maxHeartbeats 4000000
namespace Mine
theorem entry_unchain : entryFor table "proto.unchain" = some Builtin.«proto.unchain» := entryFor_of_tree (by kernel_rfl)
theorem plain_unchain : plainId "proto.unchain" = true := by decide +kernel
theorem E2x.inj {a b : Value} {h : Heap} {x : Addr} (p : E2x a h x) (q : E2x b h x) : a = b := by
  obtain ⟨o, vs, h1, h2, h3⟩ := p
  obtain ⟨o', vs', k1, k2, k3⟩ := q
  rw [h1] at k1; cases k1
  rw [h2] at k2; cases k2
  rw [h3] at k3; cases k3
  rfl
theorem E2x.keeps {a : Value} {h h' : Heap} {x : Addr} (p : E2x a h x) (k : ∀ b o, h.get? b = some o → h'.get? b = some o) : E2x a h' x := by
  obtain ⟨o, vs, h1, h2, h3⟩ := p
  exact ⟨o, vs, k _ _ h1, h2, h3⟩
theorem E2x.ne {a : Value} {h : Heap} {x e : Addr} (p : E2x a h x) (n : h.get? e = none) : x ≠ e := fun q => by
  obtain ⟨o, vs, h1, h2, h3⟩ := p
  rw [q, n] at h1; cases h1
/-- a chain of contexts, at most three long -/
def Chn (h : Heap) (x : Addr) : Prop := E2 h x ∨ (∃ y, E2x (.ref y) h x ∧ E2 h y) ∨ (∃ y z, E2x (.ref y) h x ∧ E2x (.ref z) h y ∧ E2 h z)
theorem Chn.keeps {h h' : Heap} {x : Addr} (p : Chn h x) (k : ∀ b o, h.get? b = some o → h'.get? b = some o) : Chn h' x := by
  rcases p with p | ⟨y, p, q⟩ | ⟨y, z, p, q, r⟩
  · exact .inl (E2x.keeps p k)
  · exact .inr (.inl ⟨y, p.keeps k, E2x.keeps q k⟩)
  · exact .inr (.inr ⟨y, z, p.keeps k, q.keeps k, E2x.keeps r k⟩)
theorem Chn.ne {h : Heap} {x e : Addr} (p : Chn h x) (n : h.get? e = none) : x ≠ e := by
  rcases p with p | ⟨y, p, q⟩ | ⟨y, z, p, q, r⟩
  · exact E2x.ne p n
  · exact p.ne n
  · exact p.ne n
theorem ref_ne {a b : Addr} (h : a ≠ b) : (Value.ref a == Value.ref b) = false := by
  rw [beq_eq_false_iff_ne]
  intro q
  injection q with q
  exact h q
section
variable {prog : Program} {w : World} {A : Around} {E : Value → Shared → Prop} {R : Result → Shared → Prop} {s : Shared}
theorem unchain_end {o : Addr} {v slow : Value} {tg : Bool} (h2 : E2 s.heap o) (h : R (.ok (.ret .none)) s) : codeAny (model prog w) A (.builtin "proto.unchain" ⟨[v, .ref o, slow, .bool tg], []⟩) R s := by
  obtain ⟨ob, ws, ho, hw, hz⟩ := h2
  refine codeAny_builtin entry_unchain ?_
  rw [Around.under_plainId plain_unchain _]
  unfold Builtin.«proto.unchain»
  dsimp only
  refine wpAny_bind (wpAny_field ho hw hz ?_)
  rw [if_pos (by rfl)]
  exact wpAny_pure h
theorem unchain_on {o c e sl sl' : Addr} {tg : Bool} (h2 : E2x (.ref c) s.heap o) (h1 : c ≠ e) (h3 : c ≠ sl) (hs : if tg then E2x (.ref sl') s.heap sl else sl' = sl)
    (h : codeAny (model prog w) A (.builtin "proto.unchain" ⟨[.ref e, .ref c, .ref sl', .bool !tg], []⟩) R s) : codeAny (model prog w) A (.builtin "proto.unchain" ⟨[.ref e, .ref o, .ref sl, .bool tg], []⟩) R s := by
  obtain ⟨ob, ws, ho, hw, hz⟩ := h2
  refine codeAny_builtin entry_unchain ?_
  rw [Around.under_plainId plain_unchain _]
  unfold Builtin.«proto.unchain»
  dsimp only
  refine wpAny_bind (wpAny_field ho hw hz ?_)
  rw [if_neg (show ¬ ((Value.ref c == Value.none) = true) from fun q => by have := eq_of_beq q; cases this)]
  rw [if_neg (show ¬ ((Value.ref c == Value.ref e) = true) from by rw [ref_ne h1]; exact Bool.false_ne_true)]
  rw [if_neg (show ¬ ((Value.ref c == Value.ref sl) = true) from by rw [ref_ne h3]; exact Bool.false_ne_true)]
  cases tg with
  | false =>
    have hs : sl' = sl := hs
    subst hs
    exact wpAny_bind (wpAny_pure (wpAny_pure ⟨Code.quiet_builtin _ (by decide +kernel), h⟩))
  | true =>
    obtain ⟨ob', ws', ho', hw', hz'⟩ : E2x (.ref sl') s.heap sl := hs
    exact wpAny_bind (wpAny_field ho' hw' hz' (wpAny_pure ⟨Code.quiet_builtin _ (by decide +kernel), h⟩))
theorem unchain_ok {x e : Addr} {hb : Heap} (C : Chn hb x) (hk : ∀ b o, hb.get? b = some o → s.heap.get? b = some o) (hn : hb.get? e = none) (h : R (.ok (.ret .none)) s) :
    codeAny (model prog w) A (.builtin "proto.unchain" ⟨[.ref e, .ref x, .ref x, .bool false], []⟩) R s := by
  rcases C with p | ⟨y, p, q⟩ | ⟨y, z, p, q, r⟩
  · exact unchain_end (E2x.keeps p hk) h
  · refine unchain_on (p.keeps hk) (E2x.ne q hn) (fun e' => ?_) (sl' := x) rfl ?_
    · subst e'; cases p.inj q
    · exact unchain_end (E2x.keeps q hk) h
  · have hxz : z ≠ x := fun e' => by subst e'; cases p.inj r
    have hxy : y ≠ x := fun e' => by
      subst e'
      have e1 := p.inj q
      injection e1 with e1
      exact hxz e1.symm
    refine unchain_on (p.keeps hk) (q.ne hn) hxy (sl' := x) rfl ?_
    refine unchain_on (q.keeps hk) (E2x.ne r hn) hxz (sl' := y) (p.keeps hk) ?_
    exact unchain_end (E2x.keeps r hk) h
theorem raiseNew_held {α : Type} {e h : Addr} {hb : Heap} {oe : Obj} {vs : Array Value} {Q : α → Shared → Prop} (hA : A.handled = some (.ref h)) (h2 : Chn hb h) (hk : ∀ b o, hb.get? b = some o → s.heap.get? b = some o) (hn : hb.get? e = none) (he : s.heap.get? e = some oe) (hd : oe.data = .fields vs) (hsz : 2 < vs.size)
    (hE : ∀ h', Heap.SameBut e s.heap h' → h'.get? e = some (oe.mapFields (·.setIfInBounds 2 (.ref h))) → E (.ref e) { s with heap := h' }) : wpAny (model prog w) A (raiseNew (.ref e) : Sem α) Q E s := by
  unfold raiseNew
  refine wpAny_bind (wpAny_handled ?_)
  rw [hA]
  dsimp only
  have hb' : ((Value.ref h) != (Value.ref e)) = true := by
    rw [bne_iff_ne]
    intro q
    injection q with q
    exact h2.ne hn q
  rw [if_pos hb']
  refine wpAny_bind (wpAny_holding (wpAny_runValue (unchain_ok h2 hk hn ?_)))
  have hd' := Obj.data_mapFields hd (·.setIfInBounds 2 (Value.ref h))
  refine wpAny_bind (m := setField (.ref e) 2 (.ref h)) (wpAny_setField he hd hsz ?_)
  exact wpAny_throw (hE _ (.update ..) (Heap.get?_update_self _ he (Obj.isFreed_of_fields hd')))
/-- an exception made under a handled one -/
structure NewExcH (h h' : Heap) (e : Addr) (cls : String) (hd : Addr) : Prop where
  keeps : ∀ b o, h.get? b = some o → h'.get? b = some o
  new : h.get? e = none
  there : ∃ ob t, h'.get? e = some ob ∧ ob.cls = .type cls ∧ ob.data = .fields #[t, .none, .ref hd, .none, .bool false, .none]
theorem raiseErrorWords_held {α : Type} {cls msg : String} {hd : Addr} {Q : α → Shared → Prop} (hp : PlainExc cls) (hh : A.handled = some (.ref hd)) (C : Chn s.heap hd)
    (h : ∀ h' tk e, NewExcH s.heap h' e cls hd → E (.ref e) { s with heap := h', toks := tk }) :
    wpAny (model prog w) A (raiseErrorWords cls msg : Sem α) Q E s := by
  unfold raiseErrorWords
  refine wpAny_bind (wpAny_mkText (wpAny_bind ?_))
  unfold newExc newTuple
  refine wpAny_bind (wpAny_newObj_type ?_)
  refine wpAny_bind (m := firstArgMember _ _) (wpAny_of_eq (a := Value.none) (by simp only [firstArgMember, hp.first]; rfl) ?_)
  rw [hp.own]
  refine wpAny_newObj_type ?_
  refine raiseNew_held hh C (fun b o hb => Heap.get?_push_of_some _ (Heap.get?_push_of_some _ hb)) (Heap.get?_none_of_le (by simp)) (Heap.get?_push_size _ rfl) rfl (show 2 < 6 by decide) fun h' hs ho => ?_
  refine h _ _ _ ⟨fun b o hb => (hs.2 b fun q => ?_).trans (Heap.get?_push_of_some _ (Heap.get?_push_of_some _ hb)), Heap.get?_none_of_le (by simp), _, .ref s.heap.objs.size, ho, rfl, rfl⟩
  have hn : s.heap.get? b = none := by
    rw [q]
    exact Heap.get?_none_of_le (by simp)
  rw [hn] at hb
  cases hb
/-- raise of an own class under a handled exception -/
theorem raiseStmt_held {env : Env} {nm q : Str} {C N h : Addr} {bs bm : List Value} {hdct : Bool} {sn : List Str} {sub : List Value} {ab : Bool} {col : Option Bool} {dd : Option Addr} {k0 k1 k2 k3 k5 : Option Value} {newId : String} {x : Sem Value} {Q : Flow → Shared → Prop}
    (hbase : bm.contains (.type "BaseException") = true) (hA : A.handled = some (.ref h))
    (hx : wpAny (model prog w) A x (fun v s₁ => ∃ e t, v = .ref e ∧ s₁.heap.get? C = some (excClassObj nm q C N bs bm hdct sn sub ab col dd k0 k1 k2 k3 k5 newId) ∧
      s₁.heap.get? e = some { cls := .ref C, data := .fields #[.ref t, .none, .none, .none, .bool false, .none] } ∧ (∃ hb, Chn hb h ∧ (∀ b o, hb.get? b = some o → s₁.heap.get? b = some o) ∧ hb.get? e = none) ∧
      ∀ h', Heap.SameBut e s₁.heap h' → h'.get? e = some { cls := .ref C, data := .fields #[.ref t, .none, .ref h, .none, .bool false, .none] } → E (.ref e) { s₁ with heap := h' }) E s) :
    wpAny (model prog w) A (raiseStmt env (some x) none) Q E s := by
  have hcB : (Value.ref C :: bm).contains (.type "BaseException") = true := by rw [List.contains_cons, hbase, Bool.or_true]
  unfold raiseStmt
  refine wpAny_bind (wpAny_mono hx (fun v s₁ h₁ => ?_) fun _ _ x => x)
  obtain ⟨e, t, rfl, hC, he, ⟨hb, h2, hk, hn⟩, hE⟩ := h₁
  obtain ⟨hp, g, d, tk, os⟩ := s₁
  repeat (first | with_reducible refine wpAny_loadPart_at he ?_ | with_reducible refine wpAny_loadPart_at hC ?_ | (with_reducible refine wpAny_isSubtype_exc hC ?_; rw [hcB]) | wp_step)
  exact raiseNew_held hA h2 hk hn he rfl (by show 2 < 6; decide) fun h' hs ho => hE h' hs ho
end
end Mine
end
section
open PySem PySem.W PySem.Calls PyProof.Rows
open PySem.Sem (wp)
set_option maxRecDepth 100000
set_option maxHeartbeats 4000000
namespace Mine
section
variable {prog : Program} {w : World} {A : Around} {E : Value → Shared → Prop} {s : Shared} {env : Env}
/-- «raise C(args)» under a handled exception that has no context -/
theorem Raise_held {nm q : Str} {C N hd : Addr} {bs bm bmB : List Value} {hdct : Bool} {sn : List Str} {sub : List Value} {ab : Bool} {col : Option Bool} {dd : Option Addr} {k0 k1 k2 k3 k5 : Option Value} {B newId initId : String}
    (F : ExcBaseFacts B newId initId bmB) {mN : Str → Option Value} {x : Str} {np cpos pos : Pos} {args : List Expr} {Q : Flow → Shared → Prop}
    (hbase : bm.contains (.type "BaseException") = true) (hA : A.handled = some (.ref hd)) (hplain : (backTo cpos (starEach args env)).any (·.1) = false) (hni : mN "__init__" = none)
    (h : wpAny (model prog w) A (eval (.Name x np) env) (fun f s₁ => f = .ref C ∧ wpAny (model prog w) A (evalArgs (.ref C) true (backTo cpos (starEach args env)) [])
      (fun a s₂ => a.kw = [] ∧ a.pos.length ≤ sizeLine ∧ s₂.heap.get? C = some (excClassObj nm q C N bs bm hdct sn sub ab col dd k0 k1 k2 k3 k5 newId) ∧ s₂.heap.Ns N mN ∧ OwnTail s₂.heap bmB bm ∧ Chn s₂.heap hd ∧
        ∀ h' e t, (∀ b o, s₂.heap.get? b = some o → h'.get? b = some o) → s₂.heap.get? e = none → h'.get? e = some { cls := .ref C, data := .fields #[.ref t, .none, .ref hd, .none, .bool false, .none] } → E (.ref e) { s₂ with heap := h' }) E s₁) E s) :
    wpAny (model prog w) A (exec (.Raise (some (.Call (.Name x np) args [] cpos)) none pos) env) Q E s := by
  rw [arm_exec_Raise]
  simp only [evalOpt, Option.map]
  refine wpAny_bind (wpAny_standAt (raiseStmt_held (C := C) (nm := nm) (q := q) (N := N) (bs := bs) (bm := bm) (hdct := hdct) (sn := sn) (sub := sub) (ab := ab) (col := col) (dd := dd) (k0 := k0) (k1 := k1) (k2 := k2) (k3 := k3) (k5 := k5) (newId := newId) hbase hA ?_))
  refine wpAny_bind (wpAny_mono (wpAny_Call_ofName (wpAny_mono h (fun f s₁ h₁ => ?_) fun _ _ x => x)) (fun v s₃ h₃ => wpAny_bind (wpAny_standAt (wpAny_pure h₃))) fun _ _ x => x)
  obtain ⟨rfl, h₁⟩ := h₁
  unfold callWith
  refine wpAny_bind (wpAny_holding (wpAny_mono h₁ (fun a s₂ h₂ => wpAny_bind (wpAny_standAt ?_)) fun _ _ x => x))
  obtain ⟨apos, akw⟩ := a
  obtain ⟨hkw, hlen, hC, hn, T, h2, h₂⟩ := h₂
  obtain rfl : akw = [] := hkw
  obtain ⟨hp, g, d, tk, os⟩ := s₂
  simp only [hplain]
  refine wpAny_bind (wpAny_keeperOf_exc hC ?_)
  refine wpAny_bind (wpAny_call_exc_subT (hrest := hlen) F T hC hn hni fun h' e hm => wpAny_bind (wpAny_holding (wpAny_point (wpAny_pure ?_))))
  obtain ⟨t, ht, _, _⟩ := hm.there
  refine ⟨e, t, rfl, hm.keeps _ _ hC, ht, ⟨_, h2, hm.keeps, hm.new⟩, fun h3 hs he => ?_⟩
  exact h₂ h3 e t (fun b ob hb => (hs.2 b fun q => by rw [q, hm.new] at hb; cases hb).trans (hm.keeps b ob hb)) hm.new he
end
end Mine
end
section
open PySem PySem.W PySem.Calls PyProof.Rows
set_option maxRecDepth 100000
set_option maxHeartbeats 4000000
namespace Mine
section
variable {prog : Program} {w : World} {A : Around} {E : Value → Shared → Prop} {s : Shared} {h₀ : Heap} {L a C hd : Addr} {m mg : Str → Option Value} {name : Str} {scope : Scope} {cd : Value} {x : Str} {bm : List Value} {B newId initId : String} {np cpos pos : Pos} {Q : Flow → Shared → Prop}
theorem Raise_ownH {e₀ : Expr} {rest : List Expr} (F : Fr h₀ L s.heap m) (hg : h₀.Ns mainGlobals mg) (O : OwnCls x C bm newId mg h₀) (FB : ExcBaseFacts B newId initId bm) (hA : A.handled = some (.ref hd))
    (h : wpAny (model prog w) A (spliced (backTo cpos (starEach (e₀ :: rest) (envOf name scope L a cd)))) (fun vs s₂ => vs.length ≤ sizeLine ∧ KeepsF h₀ s₂.heap ∧ Chn s₂.heap hd ∧
      ∀ h' e t, (∀ b o, s₂.heap.get? b = some o → h'.get? b = some o) → s₂.heap.get? e = none → h'.get? e = some { cls := .ref C, data := .fields #[.ref t, .none, .ref hd, .none, .bool false, .none] } → E (.ref e) { s₂ with heap := h' }) E s)
    (he : starEach (e₀ :: rest) (envOf name scope L a cd) = (false, eval e₀ (envOf name scope L a cd)) :: starEach rest (envOf name scope L a cd) := by rfl)
    (hplain : (backTo cpos (starEach rest (envOf name scope L a cd))).any (·.1) = false := by rfl)
    (hk : scope.kind = .function := by rfl) (hx : (envOf name scope L a cd).kindOf x = some .globalImplicit := by rfl) (hdb : (x == ("__debug__" : Str)) = false := by decide) :
    wpAny (model prog w) A (exec (.Raise (some (.Call (.Name x np) (e₀ :: rest) [] cpos)) none pos) (envOf name scope L a cd)) Q E s := by
  obtain ⟨tl, N, nm, q, bs, hdct, sn, sub, ab, col, dd, k0, k1, k2, k3, k5, mN, hC, hN, hni, T⟩ := O.obj
  refine Raise_held (C := C) (nm := nm) (q := q) (N := N) (bs := bs) (bm := tl) (hdct := hdct) (sn := sn) (sub := sub) (ab := ab) (col := col) (dd := dd) (k0 := k0) (k1 := k1) (k2 := k2) (k3 := k3) (k5 := k5)
    FB (mN := mN) (T.hasType FB.hasBase) hA (by rw [he]; show (false || (backTo cpos (starEach rest (envOf name scope L a cd))).any (·.1)) = false; rw [hplain]; rfl) hni (ld_own F hg O ⟨rfl, ?_⟩ hk hx hdb)
  rw [he] at h ⊢
  exact evalArgs_plain (wpAny_mono h (fun vs s₂ h₂ => ⟨rfl, h₂.1, h₂.2.1 _ _ hC, hN.keeps h₂.2.1, T.keeps h₂.2.1, h₂.2.2⟩) fun _ _ y => y)
end
end Mine
end
section
open PySem PySem.W PySem.Calls PyProof.Rows
set_option maxRecDepth 100000
set_option maxHeartbeats 4000000
namespace Mine
section
variable {M : Model} {A : Around} {E : Value → Shared → Prop} {s' : Shared} {base g h : Heap} {outer : List Env} {env : Env} {L e : Addr} {m : Str → Option Value} {Q : Unit → Shared → Prop} {news : List (Addr × Obj)}
/-- a fresh record of any shape leaves a frame of any kind -/
theorem leave_anyX {cls a0 : Value} {ob : Obj} {vs : Array Value} (K : Below A base outer g) (keeps : ∀ b o, h.get? b = some o → s'.heap.get? b = some o) (new : h.get? e = none) (he : s'.heap.get? e = some ob) (hcls : ob.cls = cls) (hd : ob.data = .fields vs) (h1 : vs[1]? = some .none) (h0 : vs[0]? = some a0) (F : Fr g L h m) (N : News g L h news) (hf : env.frame = some L) (hk : env.scope.kind = .function)
    (hQ : ∀ h', RaisedSN base g outer e cls news h' → g.UpToSlots h' → Q () { s' with heap := h' }) : wpAny M (A.deeper env) (leaving env (.ref e)) Q E s' := by
  have B := pushX K F hf hk
  generalize hfs : (env :: outer).filterMap (·.frame) = fs
  have inFs : ∀ x ∈ env :: outer, ∀ b, x.frame = some b → b ∈ fs := fun x hx b hb => hfs ▸ List.mem_filterMap.mpr ⟨x, hx, hb⟩
  have noBase : ∀ b ∈ fs, base.get? b = none := fun b hb => (B.frames.mem (hfs.symm ▸ hb)).1
  have stays : base.StaysIn (hideAll h fs) := fun b o q => hideAll_get _ (B.stays b o q) fun hm => by
    have := noBase b hm
    rw [q] at this; cases this
  have same : ∀ b o, g.get? b = some o → b ∉ outer.filterMap (·.frame) → (hideAll h fs).get? b = some o := fun b o q nm => hideAll_get _ (F.keep b o q) fun hm => by
    rw [← hfs] at hm
    obtain ⟨x, hx, hfx⟩ := List.mem_filterMap.mp hm
    rcases List.mem_cons.mp hx with rfl | hx
    · have hbL : b = L := Option.some.inj (hfx.symm.trans hf)
      rw [hbL, kts_self F] at q; cases q
    · exact nm (List.mem_filterMap.mpr ⟨x, hx, hfx⟩)
  have led : ∀ q ∈ news, (hideAll h fs).get? q.1 = some q.2 ∧ g.get? q.1 = none ∧ base.get? q.1 = none := fun q hq => by
    obtain ⟨n1, n2, n3⟩ := N q hq
    refine ⟨hideAll_get _ n1 fun hm => ?_, n3, fresh_of_stays K.stays n3⟩
    rw [← hfs] at hm
    obtain ⟨x, hx, hfx⟩ := List.mem_filterMap.mp hm
    rcases List.mem_cons.mp hx with rfl | hx
    · exact n2 (Option.some.inj (hfx.symm.trans hf))
    · obtain ⟨o, ho, _⟩ := (K.frames.mem (List.mem_filterMap.mpr ⟨x, hx, hfx⟩)).2
      rw [n3] at ho; cases ho
  have hen : (hideAll h fs).get? e = none := by
    cases q : (hideAll h fs).get? e with
    | none => rfl
    | some o =>
      have := of_hideAll _ q
      rw [new] at this; cases this
  refine wpAny_leaving_firstW (a0 := a0) B.stack ((funFrames_hide B.frames inFs).of_keeps fun b o hb _ => ⟨o, keeps b o hb, rfl⟩) hf he (fun b o hb => keeps b o (of_hideAll _ hb)) hen hd h1 h0 fun h' hL => ?_
  obtain ⟨k1, ⟨_, _, k2⟩, k3, k4⟩ := hL
  refine hQ h' ⟨_, a0, stays, same, led, k1, hen, k2, by rw [← hcls]; exact k3⟩ ?_
  exact ((Heap.UpToSlots.of_keeps F.keep).trans (Heap.UpToSlots.of_keeps keeps)).trans k4
theorem leave_anyX2 {cls a0 cx : Value} {ob : Obj} {vs : Array Value} (K : Below A base outer g) (keeps : ∀ b o, h.get? b = some o → s'.heap.get? b = some o) (new : h.get? e = none) (he : s'.heap.get? e = some ob) (hcls : ob.cls = cls) (hd : ob.data = .fields vs) (h1 : vs[1]? = some .none) (h0 : vs[0]? = some a0) (h2 : vs[2]? = some cx) (F : Fr g L h m) (N : News g L h news) (hf : env.frame = some L) (hk : env.scope.kind = .function)
    (hQ : ∀ h', RaisedSN base g outer e cls news h' → E2x cx h' e → g.UpToSlots h' → Q () { s' with heap := h' }) : wpAny M (A.deeper env) (leaving env (.ref e)) Q E s' := by
  have B := pushX K F hf hk
  have fr := funFrames_hide (as := (env :: outer).filterMap (·.frame)) B.frames fun x hx b hb => List.mem_filterMap.mpr ⟨x, hx, hb⟩
  have hen : (hideAll h ((env :: outer).filterMap (·.frame))).get? e = none := by
    cases q : (hideAll h ((env :: outer).filterMap (·.frame))).get? e with
    | none => rfl
    | some o =>
      have := of_hideAll _ q
      rw [new] at this; cases this
  refine wpAny_mono (wpAny_conj (Q1 := fun _ s₂ => ∃ h', s₂ = { s' with heap := h' } ∧ RaisedSN base g outer e cls news h' ∧ g.UpToSlots h') (E1 := fun _ _ => False) (E2 := fun _ _ => False)
    (leave_anyX K keeps new he hcls hd h1 h0 F N hf hk fun h' R U => ⟨h', rfl, R, U⟩)
    (e2_leaving_first (a0 := a0) B.stack (fr.of_keeps fun b o hb _ => ⟨o, keeps b o hb, rfl⟩) hf he (fun b o hb => keeps b o (of_hideAll _ hb)) hen hd h1 h0 h2)) (fun _ s₂ q => ?_) fun _ _ q => q.1.elim
  obtain ⟨⟨h', rfl, R, U⟩, h2⟩ := q
  exact hQ h' R h2 U
end
end Mine
end
section
open PySem PySem.W PySem.Calls PyProof.Rows
set_option maxRecDepth 100000
set_option maxHeartbeats 8000000
namespace Mine
/-- lambda octet: signs[octet], called -/
theorem lam_item2 {prog : Program} {w : World} {A A₀ : Around} {s : Shared} {L : Addr} {h₀ base : Heap} {m mg mb : Str → Option Value} {news : List (Addr × Obj)} {loose : List Str} {p : Program} {mean : ExcName → Option Value}
    {env : Env} {outer : List Env} {qual : Str} {p0 p1 p2 p3 : Pos} {pm ctv : Value} {c' f cs dl : Addr} {K : Frag} {d : Int} {td : Tok} {vs : List Value} {ns : List Int} {n : Nat} {Q : Value → Shared → Prop} {E : Value → Shared → Prop}
    (B : Below A₀ base outer h₀) (F : Fr h₀ L s.heap m) (X₀ : K.In h₀) (N : News h₀ L s.heap news) (T : Top p loose mean mg mb h₀) (hA : A.frames = some (env :: outer)) (hf : env.frame = some L) (hke : env.scope.kind = .function)
    (ho : (f, lamItem qual p0 p1 p2 p3 cs pm ctv c') ∈ news) (hcd : s.heap.CodeRec (.ref c') qual) (hcs : ∃ oc, (cs, oc) ∈ news ∧ oc.data = .cell (some (.ref dl))) (hl : (dl, W.listOf vs.toArray n) ∈ news) (hi : IntsAre vs ns)
    (hroom : A.depth < recursionLimit) (hd0 : 0 ≤ d) (hd1 : d < 256) (hn : A.handled = none)
    (h1 : d < ns.length → ∀ h' tk t, Fr h₀ L h' m → News h₀ L h' news → Q (.int (ns.getD d.toNat 0) t) { s with heap := h', toks := tk })
    (h0 : (ns.length : Int) ≤ d → ∀ g' h' tk e, Fr h₀ L g' m → RaisedSN base g' (env :: outer) e (.type "IndexError") news h' → E2 h' e → g'.UpToSlots h' → E (.ref e) { s with heap := h', toks := tk }) :
    wpAny (model prog w) A (call (.ref f) [.int d td] []) Q E s := by
  obtain ⟨oc, hm, hd⟩ := hcs
  refine wpAny_call (kla_code B F X₀ N T hA hf hke ho hcd hroom rfl (locs rfl) ?_ rfl rfl rfl (by decide))
  intro g L' h2 FG F1 N1 B1 X1 T1
  refine Subscript_ (nameX_F N1 (by rfl) hm hd (nameX_L F1 (by rfl) ?_))
  by_cases hin : d < ns.length
  · refine item_list_ints (News.isList N1 hl) hi hd0 hin (by omega) fun t => ?_
    exact leaveK_ F1 N1 fun F2 N2 => h1 hin _ _ _ F2 N2
  · have hlen : vs.length = ns.length := hi.length
    refine item_outK hn (News.isList N1 hl) (by right; simp only [List.size_toArray]; omega) (by omega) (by omega) fun h' tk e hx => ?_
    refine leave_newX2 (A := A) B1 hx F1 N1 rfl rfl fun h3 R E2' U => ?_
    exact h0 (by omega) g h3 tk e FG R E2' U
end Mine
end
section
open PySem PySem.W PySem.Calls PyProof.Rows Builtin
set_option maxRecDepth 100000
namespace Mine
theorem slot_bytes_str : Slot "bytes" "__str__" "bytes.__str__" :=
  .of (owner := "bytes") (n := "__str__") (by rw [typeLookup_type, builtinLookup_eq_fast]; kernel_rfl) (by decide +kernel) (by decide +kernel) (by decide +kernel)
    (by first | exact .inl (by decide +kernel) | exact .inr (by decide +kernel)) (by rw [isSubtype_type]; kernel_rfl)
theorem entry_bytes_str : entryFor table "bytes.__str__" = some Builtin.«bytes.__str__» := entryFor_of_tree (by kernel_rfl)
theorem args_bytes_str (a : Value) : argsOk "bytes.__str__" ⟨[a], []⟩ := by
  unfold argsOk; rw [signature?_of (id := "bytes.__str__") (n := ['_', '_', 'r', 't', 's', '_', '_']) (o := ['s', 'e', 't', 'y', 'b']) (by kernel_rfl) FB.owner_bytes]; kernel_rfl
theorem foldl_len {α β : Type} (f : β → Array α) (k : Nat) (hk : ∀ c, (f c).size ≤ k) (b : Array β) (i : Array α) : (b.foldl (fun acc c => acc ++ f c) i).size ≤ i.size + k * b.size := by
  refine Array.foldl_induction (motive := fun n (acc : Array α) => acc.size ≤ i.size + k * n) (by simp) ?_
  intro n acc ih
  rw [Array.size_append]
  have := hk b[n]
  rw [Nat.mul_add]
  omega
theorem literal_len (b : Array UInt8) : (Bytes.literal b).length ≤ 4 * b.size + 3 := by
  unfold Bytes.literal
  show Array.size _ ≤ _
  rw [Array.size_push]
  refine Nat.le_trans (Nat.add_le_add_right (foldl_len _ 4 (fun c => ?_) _ _) 1) ?_
  · dsimp only
    repeat' split
    all_goals (simp)
  · simp; omega
section
variable {prog : Program} {w : World} {A : Around} {E : Value → Shared → Prop} {s : Shared} {b : Array UInt8} {t : Tok}
theorem convS_bytes {Q : Value → Shared → Prop} (hb : b.size ≤ 1000) (h : ∀ (x : Str) t' k, x.length ≤ 5000 → Q (.str x t') { s with toks := k }) : wpAny (model prog w) A (convS (.bytes b t)) Q E s := by
  show wpAny (model prog w) A (pyStrObj (.bytes b t)) Q E s
  unfold pyStrObj
  have hh : [Value.bytes b t].any Value.onHeap = false := by rfl
  simp only [cRoomFor, hh, Bool.false_eq_true, if_false, pure_bind]
  refine wpAny_bind (m := callSpecial? _ (Str.ofString "__str__")) (wpAny_callSpecial?_slot (name := Str.ofString "__str__") (typeIs_bytes s b t) slot_bytes_str (wpAny_call_entry slot_bytes_str (typeIs_bytes s b t) entry_bytes_str ?_ (args_bytes_str _)))
  unfold Builtin.«bytes.__str__»
  refine wpAny_bind (m := slotArgs "__str__" 0 _) (wpAny_pure ?_)
  have hl := literal_len b
  have h1 : Bytes.tooLong (4 * b.size + 3 + 0) = false := decide_eq_false (by show ¬ (_ > 2 ^ 24); omega)
  show wpAny _ _ (Bytes.literalAsked b >>= fun x => retStr x) _ _ _
  unfold Bytes.literalAsked
  rw [h1, Bool.false_and, if_neg Bool.false_ne_true]
  refine wpAny_bind (m := pure (Bytes.literal b)) (wpAny_pure ?_)
  refine wpAny_bind (m := mkStr _) (wpAny_mkStr ?_)
  refine wpAny_pure ⟨_, rfl, ?_⟩
  exact wpAny_bind (wpAny_isInstance (T := "str") (b := true) rfl isSubtype_str_str (wpAny_pure (h _ _ _ (by omega))))
end
end Mine
end
section
open PySem PySem.W PySem.Calls PyProof.Rows
set_option maxRecDepth 100000
set_option maxHeartbeats 8000000
namespace Mine
local macro_rules | `(tactic| walk_at "InvEndN") => `(tactic| k_dflt kst_close)
theorem all_nil {b : Int} : ∀ c ∈ ([] : List Int), c < b := fun c hc => nomatch hc
theorem all_snoc {pre : List Int} {n b : Int} (h : ∀ c ∈ pre, c < b) (hn : n < b) : ∀ c ∈ pre ++ [n], c < b := fun c hc => by
  rcases List.mem_append.mp hc with hc | hc
  · exact h c hc
  · rw [List.mem_singleton.mp hc]; exact hn
theorem to_long_bad {w : World} {s : Shared} {h₀ : Heap} {L : Addr} {m mg mb : Str → Option Value} {env : Env} {news : List (Addr × Obj)} {loose : List Str} {mean : ExcName → Option Value} {R : Result → Shared → Prop}
    {qual : Str} {p0 p1 p2 p3 : Pos} {pm ctv : Value} {c' f cs dl : Addr} {b : Int} {digs ns : List Int} {vs : List Value} {n : Nat} {tr tb : Tok} {oc' ocs : Obj} {vs' : Array Value} {tq' : Nat} {a1 a2 a3 : Addr} {o1 o2 o3 : Obj}
    (B : Below callerA h₀ [] h₀) (F : Fr h₀ L s.heap m) (X₀ : (hdX.heap_39 w.params).In h₀) (N : News h₀ L s.heap news) (T : Top topProg loose mean mg mb h₀) (hf : env.frame = some L) (hke : env.scope.kind = .function)
    (hm1 : (f, lamItem qual p0 p1 p2 p3 cs pm ctv c') ∈ news) (hm2 : (c', oc') ∈ news) (hm3 : (cs, ocs) ∈ news) (hm4 : (dl, W.listOf vs.toArray n) ∈ news) (hm5 : (a1, o1) ∈ news) (hm6 : (a2, o2) ∈ news) (hm7 : (a3, o3) ∈ news) (hi : IntsAre vs ns)
    (hd' : oc'.data = .fields vs') (hq' : vs'[1]? = some (.str qual tq')) (hcs : ocs.data = .cell (some (.ref dl)))
    (hb : 2 ≤ b) (hb1 : b ≤ 200) (hns : (ns.length : Int) = b) (hdg : ∀ d ∈ digs, 0 ≤ d ∧ d < b) (hlen : digs.length ≤ 32) (hgv : ∀ d, 0 ≤ d → d < b → ns.getD d.toNat 0 = d)
    (h : ∀ g' h' tk e hd ohd ws, Fr h₀ L g' m → RaisedSN h₀ g' [env] e (.ref 24) [(a1, o1), (a2, o2), (a3, o3), (hd, ohd)] h' → ohd.data = .fields ws → ws[2]? = some .none → E2x (.ref hd) h' e → g'.UpToSlots h' → R (.error (.ref e)) { s with heap := h', toks := tk }) :
    codeAny (model PySem.Challenge.rw_fe0230_01.row.prog w) (callerA.deeper env) (.call (.ref 34) ⟨[.int b tb, .ref f, .bytes (byteArr (digs ++ [b])) tr], []⟩) R s := by
  w_top off
  k_with_none
  revert X₀; k_fill; intro X₀
  have hrow : KBa.In (digs ++ [b]) := fun x hx => by
    rcases List.mem_append.mp hx with hx | hx
    · have := hdg x hx; omega
    · rw [List.mem_singleton.mp hx]; omega
  refine' code_def B F X₀ N T rfl hf hke ?k6 ?k7 ?k8 ?k9 ?kB ?_ ?c2 ?c3 ?c4 ?c5
  case k6 => k_is
  case k7 => k_is
  case k8 => k_room
  case k9 => exact BindsTo.of_eq rfl
  case c5 => decide
  case kB => exact locs rfl
  case c2 => exact rfl
  case c3 => exact rfl
  case c4 => exact rfl
  intro g L' h1 FG F1 N1 B1 X1 T1
  have Nq : News g L' h1 [(f, lamItem qual p0 p1 p2 p3 cs pm ctv c'), (c', oc'), (cs, ocs), (dl, W.listOf vs.toArray n), (a1, o1), (a2, o2), (a3, o3)] := fun q hq => N1 q (by
    simp only [List.mem_cons, List.not_mem_nil, or_false] at hq
    rcases hq with rfl | rfl | rfl | rfl | rfl | rfl | rfl <;> assumption)
  try dsimp only
  clear N N1
  have D1 : KtsDicts ([env].filterMap (·.frame)) g := fun b hb => by
    have hbL : b = L := by simpa [hf] using hb
    obtain ⟨oL, es, ep, hL, hLd, _⟩ := FG.ns
    exact ⟨oL, es, ep, by rw [hbL]; exact hL, hLd⟩
  have FG' := FG
  clear FG
  k_with "pyIter bytes" => k_state (fun pre p v => ∀ c ∈ pre, c < b) "prefix" "v"
  k_with "state" => first
    | exact Mine.all_nil
    | exact Mine.all_snoc (by assumption) (by assumption)
    | (simp; done)
  k_steps
  rotate_left
  · exfalso
    have hbad : ∀ c ∈ digs ++ [b], c < b := by assumption
    have := hbad b (List.mem_append_right _ (.head _))
    omega
  rename Fr g _ _ _ => FT
  rename News g _ _ _ => NT
  rename ∀ (c : Int), c ∈ _ → c < b => kInv
  rename digs ++ [b] = _ ++ _ :: _ => kEq
  refine callWith_def (o := lamItem qual p0 p1 p2 p3 cs pm ctv c') rfl (args_cons (nameX_L FT (by rfl) (args_nil ⟨NT.get (.head _), ?_⟩)))
  refine lam_item2 B1 FT X1 NT T1 rfl rfl rfl (.head _) (codeRec_news NT (.tail _ (.head _)) hd' hq') ⟨ocs, .tail _ (.tail _ (.head _)), hcs⟩ (.tail _ (.tail _ (.tail _ (.head _)))) hi (by k_room) (by assumption) (by assumption) rfl ?_ ?_
  · intro hin h5 tk5 t5 F5 N5
    clear FT NT
    rw [hns] at hin
    k_steps
    k_with_none
  · intro hin g5 h5 tk5 e5 F5 R5 C5 U5
    clear FT NT
    refine caught_X0 (T' := "Exception") R5 C5 F5 B1 U5 X₀ T (by k_is) (by boot_fast) (by decide) PySem.F.isExc_Exception PySem.F.notTuple_Exception (by rw [isSubtype_type]; kernel_rfl) ?_
    intro h6 g6 T6' F6 N6 B6 X6 T6 C6
    dsimp only
    refine wpAny_execs_cons ?_
    refine Raise_ownH (bm := [.type "ValueError", .type "Exception", .type "BaseException", .type "object"]) (newId := "ValueError.__new__") F6 (TopRead.g (topRead_of T6)) (own_of_in X6 (topRead_of T6) (by k_is) (by k_exc)) PySem.F.excBase_ValueError rfl ?_
    k_steps
    refine Mine.convS_bytes (by rw [byteArr_size]; simp only [List.length_append, List.length_cons, List.length_nil]; omega) ?_
    intro xs txs kxs hxs
    k_steps
    · exact F6.keep
    · exact Or.inl C6
    rename_i y1 y2 y3
    obtain ⟨o5, v5, ho5, hv5, hz5⟩ := C6
    have off5 : g6.get? e5 = none := T6'.none_ _ (kts_none F5.keep (raisedSN_off R5))
    have neL : e5 ≠ L' := fun q => by
      obtain ⟨oL, es, ep, hL, hLd, _⟩ := F6.ns
      rw [q, show h6.get? L' = some oL from hL] at ho5
      cases ho5
      rw [hv5] at hLd
      cases hLd
    have Nz : News g6 L' h6 [(a1, o1), (a2, o2), (a3, o3), (e5, o5)] := fun q hq => by
      rcases List.mem_cons.mp hq with rfl | hq
      · exact N6 _ (.tail _ (.tail _ (.tail _ (.tail _ (.head _)))))
      rcases List.mem_cons.mp hq with rfl | hq
      · exact N6 _ (.tail _ (.tail _ (.tail _ (.tail _ (.tail _ (.head _))))))
      rcases List.mem_cons.mp hq with rfl | hq
      · exact N6 _ (.tail _ (.tail _ (.tail _ (.tail _ (.tail _ (.tail _ (.head _)))))))
      rw [List.mem_singleton.mp hq]
      exact ⟨ho5, neL, off5⟩
    refine leave_anyX2 B6 y1 y2 y3 rfl rfl rfl rfl rfl F6 Nz rfl rfl fun h7 R7 E7 U7 => ?_
    exact h g h7 _ _ e5 o5 v5 FG' (raisedSN_turn T6' R7) hv5 hz5 E7 ((turn_upTo T6').trans U7)
end Mine
end
section
open PySem PySem.W PySem.Calls PyProof.Rows
open PySem.Sem (wp)
set_option maxRecDepth 100000
set_option maxHeartbeats 4000000
namespace Mine
section
variable {prog : Program} {w : World} {A : Around} {E : Value → Shared → Prop} {R : Result → Shared → Prop} {s : Shared} {env : Env}
/-- a while whose first turn raises -/
theorem wpX_While1 {test : Expr} {body : List Stmt} {pos : Pos} {Q : Flow → Shared → Prop} (hE : PassesOwn (model prog w) A env E)
    (turn : wpAny (model prog w) A (isTrue test env (eval test env)) (fun b s₂ => b = true ∧ wpX (model prog w) A (execs body env) (fun _ _ => False) E s₂) E s) :
    wpX (model prog w) A (exec (.While test body [] pos) env) Q E s := by
  rw [exec_While]
  refine wpX_anyBind (wpAny_standAt ?_)
  unfold runOwn
  refine wpX_onRaise (wpX_mono (E := fun e s' => wpX (model prog w) A (do
    if (← field e 1) == .none then unsupported "frame.own-activation:exception-without-traceback"
    setFlight e env.frame) (fun _ s'' => E e s'') E s') (wpX_run ?_) (fun _ _ x => x) fun _ _ x => x)
  refine codeX_of_tree ?_
  show wpX _ A ((whileTurn test body [] env).onRaise (fun x => do noteFrame x env; theTreesLotGoes x)) _ _ s
  refine wpX_onRaise (wpX_mono (E := E) (Q := fun _ _ => False) ?_ (fun _ _ x => x.elim) fun e s' h' => ?_)
  · simp only [whileTurn]
    refine wpX_anyBind (wpAny_mono turn (fun b s₂ h₂ => ?_) fun _ _ h' => h')
    obtain ⟨rfl, h₂⟩ := h₂
    simp only [if_true]
    exact wpX_bind (wpX_mono h₂ (fun f s₃ h₃ => h₃.elim) fun _ _ h' => h')
  · have h1 := hE e s' h'
    exact wpX_any (wpAny_bind (wpAny_mono h1 (fun _ s₂ h₂ => wpAny_theTreesLotGoes (wpX_any h₂)) fun _ _ h₂ => wpX_any h₂))
/-- a try, its handlers in the clean contexts -/
theorem wpX_Try {body : List Stmt} {h₀ : ExceptHandler} {hs : List ExceptHandler} {pos : Pos} {Q : Flow → Shared → Prop}
    (h : wpX (model prog w) A (execs body env) Q
      (fun e s₁ => wpAny (model prog w) A (noteFrame e env) (fun _ s₂ => wpAny (model prog w) A (setFlight e none) (fun _ s₃ => wpX (model prog w) A (handleBy e env (h₀ :: hs)) Q E s₃) E s₂) E s₁) s) :
    wpX (model prog w) A (exec (.Try body (h₀ :: hs) [] [] pos) env) Q E s := by
  rw [arm_exec_Try]
  refine wpX_anyBind (wpAny_standAt ?_)
  unfold tryStmt
  simp only [List.isEmpty_nil, if_true, List.isEmpty_cons, Bool.false_and, Bool.false_eq_true, if_false]
  refine wpX_bind (wpX_attempt (wpX_mono h (fun f s₁ h₁ => ?_) fun e s₁ h₁ => ?_))
  · cases f <;> first | exact wpX_execs_nil h₁ | exact wpX_pure h₁
  · exact wpX_anyBind (wpAny_mono h₁ (fun _ _ h₂ => wpX_anyBind h₂) fun _ _ x => x)
theorem codeX_handlers_suite {e : Value} {b₀ : Stmt} {body : List Stmt} {pos : Pos}
    (h : wpAny (model prog w) A (setFlight e none) (fun _ s₁ => wpX (model prog w) A (execs (b₀ :: body) env) (fun f s₂ => R (.ok f) s₂) (fun _ _ => False) s₁) (fun _ _ => False) s) :
    codeX (model prog w) A (.handlers e [.ExceptHandler none none (b₀ :: body) pos] env) R s := by
  refine codeX_of_tree ?_
  show wpX _ A (do return Fin.done (← (handleWith e env [.ExceptHandler none none (b₀ :: body) pos]).onRaise (fun x => do noteFrame x env; theTreesLotGoes x))) _ _ s
  refine wpX_bind (wpX_onRaise (wpX_mono (E := fun _ _ => False) (Q := fun f s₂ => R (.ok f) s₂) ?_ (fun _ _ x => wpX_pure x) fun _ _ x => x.elim))
  unfold handleWith
  exact wpX_anyBind (wpAny_standAt (wpX_anyBind h))
theorem wpX_handleBy_hit {e : Value} {t : Expr} {b₀ : Stmt} {body : List Stmt} {pos : Pos} {rest : List ExceptHandler} {Q : Flow → Shared → Prop}
    (h : codeAny (model prog w) (A.mark (some e)) (.handlers e [.ExceptHandler (some t) none [] pos] env) (fun r s₁ => r = .ok .brk ∧
      wpAny (model prog w) (A.mark (some e)) (setFlight e none) (fun _ s₂ => wpX (model prog w) (A.mark (some e)) (execs (b₀ :: body) env) Q (fun _ _ => False) s₂) (fun _ _ => False) s₁) s) (hnb : e ≠ byPass) :
    wpX (model prog w) A (handleBy e env (.ExceptHandler (some t) none (b₀ :: body) pos :: rest)) Q E s := by
  rw [handleBy]
  have hnb' : (some e : Option Value) ≠ some byPass := fun x => hnb (Option.some.inj x)
  refine wpX_anyBind (wpAny_holding (wpAny_runOwn (codeAny_mono h (fun r s₁ h₁ => ?_)) hnb'))
  obtain ⟨rfl, h₁⟩ := h₁
  refine wpX_bind (wpX_pure ?_)
  simp only [Bool.not_true, Bool.false_eq_true, if_false]
  refine wpX_bind (wpX_holding ?_)
  unfold runOwn
  refine wpX_onRaise (wpX_mono (E := fun _ _ => False) (Q := Q) (wpX_run (codeX_mono (codeX_handlers_suite (R := fun r s' => match r with | .ok f => Q f s' | .error _ => False) h₁) (fun r s' h' => ?_)) hnb') (fun _ _ x => wpX_pure x) fun _ _ x => x.elim)
  cases r <;> exact h'
end
section
variable {prog : Program} {w : World} {A₀ : Around} {E : Value → Shared → Prop} {s' : Shared} {base g G : Heap} {outer : List Env} {L a e C : Addr} {m : Str → Option Value} {name : Str} {scope : Scope} {cd cx : Value}
  {b₀ : Stmt} {suite : List Stmt} {pos np : Pos} {rest : List ExceptHandler} {Q : Flow → Shared → Prop} {news : List (Addr × Obj)} {KF : Frag} {p : Program} {loose : List Str} {mean : ExcName → Option Value} {mg mb : Str → Option Value} {x : Str} {bmB : List Value} {newId : String} {cl : List (Str × Addr)}
/-- caught by a clause of its own class; the suite runs in the clean contexts -/
theorem caught_ownX (R : RaisedSN base G (envX name scope L a cd cl :: outer) e (.ref C) news s'.heap) (h2 : E2x cx s'.heap e) (F : Fr g L G m) (K : Below A₀ base outer g) (hsm : G.UpToSlots s'.heap) (XB : KF.In base) (TB : Top p loose mean mg mb base)
    (ex : nsIn KF mainGlobals x = some (some (.ref C))) (q : excIn KF C bmB newId = true) (hbase : bmB.contains (.type "BaseException") = true)
    (k : ∀ h' g', KtsTurn (outer.filterMap (·.frame)) g g' → Fr g' L h' m → News g' L h' news → Below A₀ base outer g' → KF.In g' → Top p loose mean mg mb g' → E2x cx h' e → g'.get? e = none →
      wpX (model prog w) ((A₀.deeper (envX name scope L a cd cl)).mark (some (.ref e))) (execs (b₀ :: suite) (envX name scope L a cd cl)) Q (fun _ _ => False) { s' with heap := h' })
    (hk : scope.kind = .function := by rfl) (hx : (envX name scope L a cd cl).kindOf x = some .globalImplicit := by rfl) (hd : (x == ("__debug__" : Str)) = false := by decide) :
    wpAny (model prog w) (A₀.deeper (envX name scope L a cd cl)) (noteFrame (.ref e) (envX name scope L a cd cl))
      (fun _ s₂ => wpAny (model prog w) (A₀.deeper (envX name scope L a cd cl)) (setFlight (.ref e) none) (fun _ s₃ =>
        wpX (model prog w) (A₀.deeper (envX name scope L a cd cl)) (handleBy (.ref e) (envX name scope L a cd cl) (.ExceptHandler (some (.Name x np)) none (b₀ :: suite) pos :: rest)) Q E s₃) E s₂) E s' := by
  have off := raisedSN_off R
  obtain ⟨B, a0, hB, hBG, hl, hfl⟩ := R
  have hL : B.get? L = none := by
    obtain ⟨_, ⟨L', _, hf, hn', _⟩, _⟩ := hfl.2.2.1
    obtain rfl : L = L' := Option.some.inj hf
    exact hn'
  refine looks2 (Around.frames_deeper K.stack) rfl hfl h2 fun h₄ held₄ h2₄ u₄ => ?_
  refine lands2 held₄ h2₄ fun h₅ fl₅ h2₅ u₅ => ?_
  have u₅' := hsm.trans (u₄.trans u₅)
  obtain ⟨g₅, T₅, F₅, K₅⟩ := kts_ground (name := name) (scope := scope) (a := a) (cd := cd) K F hBG fl₅.1 u₅'
  obtain ⟨ob, hob, hobc⟩ := fl₅.there
  refine wpX_handleBy_hit (codeAny_handlers_test (nameX_K F₅ (XB.keeps K₅.stays) (topRead_of (TB.keeps K₅.stays)) ex ?_ hk hx hd)) (by intro q; cases q)
  obtain ⟨bm, N, nm, qn, bs, hdct, sn, sub, ab, col, dd, k0, k1, k2, k3, k5, mN, hC, hN, hni, TL⟩ := ((own_of_in XB (topRead_of TB) ex q).keeps (fun b o e => F₅.keep b o (K₅.stays b o e))).obj
  refine wpAny_excMatches_sub_self hC hob hobc (TL.hasType hbase) ⟨rfl, ?_⟩
  refine again2 fl₅ h2₅ fun h₆ fl₆ h2₆ u₆ => ?_
  obtain ⟨g₆, T₆, F₆, K₆⟩ := kts_ground (name := name) (scope := scope) (a := a) (cd := cd) K F hBG fl₆.1 (u₅'.trans u₆)
  have Nl : News g₆ L h₆ news := fun q hq => ⟨fl₆.1 _ _ (hl q hq).1, (fun z => by have := (hl q hq).1; rw [z, hL] at this; cases this), T₆.none_ _ (kts_none F.keep (hl q hq).2.1)⟩
  exact k h₆ g₆ T₆ F₆ Nl K₆ (XB.keeps K₆.stays) (TB.keeps K₆.stays) h2₆ (T₆.none_ _ (kts_none F.keep off))
end
end Mine
end
section
open PySem PySem.W PySem.Calls PyProof.Rows Builtin
set_option maxRecDepth 100000
set_option maxHeartbeats 8000000
namespace Mine
section
variable {prog : Program} {w : World} {A : Around} {E : Value → Shared → Prop} {s : Shared}
theorem getItem_out_held {l hd : Addr} {items : Array Value} {k : Int} {t : Tok} {Q : Value → Shared → Prop} (hA : A.handled = some (.ref hd)) (C : Chn s.heap hd) (hl : s.heap.IsList l items)
    (h0 : 0 ≤ k) (hout : (items.size : Int) ≤ k) (hhi : k < 2 ^ 63)
    (hE : ∀ h' tk e, NewExcH s.heap h' e "IndexError" hd → E (.ref e) { s with heap := h', toks := tk }) :
    wpAny (model prog w) A (getItem (.ref l) (.int k t)) Q E s := by
  obtain ⟨o, ho, hc, ne, hd'⟩ := id hl
  unfold getItem
  try with_reducible refine wpAny_holding ?_
  first | refine wpAny_bind (wpAny_pure ?_) | skip
  refine wpAny_bind (wpAny_sequenceKey hl.typeIs (by decide) ?_)
  refine wpAny_bind (wpAny_callSpecial?_slot (name := Str.ofString "__getitem__") hl.typeIs slot_list_getitem (wpAny_call_entry slot_list_getitem hl.typeIs entry_list_getitem ?_ (args_list_getitem _ _)))
  show wpAny _ _ (Builtin.List.listSubscript? (.int k t) >>= _) _ _ s
  have hlo : -(2 ^ 63) ≤ k := by omega
  refine wpAny_bind (wpAny_listSubscript_int (fitsIndex_both hlo hhi) ?_)
  clear hlo hhi
  obtain ⟨j, rfl⟩ := Int.eq_ofNat_of_zero_le h0
  have hx : items[j]? = none := Array.getElem?_eq_none (by omega)
  show wpAny _ _ ((seqItemAt l j >>= fun r => pure (r.map (j, ·))) >>= _) _ _ s
  refine wpAny_bind (wpAny_bind (wpAny_seqItemAt ho hd' (wpAny_pure ?_)))
  rw [hx]
  first
    | exact wpAny_bind (wpAny_rule (raiseErrorWords_held plainExc_IndexError hA C hE))
    | exact wpAny_bind (wpAny_rule (wpAny_bind (raiseErrorWords_held plainExc_IndexError hA C hE)))
    | exact wpAny_bind (wpAny_bind (wpAny_rule (raiseErrorWords_held plainExc_IndexError hA C hE)))
    | exact wpAny_rule (raiseErrorWords_held plainExc_IndexError hA C hE)
theorem item_out_held {value slice : PySem.Expr} {l hd : Addr} {items : Array Value} {k : Int} {u : Tok} {Q : Value → Shared → Prop} (hA : A.handled = some (.ref hd)) (C : Chn s.heap hd) (hl : s.heap.IsList l items)
    (h0 : 0 ≤ k) (hout : (items.size : Int) ≤ k) (hhi : k < 2 ^ 63)
    (hE : ∀ h' tk e, NewExcH s.heap h' e "IndexError" hd → E (.ref e) { s with heap := h', toks := tk })
    (hs : subscripted slice false (.ref l) (.int k u) = operate [.ref l, .int k u] (getItem (.ref l) (.int k u)) := by with_unfolding_all rfl) :
    wpAny (model prog w) A (subscriptTail value slice (.ref l) (.int k u)) Q E s :=
  tail_any hl.typeIs slot_list_getitem.lookup (getItem_out_held hA C hl h0 hout hhi hE) hs
end
abbrev lamBad (qual : Str) (p0 p1 p2 p3 : Pos) (pm ctv : Value) (c' : Addr) : Obj :=
  kla_obj (Str.ofString "<lambda>") qual (lamParams (Str.ofString "digit") p0) (.Subscript (.List [] p1) (.Name (Str.ofString "digit") p2) p3) { kind := .function, names := [(Str.ofString "digit", .local)], isGenerator := false, isCoroutine := false } [] pm c' ctv
/-- lambda digit: [][digit], called under a handled exception -/
theorem lam_bad {prog : Program} {w : World} {A A₀ : Around} {s : Shared} {L e : Addr} {h₀ base : Heap} {m mg mb : Str → Option Value} {news : List (Addr × Obj)} {loose : List Str} {p : Program} {mean : ExcName → Option Value}
    {env : Env} {outer : List Env} {qual : Str} {p0 p1 p2 p3 : Pos} {pm ctv : Value} {c' f : Addr} {K : Frag} {d : Int} {td : Tok} {Q : Value → Shared → Prop} {E : Value → Shared → Prop}
    (B : Below A₀ base outer h₀) (F : Fr h₀ L s.heap m) (X₀ : K.In h₀) (N : News h₀ L s.heap news) (T : Top p loose mean mg mb h₀) (hA : A.frames = some (env :: outer)) (hf : env.frame = some L) (hke : env.scope.kind = .function)
    (ho : (f, lamBad qual p0 p1 p2 p3 pm ctv c') ∈ news) (hcd : s.heap.CodeRec (.ref c') qual)
    (hroom : A.depth < recursionLimit) (hd0 : 0 ≤ d) (hd1 : d < 256) (hn : A.handled = some (.ref e)) (hC : ∀ g L h, News g L h news → Chn h e)
    (h0 : ∀ g' h' tk i, Fr h₀ L g' m → RaisedSN base g' (env :: outer) i (.type "IndexError") news h' → E2x (.ref e) h' i → g'.UpToSlots h' → E (.ref i) { s with heap := h', toks := tk }) :
    wpAny (model prog w) A (call (.ref f) [.int d td] []) Q E s := by
  refine wpAny_call (kla_code B F X₀ N T hA hf hke ho hcd hroom rfl (locs rfl) ?_ rfl rfl rfl (by decide))
  intro g L' h2 FG F1 N1 B1 X1 T1
  refine Subscript_ (List_ (args_nil (newList_N F1 N1 (fun h6 F6 N6 => ?_) (by simp [sizeLine]))))
  refine nameX_L F6 (by rfl) ?_
  have hl := News.isList N6 (.head _)
  refine item_out_held hn (hC _ _ _ (news_tail N6)) hl hd0 (by simpa using hd0) (by omega) fun h' tk i hx => ?_
  obtain ⟨ob, tp, he, hcls, hd⟩ := hx.there
  refine leave_anyX2 (A := A) B1 hx.keeps hx.new he hcls hd rfl rfl rfl F6 (news_tail N6) rfl rfl fun h3 R E2' U => ?_
  exact h0 g h3 tk i FG R E2' U
end Mine
end
section
open PySem PySem.W PySem.Calls PyProof.Rows
open PySem.Sem (wp)
set_option maxRecDepth 100000
set_option maxHeartbeats 4000000
namespace Mine
section
variable {prog : Program} {w : World} {A : Around} {E : Value → Shared → Prop} {s : Shared} {hd : Addr}
theorem pyNext_tuple_end_held {hb : Heap} {it t : Addr} {i : Nat} {items} {Q : Option Value → Shared → Prop} (hA : A.handled = some (.ref hd)) (C : Chn hb hd) (hk : ∀ b o, hb.get? b = some o → s.heap.get? b = some o) (hn : hb.get? it = none) (hz : hb.objs.size ≤ s.heap.objs.size)
    (hit : s.heap.IsTupleIter it t i) (ht : s.heap.IsTuple t items) (hx : items[i]? = none)
    (hQ : ∀ h', Heap.ExtBut it s.heap h' → Q none { s with heap := h' }) : wpAny (model prog w) A (pyNext (.ref it)) Q E s := by
  obtain ⟨o, ho, hc, hd'⟩ := id hit
  obtain ⟨ol, hol, _, nl, hdl⟩ := ht
  unfold pyNext
  refine wpAny_bind (wpAny_attempt (wpAny_callSpecial?_slot (name := Str.ofString "__next__") hit.typeIs F.slot_tuple_iterator_next
    (wpAny_call_entry F.slot_tuple_iterator_next hit.typeIs F.entry_tuple_iterator_next ?_ (F.args_tuple_iterator_next_1 _))))
  show wpAny _ _ (field (.ref it) 0 >>= _) _ _ s
  refine wpAny_bind (wpAny_field ho hd' (x := .ref t) rfl ?_)
  show wpAny _ _ (if (Value.ref t == Value.none) = true then _ else _) _ _ s
  rw [if_neg (show ¬ ((Value.ref t == Value.none) = true) from Bool.false_ne_true)]
  show wpAny _ _ (field (.ref it) 1 >>= _) _ _ s
  refine wpAny_bind (wpAny_field ho hd' (x := .int i 0) rfl ?_)
  show wpAny _ _ (seqItems? (.ref t) >>= _) _ _ s
  refine wpAny_bind (wpAny_seqItems hol hdl ?_)
  simp only [Int.toNat_natCast, hx]
  refine wpAny_bind (wpAny_rule (wpAny_bind (wpAny_setField ho hd' (by simp) ?_)))
  show wpAny _ _ (newExc (.type "StopIteration") [] >>= _) _ _ _
  refine wpAny_bind ?_
  simp only [newExc, newTuple]
  refine wpAny_bind (wpAny_newObj_type ?_ (by size_fits))
  refine wpAny_bind (m := firstArgMember _ _) (wpAny_of_eq (a := Value.none) (by first | rfl | (simp only [firstArgMember]; rfl)) ?_)
  refine wpAny_newObj_type ?_ (by size_fits)
  have hu : ∀ b o, hb.get? b = some o → (s.heap.update it (Obj.mapFields fun fs => fs.setIfInBounds 0 Value.none)).get? b = some o := fun b o e =>
    (Heap.get?_update_other _ _ (fun q => by rw [← q, hn] at e; cases e)).trans (hk b o e)
  refine raiseNew_held hA C (fun b o e => Heap.get?_push_of_some _ (Heap.get?_push_of_some _ (hu b o e))) (Heap.get?_none_of_le (by simp; omega)) (Heap.get?_push_size _ rfl) rfl (by rw [Array.size_append]; exact Nat.lt_of_lt_of_le (show 2 < 6 by decide) (Nat.le_add_right _ _)) fun h' hs he => ?_
  refine wpAny_bind (wpAny_isInstance (T := "StopIteration") (b := true) ⟨_, he, Obj.cls_mapFields ..⟩ isSubtype_stop ?_)
  refine wpAny_pure (hQ _ fun b ob hbi e => (hs.2 b fun q => ?_).trans (Heap.get?_push_of_some _ (Heap.get?_push_of_some _ ((Heap.get?_update_other _ _ (Ne.symm hbi)).trans e))))
  have hn : s.heap.get? b = none := by
    rw [q]
    exact Heap.get?_none_of_le (by simp)
  rw [hn] at e
  cases e
theorem unpackItems_tuple_held {t : Addr} {items : Array Value} {Q : List Value → Shared → Prop} (hA : A.handled = some (.ref hd)) (C : Chn s.heap hd) (ht : s.heap.IsTuple t items)
    (hQ : ∀ h', Heap.ExtBut s.heap.objs.size s.heap h' → Q items.toList { s with heap := h' }) : wpAny (model prog w) A (unpackItems (.ref t) items.size none) Q E s := by
  have hlt : t ≠ s.heap.objs.size := by obtain ⟨o, ho, _⟩ := ht; exact Nat.ne_of_lt (Heap.lt_size ho)
  unfold unpackItems
  refine wpAny_bind ?_
  · unfold notIterableAtAll
    refine wpAny_bind (wpAny_specialOf ht.typeIs F.slot_tuple_iter.lookup ?_)
    refine wpAny_pure ?_
    simp only [Bool.false_eq_true, if_false]
    refine wpAny_bind (wpAny_holding (wpAny_pyIter_tuple ht ?_))
    refine wpAny_bind (wpAny_holding (wpAny_draw_tuple hlt items.size 0 _ _ ⟨_, Heap.get?_push_size _ rfl, rfl, rfl⟩ (ht.push _) (by omega) fun h₁ hit₁ hs₁ => ?_))
    have hall : List.take items.size (List.drop 0 items.toList) = items.toList := by
      rw [List.drop_zero]; exact List.take_of_length_le (by simp)
    rw [hall]
    rw [if_neg (by simp)]
    have ht₁ : h₁.IsTuple t items := (ht.push _).extBut hs₁.extBut hlt
    have hlt' : ∀ b o, s.heap.get? b = some o → b ≠ s.heap.objs.size := fun b o e => Nat.ne_of_lt (Heap.lt_size e)
    refine wpAny_bind (wpAny_holding (pyNext_tuple_end_held hA C (fun b o e => hs₁.extBut b o (hlt' b o e) (Heap.get?_push_of_some _ e)) (Heap.get?_none_of_le (Nat.le_refl _)) (by have := hs₁.1; simp at this ⊢; omega) hit₁ ht₁ (by simp) fun h₂ he₂ => ?_))
    simp only [Option.isSome_none, Bool.false_eq_true, if_false]
    refine wpAny_pure (hQ h₂ fun b o hb e => he₂ b o hb (hs₁.extBut b o hb (Heap.get?_push_of_some _ e)))
theorem unpackN_held {env : Env} {h₀ : Heap} {L : Addr} {m : Str → Option Value} {news : List (Addr × Obj)} {elts : List Expr} {k} {pos : Pos} {t : Addr} {items : Array Value} {Q : Unit → Shared → Prop} (F : Fr h₀ L s.heap m) (N : News h₀ L s.heap news) (ht : IsTup s.heap t items)
    (hA : A.handled = some (.ref hd)) (C : Chn s.heap hd) (hn : (assignEach elts env).length = items.size) (hstar : (assignEach elts env).findIdx? (·.1) = none)
    (h : ∀ h', Fr h₀ L h' m → News h₀ L h' news → wpAny (model prog w) A (assignInOrder ((assignEach elts env).map (·.2)) items.toList) Q E { s with heap := h' }) :
    wpAny (model prog w) A (assign (.Tuple elts k pos) env (.ref t)) Q E s := by
  rw [assign_Tuple]
  refine wpAny_bind (wpAny_standAt ?_)
  unfold unpack
  rw [hn, hstar]
  exact wpAny_bind (wpAny_holding (unpackItems_tuple_held hA C ht fun h' he => h h' (F.extBut he (Nat.le_refl _)) (N.extBut he (Nat.le_refl _))))
end
end Mine
end
section
open PySem PySem.W PySem.Calls PyProof.Rows
set_option maxRecDepth 100000
set_option maxHeartbeats 8000000
namespace Mine
theorem from_long_bad {w : World} {s : Shared} {base₀ h₀ : Heap} {L e hd : Addr} {m mg mb : Str → Option Value} {env env1 : Env} {loose : List Str} {mean : ExcName → Option Value} {R : Result → Shared → Prop}
    {qual : Str} {p0 p1 p2 p3 : Pos} {pm ctv : Value} {c' f : Addr} {v b : Int} {tv tp tb : Tok} {oc' o1 o2 oe ohd : Obj} {vs' ve vh : Array Value} {tq' : Nat}
    (B : Below ((callerA.deeper env1).mark (some (.ref e))) base₀ [env1] h₀) (F : Fr h₀ L s.heap m) (X₀ : (hdX.heap_39 w.params).In h₀)
    (N : News h₀ L s.heap [(f, lamBad qual p0 p1 p2 p3 pm ctv c'), (c', oc'), (43, o1), (50, o2), (hd, ohd), (e, oe)]) (T : Top topProg loose mean mg mb h₀) (hf : env.frame = some L) (hke : env.scope.kind = .function)
    (XB : (hdX.heap_39 w.params).In base₀) (TB : Top topProg loose mean mg mb base₀)
    (hd' : oc'.data = .fields vs') (hq' : vs'[1]? = some (.str qual tq')) (he : oe.data = .fields ve) (he2 : ve[2]? = some (.ref hd)) (hh : ohd.data = .fields vh) (hh2 : vh[2]? = some .none)
    (hv : 0 < v) (hb : 2 ≤ b) (hb1 : b ≤ 200)
    (h : ∀ g' h' tk i x, Fr h₀ L g' m → RaisedSN base₀ g' [env, env1] i (.ref 24) [(43, o1), (50, o2)] h' → E2x (.ref x) h' i → g'.UpToSlots h' → R (.error (.ref i)) { s with heap := h', toks := tk }) :
    codeX (model PySem.Challenge.rw_fe0230_01.row.prog w) (((callerA.deeper env1).mark (some (.ref e))).deeper env) (.call (.ref 41) ⟨[.int v tv, .int 0 tp, .int b tb, .ref f], []⟩) R s := by
  w_top off
  k_with_none
  revert X₀ XB; k_fill; intro X₀ XB
  refine' codeX_def2 B F X₀ N T rfl hf hke ?k6 ?k7 ?k8 ?k9 ?kB ?_ ?c2 ?c3 ?c4 ?c5
  case k6 => k_is
  case k7 => k_is
  case k8 => k_room
  case k9 => exact BindsTo.of_eq rfl
  case c5 => decide
  case kB => exact locs rfl
  case c2 => exact rfl
  case c3 => exact rfl
  case c4 => exact rfl
  intro g L' h1 hgs FG F1 N1 B1 X1 T1
  refine wpX_execs_cons (wpX_Assign_Name (wpX_Call (nameX_B F1 X1 (topRead_of T1) (by k_is) boot_bytearray (by decide) (wpX_callWith_type (call_ba (by rfl) fun h2 hk2 ho2 => ?_)))))
  have hne : ∀ q ∈ [(f, lamBad qual p0 p1 p2 p3 pm ctv c'), (c', oc'), (43, o1), (50, o2), (hd, ohd), (e, oe)], q.1 ≠ h1.objs.size := fun q hq => Nat.ne_of_lt (Heap.lt_size (N1 q hq).1)
  have key : ∃ M0, Fr g L' h2 M0 ∧ M0 (Str.ofString "v") = some (.int v tv) ∧ M0 (Str.ofString "prefix") = some (.int 0 tp) ∧ M0 (Str.ofString "base") = some (.int b tb) ∧ M0 (Str.ofString "charset") = some (.ref f) := ⟨_, F1.keeps hk2, rfl, rfl, rfl, rfl⟩
  obtain ⟨M0, F2, mv, mp, mb', mc⟩ := key
  have N2 : News g L' h2 ((h1.objs.size, baObj #[]) :: _) := fun q hq => by
    rcases List.mem_cons.mp hq with rfl | hq
    · exact ⟨ho2, fun e => absurd F1.ns.lt (by rw [← e]; exact Nat.lt_irrefl _), by
        cases q : g.get? h1.objs.size with
        | none => rfl
        | some o => exact absurd (Heap.lt_size (F1.keep _ _ q)) (Nat.lt_irrefl _)⟩
    · exact ⟨hk2 _ _ (N1 q hq).1, (N1 q hq).2⟩
  dsimp only
  generalize h1.objs.size = ba at hne N2 ⊢
  clear F1 N1 hk2 ho2
  refine storeX_L F2 N2 ?_
  intro h3 F3 N3'
  clear F2 N2
  dsimp only
  refine wpX_execs_cons ?_
  have fm : FlM (fun y => if y = Str.ofString "ba" then some (Value.ref ba) else M0 y) v tv 0 tp b tb f ba := ⟨mv, mp, mb', mc, rfl⟩
  generalize (fun y => if y = Str.ofString "ba" then some (Value.ref ba) else M0 y) = M1 at F3 fm
  clear mv mp mb' mc
  refine wpX_While1 (by passes_own) ?_
  refine wpAny_isTrue_Compare1 (nameX_L F3 fm.v (wpAny_Constant_int (P.gt_int (wpAny_truthy_bool ⟨by exact decide_eq_true hv, ?_⟩))))
  refine wpX_execs_cons (wpX_Try_any (wpX_execs_any (Assign_Tuple (Call_ (nameX_B F3 X1 (topRead_of T1) (by k_is) (by boot_fast) (by decide) (callWith_builtin1 (args_cons (nameX_L F3 fm.v (args_cons (nameX_L F3 fm.base (args_nil
        (divmod_N F3 N3' (by omega) (fun h5 F5 N5 => ?_) (Or.inl (PyProof.noPylong_small (by omega)))))))))))))))
  have hC5 : Chn h5 e := .inr (.inl ⟨hd, ⟨oe, ve, N5.get (.tail _ (.tail _ (.tail _ (.tail _ (.tail _ (.tail _ (.tail _ (.head _)))))))), he, he2⟩, ⟨ohd, vh, N5.get (.tail _ (.tail _ (.tail _ (.tail _ (.tail _ (.tail _ (.head _))))))), hh, hh2⟩⟩)
  refine unpackN_held F5 N5 (News.isTup N5 (.head _)) rfl hC5 rfl rfl fun h6 F6 N6 => ?_
  refine assignInOrder_cons (assign_Name (storeX_L F6 N6 fun h7 F7 N7 => assignInOrder_cons (assign_Name (storeX_L F7 N7 fun h8 F8 N8 => assignInOrder_nil ?_))))
  clear F5 N5 F6 N6 F7 N7
  dsimp only
  have hm0 : 0 ≤ v.fmod b := Int.fmod_nonneg_of_pos _ (by omega)
  have hm1 : v.fmod b < b := Int.fmod_lt_of_pos _ (by omega)
  generalize v.fmod b = mo at hm0 hm1 F8
  generalize v.fdiv b = v'' at F8
  have N9 := news_tail N8
  clear N8
  have key8 : ∃ M8 tv8 tmo, Fr g L' h8 M8 ∧ FlM M8 v'' tv8 0 tp b tb f ba ∧ M8 (Str.ofString "mod") = some (.int mo tmo) := ⟨_, _, _, F8, ⟨rfl, fm.prefix_, fm.base, fm.charset, fm.ba⟩, rfl⟩
  obtain ⟨M8, tv8, tmo, F8', fm8, mm8⟩ := key8
  clear F8 F3 fm N3'
  refine wpX_execs_cons (wpX_Expr (wpX_MethodCall (nameX_L F8' fm8.ba ?_)))
  refine getMethod_ba (N9.get (.head _)) ba_slot_append ba_type_append ?_
  refine wpX_method1 (args_cons (Call_ (nameX_L F8' fm8.charset ?_)))
  refine callWith_def (o := lamBad qual p0 p1 p2 p3 pm ctv c') rfl (args_cons (nameX_L F8' mm8 (args_nil ⟨N9.get (.tail _ (.head _)), ?_⟩)))
  have hC : ∀ g L h, News g L h ((ba, baObj #[]) :: [(f, lamBad qual p0 p1 p2 p3 pm ctv c'), (c', oc'), (43, o1), (50, o2), (hd, ohd), (e, oe)]) → Chn h e := fun g L h N =>
    .inr (.inl ⟨hd, ⟨oe, ve, N.get (.tail _ (.tail _ (.tail _ (.tail _ (.tail _ (.tail _ (.head _))))))), he, he2⟩, ⟨ohd, vh, N.get (.tail _ (.tail _ (.tail _ (.tail _ (.tail _ (.head _)))))), hh, hh2⟩⟩)
  refine lam_bad B1 F8' X1 N9 T1 rfl rfl rfl (.tail _ (.head _)) (codeRec_news N9 (.tail _ (.tail _ (.head _))) hd' hq') (by k_room) hm0 (by omega) rfl hC ?_
  intro g5 h5 tk5 i F5 R5 C5 U5
  have off5 : g5.get? i = none := raisedSN_off R5
  refine caught_X0 (T' := "Exception") R5 C5 F5 B1 U5 XB TB (by k_is) (by boot_fast) (by decide) PySem.F.isExc_Exception PySem.F.notTuple_Exception (by rw [isSubtype_type]; kernel_rfl) ?_
  intro h6 g6 T6' F6 N6 B6 X6 T6 C6
  dsimp only
  clear F8' N9
  refine wpAny_execs_cons ?_
  refine Raise_ownH (bm := [.type "ValueError", .type "Exception", .type "BaseException", .type "object"]) (newId := "ValueError.__new__") F6 (TopRead.g (topRead_of T6)) (own_of_in X6 (topRead_of T6) (by k_is) (by k_exc)) PySem.F.excBase_ValueError rfl ?_
  refine args_cons (wpAny_BinOp (wpAny_Constant_str (nameX_L F6 mm8 ?_)))
  k_steps
  · exact F6.keep
  · exact .inr (.inr ⟨e, hd, C6, ⟨oe, ve, N6.get (.tail _ (.tail _ (.tail _ (.tail _ (.tail _ (.tail _ (.head _))))))), he, he2⟩, ⟨ohd, vh, N6.get (.tail _ (.tail _ (.tail _ (.tail _ (.tail _ (.head _)))))), hh, hh2⟩⟩)
  rename_i y1 y2 y3
  have Nz : News g6 L' h6 [(43, o1), (50, o2)] := fun q hq => by
    rcases List.mem_cons.mp hq with rfl | hq
    · exact N6 _ (.tail _ (.tail _ (.tail _ (.head _))))
    rw [List.mem_singleton.mp hq]
    exact N6 _ (.tail _ (.tail _ (.tail _ (.tail _ (.head _)))))
  refine leave_anyX2 B6 y1 y2 y3 rfl rfl rfl rfl rfl F6 Nz rfl rfl fun h7 R7 E7 U7 => ?_
  exact h g h7 _ _ i FG (raisedSN_turn T6' R7) E7 ((turn_upTo T6').trans U7)
end Mine
end
section
open PySem PySem.W PySem.Calls PyProof.Rows
set_option maxRecDepth 100000
set_option maxHeartbeats 8000000
namespace Mine
section
variable {prog : Program} {w : World} {A₀ A : Around} {s : Shared} {base h₀ : Heap} {outer : List Env} {L : Addr} {m mg mb : Str → Option Value} {env : Env} {news : List (Addr × Obj)} {K : Frag} {p : Program} {loose : List Str} {mean : ExcName → Option Value}
  {R : Result → Shared → Prop} {name qual : Str} {params : Arguments} {body : List Stmt} {scope : Scope} {dV kV doc pm cdv ct oc : Value} {an od : Option Addr} {osl : Array (Option Value)} {f : Addr} {args : Args} {binds : List (Str × Value)}
/-- a function that may catch, called from a single frame -/
theorem codeX_def0 (B : Below A₀ base [] h₀) (F : Fr h₀ L s.heap m) (X₀ : K.In h₀) (N : News h₀ L s.heap news) (T : Top p loose mean mg mb h₀) (hA : A.frames = some [env]) (hf : env.frame = some L) (hke : env.scope.kind = .function)
    (ho : K.lookup f = some ⟨oc, od, .func (fnOf name qual params body scope dV kV doc pm an cdv ct), osl⟩) (hcd : codeIn K cdv qual = true) (hroom : A.depth < recursionLimit)
    (hbind : BindsTo s (fnOf name qual params body scope dV kV doc pm an cdv ct) args binds) (hloc : ∀ y ∈ binds, scope.names.lookup y.1 = some .local)
    (h : ∀ g L' h₁, Fr h₀ L g m → Fr g L' h₁ (fun y => binds.reverse.lookup y) → News g L' h₁ news → Below A base [env] g → K.In g → Top p loose mean mg mb g →
      wpX (model prog w) (A.deeper (envOf qual scope L' f cdv)) (execs body (envOf qual scope L' f cdv))
        (fun fl s' => LeaveS0 ([env].filterMap (·.frame)) h₀ L m g R (match fl with | .ret v => v | _ => .none) s')
        (fun e s' => wpAny (model prog w) (A.deeper (envOf qual scope L' f cdv)) (leaving (envOf qual scope L' f cdv) e) (fun _ s'' => R (.error e) s'') (fun e' s'' => R (.error e') s'') s')
        { s with heap := h₁, toks := s.toks + binds.length })
    (hco : scope.isCoroutine = false) (hgen : scope.isGenerator = false) (hk : scope.kind = .function) (hcell : ∀ x ∈ scope.names, x.2 ≠ .cell) : codeX (model prog w) A (.call (.ref f) args) R s := by
  obtain ⟨FG, BG, st, lv⟩ := groundX (R := R) B F N hA hf hke
  refine codeX_call_function (fd := fnOf name qual params body scope dV kV doc pm an cdv ct) hroom ((X₀.keeps F.keep) _ _ ho) rfl hco hgen rfl (codeRec_of (X₀.keeps F.keep) hcd) (hbind _ _ _ _ ?_)
  refine wpAny_newFunctionEnv hcell hloc (fun h₁ hns hsb => ⟨(T.nolimit.keeps F.keep).fresh _ hsb, codeX_func ?_⟩) hk
  have hk₁ : ∀ b o, s.heap.get? b = some o → h₁.get? b = some o := fun b o e => hsb.extBut b o (Nat.ne_of_lt (Heap.lt_size e)) (Heap.get?_push_of_some _ e)
  refine wpX_mono (h _ s.heap.objs.size h₁ FG ⟨hns, fun b o e => hk₁ b o (of_hideAll _ e), Nat.le_of_eq (hideAll_size _ _)⟩
    (fun p hp => ⟨hk₁ _ _ (N p hp).1, Nat.ne_of_lt (Heap.lt_size (N p hp).1), hideAll_none _ (List.mem_map_of_mem hp)⟩) BG (X₀.keeps st) (T.keeps st)) (fun fl s' hl => ?_) fun _ _ y => y
  obtain ⟨g', L', m', news', T', F', N', k⟩ := hl
  have nL₀ : h₀.get? L = none := kts_self F
  have hmem : ∀ b, b ∈ [env].filterMap (·.frame) → b = L := fun b hb => by simpa [hf] using hb
  obtain ⟨oL, es, ep, hLg, hLd, hLk, hLf⟩ := FG.ns
  obtain ⟨sl, hs⟩ := T'.up hLg
  refine k ⟨⟨_, es, ep, F'.keep _ _ hs, hLd, hLk, hLf⟩, fun b o e => F'.keep b o (T'.other b o (st b o e) (fun q => by
    rw [hmem b q, nL₀] at e
    cases e)), F.above⟩ fun p hp => ⟨(N' p hp).1, fun q => ?_, ?_⟩
  · have := (N' p hp).2.2; rw [q, hs] at this; cases this
  · cases q : h₀.get? p.1 with
    | none => rfl
    | some o =>
      obtain ⟨sl', hs'⟩ := T'.up (st _ _ q)
      have := (N' p hp).2.2
      rw [hs'] at this
      cases this
end
theorem law_refused_ok {w : World} {s : Shared} {base h₀ : Heap} {L e hd : Addr} {m mg mb : Str → Option Value} {env : Env} {loose : List Str} {mean : ExcName → Option Value} {R : Result → Shared → Prop}
    {v b : Int} {tv tb : Tok} {o2 oe ohd : Obj} {ve vh : Array Value}
    (B : Below callerA base [] h₀) (F : Fr h₀ L s.heap m) (X₀ : (hdX.heap_39 w.params).In h₀) (N : News h₀ L s.heap [(43, tabObj #[]), (50, o2), (hd, ohd), (e, oe)]) (T : Top topProg loose mean mg mb h₀) (C : CodeHd base 47 43) (XB : (hdX.heap_39 w.params).In base) (TB : Top topProg loose mean mg mb base) (hf : env.frame = some L) (hke : env.scope.kind = .function)
    (he : oe.data = .fields ve) (he2 : ve[2]? = some (.ref hd)) (hh : ohd.data = .fields vh) (hh2 : vh[2]? = some .none)
    (hv : 0 < v) (hb : 2 ≤ b) (hb1 : b ≤ 200)
    (h : ∀ h' tk xs, Fr h₀ L h' m → News h₀ L h' [(43, tabObj xs), (50, o2)] → R (.ok (.ret (.bool true))) { s with heap := h', toks := tk }) :
    codeX (model PySem.Challenge.rw_fe0230_01.row.prog w) ((callerA.deeper env).mark (some (.ref e))) (.call (.ref 48) ⟨[.int v tv, .int b tb], []⟩) R s := by
  have ne1 : hd ≠ 43 := fun q => by
    have h1 := (N _ (.head _)).1
    have h2 := (N _ (.tail _ (.tail _ (.head _)))).1
    dsimp only at h1 h2
    rw [q, h1] at h2; cases h2; cases hh; simp at hh2
  have ne2 : e ≠ 43 := fun q => by
    have h1 := (N _ (.head _)).1
    have h2 := (N _ (.tail _ (.tail _ (.tail _ (.head _))))).1
    dsimp only at h1 h2
    rw [q, h1] at h2; cases h2; cases he; simp at he2
  w_top off
  k_with_none
  revert X₀ XB; k_fill; intro X₀ XB
  refine' codeX_def0 B F X₀ N T rfl hf hke ?k6 ?k7 ?k8 ?k9 ?kB ?_ ?c2 ?c3 ?c4 ?c5
  case k6 => k_is
  case k7 => k_is
  case k8 => k_room
  case k9 => exact BindsTo.of_eq rfl
  case c5 => decide
  case kB => exact locs rfl
  case c2 => exact rfl
  case c3 => exact rfl
  case c4 => exact rfl
  intro g L' h1 FG F1 N1 B1 X1 T1
  dsimp only at F1
  dsimp only
  refine wpX_execs_cons (wpX_Try (wpX_execs_cons (wpX_Expr (wpX_Call ?_))))
  k_steps
  refine wpX_callWith_K X1 (by k_is) ?_ ?a ?b ?c
  (case a => rfl)
  (case b => rfl)
  (case c => exact Nat.le_of_ble_eq_true rfl)
  k_steps
  · rename Fr g L' _ _ => Fz
    exact Fz.keep
  refine wpX_call (from_long_bad B1 (by assumption) X1 (by assumption) T1 rfl rfl XB TB (by assumption) (by assumption) he he2 hh hh2 hv hb hb1 ?_)
  intro g7 h7 tk7 i x F7 R7 E7 U7
  dsimp only
  refine caught_ownX (bmB := [.type "ValueError", .type "Exception", .type "BaseException", .type "object"]) (newId := "ValueError.__new__") R7 E7 F7 B1 U7 XB TB (by k_is) (by k_exc) (by decide) ?_
  intro h8 g8 T8 F8 N8 B8 X8 TT8 E8 off8
  refine wpX_execs_cons (wpX_Return (wpX_any ?_))
  k_steps
  exact h _ _ _ (by assumption) (by assumption)
end Mine
end
section
open PySem PySem.W PySem.Calls PyProof.Rows
set_option maxRecDepth 100000
namespace Mine
theorem digs_KIn {digs : List Int} {base : Int} (h : ∀ d ∈ digs, 0 ≤ d ∧ d < base) (hb : base ≤ 200) : KBa.In digs := by
  intro n hn
  have := h n hn
  omega
theorem signs_len {b : Int} (hb : 2 ≤ b) : ((rangeKs 0 (b - 0).toNat).length : Int) = b := by rw [rangeKs_length]; omega
theorem signs_get {b : Int} (d : Int) (h0 : 0 ≤ d) (h1 : d < b) : (rangeKs 0 (b - 0).toNat).getD d.toNat 0 = d := by rw [kll_at (by omega)]; omega
theorem byteArr_one (digs : List Int) (b : Int) : byteArr digs ++ #[b.toNat.toUInt8] = byteArr (digs ++ [b]) := by rw [byteArr_app]; rfl
/-- back at the one frame: nothing of the ground was turned -/
theorem fr_turn0 {g g' h : Heap} {L : Addr} {m : Str → Option Value} (T : KtsTurn [] g g') (F : Fr g' L h m) : Fr g L h m := ⟨F.ns, fun b o e => F.keep b o (T.other b o e (List.not_mem_nil)), by rw [← T.size]; exact F.above⟩
theorem news_turn0 {g g' h : Heap} {L : Addr} {news : List (Addr × Obj)} (T : KtsTurn [] g g') (N : News g' L h news) : News g L h news := fun q hq => ⟨(N q hq).1, (N q hq).2.1, by
  cases q' : g.get? q.1 with
  | none => rfl
  | some o =>
    have := (N q hq).2.2
    rw [T.other _ _ q' (List.not_mem_nil)] at this; cases this⟩
theorem none_turn0 {g g' : Heap} {e : Addr} (T : KtsTurn [] g g') (n : g'.get? e = none) : g.get? e = none := by
  cases q' : g.get? e with
  | none => rfl
  | some o =>
    rw [T.other _ _ q' (List.not_mem_nil)] at n; cases n
/-- the exception itself joins the ledger -/
theorem news_exc {g h : Heap} {L e : Addr} {m : Str → Option Value} {cx : Value} {a b c d : Addr × Obj} (F : Fr g L h m) (N : News g L h [a, b, c, d]) (h2 : E2x cx h e) (off : g.get? e = none) :
    ∃ o vs, o.data = .fields vs ∧ vs[2]? = some cx ∧ News g L h [a, b, c, d, (e, o)] := by
  obtain ⟨o, vs, ho, hv, hz⟩ := h2
  have neL : e ≠ L := fun q => by
    obtain ⟨oL, es, ep, hL, hLd, _⟩ := F.ns
    rw [q, show h.get? L = some oL from hL] at ho
    cases ho
    rw [hv] at hLd
    cases hLd
  refine ⟨o, vs, hv, hz, fun q hq => ?_⟩
  rcases List.mem_append.mp (show q ∈ [a, b, c, d] ++ [(e, o)] from hq) with hq | hq
  · exact N q hq
  · rw [List.mem_singleton.mp hq]
    exact ⟨ho, neL, off⟩
theorem news_drop3 {g h : Heap} {L : Addr} {a b c d e : Addr × Obj} (N : News g L h [a, b, c, d, e]) : News g L h [a, b, d, e] := fun q hq => by
  simp only [List.mem_cons, List.not_mem_nil, or_false] at hq
  rcases hq with rfl | rfl | rfl | rfl
  · exact N _ (.head _)
  · exact N _ (.tail _ (.head _))
  · exact N _ (.tail _ (.tail _ (.tail _ (.head _))))
  · exact N _ (.tail _ (.tail _ (.tail _ (.tail _ (.head _)))))
end Mine
end
section
open PySem PySem.W PyProof.Rows PySem.Calls
set_option maxRecDepth 100000
set_option maxHeartbeats 40000000
namespace Mine
structure InvMark : Prop where
/-- where the law may end -/
def EndAt (gh : Heap) (L : Addr) (s s' : Shared) : Prop := ∃ h' tk m' xs ys, s' = { s with heap := h', toks := tk } ∧ Fr gh L h' m' ∧ News gh L h' [(43, tabObj xs), (50, tabObj ys)]
theorem wpX_abs {α : Type} {M : Model} {A : Around} {t : Sem α} {Q : α → Shared → Prop} {E : Value → Shared → Prop} {s : Shared} (v : α) (Good : Shared → Prop) (hg : ∀ s', Good s' → Q v s')
    (h : ∀ Q' E', (∀ s', Good s' → Q' v s') → wpX M A t Q' E' s) : wpX M A t Q E s := h Q E hg
structure UnrMark : Prop where
local macro_rules | `(tactic| walk_at "InvEndN") => `(tactic| k_dflt ((have kIM := (by assumption : Mine.InvMark)); clear kIM; kst_close))
local macro_rules | `(tactic| walk_at "UnrEnd") => `(tactic| k_dflt (refine ⟨_, _, _, _, rfl, by assumption, by assumption, ?_, rfl, ⟨_, _, _, _, rfl, rfl, Mine.dueInv_snoc (by assumption)⟩, ?_⟩))
local macro_rules | `(tactic| walk_at "UnrEnd") => `(tactic| k_dflt ((have kUM := (by assumption : Mine.UnrMark)); clear kUM; refine ⟨_, _, _, _, rfl, by assumption, by assumption, by k_all, rfl, ⟨_, _, _, _, rfl, rfl, Mine.dueInv_snoc (by assumption)⟩, by intro z hz1 hz2 hz3; simp only [if_neg hz1, if_neg hz2, if_neg hz3]⟩))
local macro_rules | `(tactic| walk_at "InvEndN") => `(tactic| k_dflt ((have kIM := (by assumption : Mine.InvMark)); clear kIM; kst_close))
theorem law_holds : PySem.Challenge.rw_fe0230_01.Holds := by
  refine hdX ?_
  w_strict (
    k_fill
    intro w s₀ s₁ mg mb G Y fa o pm cd doc dV kV ho hd hcd hD hmg hg args vals as hpre hlay hrd hwl hlo
    have KX := km_in_of Y
    km_tabs Y
    have X := (Ground.X G).1
    have V := (Ground.X G).2
    refine Ground.open G ?_
    intro T B D TE TW
    try (refine guard_noD D (by decide +kernel) ?_; clear D)
    km_lay T hmg ho hd cd
    clear hmg
    wrow_args hpre hlay hrd hwl hlo
    refine Mine.enter_callX ?_
    w_top on
    refine Mine.kn_postX hT9 (fun _ _ => rfl) ?_
    (have he := Dflts.none hD rfl; subst he; have he := Dflts.noKw hD; subst he)
    refine Mine.call_cellsX (by decide) ho (fd_plain hd) (Top.nolimit T) hcd rfl (kinds_of (by kinds_ok)) (by decide) fun h₁ tk₁ cells F N0 X0 => ?_
    cells_open X0
    clear hd
    kn_ghosts F T
    k_drop
    try k_fold)
  dsimp only
  refine Mine.wpX_abs (.ret (.bool true)) (Mine.EndAt (ghostOf s₁.heap [(47, 43), (52, 50)]) s₁.heap.objs.size s₁) ?_ ?_
  · rintro _ ⟨h', tk, m', xs, ys, rfl, F', N'⟩
    dsimp only
    k_steps
  intro Qk Ek hQ
  rename_i z32 z31 z30 z29 z28 z27 z26 z25 z24 z23 z22 z21 z20 z19 z18 z17 z16 z15 z14 z13 z12 z11 z10 z9 z8 z7 z6 z5 z4 z3 z2 z1
  clear z31 z30 z29 z28 z27 z20 z19 z18 z16 z14 G Y hD ho hcd X V T B TE TW hT9 hT8 hg
  w_top off
  k_with_none
  refine wpX_execs_any ?_
  k_steps
  rename List Int => ns
  have hlenN : (List.map (fun k' : Int => if k' < 0 then -k' else k') (ns ++ [4, 1, 2, 0])).length = ns.length + 4 := by simp
  generalize List.map (fun k' : Int => if k' < 0 then -k' else k') (ns ++ [4, 1, 2, 0]) = nums at *
  rename_i y21 y20 y19 y18 y17 y16 y15 y14 y13 y12 y11 y10 y9 y8 y7 y6 y5 y4 y3 y2 y1
  clear y14 y15 y13 y12 y19 y10 y11
  replace y4 := trimA y4
  replace y3 := y3.2.2
  try dsimp only
  refine wpX_execs_any ?_
  k_steps
  have hb := num_fmod (nums := nums) 0 199 (by decide)
  rename _ = Data.cell (some (Value.int (2 + _) _)) => hcb
  have hcb' : ∃ t, _ = Data.cell (some (Value.int _ t)) := ⟨_, hcb⟩
  clear hcb
  generalize (nums.getD (Int.toNat 0) 0).fmod 199 = base0 at *
  obtain ⟨tb, hcb⟩ := hcb'
  have hb2 : 2 ≤ 2 + base0 := by omega
  have hb200 : 2 + base0 ≤ 200 := by omega
  clear hb
  generalize 2 + base0 = base at *
  try dsimp only
  refine wpX_execs_any ?_
  k_steps
  have ho := num_fmod (nums := nums) 1 199 (by decide)
  generalize (nums.getD (Int.toNat 1) 0).fmod 199 = other0 at *
  have ho2 : 2 ≤ 2 + other0 := by omega
  have ho200 : 2 + other0 ≤ 200 := by omega
  clear ho
  generalize 2 + other0 = other at *
  try dsimp only
  refine wpX_execs_any ?_
  k_steps
  have hs := num_fmod (nums := nums) 2 50 (by decide)
  rename _ = Data.cell (some (Value.int (Int.fmod _ _) _)) => hcs
  have hcs' : ∃ t, _ = Data.cell (some (Value.int _ t)) := ⟨_, hcs⟩
  clear hcs
  generalize (nums.getD (Int.toNat 2) 0).fmod 50 = shift at *
  obtain ⟨ts, hcs⟩ := hcs'
  obtain ⟨hs0, hs50⟩ := hs
  try dsimp only
  w_top off
  k_with_none
  rename_i q10 q9 q8 q7 q6 q5 q4 q3 q2 q1
  refine wpX_execs_any ?_
  k_steps
  rename_i r49 r48 r47 r46 r45 r44 r43 r42 r41 r40 r39 r38 r37 r36 r35 r34 r33 r32 r31 r30 r29 r28 r27 r26 r25 r24 r23 r22 r21 r20 r19 r18 r17 r16 r15 r14 r13 r12 r11 r10 r9 r8 r7 r6 r5 r4 r3 r2 r1
  generalize hD : (List.map (fun k' : Int => (0:Int)) (rangeKs 0 ((nums.getD (Int.toNat 3) 0).fmod 3 - 0).toNat) ++ List.map (fun k' : Int => (k'.fdiv 5).fmod base) (List.take 30 nums)) = digs at *
  have hdig := Mine.digs_inB hb2 hD
  have hlen := Mine.digs_lenB (by omega) hD
  clear hD
  replace r4 := r4.2.2.2.2
  replace r1 := trimB r1
  clear r9 r29 r22 r42 r41 r39 r40 r38 r37 r34 r33 r25 r24 r23 r21 r20 r19 r18 r17 r16 r14 r13 
  try dsimp only
  refine wpX_execs_any ?_
  k_steps
  w_top off
  k_with_none
  rename_i q14 q13 q12 q11 q10 q9 q8 q7 q6 q5 q4 q3 q2 q1
  clear q13
  refine' KBa.make_K ?kbaFY3 ?kbaNY3 ?kbahY3 ?kbalY3 ?kbaiY3 ?kbarY3 ?kbanY3 ?_
  (case kbaFY3 => exact q3)
  (case kbaNY3 => exact q2)
  (case kbahY3 => rfl)
  (case kbalY3 => kba_isList)
  (case kbaiY3 => exact q8)
  (case kbarY3 => exact Mine.row_in ‹_› ‹_› ‹_› ‹_›)
  (case kbanY3 => rw [List.length_map]; exact Nat.le_trans ‹_ ≤ 32› (by decide))
  intro h2 tr tk2 F2 N2 hrowIn
  have N2' := news_tail N2
  clear N2 q3 q2 q1 q8 q7 q12 q11 q10 y3
  k_steps
  refine wpX_execs_any ?_
  have im : Mine.InvMark := ⟨⟩
  k_with "pyIter bytes" => k_state (fun pre p v => Mine.ToInv base shift pre p v) "prefix" "v"
  k_with "state" => first
    | exact Mine.toInv_nil _ _
    | exact Mine.toInv_zero (by assumption) (Mine.prefix_le (fun d hd => (hdig d hd).1) (by assumption)) (by assumption) (by assumption)
    | exact Mine.toInv_pos (by assumption) (Mine.prefix_le (fun d hd => (hdig d hd).1) (by assumption)) (by assumption) (by assumption)
  k_steps
  k_with_none
  all_goals clear im
  w_top off
  k_with_none
  rename_i q45 q44 q43 q42 q41 q40 q39 q38 q37 q36 q35 q34 q33 q32 q31 q30 q29 q28 q27 q26 q25 q24 q23 q22 q21 q20 q19 q18 q17 q16 q15 q14 q13 q12 q11 q10 q9 q8 q7 q6 q5 q4 q3 q2 q1
  clear q9 q10 q24 q23 q22 q8 q28 q29 q30 q31 q15 q14 q13 q7 q45
  replace q1 := trimD q1
  rename Mine.ToInv base shift _ _ _ => hTo
  obtain ⟨e1, e2⟩ := toInv_digs hTo
  clear hTo
  subst e1 e2
  try dsimp only
  refine wpX_execs_any ?_
  k_steps
  try dsimp only
  refine wpX_execs_any ?_
  k_steps
  try dsimp only
  refine wpX_execs_any ?_
  w_top off
  k_with_none
  rename_i t8 t7 t6 t5 t4 t3 t2 t1
  refine wpAny_calm ?_
  k_steps
  rename_i D5 h5 F5 N5 l5
  refine Mine.rev_loop2 (y1 := Str.ofString "due") (y2 := Str.ofString "power") (Mine.DueInv base) rfl F5 N5 (by k_offL) (by k_mem) r5 rfl rfl (Mine.dueInv_nil base) ?_ ?_
  · intro pre post d a b t ta tb it h tk hpre hP F' N'
    clear F5 N5
    have um5 : Mine.UnrMark := ⟨⟩
    have hd : 0 ≤ d ∧ d < base := hdig d (List.mem_reverse.mp (by rw [hpre]; exact List.mem_append_right _ (.head _)))
    k_steps
  intro a b ta tb u h tk hP F' N'
  clear F5 N5
  try dsimp only
  obtain ⟨e1, e2⟩ := hP
  rw [List.reverse_reverse] at e1
  subst e1
  w_top off
  k_with_none
  refine wpX_execs_any ?_
  k_steps
  dsimp only
  rename_i t5 t4 t3 t2 t1
  have hkr : r7.length = digs.length := IntsAre.length r5
  refine wpX_execs_cons (while_scan (ds := digs) t2 t1 ?_ ?_)
  · intro a1 ta1 h1 tk1 z1 F1 N1
    clear t2 t1
    have z0 := z1.1
    k_steps
    all_goals first
      | exact zeroTo_end1 z1 (by omega)
      | exact zeroTo_end2 z1 (by omega) (by assumption)
      | exact ⟨_, _, _, rfl, by assumption, by assumption, z1⟩
      | exact ⟨_, _, _, rfl, fr_twice (by assumption), by assumption, zeroTo_step z1 (by assumption) (by assumption)⟩
  intro ta1 h1 tk1 F1 N1
  clear t2 t1
  dsimp only
  w_top off
  k_with_none
  refine wpX_execs_any ?_
  k_steps
  try dsimp only
  rename_i t11 t10 t9 t8 t7 t6 t5 t4 t3 t2 t1
  replace t2 := trimE t2
  clear t1 t6
  refine wpX_execs_cons (wpX_Assign_Name (wpX_Call ?_))
  k_steps
  refine wpX_callWith_K (by assumption) (by k_is) ?_ ?aY7 ?bY7 ?cY7
  (case aY7 => rfl)
  (case bY7 => rfl)
  (case cY7 => exact Nat.le_of_ble_eq_true rfl)
  k_steps
  · rename_i n19 n18 n17 n16 n15 n14 n13 n12 n11 n10 n9 n8 n7 n6 n5 n4 n3 n2 n1
    exact Fr.keep n6
  rename_i n19 n18 n17 n16 n15 n14 n13 n12 n11 n10 n9 n8 n7 n6 n5 n4 n3 n2 n1
  have hvs := val_small hb2 hb200 hdig hlen
  have hal := ahead_le digs
  have Xd : (hdX.heap_39 w.params).In (ghostOf s₁.heap [(47, 43), (52, 50)]) := by assumption
  refine wpX_call (from_long_ok (p := ahead digs) (by assumption) n6 Xd n5 (by assumption) rfl rfl (.head _) (.tail _ (.head _)) (.tail _ (.tail _ (.tail _ (.tail _ (.head _))))) n4 n3 hcs
    hvs.1 hvs.2 (by omega) (by omega) hs0 hs50 (by omega) ?_)
  intro hk8 tk8 t8' top keep8 F8 hv8 hl8 hd8 hlen8
  show wpAny _ _ _ _ _ _
  w_top off
  k_with_none
  have N8 := News.keeps n5 keep8
  obtain ⟨v2, l2, d2, len2⟩ := told_row (p := ahead digs) ho2 hv8 hl8 hd8 (by omega) hlen8
  generalize List.replicate (ahead digs) 0 ++ top = ds2 at *
  clear hv8 hl8 hd8 hlen8 n5 n6
  dsimp only
  k_steps
  w_top off
  k_with_none
  rename_i q3 q2 q1
  replace q1 := trimE q1
  have hrow2 : KBa.In (List.map (fun k' => k' + shift) ds2) := Mine.row_in d2 ho200 hs0 hs50
  clear keep8 n1 n2 n3 n4 Xd F' N'
  try dsimp only
  refine wpX_execs_any ?_
  have im : Mine.InvMark := ⟨⟩
  k_with "pyIter bytes" => k_state (fun pre p v => Mine.ToInv other shift pre p v) "prefix" "v"
  k_with "state" => first
    | exact Mine.toInv_nil _ _
    | exact Mine.toInv_zero (by assumption) (Mine.prefix_le (fun d hd => (d2 d hd).1) (by assumption)) (by assumption) (by assumption)
    | exact Mine.toInv_pos (by assumption) (Mine.prefix_le (fun d hd => (d2 d hd).1) (by assumption)) (by assumption) (by assumption)
  k_steps
  k_with_none
  all_goals clear im
  rotate_left
  · rename Mine.ToInv other shift _ _ _ => hTo
    obtain ⟨e1, e2⟩ := toInv_digs hTo
    rw [v2] at e1
    rw [l2] at e2
    exfalso
    subst e1 e2
    have ht : ((val base digs == val base digs) && ((ahead digs : Int) == lead digs)) = true := Bool.and_eq_true_iff.mpr ⟨beq_self_eq_true _, beq_self_eq_true (lead digs)⟩
    have hf : ((val base digs == val base digs) && ((ahead digs : Int) == lead digs)) = false := by assumption
    rw [ht] at hf
    cases hf
  dsimp only
  rename_i u50 u49 u48 u47 u46 u45 u44 u43 u42 u41 u40 u39 u38 u37 u36 u35 u34 u33 u32 u31 u30 u29 u28 u27 u26 u25 u24 u23 u22 u21 u20 u19 u18 u17 u16 u15 u14 u13 u12 u11 u10 u9 u8 u7 u6 u5 u4 u3 u2 u1
  w_top off
  k_with_none
  replace u3 := trimE (trimE u3)
  clear u1 u2 u10 u11 u25 u24 u23 u9 u30 u29 u31 u32 u7 u8
  refine wpX_execs_cons (wpX_If (wpX_isTrue_Compare1 (wpX_Call ?_)))
  k_steps
  refine wpX_callWith_K (by assumption) (by k_is) ?_ ?aY10 ?bY10 ?cY10
  (case aY10 => rfl)
  (case bY10 => rfl)
  (case cY10 => exact Nat.le_of_ble_eq_true rfl)
  k_steps
  · rename_i n14 n13 n12 n11 n10 n9 n8 n7 n6 n5 n4 n3 n2 n1
    exact Fr.keep n6
  rename_i m14 m13 m12 m11 m10 m9 m8 m7 m6 m5 m4 m3 m2 m1
  have hvs := val_small hb2 hb200 hdig hlen
  have hal := ahead_le digs
  have Xd : (hdX.heap_39 w.params).In (ghostOf s₁.heap [(47, 43), (52, 50)]) := by assumption
  refine wpX_call (from_long_ok (p := ahead digs) z5 m6 Xd m5 z6 rfl rfl (.head _) (.tail _ (.head _)) (.tail _ (.tail _ (.tail _ (.tail _ (.head _))))) m4 m3 hcs
    hvs.1 hvs.2 (by omega) (by omega) hs0 hs50 (by omega) ?_)
  clear Xd
  intro hk8 tk8 t8' top keep8 F8 hv8 hl8 hd8 hlen8
  have N8 := News.keeps m5 keep8
  have er := row_unique hb2 hdig hd8 hl8 hv8 (rfl : lead digs = (ahead digs : Int))
  rw [er]
  clear er hv8 hl8 hd8 hlen8 m5 m6 keep8 hvs
  replace N8 := trimE N8
  show wpAny _ _ _ _ _ _
  k_steps
  · exfalso
    have hf : ((byteArr (List.map (fun d => d + shift) digs)).toList != (byteArr (List.map (fun d => d + shift) digs)).toList) = true := by assumption
    rw [bne_self_eq_false] at hf
    cases hf
  refine wpX_execs_nil ?_
  dsimp only
  w_top off
  k_with_none
  refine wpX_execs_any ?_
  k_steps
  try dsimp only
  rename_i y25 y24 y23 y22 y21 y20 y19 y18 y17 y16 y15 y14 y13 y12 y11 y10 y9 y8 y7 y6 y5 y4 y3 y2 y1
  clear y20 y14 y13
  w_top off
  k_with_none
  refine wpX_execs_cons (wpX_Try (wpX_execs_cons (wpX_Expr (wpX_Call ?_))))
  k_steps
  refine wpX_callWith_K z7 (by k_is) ?_ ?aY12 ?bY12 ?cY12
  (case aY12 => rfl)
  (case bY12 => rfl)
  (case cY12 => exact Nat.le_of_ble_eq_true rfl)
  k_steps
  refine' KBa.make_K ?kbaFY12 ?kbaNY12 ?kbahY12 ?kbalY12 ?kbaiY12 ?kbarY12 ?kbanY12 ?_
  (case kbaFY12 => k_asm)
  (case kbaNY12 => k_asm)
  (case kbahY12 => rfl)
  (case kbalY12 => kba_isList)
  (case kbaiY12 => exact r5)
  (case kbarY12 => exact Mine.digs_KIn hdig hb200)
  (case kbanY12 => exact Nat.le_trans ‹_ ≤ 32› (by decide))
  intro h2 trD tk2 F2 N2 hrowIn2
  k_steps
  · rename Fr (ghostOf s₁.heap [(47, 43), (52, 50)]) _ _ _ => Fz
    exact Fz.keep
  rename_i e25 e24 e23 e22 e21 e20 e19 e18 e17 e16 e15 e14 e13 e12 e11 e10 e9 e8 e7 e6 e5 e4 e3 e2 e1
  have Xd : (hdX.heap_39 w.params).In (ghostOf s₁.heap [(47, 43), (52, 50)]) := z7
  rw [byteArr_one]
  refine wpX_call (codeX_any (to_long_bad z5 e7 Xd e6 z6 rfl rfl (.tail _ (.head _)) (.tail _ (.tail _ (.head _))) (.tail _ (.tail _ (.tail _ (.tail _ (.tail _ (.head _)))))) (.tail _ (.tail _ (.tail _ (.head _))))
    (.tail _ (.tail _ (.tail _ (.tail _ (.tail _ (.tail _ (.tail _ (.tail _ (.head _))))))))) (.tail _ (.tail _ (.tail _ (.tail _ (.tail _ (.tail _ (.tail _ (.tail _ (.tail _ (.head _)))))))))) (.tail _ (.tail _ (.tail _ (.tail _ (.tail _ (.tail _ (.tail _ (.head _)))))))) y7 e17 e16 y1 hb2 hb200 (signs_len hb2) hdig hlen signs_get ?_))
  intro g7 h7 tk7 ex hd ohd ws F7 R7 hws hz7 E7 U7
  dsimp only
  clear e7 e6
  refine caught_ownX (bmB := [.type "ValueError", .type "Exception", .type "BaseException", .type "object"]) (newId := "ValueError.__new__") R7 E7 F7 z5 U7 z7 z6 (by k_is) (by k_exc) (by decide) ?_
  intro h8 g8 T8 F8 N8 B8 X8 TT8 E8 off8
  replace F8 := fr_turn0 T8 F8
  replace N8 := news_turn0 T8 N8
  obtain ⟨oe, ve, hve, hze, N9⟩ := news_exc F8 N8 E8 (none_turn0 T8 off8)
  clear N8 B8 X8 TT8 off8 T8 F7 R7 E7 U7
  refine wpX_execs_cons (wpX_Return (wpX_Call ?_))
  dsimp only
  refine nameX_K F8 z7 (topRead_of z6) (by k_is) ?_
  refine wpX_callWith_K z7 (by k_is) ?_ ?aa ?bb ?cc
  (case aa => rfl)
  (case bb => rfl)
  (case cc => exact Nat.le_of_ble_eq_true rfl)
  k_steps
  · exact F8.keep
  have N4 := news_drop3 N9
  have hvp : 0 < val base digs + base := by
    have := hvs.1
    omega
  refine wpX_call (law_refused_ok z5 F8 Xd N4 z6 z3 Xd z6 rfl rfl hve hze hws hz7 hvp hb2 hb200 ?_)
  intro h10 tk10 xs F10 N10
  exact hQ _ ⟨h10, tk10, _, xs, _, rfl, F10, N10⟩
end Mine
end
set_option maxRecDepth 100000 in
theorem PySem.Challenge.cw_fe0230_01_holds : PySem.Challenge.rw_fe0230_01.Holds := by
  exact Mine.law_holds

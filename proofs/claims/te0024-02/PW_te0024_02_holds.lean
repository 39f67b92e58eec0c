import PyProof.Rows.All
import Wide.All
import OpenK.AllK
import Wide.FinOn
import Lean
import PySem.Challenge.RW_te0024_02
open PySem PySem.W PyProof.Rows PySem.Calls PySem.Spec
set_option Elab.async false
set_option linter.all false
set_option compiler.extract_closed false
set_option genInjectivity false
set_option genSizeOf false
local macro_rules | `(tactic| omega) => `(tactic| first | lia | omega (config := {}))
namespace Mine
set_option maxRecDepth 100000 in
set_option maxHeartbeats 8000000 in
open_top hd for PySem.Challenge.rw_te0024_02
noncomputable abbrev Ledger := List (Addr × Obj)

/-- entering a def with a part of the ledger; the rest is kept -/
theorem enterR {prog : Program} {w : World} {A₀ A : Around} {s : Shared} {base h₀ : Heap} {outer : List Env} {L : Addr} {m : Str → Option Value} {env : Env} {E rest : Ledger} {K : Frag}
    {p : Program} {loose : List Str} {mean : ExcName → Option Value} {mg mb : Str → Option Value}
    {R : Result → Shared → Prop} {name qual : Str} {params : Arguments} {body : List Stmt} {scope : Scope} {dV kV doc pm cdv ct oc : Value} {an od : Option Addr} {osl : Array (Option Value)} {f : Addr} {args : Args} {binds : List (Str × Value)}
    (B : Below A₀ base outer h₀) (F : Fr h₀ L s.heap m) (X₀ : K.In h₀) (N : News h₀ L s.heap (E ++ rest)) (T : Top p loose mean mg mb h₀) (hdis : ∀ q ∈ rest, ∀ r ∈ E, r.1 ≠ q.1)
    (hA : A.frames = some (env :: outer)) (hf : env.frame = some L) (hke : env.scope.kind = .function)
    (ho : K.lookup f = some ⟨oc, od, .func (fnOf name qual params body scope dV kV doc pm an cdv ct), osl⟩) (hcd : codeIn K cdv qual = true) (hroom : A.depth < recursionLimit)
    (hbind : BindsTo s (fnOf name qual params body scope dV kV doc pm an cdv ct) args binds) (hloc : ∀ y ∈ binds, scope.names.lookup y.1 = some .local)
    (h : ∀ g L' h₁, Fr h₀ L g m → Fr g L' h₁ (fun y => binds.reverse.lookup y) → News g L' h₁ E → Below A base (env :: outer) g → K.In g → Top p loose mean mg mb g → (∀ q ∈ E ++ rest, q.1 < L') →
      wpAny (model prog w) (A.deeper (envOf qual scope L' f cdv)) (execs body (envOf qual scope L' f cdv))
        (fun fl s' => LeaveK h₀ L m g (fun r s'' => News h₀ L s''.heap rest → R r s'') (match fl with | .ret v => v | _ => .none) s')
        (fun e s' => wpAny (model prog w) (A.deeper (envOf qual scope L' f cdv)) (leaving (envOf qual scope L' f cdv) e) (fun _ s'' => R (.error e) s'') (fun e' s'' => R (.error e') s'') s')
        { s with heap := h₁, toks := s.toks + binds.length })
    (hco : scope.isCoroutine = false := by rfl) (hgen : scope.isGenerator = false := by rfl) (hk : scope.kind = .function := by rfl)
    (hcell : ∀ x ∈ scope.names, x.2 ≠ .cell := by decide) : codeAny (model prog w) A (.call (.ref f) args) R s := by
  have NE : News h₀ L s.heap E := fun q hq => N q (List.mem_append_left _ hq)
  have NR : News h₀ L s.heap rest := fun q hq => N q (List.mem_append_right _ hq)
  obtain ⟨FG, BG, st, lv⟩ := groundX (R := fun r s'' => News h₀ L s''.heap rest → R r s'') B F NE hA hf hke
  refine codeAny_call_def (fd := fnOf name qual params body scope dV kV doc pm an cdv ct) (body := body) (binds := binds) hroom ((X₀.keeps F.keep) _ _ ho) rfl (T.nolimit.keeps F.keep) (codeRec_of (X₀.keeps F.keep) hcd) rfl hbind hcell hloc (fun h₁ hns hk₁ => ?_) hco hgen hk
  refine wpAny_mono (h _ s.heap.objs.size h₁ FG ⟨hns, fun b o e => hk₁ b o (of_hideAll _ e), Nat.le_of_eq (hideAll_size _ _)⟩
    (fun q hq => ⟨hk₁ _ _ (NE q hq).1, Nat.ne_of_lt (Heap.lt_size (NE q hq).1), hideAll_none _ (List.mem_map_of_mem hq)⟩) BG (X₀.keeps st) (T.keeps st) (fun q hq => Heap.lt_size (N q hq).1)) (fun fl s' hl => ?_) fun _ _ y => y
  refine lv _ _ hl ?_
  obtain ⟨L', m', news', F', N', k⟩ := hl
  intro q hq
  refine ⟨F'.keep _ _ (hideAll_get _ (NR q hq).1 fun hm => ?_), (NR q hq).2⟩
  obtain ⟨r, hr, e⟩ := List.mem_map.mp hm
  exact hdis q hq r hr e

/-- what a call of f with the arguments vs does, upon the part E of the ledger -/
noncomputable def Does (w : World) (lv : Nat) (f : Value) (vs : List Value) (E : Ledger) (post : Value → Ledger → Prop) : Prop :=
  ∀ (dp un : Nat) (gd : Option (List Code)) (cn : Str) (cs : Scope) (a : Addr) (ccd : Value) (cl : List (Str × Addr)) (outer : List Env) (A₀ : Around) (base h₀ : Heap) (L : Addr) (m : Str → Option Value) (s : Shared) (R : Result → Shared → Prop)
    (loose : List Str) (mean : ExcName → Option Value) (mg mb : Str → Option Value) (rest : Ledger),
    Below A₀ base outer h₀ → Fr h₀ L s.heap m → (hd.heap_39 w.params).In h₀ → News h₀ L s.heap (E ++ rest) → Top hd.view_39 loose mean mg mb h₀ → (∀ q ∈ rest, ∀ r ∈ E, r.1 ≠ q.1) → cs.kind = .function →
    dp + 4 * lv < recursionLimit → un + 40 * lv < cLine →
    (∀ v E' h' tk', Fr h₀ L h' m → News h₀ L h' (E' ++ rest) → post v E' → R (.ok (.ret v)) { s with heap := h', toks := tk' }) →
    codeAny (model PySem.Challenge.rw_te0024_02.row.prog w) (ktrTop dp un gd cn cs L a ccd cl outer) (.call f ⟨vs, []⟩) R s

section
variable {w : World} {lv : Nat} {f : Value} {vs : List Value} {E : Ledger} {post : Value → Ledger → Prop} {dp un : Nat} {gd : Option (List Code)} {cn : Str} {cs : Scope} {a : Addr} {ccd : Value} {cl : List (Str × Addr)} {outer : List Env} {A₀ : Around} {base h₀ : Heap} {L : Addr} {m : Str → Option Value} {s : Shared} {Q Er : Value → Shared → Prop}
    {loose : List Str} {mean : ExcName → Option Value} {mg mb : Str → Option Value} {rest : Ledger}
/-- .. with some of the ledger ahead, which stays -/
theorem Does.useC (pre : Ledger) (D : Does w lv f vs E post) {R : Result → Shared → Prop}
    (B : Below A₀ base outer h₀) (F : Fr h₀ L s.heap m) (X : (hd.heap_39 w.params).In h₀) (N : News h₀ L s.heap (pre ++ (E ++ rest))) (T : Top hd.view_39 loose mean mg mb h₀) (hdis : ∀ q ∈ pre ++ rest, ∀ r ∈ E, r.1 ≠ q.1) (hk : cs.kind = .function)
    (hr : dp + 4 * lv < recursionLimit) (hu : un + 40 * lv < cLine)
    (k : ∀ v E' h' tk', Fr h₀ L h' m → News h₀ L h' (pre ++ (E' ++ rest)) → post v E' → R (.ok (.ret v)) { s with heap := h', toks := tk' }) :
    codeAny (model PySem.Challenge.rw_te0024_02.row.prog w) (ktrTop dp un gd cn cs L a ccd cl outer) (.call f ⟨vs, []⟩) R s := by
  refine D _ _ _ _ _ _ _ _ _ _ _ _ _ _ _ _ _ _ _ _ (pre ++ rest) B F X (fun p hp => N p ?_) T hdis hk hr hu fun v E' h' tk' F' N' hp => k v E' h' tk' F' (fun p hp => N' p ?_) hp
  all_goals (simp only [List.mem_append] at hp ⊢; rcases hp with hp | hp | hp <;> simp [hp])
theorem Does.useP (pre : Ledger) (D : Does w lv f vs E post)
    (B : Below A₀ base outer h₀) (F : Fr h₀ L s.heap m) (X : (hd.heap_39 w.params).In h₀) (N : News h₀ L s.heap (pre ++ (E ++ rest))) (T : Top hd.view_39 loose mean mg mb h₀) (hdis : ∀ q ∈ pre ++ rest, ∀ r ∈ E, r.1 ≠ q.1) (hk : cs.kind = .function)
    (hr : dp + 4 * lv < recursionLimit) (hu : un + 40 * lv < cLine)
    (k : ∀ v E' h' tk', Fr h₀ L h' m → News h₀ L h' (pre ++ (E' ++ rest)) → post v E' → s.toks ≤ tk' → Q v { s with heap := h', toks := tk' }) :
    wpAny (model PySem.Challenge.rw_te0024_02.row.prog w) (ktrTop dp un gd cn cs L a ccd cl outer) (call f vs) Q Er s :=
  wpAny_with_toks (Nat.le_refl s.toks) (wpAny_call (Does.useC pre D B F X N T hdis hk hr hu (R := fun r s' => match r with | .ok (.ret v) => (s.toks ≤ s'.toks → Q v s') | .ok _ => False | .error e => _) k))
theorem Does.useG1 {α : Type} {val : α → Value} {led : α → Ledger} {P : α → Prop} (pre : Ledger) (D : Does w lv f vs E post) (hp : ∀ v E', post v E' → ∃ y1, v = val y1 ∧ E' = led y1 ∧ P y1)
    (B : Below A₀ base outer h₀) (F : Fr h₀ L s.heap m) (X : (hd.heap_39 w.params).In h₀) (N : News h₀ L s.heap (pre ++ (E ++ rest))) (T : Top hd.view_39 loose mean mg mb h₀) (hdis : ∀ q ∈ pre ++ rest, ∀ r ∈ E, r.1 ≠ q.1) (hk : cs.kind = .function)
    (hr : dp + 4 * lv < recursionLimit) (hu : un + 40 * lv < cLine)
    (k : ∀ y1 h' tk', Fr h₀ L h' m → News h₀ L h' (pre ++ (led y1 ++ rest)) → P y1 → s.toks ≤ tk' → Q (val y1) { s with heap := h', toks := tk' }) :
    wpAny (model PySem.Challenge.rw_te0024_02.row.prog w) (ktrTop dp un gd cn cs L a ccd cl outer) (call f vs) Q Er s :=
  Does.useP pre D B F X N T hdis hk hr hu fun v E' h' tk' F' N' p t => by
    obtain ⟨y1, rfl, rfl, p9⟩ := hp v E' p
    exact k y1 h' tk' F' N' p9 t
theorem Does.useG2 {α β : Type} {val : α → β → Value} {led : α → β → Ledger} {P : α → β → Prop} (pre : Ledger) (D : Does w lv f vs E post) (hp : ∀ v E', post v E' → ∃ y1 y2, v = val y1 y2 ∧ E' = led y1 y2 ∧ P y1 y2)
    (B : Below A₀ base outer h₀) (F : Fr h₀ L s.heap m) (X : (hd.heap_39 w.params).In h₀) (N : News h₀ L s.heap (pre ++ (E ++ rest))) (T : Top hd.view_39 loose mean mg mb h₀) (hdis : ∀ q ∈ pre ++ rest, ∀ r ∈ E, r.1 ≠ q.1) (hk : cs.kind = .function)
    (hr : dp + 4 * lv < recursionLimit) (hu : un + 40 * lv < cLine)
    (k : ∀ y1 y2 h' tk', Fr h₀ L h' m → News h₀ L h' (pre ++ (led y1 y2 ++ rest)) → P y1 y2 → s.toks ≤ tk' → Q (val y1 y2) { s with heap := h', toks := tk' }) :
    wpAny (model PySem.Challenge.rw_te0024_02.row.prog w) (ktrTop dp un gd cn cs L a ccd cl outer) (call f vs) Q Er s :=
  Does.useP pre D B F X N T hdis hk hr hu fun v E' h' tk' F' N' p t => by
    obtain ⟨y1, y2, rfl, rfl, p9⟩ := hp v E' p
    exact k y1 y2 h' tk' F' N' p9 t
theorem Does.useG3 {α β γ : Type} {val : α → β → γ → Value} {led : α → β → γ → Ledger} {P : α → β → γ → Prop} (pre : Ledger) (D : Does w lv f vs E post) (hp : ∀ v E', post v E' → ∃ y1 y2 y3, v = val y1 y2 y3 ∧ E' = led y1 y2 y3 ∧ P y1 y2 y3)
    (B : Below A₀ base outer h₀) (F : Fr h₀ L s.heap m) (X : (hd.heap_39 w.params).In h₀) (N : News h₀ L s.heap (pre ++ (E ++ rest))) (T : Top hd.view_39 loose mean mg mb h₀) (hdis : ∀ q ∈ pre ++ rest, ∀ r ∈ E, r.1 ≠ q.1) (hk : cs.kind = .function)
    (hr : dp + 4 * lv < recursionLimit) (hu : un + 40 * lv < cLine)
    (k : ∀ y1 y2 y3 h' tk', Fr h₀ L h' m → News h₀ L h' (pre ++ (led y1 y2 y3 ++ rest)) → P y1 y2 y3 → s.toks ≤ tk' → Q (val y1 y2 y3) { s with heap := h', toks := tk' }) :
    wpAny (model PySem.Challenge.rw_te0024_02.row.prog w) (ktrTop dp un gd cn cs L a ccd cl outer) (call f vs) Q Er s :=
  Does.useP pre D B F X N T hdis hk hr hu fun v E' h' tk' F' N' p t => by
    obtain ⟨y1, y2, y3, rfl, rfl, p9⟩ := hp v E' p
    exact k y1 y2 y3 h' tk' F' N' p9 t
/-- .. through a bound method -/
theorem Does.useM (pre : Ledger) {q : Addr} {self : Value} (D : Does w lv f (self :: vs) E post)
    (B : Below A₀ base outer h₀) (F : Fr h₀ L s.heap m) (X : (hd.heap_39 w.params).In h₀) (N : News h₀ L s.heap (pre ++ (E ++ rest))) (hq : (q, methodObj f self) ∈ pre ++ (E ++ rest)) (T : Top hd.view_39 loose mean mg mb h₀) (hdis : ∀ q ∈ pre ++ rest, ∀ r ∈ E, r.1 ≠ q.1) (hk : cs.kind = .function)
    (hr : dp + 4 * lv < recursionLimit) (hu : un + 40 * lv < cLine)
    (k : ∀ v E' h' tk', Fr h₀ L h' m → News h₀ L h' (pre ++ (E' ++ rest)) → post v E' → s.toks ≤ tk' → Q v { s with heap := h', toks := tk' }) :
    wpAny (model PySem.Challenge.rw_te0024_02.row.prog w) (ktrTop dp un gd cn cs L a ccd cl outer) (call (.ref q) vs) Q Er s :=
  wpAny_with_toks (Nat.le_refl s.toks) (call_meth N hq (Does.useC pre D B F X N T hdis hk hr hu (R := fun r s' => match r with | .ok (.ret v) => (s.toks ≤ s'.toks → Q v s') | .ok _ => False | .error e => _) k))
end
theorem swapP {E0 : Ledger} {P : Str → Nat → Prop} : ∀ (v : Value) (E' : Ledger), (E' = E0 ∧ ∃ r t, v = .str r t ∧ P r t) → ∃ r t, v = .str r t ∧ E' = E0 ∧ P r t := fun _ _ ⟨h1, r, t, h2, h3⟩ => ⟨r, t, h2, h1, h3⟩
theorem room0 {d a b R : Nat} (h : d + b < R) (hab : a ≤ b) : d + a < R := by omega
theorem room1 {d c a b R : Nat} (h : d + b < R) (hab : c + a ≤ b) : d + c + a < R := by omega
theorem ord4 {d x q er : Nat} (h : d < x ∧ x < q ∧ q < er) : d < x ∧ x < q ∧ q < er ∧ d < q ∧ d < er ∧ x < er := ⟨h.1, h.2.1, h.2.2, Nat.lt_trans h.1 h.2.1, Nat.lt_trans (Nat.lt_trans h.1 h.2.1) h.2.2, Nat.lt_trans h.2.1 h.2.2⟩
theorem ord6 {d x q td tx er : Nat} (h : d < x ∧ x < q ∧ q < td ∧ td < tx ∧ tx < er) : d < x ∧ x < q ∧ q < td ∧ td < tx ∧ tx < er ∧ d < q ∧ d < td ∧ d < tx ∧ d < er ∧ x < td ∧ x < tx ∧ x < er ∧ q < tx ∧ q < er ∧ td < er :=
  have h1 := h.1; have h2 := h.2.1; have h3 := h.2.2.1; have h4 := h.2.2.2.1; have h5 := h.2.2.2.2
  have h6 := Nat.lt_trans h1 h2; have h7 := Nat.lt_trans h6 h3; have h8 := Nat.lt_trans h7 h4; have h10 := Nat.lt_trans h2 h3; have h11 := Nat.lt_trans h10 h4; have h13 := Nat.lt_trans h3 h4
  ⟨h1, h2, h3, h4, h5, h6, h7, h8, Nat.lt_trans h8 h5, h10, h11, Nat.lt_trans h11 h5, h13, Nat.lt_trans h13 h5, Nat.lt_trans h4 h5⟩
theorem fr_know1 {h₀ h : Heap} {L : Addr} {m : Str → Option Value} {z1 : Str} {b1 : Value} (h1 : m z1 = some b1) (F : Fr h₀ L h m) : Fr h₀ L h (fun y => if y = z1 then some b1 else m y) := by
  have e : (fun y => if y = z1 then some b1 else m y) = m := by
    funext y
    by_cases k1 : y = z1
    · rw [if_pos k1, k1, h1]
    · rw [if_neg k1]
  rw [e]; exact F
theorem fr_know2 {h₀ h : Heap} {L : Addr} {m : Str → Option Value} {z1 z2 : Str} {b1 b2 : Value} (h1 : m z1 = some b1) (h2 : m z2 = some b2) (F : Fr h₀ L h m) :
    Fr h₀ L h (fun y => if y = z1 then some b1 else if y = z2 then some b2 else m y) := by
  have e : (fun y => if y = z2 then some b2 else m y) = m := by
    funext y
    by_cases k1 : y = z2
    · rw [if_pos k1, k1, h2]
    · rw [if_neg k1]
  have := fr_know1 h1 F
  rw [← e] at this
  have e2 : (fun y => if y = z1 then some b1 else (fun y => if y = z2 then some b2 else m y) y) = (fun y => if y = z1 then some b1 else if y = z2 then some b2 else m y) := rfl
  exact this
/-- .. and back: the keys ahead of the opaque map -/
theorem fr_list {h₀ h : Heap} {L : Addr} {m : Str → Option Value} (ks : List (Str × Value)) (hk : ∀ p ∈ ks, m p.1 = some p.2) (F : Fr h₀ L h m) : Fr h₀ L h (kstB m ks) := by
  have e : kstB m ks = m := funext fun y => kstB_eq hk fun _ => rfl
  rw [e]; exact F
theorem fr_know3 {h₀ h : Heap} {L : Addr} {m : Str → Option Value} {z1 z2 z3 : Str} {b1 b2 b3 : Value} (h1 : m z1 = some b1) (h2 : m z2 = some b2) (h3 : m z3 = some b3) (F : Fr h₀ L h m) :
    Fr h₀ L h (fun y => if y = z1 then some b1 else if y = z2 then some b2 else if y = z3 then some b3 else m y) :=
  fr_list [(z1, b1), (z2, b2), (z3, b3)] (fun p hp => by
    simp only [List.mem_cons, List.not_mem_nil, or_false] at hp
    rcases hp with rfl | rfl | rfl <;> assumption) F
theorem fr_know4 {h₀ h : Heap} {L : Addr} {m : Str → Option Value} {z1 z2 z3 z4 : Str} {b1 b2 b3 b4 : Value} (h1 : m z1 = some b1) (h2 : m z2 = some b2) (h3 : m z3 = some b3) (h4 : m z4 = some b4) (F : Fr h₀ L h m) :
    Fr h₀ L h (fun y => if y = z1 then some b1 else if y = z2 then some b2 else if y = z3 then some b3 else if y = z4 then some b4 else m y) :=
  fr_list [(z1, b1), (z2, b2), (z3, b3), (z4, b4)] (fun p hp => by
    simp only [List.mem_cons, List.not_mem_nil, or_false] at hp
    rcases hp with rfl | rfl | rfl | rfl <;> assumption) F
theorem fr_know5 {h₀ h : Heap} {L : Addr} {m : Str → Option Value} {z1 z2 z3 z4 z5 : Str} {b1 b2 b3 b4 b5 : Value} (h1 : m z1 = some b1) (h2 : m z2 = some b2) (h3 : m z3 = some b3) (h4 : m z4 = some b4) (h5 : m z5 = some b5) (F : Fr h₀ L h m) :
    Fr h₀ L h (fun y => if y = z1 then some b1 else if y = z2 then some b2 else if y = z3 then some b3 else if y = z4 then some b4 else if y = z5 then some b5 else m y) :=
  fr_list [(z1, b1), (z2, b2), (z3, b3), (z4, b4), (z5, b5)] (fun p hp => by
    simp only [List.mem_cons, List.not_mem_nil, or_false] at hp
    rcases hp with rfl | rfl | rfl | rfl | rfl <;> assumption) F
theorem fn_parts {o : Option Obj} {oc oc' : Value} {od od' : Option Addr} {osl osl' : Array (Option Value)} {name qual name' qual' : Str} {params params' : Arguments} {body body' : List Stmt} {scope scope' : Scope} {dV kV doc pm cdv ct dV' kV' doc' pm' cdv' ct' : Value} {an an' : Option Addr}
    (h : o = some ⟨oc, od, .func (fnOf name qual params body scope dV kV doc pm an cdv ct), osl⟩) (h' : o = some ⟨oc', od', .func (fnOf name' qual' params' body' scope' dV' kV' doc' pm' an' cdv' ct'), osl'⟩) : body = body' ∧ qual = qual' ∧ scope = scope' ∧ cdv = cdv' := by
  cases h.symm.trans h'
  exact ⟨rfl, rfl, rfl, rfl⟩
/-- a statement's ways brought together behind it -/
theorem execs_join {M : Model} {A : Around} {env : Env} {st : Stmt} {rest : List Stmt} {Q : Flow → Shared → Prop} {E : Value → Shared → Prop} {s : Shared} (J : Shared → Prop) (h2 : ∀ s', J s' → wpAny M A (execs rest env) Q E s')
    (h1 : ∀ JJ, JJ = J → wpAny M A (exec st env) (fun f s' => match f with | .next => JJ s' | f => Q f s') E s) : wpAny M A (execs (st :: rest) env) Q E s :=
  wpAny_execs_cons (wpAny_mono (h1 J rfl) (fun f s' h => by cases f <;> first | exact h2 _ h | exact h) fun _ _ e => e)
theorem ex_0_2 {p0 p1 G : Prop} (h : p0 ∧ p1) (k : p0 → p1 → G) : G := k (h.1) (h.2)
theorem ex_0_3 {p0 p1 p2 G : Prop} (h : p0 ∧ p1 ∧ p2) (k : p0 → p1 → p2 → G) : G := k (h.1) (h.2.1) (h.2.2)
theorem ex_0_6 {p0 p1 p2 p3 p4 p5 G : Prop} (h : p0 ∧ p1 ∧ p2 ∧ p3 ∧ p4 ∧ p5) (k : p0 → p1 → p2 → p3 → p4 → p5 → G) : G := k (h.1) (h.2.1) (h.2.2.1) (h.2.2.2.1) (h.2.2.2.2.1) (h.2.2.2.2.2)
theorem ex_0_15 {p0 p1 p2 p3 p4 p5 p6 p7 p8 p9 p10 p11 p12 p13 p14 G : Prop} (h : p0 ∧ p1 ∧ p2 ∧ p3 ∧ p4 ∧ p5 ∧ p6 ∧ p7 ∧ p8 ∧ p9 ∧ p10 ∧ p11 ∧ p12 ∧ p13 ∧ p14) (k : p0 → p1 → p2 → p3 → p4 → p5 → p6 → p7 → p8 → p9 → p10 → p11 → p12 → p13 → p14 → G) : G := k (h.1) (h.2.1) (h.2.2.1) (h.2.2.2.1) (h.2.2.2.2.1) (h.2.2.2.2.2.1) (h.2.2.2.2.2.2.1) (h.2.2.2.2.2.2.2.1) (h.2.2.2.2.2.2.2.2.1) (h.2.2.2.2.2.2.2.2.2.1) (h.2.2.2.2.2.2.2.2.2.2.1) (h.2.2.2.2.2.2.2.2.2.2.2.1) (h.2.2.2.2.2.2.2.2.2.2.2.2.1) (h.2.2.2.2.2.2.2.2.2.2.2.2.2.1) (h.2.2.2.2.2.2.2.2.2.2.2.2.2.2)
theorem ex_1_1 {α0 : Sort _} {p0 : α0 → Prop} {G : Prop} (h : ∃ a0, p0 a0) (k : ∀ a0, p0 a0 → G) : G := h.elim fun a0 h => k a0 (h)
theorem ex_1_2 {α0 : Sort _} {p0 p1 : α0 → Prop} {G : Prop} (h : ∃ a0, p0 a0 ∧ p1 a0) (k : ∀ a0, p0 a0 → p1 a0 → G) : G := h.elim fun a0 h => k a0 (h.1) (h.2)
theorem ex_1_4 {α0 : Sort _} {p0 p1 p2 p3 : α0 → Prop} {G : Prop} (h : ∃ a0, p0 a0 ∧ p1 a0 ∧ p2 a0 ∧ p3 a0) (k : ∀ a0, p0 a0 → p1 a0 → p2 a0 → p3 a0 → G) : G := h.elim fun a0 h => k a0 (h.1) (h.2.1) (h.2.2.1) (h.2.2.2)
theorem ex_1_5 {α0 : Sort _} {p0 p1 p2 p3 p4 : α0 → Prop} {G : Prop} (h : ∃ a0, p0 a0 ∧ p1 a0 ∧ p2 a0 ∧ p3 a0 ∧ p4 a0) (k : ∀ a0, p0 a0 → p1 a0 → p2 a0 → p3 a0 → p4 a0 → G) : G := h.elim fun a0 h => k a0 (h.1) (h.2.1) (h.2.2.1) (h.2.2.2.1) (h.2.2.2.2)
theorem ex_1_6 {α0 : Sort _} {p0 p1 p2 p3 p4 p5 : α0 → Prop} {G : Prop} (h : ∃ a0, p0 a0 ∧ p1 a0 ∧ p2 a0 ∧ p3 a0 ∧ p4 a0 ∧ p5 a0) (k : ∀ a0, p0 a0 → p1 a0 → p2 a0 → p3 a0 → p4 a0 → p5 a0 → G) : G := h.elim fun a0 h => k a0 (h.1) (h.2.1) (h.2.2.1) (h.2.2.2.1) (h.2.2.2.2.1) (h.2.2.2.2.2)
theorem ex_2_2 {α0 α1 : Sort _} {p0 p1 : α0 → α1 → Prop} {G : Prop} (h : ∃ a0 a1, p0 a0 a1 ∧ p1 a0 a1) (k : ∀ a0 a1, p0 a0 a1 → p1 a0 a1 → G) : G := h.elim fun a0 h => h.elim fun a1 h => k a0 a1 (h.1) (h.2)
theorem ex_2_3 {α0 α1 : Sort _} {p0 p1 p2 : α0 → α1 → Prop} {G : Prop} (h : ∃ a0 a1, p0 a0 a1 ∧ p1 a0 a1 ∧ p2 a0 a1) (k : ∀ a0 a1, p0 a0 a1 → p1 a0 a1 → p2 a0 a1 → G) : G := h.elim fun a0 h => h.elim fun a1 h => k a0 a1 (h.1) (h.2.1) (h.2.2)
theorem ex_2_4 {α0 α1 : Sort _} {p0 p1 p2 p3 : α0 → α1 → Prop} {G : Prop} (h : ∃ a0 a1, p0 a0 a1 ∧ p1 a0 a1 ∧ p2 a0 a1 ∧ p3 a0 a1) (k : ∀ a0 a1, p0 a0 a1 → p1 a0 a1 → p2 a0 a1 → p3 a0 a1 → G) : G := h.elim fun a0 h => h.elim fun a1 h => k a0 a1 (h.1) (h.2.1) (h.2.2.1) (h.2.2.2)
theorem ex_2_12 {α0 α1 : Sort _} {p0 p1 p2 p3 p4 p5 p6 p7 p8 p9 p10 p11 : α0 → α1 → Prop} {G : Prop} (h : ∃ a0 a1, p0 a0 a1 ∧ p1 a0 a1 ∧ p2 a0 a1 ∧ p3 a0 a1 ∧ p4 a0 a1 ∧ p5 a0 a1 ∧ p6 a0 a1 ∧ p7 a0 a1 ∧ p8 a0 a1 ∧ p9 a0 a1 ∧ p10 a0 a1 ∧ p11 a0 a1) (k : ∀ a0 a1, p0 a0 a1 → p1 a0 a1 → p2 a0 a1 → p3 a0 a1 → p4 a0 a1 → p5 a0 a1 → p6 a0 a1 → p7 a0 a1 → p8 a0 a1 → p9 a0 a1 → p10 a0 a1 → p11 a0 a1 → G) : G := h.elim fun a0 h => h.elim fun a1 h => k a0 a1 (h.1) (h.2.1) (h.2.2.1) (h.2.2.2.1) (h.2.2.2.2.1) (h.2.2.2.2.2.1) (h.2.2.2.2.2.2.1) (h.2.2.2.2.2.2.2.1) (h.2.2.2.2.2.2.2.2.1) (h.2.2.2.2.2.2.2.2.2.1) (h.2.2.2.2.2.2.2.2.2.2.1) (h.2.2.2.2.2.2.2.2.2.2.2)
theorem ex_3_3 {α0 α1 α2 : Sort _} {p0 p1 p2 : α0 → α1 → α2 → Prop} {G : Prop} (h : ∃ a0 a1 a2, p0 a0 a1 a2 ∧ p1 a0 a1 a2 ∧ p2 a0 a1 a2) (k : ∀ a0 a1 a2, p0 a0 a1 a2 → p1 a0 a1 a2 → p2 a0 a1 a2 → G) : G := h.elim fun a0 h => h.elim fun a1 h => h.elim fun a2 h => k a0 a1 a2 (h.1) (h.2.1) (h.2.2)
theorem ex_3_5 {α0 α1 α2 : Sort _} {p0 p1 p2 p3 p4 : α0 → α1 → α2 → Prop} {G : Prop} (h : ∃ a0 a1 a2, p0 a0 a1 a2 ∧ p1 a0 a1 a2 ∧ p2 a0 a1 a2 ∧ p3 a0 a1 a2 ∧ p4 a0 a1 a2) (k : ∀ a0 a1 a2, p0 a0 a1 a2 → p1 a0 a1 a2 → p2 a0 a1 a2 → p3 a0 a1 a2 → p4 a0 a1 a2 → G) : G := h.elim fun a0 h => h.elim fun a1 h => h.elim fun a2 h => k a0 a1 a2 (h.1) (h.2.1) (h.2.2.1) (h.2.2.2.1) (h.2.2.2.2)
theorem ex_4_2 {α0 α1 α2 α3 : Sort _} {p0 p1 : α0 → α1 → α2 → α3 → Prop} {G : Prop} (h : ∃ a0 a1 a2 a3, p0 a0 a1 a2 a3 ∧ p1 a0 a1 a2 a3) (k : ∀ a0 a1 a2 a3, p0 a0 a1 a2 a3 → p1 a0 a1 a2 a3 → G) : G := h.elim fun a0 h => h.elim fun a1 h => h.elim fun a2 h => h.elim fun a3 h => k a0 a1 a2 a3 (h.1) (h.2)
theorem ex_4_6 {α0 α1 α2 α3 : Sort _} {p0 p1 p2 p3 p4 p5 : α0 → α1 → α2 → α3 → Prop} {G : Prop} (h : ∃ a0 a1 a2 a3, p0 a0 a1 a2 a3 ∧ p1 a0 a1 a2 a3 ∧ p2 a0 a1 a2 a3 ∧ p3 a0 a1 a2 a3 ∧ p4 a0 a1 a2 a3 ∧ p5 a0 a1 a2 a3) (k : ∀ a0 a1 a2 a3, p0 a0 a1 a2 a3 → p1 a0 a1 a2 a3 → p2 a0 a1 a2 a3 → p3 a0 a1 a2 a3 → p4 a0 a1 a2 a3 → p5 a0 a1 a2 a3 → G) : G := h.elim fun a0 h => h.elim fun a1 h => h.elim fun a2 h => h.elim fun a3 h => k a0 a1 a2 a3 (h.1) (h.2.1) (h.2.2.1) (h.2.2.2.1) (h.2.2.2.2.1) (h.2.2.2.2.2)
theorem ex_5_5 {α0 α1 α2 α3 α4 : Sort _} {p0 p1 p2 p3 p4 : α0 → α1 → α2 → α3 → α4 → Prop} {G : Prop} (h : ∃ a0 a1 a2 a3 a4, p0 a0 a1 a2 a3 a4 ∧ p1 a0 a1 a2 a3 a4 ∧ p2 a0 a1 a2 a3 a4 ∧ p3 a0 a1 a2 a3 a4 ∧ p4 a0 a1 a2 a3 a4) (k : ∀ a0 a1 a2 a3 a4, p0 a0 a1 a2 a3 a4 → p1 a0 a1 a2 a3 a4 → p2 a0 a1 a2 a3 a4 → p3 a0 a1 a2 a3 a4 → p4 a0 a1 a2 a3 a4 → G) : G := h.elim fun a0 h => h.elim fun a1 h => h.elim fun a2 h => h.elim fun a3 h => h.elim fun a4 h => k a0 a1 a2 a3 a4 (h.1) (h.2.1) (h.2.2.1) (h.2.2.2.1) (h.2.2.2.2)
theorem ex_5_7 {α0 α1 α2 α3 α4 : Sort _} {p0 p1 p2 p3 p4 p5 p6 : α0 → α1 → α2 → α3 → α4 → Prop} {G : Prop} (h : ∃ a0 a1 a2 a3 a4, p0 a0 a1 a2 a3 a4 ∧ p1 a0 a1 a2 a3 a4 ∧ p2 a0 a1 a2 a3 a4 ∧ p3 a0 a1 a2 a3 a4 ∧ p4 a0 a1 a2 a3 a4 ∧ p5 a0 a1 a2 a3 a4 ∧ p6 a0 a1 a2 a3 a4) (k : ∀ a0 a1 a2 a3 a4, p0 a0 a1 a2 a3 a4 → p1 a0 a1 a2 a3 a4 → p2 a0 a1 a2 a3 a4 → p3 a0 a1 a2 a3 a4 → p4 a0 a1 a2 a3 a4 → p5 a0 a1 a2 a3 a4 → p6 a0 a1 a2 a3 a4 → G) : G := h.elim fun a0 h => h.elim fun a1 h => h.elim fun a2 h => h.elim fun a3 h => h.elim fun a4 h => k a0 a1 a2 a3 a4 (h.1) (h.2.1) (h.2.2.1) (h.2.2.2.1) (h.2.2.2.2.1) (h.2.2.2.2.2.1) (h.2.2.2.2.2.2)
theorem ex_5_12 {α0 α1 α2 α3 α4 : Sort _} {p0 p1 p2 p3 p4 p5 p6 p7 p8 p9 p10 p11 : α0 → α1 → α2 → α3 → α4 → Prop} {G : Prop} (h : ∃ a0 a1 a2 a3 a4, p0 a0 a1 a2 a3 a4 ∧ p1 a0 a1 a2 a3 a4 ∧ p2 a0 a1 a2 a3 a4 ∧ p3 a0 a1 a2 a3 a4 ∧ p4 a0 a1 a2 a3 a4 ∧ p5 a0 a1 a2 a3 a4 ∧ p6 a0 a1 a2 a3 a4 ∧ p7 a0 a1 a2 a3 a4 ∧ p8 a0 a1 a2 a3 a4 ∧ p9 a0 a1 a2 a3 a4 ∧ p10 a0 a1 a2 a3 a4 ∧ p11 a0 a1 a2 a3 a4) (k : ∀ a0 a1 a2 a3 a4, p0 a0 a1 a2 a3 a4 → p1 a0 a1 a2 a3 a4 → p2 a0 a1 a2 a3 a4 → p3 a0 a1 a2 a3 a4 → p4 a0 a1 a2 a3 a4 → p5 a0 a1 a2 a3 a4 → p6 a0 a1 a2 a3 a4 → p7 a0 a1 a2 a3 a4 → p8 a0 a1 a2 a3 a4 → p9 a0 a1 a2 a3 a4 → p10 a0 a1 a2 a3 a4 → p11 a0 a1 a2 a3 a4 → G) : G := h.elim fun a0 h => h.elim fun a1 h => h.elim fun a2 h => h.elim fun a3 h => h.elim fun a4 h => k a0 a1 a2 a3 a4 (h.1) (h.2.1) (h.2.2.1) (h.2.2.2.1) (h.2.2.2.2.1) (h.2.2.2.2.2.1) (h.2.2.2.2.2.2.1) (h.2.2.2.2.2.2.2.1) (h.2.2.2.2.2.2.2.2.1) (h.2.2.2.2.2.2.2.2.2.1) (h.2.2.2.2.2.2.2.2.2.2.1) (h.2.2.2.2.2.2.2.2.2.2.2)
theorem ex_6_6 {α0 α1 α2 α3 α4 α5 : Sort _} {p0 p1 p2 p3 p4 p5 : α0 → α1 → α2 → α3 → α4 → α5 → Prop} {G : Prop} (h : ∃ a0 a1 a2 a3 a4 a5, p0 a0 a1 a2 a3 a4 a5 ∧ p1 a0 a1 a2 a3 a4 a5 ∧ p2 a0 a1 a2 a3 a4 a5 ∧ p3 a0 a1 a2 a3 a4 a5 ∧ p4 a0 a1 a2 a3 a4 a5 ∧ p5 a0 a1 a2 a3 a4 a5) (k : ∀ a0 a1 a2 a3 a4 a5, p0 a0 a1 a2 a3 a4 a5 → p1 a0 a1 a2 a3 a4 a5 → p2 a0 a1 a2 a3 a4 a5 → p3 a0 a1 a2 a3 a4 a5 → p4 a0 a1 a2 a3 a4 a5 → p5 a0 a1 a2 a3 a4 a5 → G) : G := h.elim fun a0 h => h.elim fun a1 h => h.elim fun a2 h => h.elim fun a3 h => h.elim fun a4 h => h.elim fun a5 h => k a0 a1 a2 a3 a4 a5 (h.1) (h.2.1) (h.2.2.1) (h.2.2.2.1) (h.2.2.2.2.1) (h.2.2.2.2.2)
theorem ex_6_8 {α0 α1 α2 α3 α4 α5 : Sort _} {p0 p1 p2 p3 p4 p5 p6 p7 : α0 → α1 → α2 → α3 → α4 → α5 → Prop} {G : Prop} (h : ∃ a0 a1 a2 a3 a4 a5, p0 a0 a1 a2 a3 a4 a5 ∧ p1 a0 a1 a2 a3 a4 a5 ∧ p2 a0 a1 a2 a3 a4 a5 ∧ p3 a0 a1 a2 a3 a4 a5 ∧ p4 a0 a1 a2 a3 a4 a5 ∧ p5 a0 a1 a2 a3 a4 a5 ∧ p6 a0 a1 a2 a3 a4 a5 ∧ p7 a0 a1 a2 a3 a4 a5) (k : ∀ a0 a1 a2 a3 a4 a5, p0 a0 a1 a2 a3 a4 a5 → p1 a0 a1 a2 a3 a4 a5 → p2 a0 a1 a2 a3 a4 a5 → p3 a0 a1 a2 a3 a4 a5 → p4 a0 a1 a2 a3 a4 a5 → p5 a0 a1 a2 a3 a4 a5 → p6 a0 a1 a2 a3 a4 a5 → p7 a0 a1 a2 a3 a4 a5 → G) : G := h.elim fun a0 h => h.elim fun a1 h => h.elim fun a2 h => h.elim fun a3 h => h.elim fun a4 h => h.elim fun a5 h => k a0 a1 a2 a3 a4 a5 (h.1) (h.2.1) (h.2.2.1) (h.2.2.2.1) (h.2.2.2.2.1) (h.2.2.2.2.2.1) (h.2.2.2.2.2.2.1) (h.2.2.2.2.2.2.2)
theorem ex_6_9 {α0 α1 α2 α3 α4 α5 : Sort _} {p0 p1 p2 p3 p4 p5 p6 p7 p8 : α0 → α1 → α2 → α3 → α4 → α5 → Prop} {G : Prop} (h : ∃ a0 a1 a2 a3 a4 a5, p0 a0 a1 a2 a3 a4 a5 ∧ p1 a0 a1 a2 a3 a4 a5 ∧ p2 a0 a1 a2 a3 a4 a5 ∧ p3 a0 a1 a2 a3 a4 a5 ∧ p4 a0 a1 a2 a3 a4 a5 ∧ p5 a0 a1 a2 a3 a4 a5 ∧ p6 a0 a1 a2 a3 a4 a5 ∧ p7 a0 a1 a2 a3 a4 a5 ∧ p8 a0 a1 a2 a3 a4 a5) (k : ∀ a0 a1 a2 a3 a4 a5, p0 a0 a1 a2 a3 a4 a5 → p1 a0 a1 a2 a3 a4 a5 → p2 a0 a1 a2 a3 a4 a5 → p3 a0 a1 a2 a3 a4 a5 → p4 a0 a1 a2 a3 a4 a5 → p5 a0 a1 a2 a3 a4 a5 → p6 a0 a1 a2 a3 a4 a5 → p7 a0 a1 a2 a3 a4 a5 → p8 a0 a1 a2 a3 a4 a5 → G) : G := h.elim fun a0 h => h.elim fun a1 h => h.elim fun a2 h => h.elim fun a3 h => h.elim fun a4 h => h.elim fun a5 h => k a0 a1 a2 a3 a4 a5 (h.1) (h.2.1) (h.2.2.1) (h.2.2.2.1) (h.2.2.2.2.1) (h.2.2.2.2.2.1) (h.2.2.2.2.2.2.1) (h.2.2.2.2.2.2.2.1) (h.2.2.2.2.2.2.2.2)
theorem ex_6_11 {α0 α1 α2 α3 α4 α5 : Sort _} {p0 p1 p2 p3 p4 p5 p6 p7 p8 p9 p10 : α0 → α1 → α2 → α3 → α4 → α5 → Prop} {G : Prop} (h : ∃ a0 a1 a2 a3 a4 a5, p0 a0 a1 a2 a3 a4 a5 ∧ p1 a0 a1 a2 a3 a4 a5 ∧ p2 a0 a1 a2 a3 a4 a5 ∧ p3 a0 a1 a2 a3 a4 a5 ∧ p4 a0 a1 a2 a3 a4 a5 ∧ p5 a0 a1 a2 a3 a4 a5 ∧ p6 a0 a1 a2 a3 a4 a5 ∧ p7 a0 a1 a2 a3 a4 a5 ∧ p8 a0 a1 a2 a3 a4 a5 ∧ p9 a0 a1 a2 a3 a4 a5 ∧ p10 a0 a1 a2 a3 a4 a5) (k : ∀ a0 a1 a2 a3 a4 a5, p0 a0 a1 a2 a3 a4 a5 → p1 a0 a1 a2 a3 a4 a5 → p2 a0 a1 a2 a3 a4 a5 → p3 a0 a1 a2 a3 a4 a5 → p4 a0 a1 a2 a3 a4 a5 → p5 a0 a1 a2 a3 a4 a5 → p6 a0 a1 a2 a3 a4 a5 → p7 a0 a1 a2 a3 a4 a5 → p8 a0 a1 a2 a3 a4 a5 → p9 a0 a1 a2 a3 a4 a5 → p10 a0 a1 a2 a3 a4 a5 → G) : G := h.elim fun a0 h => h.elim fun a1 h => h.elim fun a2 h => h.elim fun a3 h => h.elim fun a4 h => h.elim fun a5 h => k a0 a1 a2 a3 a4 a5 (h.1) (h.2.1) (h.2.2.1) (h.2.2.2.1) (h.2.2.2.2.1) (h.2.2.2.2.2.1) (h.2.2.2.2.2.2.1) (h.2.2.2.2.2.2.2.1) (h.2.2.2.2.2.2.2.2.1) (h.2.2.2.2.2.2.2.2.2.1) (h.2.2.2.2.2.2.2.2.2.2)
theorem ex_7_6 {α0 α1 α2 α3 α4 α5 α6 : Sort _} {p0 p1 p2 p3 p4 p5 : α0 → α1 → α2 → α3 → α4 → α5 → α6 → Prop} {G : Prop} (h : ∃ a0 a1 a2 a3 a4 a5 a6, p0 a0 a1 a2 a3 a4 a5 a6 ∧ p1 a0 a1 a2 a3 a4 a5 a6 ∧ p2 a0 a1 a2 a3 a4 a5 a6 ∧ p3 a0 a1 a2 a3 a4 a5 a6 ∧ p4 a0 a1 a2 a3 a4 a5 a6 ∧ p5 a0 a1 a2 a3 a4 a5 a6) (k : ∀ a0 a1 a2 a3 a4 a5 a6, p0 a0 a1 a2 a3 a4 a5 a6 → p1 a0 a1 a2 a3 a4 a5 a6 → p2 a0 a1 a2 a3 a4 a5 a6 → p3 a0 a1 a2 a3 a4 a5 a6 → p4 a0 a1 a2 a3 a4 a5 a6 → p5 a0 a1 a2 a3 a4 a5 a6 → G) : G := h.elim fun a0 h => h.elim fun a1 h => h.elim fun a2 h => h.elim fun a3 h => h.elim fun a4 h => h.elim fun a5 h => h.elim fun a6 h => k a0 a1 a2 a3 a4 a5 a6 (h.1) (h.2.1) (h.2.2.1) (h.2.2.2.1) (h.2.2.2.2.1) (h.2.2.2.2.2)
theorem ex_7_7 {α0 α1 α2 α3 α4 α5 α6 : Sort _} {p0 p1 p2 p3 p4 p5 p6 : α0 → α1 → α2 → α3 → α4 → α5 → α6 → Prop} {G : Prop} (h : ∃ a0 a1 a2 a3 a4 a5 a6, p0 a0 a1 a2 a3 a4 a5 a6 ∧ p1 a0 a1 a2 a3 a4 a5 a6 ∧ p2 a0 a1 a2 a3 a4 a5 a6 ∧ p3 a0 a1 a2 a3 a4 a5 a6 ∧ p4 a0 a1 a2 a3 a4 a5 a6 ∧ p5 a0 a1 a2 a3 a4 a5 a6 ∧ p6 a0 a1 a2 a3 a4 a5 a6) (k : ∀ a0 a1 a2 a3 a4 a5 a6, p0 a0 a1 a2 a3 a4 a5 a6 → p1 a0 a1 a2 a3 a4 a5 a6 → p2 a0 a1 a2 a3 a4 a5 a6 → p3 a0 a1 a2 a3 a4 a5 a6 → p4 a0 a1 a2 a3 a4 a5 a6 → p5 a0 a1 a2 a3 a4 a5 a6 → p6 a0 a1 a2 a3 a4 a5 a6 → G) : G := h.elim fun a0 h => h.elim fun a1 h => h.elim fun a2 h => h.elim fun a3 h => h.elim fun a4 h => h.elim fun a5 h => h.elim fun a6 h => k a0 a1 a2 a3 a4 a5 a6 (h.1) (h.2.1) (h.2.2.1) (h.2.2.2.1) (h.2.2.2.2.1) (h.2.2.2.2.2.1) (h.2.2.2.2.2.2)
theorem ex_7_14 {α0 α1 α2 α3 α4 α5 α6 : Sort _} {p0 p1 p2 p3 p4 p5 p6 p7 p8 p9 p10 p11 p12 p13 : α0 → α1 → α2 → α3 → α4 → α5 → α6 → Prop} {G : Prop} (h : ∃ a0 a1 a2 a3 a4 a5 a6, p0 a0 a1 a2 a3 a4 a5 a6 ∧ p1 a0 a1 a2 a3 a4 a5 a6 ∧ p2 a0 a1 a2 a3 a4 a5 a6 ∧ p3 a0 a1 a2 a3 a4 a5 a6 ∧ p4 a0 a1 a2 a3 a4 a5 a6 ∧ p5 a0 a1 a2 a3 a4 a5 a6 ∧ p6 a0 a1 a2 a3 a4 a5 a6 ∧ p7 a0 a1 a2 a3 a4 a5 a6 ∧ p8 a0 a1 a2 a3 a4 a5 a6 ∧ p9 a0 a1 a2 a3 a4 a5 a6 ∧ p10 a0 a1 a2 a3 a4 a5 a6 ∧ p11 a0 a1 a2 a3 a4 a5 a6 ∧ p12 a0 a1 a2 a3 a4 a5 a6 ∧ p13 a0 a1 a2 a3 a4 a5 a6) (k : ∀ a0 a1 a2 a3 a4 a5 a6, p0 a0 a1 a2 a3 a4 a5 a6 → p1 a0 a1 a2 a3 a4 a5 a6 → p2 a0 a1 a2 a3 a4 a5 a6 → p3 a0 a1 a2 a3 a4 a5 a6 → p4 a0 a1 a2 a3 a4 a5 a6 → p5 a0 a1 a2 a3 a4 a5 a6 → p6 a0 a1 a2 a3 a4 a5 a6 → p7 a0 a1 a2 a3 a4 a5 a6 → p8 a0 a1 a2 a3 a4 a5 a6 → p9 a0 a1 a2 a3 a4 a5 a6 → p10 a0 a1 a2 a3 a4 a5 a6 → p11 a0 a1 a2 a3 a4 a5 a6 → p12 a0 a1 a2 a3 a4 a5 a6 → p13 a0 a1 a2 a3 a4 a5 a6 → G) : G := h.elim fun a0 h => h.elim fun a1 h => h.elim fun a2 h => h.elim fun a3 h => h.elim fun a4 h => h.elim fun a5 h => h.elim fun a6 h => k a0 a1 a2 a3 a4 a5 a6 (h.1) (h.2.1) (h.2.2.1) (h.2.2.2.1) (h.2.2.2.2.1) (h.2.2.2.2.2.1) (h.2.2.2.2.2.2.1) (h.2.2.2.2.2.2.2.1) (h.2.2.2.2.2.2.2.2.1) (h.2.2.2.2.2.2.2.2.2.1) (h.2.2.2.2.2.2.2.2.2.2.1) (h.2.2.2.2.2.2.2.2.2.2.2.1) (h.2.2.2.2.2.2.2.2.2.2.2.2.1) (h.2.2.2.2.2.2.2.2.2.2.2.2.2)
theorem ex_9_5 {α0 α1 α2 α3 α4 α5 α6 α7 α8 : Sort _} {p0 p1 p2 p3 p4 : α0 → α1 → α2 → α3 → α4 → α5 → α6 → α7 → α8 → Prop} {G : Prop} (h : ∃ a0 a1 a2 a3 a4 a5 a6 a7 a8, p0 a0 a1 a2 a3 a4 a5 a6 a7 a8 ∧ p1 a0 a1 a2 a3 a4 a5 a6 a7 a8 ∧ p2 a0 a1 a2 a3 a4 a5 a6 a7 a8 ∧ p3 a0 a1 a2 a3 a4 a5 a6 a7 a8 ∧ p4 a0 a1 a2 a3 a4 a5 a6 a7 a8) (k : ∀ a0 a1 a2 a3 a4 a5 a6 a7 a8, p0 a0 a1 a2 a3 a4 a5 a6 a7 a8 → p1 a0 a1 a2 a3 a4 a5 a6 a7 a8 → p2 a0 a1 a2 a3 a4 a5 a6 a7 a8 → p3 a0 a1 a2 a3 a4 a5 a6 a7 a8 → p4 a0 a1 a2 a3 a4 a5 a6 a7 a8 → G) : G := h.elim fun a0 h => h.elim fun a1 h => h.elim fun a2 h => h.elim fun a3 h => h.elim fun a4 h => h.elim fun a5 h => h.elim fun a6 h => h.elim fun a7 h => h.elim fun a8 h => k a0 a1 a2 a3 a4 a5 a6 a7 a8 (h.1) (h.2.1) (h.2.2.1) (h.2.2.2.1) (h.2.2.2.2)
theorem ex_10_6 {α0 α1 α2 α3 α4 α5 α6 α7 α8 α9 : Sort _} {p0 p1 p2 p3 p4 p5 : α0 → α1 → α2 → α3 → α4 → α5 → α6 → α7 → α8 → α9 → Prop} {G : Prop} (h : ∃ a0 a1 a2 a3 a4 a5 a6 a7 a8 a9, p0 a0 a1 a2 a3 a4 a5 a6 a7 a8 a9 ∧ p1 a0 a1 a2 a3 a4 a5 a6 a7 a8 a9 ∧ p2 a0 a1 a2 a3 a4 a5 a6 a7 a8 a9 ∧ p3 a0 a1 a2 a3 a4 a5 a6 a7 a8 a9 ∧ p4 a0 a1 a2 a3 a4 a5 a6 a7 a8 a9 ∧ p5 a0 a1 a2 a3 a4 a5 a6 a7 a8 a9) (k : ∀ a0 a1 a2 a3 a4 a5 a6 a7 a8 a9, p0 a0 a1 a2 a3 a4 a5 a6 a7 a8 a9 → p1 a0 a1 a2 a3 a4 a5 a6 a7 a8 a9 → p2 a0 a1 a2 a3 a4 a5 a6 a7 a8 a9 → p3 a0 a1 a2 a3 a4 a5 a6 a7 a8 a9 → p4 a0 a1 a2 a3 a4 a5 a6 a7 a8 a9 → p5 a0 a1 a2 a3 a4 a5 a6 a7 a8 a9 → G) : G := h.elim fun a0 h => h.elim fun a1 h => h.elim fun a2 h => h.elim fun a3 h => h.elim fun a4 h => h.elim fun a5 h => h.elim fun a6 h => h.elim fun a7 h => h.elim fun a8 h => h.elim fun a9 h => k a0 a1 a2 a3 a4 a5 a6 a7 a8 a9 (h.1) (h.2.1) (h.2.2.1) (h.2.2.2.1) (h.2.2.2.2.1) (h.2.2.2.2.2)
theorem ex_10_9 {α0 α1 α2 α3 α4 α5 α6 α7 α8 α9 : Sort _} {p0 p1 p2 p3 p4 p5 p6 p7 p8 : α0 → α1 → α2 → α3 → α4 → α5 → α6 → α7 → α8 → α9 → Prop} {G : Prop} (h : ∃ a0 a1 a2 a3 a4 a5 a6 a7 a8 a9, p0 a0 a1 a2 a3 a4 a5 a6 a7 a8 a9 ∧ p1 a0 a1 a2 a3 a4 a5 a6 a7 a8 a9 ∧ p2 a0 a1 a2 a3 a4 a5 a6 a7 a8 a9 ∧ p3 a0 a1 a2 a3 a4 a5 a6 a7 a8 a9 ∧ p4 a0 a1 a2 a3 a4 a5 a6 a7 a8 a9 ∧ p5 a0 a1 a2 a3 a4 a5 a6 a7 a8 a9 ∧ p6 a0 a1 a2 a3 a4 a5 a6 a7 a8 a9 ∧ p7 a0 a1 a2 a3 a4 a5 a6 a7 a8 a9 ∧ p8 a0 a1 a2 a3 a4 a5 a6 a7 a8 a9) (k : ∀ a0 a1 a2 a3 a4 a5 a6 a7 a8 a9, p0 a0 a1 a2 a3 a4 a5 a6 a7 a8 a9 → p1 a0 a1 a2 a3 a4 a5 a6 a7 a8 a9 → p2 a0 a1 a2 a3 a4 a5 a6 a7 a8 a9 → p3 a0 a1 a2 a3 a4 a5 a6 a7 a8 a9 → p4 a0 a1 a2 a3 a4 a5 a6 a7 a8 a9 → p5 a0 a1 a2 a3 a4 a5 a6 a7 a8 a9 → p6 a0 a1 a2 a3 a4 a5 a6 a7 a8 a9 → p7 a0 a1 a2 a3 a4 a5 a6 a7 a8 a9 → p8 a0 a1 a2 a3 a4 a5 a6 a7 a8 a9 → G) : G := h.elim fun a0 h => h.elim fun a1 h => h.elim fun a2 h => h.elim fun a3 h => h.elim fun a4 h => h.elim fun a5 h => h.elim fun a6 h => h.elim fun a7 h => h.elim fun a8 h => h.elim fun a9 h => k a0 a1 a2 a3 a4 a5 a6 a7 a8 a9 (h.1) (h.2.1) (h.2.2.1) (h.2.2.2.1) (h.2.2.2.2.1) (h.2.2.2.2.2.1) (h.2.2.2.2.2.2.1) (h.2.2.2.2.2.2.2.1) (h.2.2.2.2.2.2.2.2)
theorem ex_10_11 {α0 α1 α2 α3 α4 α5 α6 α7 α8 α9 : Sort _} {p0 p1 p2 p3 p4 p5 p6 p7 p8 p9 p10 : α0 → α1 → α2 → α3 → α4 → α5 → α6 → α7 → α8 → α9 → Prop} {G : Prop} (h : ∃ a0 a1 a2 a3 a4 a5 a6 a7 a8 a9, p0 a0 a1 a2 a3 a4 a5 a6 a7 a8 a9 ∧ p1 a0 a1 a2 a3 a4 a5 a6 a7 a8 a9 ∧ p2 a0 a1 a2 a3 a4 a5 a6 a7 a8 a9 ∧ p3 a0 a1 a2 a3 a4 a5 a6 a7 a8 a9 ∧ p4 a0 a1 a2 a3 a4 a5 a6 a7 a8 a9 ∧ p5 a0 a1 a2 a3 a4 a5 a6 a7 a8 a9 ∧ p6 a0 a1 a2 a3 a4 a5 a6 a7 a8 a9 ∧ p7 a0 a1 a2 a3 a4 a5 a6 a7 a8 a9 ∧ p8 a0 a1 a2 a3 a4 a5 a6 a7 a8 a9 ∧ p9 a0 a1 a2 a3 a4 a5 a6 a7 a8 a9 ∧ p10 a0 a1 a2 a3 a4 a5 a6 a7 a8 a9) (k : ∀ a0 a1 a2 a3 a4 a5 a6 a7 a8 a9, p0 a0 a1 a2 a3 a4 a5 a6 a7 a8 a9 → p1 a0 a1 a2 a3 a4 a5 a6 a7 a8 a9 → p2 a0 a1 a2 a3 a4 a5 a6 a7 a8 a9 → p3 a0 a1 a2 a3 a4 a5 a6 a7 a8 a9 → p4 a0 a1 a2 a3 a4 a5 a6 a7 a8 a9 → p5 a0 a1 a2 a3 a4 a5 a6 a7 a8 a9 → p6 a0 a1 a2 a3 a4 a5 a6 a7 a8 a9 → p7 a0 a1 a2 a3 a4 a5 a6 a7 a8 a9 → p8 a0 a1 a2 a3 a4 a5 a6 a7 a8 a9 → p9 a0 a1 a2 a3 a4 a5 a6 a7 a8 a9 → p10 a0 a1 a2 a3 a4 a5 a6 a7 a8 a9 → G) : G := h.elim fun a0 h => h.elim fun a1 h => h.elim fun a2 h => h.elim fun a3 h => h.elim fun a4 h => h.elim fun a5 h => h.elim fun a6 h => h.elim fun a7 h => h.elim fun a8 h => h.elim fun a9 h => k a0 a1 a2 a3 a4 a5 a6 a7 a8 a9 (h.1) (h.2.1) (h.2.2.1) (h.2.2.2.1) (h.2.2.2.2.1) (h.2.2.2.2.2.1) (h.2.2.2.2.2.2.1) (h.2.2.2.2.2.2.2.1) (h.2.2.2.2.2.2.2.2.1) (h.2.2.2.2.2.2.2.2.2.1) (h.2.2.2.2.2.2.2.2.2.2)
theorem ex_13_7 {α0 α1 α2 α3 α4 α5 α6 α7 α8 α9 α10 α11 α12 : Sort _} {p0 p1 p2 p3 p4 p5 p6 : α0 → α1 → α2 → α3 → α4 → α5 → α6 → α7 → α8 → α9 → α10 → α11 → α12 → Prop} {G : Prop} (h : ∃ a0 a1 a2 a3 a4 a5 a6 a7 a8 a9 a10 a11 a12, p0 a0 a1 a2 a3 a4 a5 a6 a7 a8 a9 a10 a11 a12 ∧ p1 a0 a1 a2 a3 a4 a5 a6 a7 a8 a9 a10 a11 a12 ∧ p2 a0 a1 a2 a3 a4 a5 a6 a7 a8 a9 a10 a11 a12 ∧ p3 a0 a1 a2 a3 a4 a5 a6 a7 a8 a9 a10 a11 a12 ∧ p4 a0 a1 a2 a3 a4 a5 a6 a7 a8 a9 a10 a11 a12 ∧ p5 a0 a1 a2 a3 a4 a5 a6 a7 a8 a9 a10 a11 a12 ∧ p6 a0 a1 a2 a3 a4 a5 a6 a7 a8 a9 a10 a11 a12) (k : ∀ a0 a1 a2 a3 a4 a5 a6 a7 a8 a9 a10 a11 a12, p0 a0 a1 a2 a3 a4 a5 a6 a7 a8 a9 a10 a11 a12 → p1 a0 a1 a2 a3 a4 a5 a6 a7 a8 a9 a10 a11 a12 → p2 a0 a1 a2 a3 a4 a5 a6 a7 a8 a9 a10 a11 a12 → p3 a0 a1 a2 a3 a4 a5 a6 a7 a8 a9 a10 a11 a12 → p4 a0 a1 a2 a3 a4 a5 a6 a7 a8 a9 a10 a11 a12 → p5 a0 a1 a2 a3 a4 a5 a6 a7 a8 a9 a10 a11 a12 → p6 a0 a1 a2 a3 a4 a5 a6 a7 a8 a9 a10 a11 a12 → G) : G := h.elim fun a0 h => h.elim fun a1 h => h.elim fun a2 h => h.elim fun a3 h => h.elim fun a4 h => h.elim fun a5 h => h.elim fun a6 h => h.elim fun a7 h => h.elim fun a8 h => h.elim fun a9 h => h.elim fun a10 h => h.elim fun a11 h => h.elim fun a12 h => k a0 a1 a2 a3 a4 a5 a6 a7 a8 a9 a10 a11 a12 (h.1) (h.2.1) (h.2.2.1) (h.2.2.2.1) (h.2.2.2.2.1) (h.2.2.2.2.2.1) (h.2.2.2.2.2.2)
theorem ex_14_4 {α0 α1 α2 α3 α4 α5 α6 α7 α8 α9 α10 α11 α12 α13 : Sort _} {p0 p1 p2 p3 : α0 → α1 → α2 → α3 → α4 → α5 → α6 → α7 → α8 → α9 → α10 → α11 → α12 → α13 → Prop} {G : Prop} (h : ∃ a0 a1 a2 a3 a4 a5 a6 a7 a8 a9 a10 a11 a12 a13, p0 a0 a1 a2 a3 a4 a5 a6 a7 a8 a9 a10 a11 a12 a13 ∧ p1 a0 a1 a2 a3 a4 a5 a6 a7 a8 a9 a10 a11 a12 a13 ∧ p2 a0 a1 a2 a3 a4 a5 a6 a7 a8 a9 a10 a11 a12 a13 ∧ p3 a0 a1 a2 a3 a4 a5 a6 a7 a8 a9 a10 a11 a12 a13) (k : ∀ a0 a1 a2 a3 a4 a5 a6 a7 a8 a9 a10 a11 a12 a13, p0 a0 a1 a2 a3 a4 a5 a6 a7 a8 a9 a10 a11 a12 a13 → p1 a0 a1 a2 a3 a4 a5 a6 a7 a8 a9 a10 a11 a12 a13 → p2 a0 a1 a2 a3 a4 a5 a6 a7 a8 a9 a10 a11 a12 a13 → p3 a0 a1 a2 a3 a4 a5 a6 a7 a8 a9 a10 a11 a12 a13 → G) : G := h.elim fun a0 h => h.elim fun a1 h => h.elim fun a2 h => h.elim fun a3 h => h.elim fun a4 h => h.elim fun a5 h => h.elim fun a6 h => h.elim fun a7 h => h.elim fun a8 h => h.elim fun a9 h => h.elim fun a10 h => h.elim fun a11 h => h.elim fun a12 h => h.elim fun a13 h => k a0 a1 a2 a3 a4 a5 a6 a7 a8 a9 a10 a11 a12 a13 (h.1) (h.2.1) (h.2.2.1) (h.2.2.2)
theorem gen_toks {α : Type} {M : Model} {A : Around} {t : Sem α} {Q : α → Shared → Prop} {E : Value → Shared → Prop} {heap gens drawn toks os} (hpos : 0 < toks) (h : ∀ tk : Nat, 0 < tk → wpAny M A t Q E ⟨heap, gens, drawn, tk, os⟩) :
    wpAny M A t Q E ⟨heap, gens, drawn, toks, os⟩ := h toks hpos
theorem own_dis {own E : Ledger} {adr : List Addr} (h : OwnOff own adr) (hs : ∀ r ∈ E, r.1 ∈ adr) : ∀ q ∈ own, ∀ r ∈ E, r.1 ≠ q.1 := fun q hq r hr => (h q hq r.1 (hs r hr)).symm
theorem truthy_meth {prog : Program} {w : World} {A : Around} {E : Value → Shared → Prop} {s : Shared} {q : Addr} {f self : Value} {h₀ : Heap} {L : Addr} {news : Ledger} {Q : Bool → Shared → Prop} (N : News h₀ L s.heap news) (hq : (q, methodObj f self) ∈ news) (h : Q true s) :
    wpAny (model prog w) A (truthy (.ref q)) Q E s := by
  have hT : s.TypeIs (.ref q) "method" := ⟨_, (N _ hq).1, rfl⟩
  unfold truthy
  refine wpAny_bind (wpAny_callSpecial?_none (name := Str.ofString "__bool__") hT (by rw [typeLookup_type, builtinLookup_eq_fast]; kernel_rfl) ?_)
  refine wpAny_bind (wpAny_specialOf (r := none) hT (by rw [typeLookup_type, builtinLookup_eq_fast]; kernel_rfl) ?_)
  exact wpAny_pure h
section
theorem news_app {h₀ h : Heap} {L : Addr} {a b : Ledger} (A : News h₀ L h a) (B : News h₀ L h b) : News h₀ L h (a ++ b) := fun p hp => (List.mem_append.mp hp).elim (A p) (B p)
section
variable {prog : Program} {w : World} {A : Around} {E : Value → Shared → Prop} {s : Shared} {h₀ : Heap} {L fa : Addr} {m : Str → Option Value} {cn : Str} {cs : Scope} {ccd : Value}
/-- a chain of two comparisons of a name that holds an int with two written ones, as one value -/
theorem chain_ll {x : Str} {a b n : Int} {t : Tok} {k k' : Nat} {p1 p2 p3 pos : Pos} {Q : Value → Shared → Prop} (F : Fr h₀ L s.heap m) (hv : m x = some (.int n t)) (hQ : ∀ tk, Q (.bool (decide (a ≤ n ∧ n ≤ b))) { s with toks := tk })
    (hk : cs.kind = .function := by rfl) (hl : (envOf cn cs L fa ccd).kindOf x = some .local := by rfl) (hd : (x == ("__debug__" : Str)) = false := by decide) :
    wpAny (model prog w) A (eval (.Compare (.Constant (.int a) k p1) [.LtE, .LtE] [.Name x p2, .Constant (.int b) k' p3] pos) (envOf cn cs L fa ccd)) Q E s := by
  refine Compare_chain (wpAny_Constant_int (chain_link (ld (s := { s with toks := s.toks + 1 }) F hv ?_ hk hl hd))) (by with_unfolding_all rfl)
  refine le_int (wpAny_truthy_bool ?_)
  by_cases h : a ≤ n
  · rw [if_pos (by simpa using h)]
    refine chain_last (wpAny_Constant_int (le_int ?_))
    have := hQ (s.toks + 1 + 1)
    simpa [h] using this
  · rw [if_neg (by simpa using h)]
    have := hQ (s.toks + 1)
    simpa [h] using this
theorem isTrue_ll {whole : Sem Value} {x : Str} {a b n : Int} {t : Tok} {k k' : Nat} {p1 p2 p3 pos : Pos} {Q : Bool → Shared → Prop} (F : Fr h₀ L s.heap m) (hv : m x = some (.int n t)) (hQ : ∀ tk, Q (decide (a ≤ n ∧ n ≤ b)) { s with toks := tk })
    (hk : cs.kind = .function := by rfl) (hl : (envOf cn cs L fa ccd).kindOf x = some .local := by rfl) (hd : (x == ("__debug__" : Str)) = false := by decide) :
    wpAny (model prog w) A (isTrue (.Compare (.Constant (.int a) k p1) [.LtE, .LtE] [.Name x p2, .Constant (.int b) k' p3] pos) (envOf cn cs L fa ccd) whole) Q E s := by
  refine isTrue_chain (wpAny_Constant_int (test_link (ld (s := { s with toks := s.toks + 1 }) F hv ?_ hk hl hd))) (by with_unfolding_all rfl)
  refine le_int (wpAny_truthy_bool ?_)
  by_cases h : a ≤ n
  · rw [if_pos (by simpa using h)]
    refine test_last (wpAny_Constant_int (le_int (wpAny_truthy_bool ?_)))
    have := hQ (s.toks + 1 + 1)
    simpa [h] using this
  · rw [if_neg (by simpa using h)]
    have := hQ (s.toks + 1)
    simpa [h] using this
end
local macro_rules | `(tactic| k_room) => `(tactic| ((simp only [depth_under_make, depth_under_kw, depth_in1, depth_deeper, depth_caller]); (try dsimp only [ktrTop]); omega))
noncomputable def bad (n : Int) : Bool := decide (1 ≤ n ∧ n ≤ 8) || n == 11 || decide (14 ≤ n ∧ n ≤ 31) || decide (127 ≤ n ∧ n ≤ 159) || decide (64976 ≤ n ∧ n ≤ 65007) || (n.fmod 65536 == 65534 || n.fmod 65536 == 65535) || decide (55296 ≤ n ∧ n ≤ 57343)

set_option maxRecDepth 100000 in
set_option maxHeartbeats 1000000 in
theorem does_inval (w : World) (n : Int) (tk : Nat) : Does w 1 (.ref 49) [.int n tk] [] (fun v E' => v = .bool (bad n) ∧ E' = []) := by
  unfold Does
  k_fill
  intro dp un gd cn cs a ccd cl outer A₀ base h₀ L m s R loose mean mg mb rest B F KX N T hdis hk hroom hun hret
  refine' enterR (binds := [(Str.ofString "codepoint", .int n tk)]) ?k1 ?k2 ?k3 ?k4 ?k5 ?kd ?kA ?kF ?kK ?k6 ?k7 ?k8 ?k9 ?kB ?_ ?c2 ?c3 ?c4 ?c5
  (case kA => exact rfl); (case kF => exact rfl); (case kK => first | exact rfl | assumption); (case k1 => k_asm); (case k2 => k_asm); (case k3 => k_asm); (case k4 => k_asm); (case k5 => k_asm); (case kd => assumption); (case k6 => k_dflt k_is); (case k7 => k_dflt k_is); (case k8 => k_room); (case k9 => first | exact BindsTo.of_eq rfl | exact binds_K (by k_in) rfl (by k_is) rfl rfl rfl); (case c5 => decide); (case kB => exact locs rfl); (case c2 => exact rfl); (case c3 => exact rfl); (case c4 => exact rfl)
  k_whole
  intro g' L' h' FG' F' N' B' X' T' lt'
  clear N F
  (try dsimp only)
  (try k_fold)
  w_on
  w_top on
  w_strict ((repeat' (first | with_reducible (((with_reducible show (if ((_ == _) || (_ == _)) = true then _ else _)); refine split_bool ?_ ?_ <;> intro _)) | with_reducible ((show wpAny _ _ (compareOp CmpOp.In (Value.int _ _) (Value.ref _)) _ _ _); (k_here; k_dflt (refine' in_tuple_ints ?zT ?zI ?_; (case zT => exact News.isTup (by k_asm) (by k_mem)); (case zI => exact IntsAre.cons _ _ (IntsAre.cons _ _ IntsAre.nil)); k_whole; (simp only [List.any_cons, List.any_nil, Bool.or_false])))) | with_reducible ((show wpAny _ _ (eval (Expr.Compare _ _ _ _) _) _ _ _); (k_here; k_dflt (first | (refine' chain_ll ?zF ?zv ?_ ?zk ?zl; (case zF => k_asm); (case zv => rfl); (case zk => rfl); (case zl => rfl); k_whole; intro _; (try dsimp only)) | (refine' chain_tt ?zF ?zv ?_ ?zk ?zl; (case zF => k_asm); (case zv => rfl); (case zk => rfl); (case zl => rfl); k_whole; intro _; (try dsimp only)) | (refine' chain_lt ?zF ?zv ?_ ?zk ?zl; (case zF => k_asm); (case zv => rfl); (case zk => rfl); (case zl => rfl); k_whole; intro _; (try dsimp only))))) | (k_unfold; (try dsimp only)) | walk1 | (dsimp only; walk1) | (dsimp only [List.nil_append, List.cons_append]; walk1) | (k_end; dsimp only; k_unfold; (try dsimp only)) | (leave1; (try dsimp only)))))
  all_goals (
    (refine hret _ [] _ _ (by k_asm) (news_app News.nil (by k_asm)) ⟨?_, rfl⟩)
    (congr 1; unfold bad; (rw [Bool.eq_iff_iff]); (simp only [Bool.or_eq_true, Bool.or_eq_false_iff, beq_iff_eq, beq_eq_false_iff_ne, decide_eq_true_eq, ne_eq, @eq_comm Int 65534 (n.fmod 65536), @eq_comm Int 65535 (n.fmod 65536)] at *); first | (simp only [*, true_or, or_true, or_false, false_or, iff_self, and_self, not_false_eq_true, or_self]; done) | (clear hret; omega)))
end
section
open Builtin Builtin.Str
noncomputable def clipI (len : Nat) (v : Option Int) (d : Int) : Int := match v with
  | none => d
  | some i => max (0 : Int) (min (if i < 0 then i + (len : Int) else i) (len : Int))
theorem indices_of (l u : Option Int) (a b len : Nat) (hab : a ≤ b)
    (h1 : clipI len l 0 = (a : Int))
    (h2 : clipI len u (len : Int) = (b : Int)) :
    strSliceIndices l u 1 len = (List.range (b - a)).map (fun k => a + k) := by
  have e1 : strSliceIndices l u 1 len = sliceRange (a : Int) (b : Int) 1 := by
    unfold strSliceIndices
    cases l <;> cases u <;> (simp only [clipI] at h1 h2; rw [← h1, ← h2]; rfl)
  rw [e1]
  unfold sliceRange
  simp only [show ((1 : Int) > 0) = True from by simp, if_true]
  by_cases hlt : (a : Int) < b
  · have e3 : (((b : Int) - a + 1 - 1) / 1).toNat = b - a := by first | omega | (simp; done) | (simp; omega)
    simp only [hlt, if_true, e3]
    refine List.map_congr_left fun k _ => ?_
    omega
  · have : b - a = 0 := by omega
    simp [hlt, this]
theorem slice_core (x : Str) (l u : Option Int) (p k : Nat) (hk : p + k ≤ x.length) (hi : strSliceIndices l u 1 x.length = (List.range k).map (fun j => p + j)) :
    (Txt.slice x l u).cps.toList = (x.cps.toList.drop p).take k := by
  have hp := StrLaws.picks x.cps.toList k p (by simpa [Str.length] using hk)
  unfold Txt.slice
  rw [hi]
  split
  · rename_i h
    simp at h
    have h0 : p = 0 := by omega
    subst h0
    rw [List.drop_zero, List.take_of_length_le]
    rw [h]; simp [Str.length]
  · simpa using hp
theorem clip_le {len i : Nat} {d : Int} (h : i ≤ len) : clipI len (some (i : Int)) d = (i : Int) := by
  unfold clipI
  show max (0 : Int) (min (if (i : Int) < 0 then (i : Int) + (len : Int) else (i : Int)) (len : Int)) = _
  rw [if_neg (Int.not_lt.mpr (Int.natCast_nonneg i)), Int.min_eq_left (Int.ofNat_le.mpr h), Int.max_eq_right (Int.natCast_nonneg i)]
theorem clip_ge {len i : Nat} {d : Int} (h : len ≤ i) : clipI len (some (i : Int)) d = (len : Int) := by
  unfold clipI
  show max (0 : Int) (min (if (i : Int) < 0 then (i : Int) + (len : Int) else (i : Int)) (len : Int)) = _
  rw [if_neg (Int.not_lt.mpr (Int.natCast_nonneg i)), Int.min_eq_right (Int.ofNat_le.mpr h), Int.max_eq_right (Int.natCast_nonneg len)]
theorem clip_m1 {len : Nat} {d : Int} : clipI len (some (-1)) d = ((len - 1 : Nat) : Int) := by
  unfold clipI
  show max (0 : Int) (min (if (-1 : Int) < 0 then (-1 : Int) + (len : Int) else -1) (len : Int)) = _
  rw [if_pos (by decide)]
  omega
theorem len_is (x : Str) : x.cps.toList.length = x.length := rfl
theorem drop_is (x : Str) (p : Nat) : (x.cps.toList.drop p).length = x.length - p := by rw [List.length_drop, len_is]
theorem slice_range (x : Str) {p r : Nat} (hp : p ≤ r) (hr : r ≤ x.length) : (Txt.slice x (some (p : Int)) (some (r : Int))).cps.toList = (x.cps.toList.drop p).take (r - p) := by
  have e := indices_of (some (p : Int)) (some (r : Int)) p r x.length hp (clip_le (Nat.le_trans hp hr)) (clip_le hr)
  exact slice_core x (some (p : Int)) (some (r : Int)) p (r - p) (by rw [Nat.add_sub_cancel' hp]; exact hr) e
theorem slice_tail (x : Str) {p : Nat} (hp : p ≤ x.length) : (Txt.slice x (some (p : Int)) none).cps.toList = x.cps.toList.drop p := by
  have e := slice_core x (some (p : Int)) none p (x.length - p) (Nat.le_of_eq (Nat.add_sub_cancel' hp)) (indices_of (some (p : Int)) none p x.length x.length hp (clip_le hp) rfl)
  rw [e, List.take_of_length_le (Nat.le_of_eq (drop_is x p))]
theorem slice_nat (x : Str) {p : Nat} (n : Nat) (hp : p ≤ x.length) : (Txt.slice x (some (p : Int)) (some ((p : Int) + (n : Int)))).cps.toList = (x.cps.toList.drop p).take n := by
  rcases Nat.le_total (p + n) x.length with h | h
  · have e := slice_range x (Nat.le_add_right p n) h
    rw [Nat.add_sub_cancel_left] at e
    exact e
  · have e := slice_core x (some (p : Int)) (some ((p + n : Nat) : Int)) p (x.length - p) (Nat.le_of_eq (Nat.add_sub_cancel' hp)) (indices_of (some (p : Int)) (some ((p + n : Nat) : Int)) p x.length x.length hp (clip_le hp) (clip_ge h))
    have h2 : x.length - p ≤ n := Nat.sub_le_iff_le_add'.mpr h
    rw [List.take_of_length_le (Nat.le_of_eq (drop_is x p))] at e
    rw [List.take_of_length_le (Nat.le_trans (Nat.le_of_eq (drop_is x p)) h2)]
    exact e
theorem slice_init (x : Str) (hx : 1 ≤ x.length) : (Txt.slice x none (some (-1))).cps.toList = x.cps.toList.dropLast := by
  have e := slice_core x none (some (-1)) 0 (x.length - 1) (by rw [Nat.zero_add]; exact Nat.sub_le _ _) (indices_of none (some (-1)) 0 (x.length - 1) x.length (Nat.zero_le _) rfl clip_m1)
  rw [e, List.drop_zero, List.dropLast_eq_take, len_is]
end
section
open Builtin Builtin.Str
noncomputable def crf (c : Nat) : Nat := if c = 13 then 10 else c
noncomputable def crlf : List Nat → List Nat
  | [] => []
  | [c] => [c]
  | c :: d :: r => if c = 13 ∧ d = 10 then 10 :: crlf r else c :: crlf (d :: r)
/-- line ends mended -/
noncomputable def norm (l : List Nat) : List Nat := (crlf l).map crf
noncomputable def starts (l : List Nat) : Prop := ∃ r, l = 13 :: 10 :: r
theorem crlf_cons {c : Nat} {r : List Nat} (h : ¬ starts (c :: r)) : crlf (c :: r) = c :: crlf r := by
  cases r with
  | nil => rfl
  | cons d r =>
    rw [crlf, if_neg]
    rintro ⟨rfl, rfl⟩
    exact h ⟨r, rfl⟩
theorem crlf_starts (r : List Nat) : crlf (13 :: 10 :: r) = 10 :: crlf r := by
  rw [crlf]; rfl
theorem crlf_skip : ∀ (k : Nat) (l : List Nat), (∀ j, j < k → ¬ starts (l.drop j)) → crlf l = l.take k ++ crlf (l.drop k)
  | 0, l, _ => rfl
  | k + 1, [], _ => rfl
  | k + 1, c :: r, h => by
    rw [crlf_cons (h 0 (by omega)), crlf_skip k r fun j hj => h (j + 1) (by omega)]
    rfl
theorem crlf_length : ∀ l : List Nat, (crlf l).length ≤ l.length
  | [] => Nat.le_refl _
  | [_] => Nat.le_refl _
  | c :: d :: r => by
    unfold crlf
    have h1 := crlf_length r
    have h2 := crlf_length (d :: r)
    split
    · simp only [List.length_cons]; omega
    · simp only [List.length_cons] at h2 ⊢; omega
theorem norm_length (l : List Nat) : (norm l).length ≤ l.length := by
  unfold norm; rw [List.length_map]; exact crlf_length l

theorem at_starts (x : Str) (i : Nat) : StrLaws.At x ⟨#[13, 10]⟩ x.length i ↔ starts (x.cps.toList.drop i) := by
  unfold StrLaws.At
  rw [StrLaws.subAt_eq]
  show i + 2 ≤ x.length ∧ ((x.cps.toList.drop i).take 2 == [13, 10]) = true ↔ _
  have hl : (x.cps.toList.drop i).length = x.length - i := by simp [Str.length]
  constructor
  · rintro ⟨h1, h2⟩
    have h3 := eq_of_beq h2
    refine ⟨(x.cps.toList.drop i).drop 2, ?_⟩
    rw [← List.take_append_drop 2 (x.cps.toList.drop i), h3]
    simp
  · rintro ⟨r, e⟩
    have hl' := congrArg List.length e
    rw [hl] at hl'
    simp only [List.length_cons] at hl'
    refine ⟨by omega, ?_⟩
    rw [e]; rfl
theorem crlf_chain (x : Str) : ∀ (cuts : List Nat) (a f : Nat), StrLaws.ChainG x ⟨#[13, 10]⟩ x.length a cuts f → (∀ k, f ≤ k → ¬ StrLaws.At x ⟨#[13, 10]⟩ x.length k) →
    (Str.join ⟨#[10]⟩ (StrLaws.partsFrom x 2 a cuts)).cps.toList = crlf (x.cps.toList.drop a)
  | [], a, f, h, hn => by
    have e : f = a := h
    subst e
    show (strSub x f x.length).cps.toList = _
    rw [StrLaws.strSub_toList, crlf_skip (x.length - f) _ fun j _ hs => hn (f + j) (by omega) ((at_starts x _).mpr (by rwa [List.drop_drop] at hs)), List.drop_drop]
    have : x.cps.toList.drop (f + (x.length - f)) = [] := List.drop_of_length_le (by simp [Str.length]; omega)
    rw [this]
    simp [crlf]
  | c :: r, a, f, h, hn => by
    obtain ⟨h1, h2, h3, h4⟩ := h
    have ih := crlf_chain x r (c + 2) f h4 hn
    obtain ⟨p, q, hp⟩ := StrLaws.partsFrom_ne x 2 (c + 2) r
    show (Str.join ⟨#[10]⟩ (strSub x a c :: StrLaws.partsFrom x 2 (c + 2) r)).cps.toList = _
    rw [hp] at ih ⊢
    show (strSub x a c ++ ⟨#[10]⟩ ++ Str.join ⟨#[10]⟩ (p :: q)).cps.toList = _
    simp only [Str.cps_append, Array.toList_append]
    rw [ih, StrLaws.strSub_toList, crlf_skip (c - a) (x.cps.toList.drop a) fun j hj hs => h3 (a + j) (by omega) (by omega) ((at_starts x _).mpr (by rwa [List.drop_drop] at hs)), List.drop_drop,
      show a + (c - a) = c by omega]
    obtain ⟨t, ht⟩ := (at_starts x c).mp h2
    rw [ht, crlf_starts, List.append_assoc]
    congr 1
    have : x.cps.toList.drop (c + 2) = t := by rw [← List.drop_drop, ht]; rfl
    rw [this]; rfl
theorem replace_crlf (x : Str) : (Txt.replace x ⟨#[13, 10]⟩ ⟨#[10]⟩).cps.toList = crlf x.cps.toList := by
  obtain ⟨f, h1, h2⟩ := StrLaws.occ_tight x ⟨#[13, 10]⟩ (by decide)
  have key := crlf_chain x _ 0 f h1 h2
  rw [List.drop_zero] at key
  have e2 : ((⟨#[13, 10]⟩ : Str).length == 0) = false := rfl
  unfold Txt.replace
  rw [e2, Bool.false_and, Bool.or_false]
  split
  · rename_i he
    have hn : occurrences x ⟨#[13, 10]⟩ 0 x.length (x.length + 1) = [] := List.isEmpty_iff.mp he
    rw [hn] at key
    rw [← key]
    show _ = (strSub x 0 x.length).cps.toList
    rw [StrLaws.sub_whole]
  · rw [StrLaws.glued_eq_join, StrLaws.partsBetween_eq]
    exact key
theorem cr_free : ∀ l : List Nat, 13 ∉ l → l.map crf = l
  | [], _ => rfl
  | k :: r, h => by
    have h1 : ¬ k = 13 := fun e => h (e ▸ List.mem_cons_self ..)
    rw [List.map_cons, cr_free r fun m => h (List.mem_cons_of_mem _ m)]
    unfold crf
    rw [if_neg h1]
theorem cr_join : ∀ parts : List Str, (∀ p ∈ parts, 13 ∉ p.cps.toList) → (Str.join ⟨#[13]⟩ parts).cps.toList.map crf = (Str.join ⟨#[10]⟩ parts).cps.toList
  | [], _ => rfl
  | [p], h => cr_free _ (h p (List.mem_singleton.mpr rfl))
  | p :: q :: r, h => by
    have ih := cr_join (q :: r) fun a ha => h a (List.mem_cons_of_mem _ ha)
    show ((p ++ ⟨#[13]⟩ ++ Str.join ⟨#[13]⟩ (q :: r)).cps.toList).map crf = (p ++ ⟨#[10]⟩ ++ Str.join ⟨#[10]⟩ (q :: r)).cps.toList
    simp only [Str.cps_append, Array.toList_append, List.map_append]
    rw [ih, cr_free _ (h p (List.mem_cons_self ..))]
    rfl
theorem replace_cr (x : Str) : (Txt.replace x ⟨#[13]⟩ ⟨#[10]⟩).cps.toList = x.cps.toList.map crf := by
  rw [StrLaws.replace_one, ← cr_join _ (StrLaws.split_free x 13), StrLaws.join_split]
theorem replace_both (x : Str) : (Txt.replace (Txt.replace x (Str.ofString "\r\n") (Str.ofString "\n")) (Str.ofString "\r") (Str.ofString "\n")).cps.toList = norm x.cps.toList := by
  rw [show Str.ofString "\r\n" = ⟨#[13, 10]⟩ from by decide, show Str.ofString "\n" = ⟨#[10]⟩ from by decide, show Str.ofString "\r" = ⟨#[13]⟩ from by decide, replace_cr, replace_crlf]
  rfl
theorem replace_crlf_length (x : Str) : (Txt.replace x (Str.ofString "\r\n") (Str.ofString "\n")).length ≤ x.length := by
  rw [show Str.ofString "\r\n" = ⟨#[13, 10]⟩ from by decide, show Str.ofString "\n" = ⟨#[10]⟩ from by decide]
  show (Txt.replace x ⟨#[13, 10]⟩ ⟨#[10]⟩).cps.size ≤ x.cps.size
  rw [← Array.length_toList, replace_crlf, ← Array.length_toList]
  exact crlf_length _
/-- what is kept back of a piece: a last CR, not alone -/
noncomputable def cut13 (l : List Nat) : List Nat × List Nat := if 1 < l.length ∧ l.getLast? = some 13 then (l.dropLast, [13]) else (l, [])
theorem item_last (x : Str) (h : 1 ≤ x.length) : ∃ c, x.cps.toList.getLast? = some c ∧ Txt.item x (-1) = ⟨#[c]⟩ := by
  have hl : x.cps.toList.length = x.length := rfl
  have hx : x.length - 1 < x.cps.size := by show _ < x.length; omega
  refine ⟨x.cps[x.length - 1], ?_, ?_⟩
  · rw [List.getLast?_eq_getElem?, hl, Array.getElem?_toList, Array.getElem?_eq_getElem hx]
  · unfold Txt.item Txt.charAt
    rw [StrLaws.at_neg (n := x.cps[x.length - 1]) (by decide) (by omega) (by
      rw [show ((-1 : Int) + (x.length : Int)).toNat = x.length - 1 by omega]
      exact Array.getElem?_eq_getElem hx)]
    rfl
theorem cut13_yes {x : Str} (h : 1 < (x.length : Int)) (h13 : ((Txt.item x (-1)).cps.getD 0 0 : Int) = 13) : cut13 x.cps.toList = (x.cps.toList.dropLast, [13]) ∧ Txt.item x (-1) = ⟨#[13]⟩ := by
  obtain ⟨c, h1, h2⟩ := item_last x (by omega)
  rw [h2] at h13
  have hc : c = 13 := by have h4 : (c : Int) = 13 := by simpa using h13
                         omega
  subst hc
  refine ⟨if_pos ⟨?_, h1⟩, h2⟩
  show 1 < x.length
  omega
theorem cut13_ne {x : Str} (h : 1 < (x.length : Int)) (h13 : ((Txt.item x (-1)).cps.getD 0 0 : Int) ≠ 13) : cut13 x.cps.toList = (x.cps.toList, []) := by
  obtain ⟨c, h1, h2⟩ := item_last x (by omega)
  rw [h2] at h13
  refine if_neg fun hc => h13 ?_
  rw [h1] at hc
  have : c = 13 := Option.some.inj hc.2
  subst this
  rfl
theorem cut13_one {x : Str} (h : ¬ 1 < (x.length : Int)) : cut13 x.cps.toList = (x.cps.toList, []) := if_neg fun hc => h (by have : 1 < x.length := hc.1; omega)
noncomputable def noSur (l : List Nat) : Prop := ∀ c ∈ l, ¬ (55296 ≤ c ∧ c ≤ 57343)
theorem nosur_not {x : Str} (h : noSur x.cps.toList) (h1 : 1 ≤ x.length) : ¬ (decide (55296 ≤ ((Txt.item x (-1)).cps.getD 0 0 : Int) ∧ ((Txt.item x (-1)).cps.getD 0 0 : Int) ≤ 56319) = true) := by
  obtain ⟨c, h2, h3⟩ := item_last x h1
  have hm := h c (List.mem_of_getLast? h2)
  rw [h3]
  simp
  intro h4
  have h5 : (55296 : Int) ≤ (c : Int) := by simpa using h4
  omega
theorem replace_cr_length (x : Str) : (Txt.replace x (Str.ofString "\r") (Str.ofString "\n")).length ≤ x.length := by
  rw [show Str.ofString "\r" = ⟨#[13]⟩ from by decide, show Str.ofString "\n" = ⟨#[10]⟩ from by decide]
  show (Txt.replace x ⟨#[13]⟩ ⟨#[10]⟩).cps.size ≤ x.cps.size
  rw [← Array.length_toList, replace_cr, List.length_map, Array.length_toList]
  exact Nat.le_refl _
end
section
open Builtin Builtin.Str
section
variable {prog : Program} {w : World} {A : Around} {E : Value → Shared → Prop} {s : Shared} {x y : Str} {t u v v' : Tok} {i j : Int} {Q : Value → Shared → Prop}
noncomputable def cnt4 (x y : Str) (i j : Int) : Int := (occurrences x y (fromIndex x.length i) (min (fromIndex x.length j) x.length) (x.length + 1)).length
noncomputable def rfi4 (x y : Str) (i j : Int) : Int := match lastOccurrence x y (fromIndex x.length i) (min (fromIndex x.length j) x.length) with | some k => (k : Int) | none => -1
theorem gives_count4 (x y : Str) (i j : Int) (t u v v' : Tok) : Gives (Builtin.«str.count» ⟨[.str x t, .str y u, .int i v, .int j v'], []⟩) (.int (cnt4 x y i j)) := by
  exact .of_eq rfl
theorem gives_rfind4 (x y : Str) (i j : Int) (t u v v' : Tok) : Gives (Builtin.«str.rfind» ⟨[.str x t, .str y u, .int i v, .int j v'], []⟩) (.int (rfi4 x y i j)) := by
  show Gives (match lastOccurrence x y (fromIndex x.length i) (min (fromIndex x.length j) x.length) with | some i => retInt i | none => (do rule "str.rfind.not-found"; retInt (-1))) _
  unfold rfi4
  cases lastOccurrence x y (fromIndex x.length i) (min (fromIndex x.length j) x.length) with
  | none => exact .rule (.of_eq rfl)
  | some i => exact .of_eq rfl
theorem call_count4 (hq : Q (.int (cnt4 x y i j) s.toks) { s with toks := s.toks + 1 }) : wpAny (model prog w) A (call (.builtin "str.count") [.str x t, .str y u, .int i v, .int j v']) Q E s :=
  call_gives F.slot_str_count (typeIs_str _ _ _) F.entry_str_count (F.args_str_count_4 _ _ _ _) (gives_count4 x y i j t u v v') hq
theorem call_rfind4 (hq : Q (.int (rfi4 x y i j) s.toks) { s with toks := s.toks + 1 }) : wpAny (model prog w) A (call (.builtin "str.rfind") [.str x t, .str y u, .int i v, .int j v']) Q E s :=
  call_gives F.slot_str_rfind (typeIs_str _ _ _) F.entry_str_rfind (F.args_str_rfind_4 _ _ _ _) (gives_rfind4 x y i j t u v v') hq
theorem call_replace_crlf (hx : x.length ≤ 200000) (hu : u ≠ 0) (hv : v ≠ 0) (huv : u ≠ v)
    (hq : ∀ (R : Str) t' k, R = Txt.replace x (Str.ofString "\r\n") (Str.ofString "\n") → R.length ≤ x.length → Q (.str R t') { s with toks := k }) :
    wpAny (model prog w) A (call (.builtin "str.replace") [.str x t, .str (Str.ofString "\r\n") u, .str (Str.ofString "\n") v]) Q E s :=
  SC.replace hu hv huv (by decide) (by show _ + _ * 1 ≤ _; omega) fun t' k => hq _ t' k rfl (replace_crlf_length x)
theorem call_replace_cr (hx : x.length ≤ 200000) (hu : u ≠ 0) (hv : v ≠ 0) (huv : u ≠ v)
    (hq : ∀ (R : Str) t' k, R = Txt.replace x (Str.ofString "\r") (Str.ofString "\n") → R.length ≤ x.length → Q (.str R t') { s with toks := k }) :
    wpAny (model prog w) A (call (.builtin "str.replace") [.str x t, .str (Str.ofString "\r") u, .str (Str.ofString "\n") v]) Q E s :=
  SC.replace hu hv huv (by decide) (by show _ + _ * 1 ≤ _; omega) fun t' k => hq _ t' k rfl (replace_cr_length x)
end
end
/-- an entry of an instance's dict -/
noncomputable abbrev ent (w : World) (n : Str) (tk : Nat) (v : Value) : DictEntry := { hash := PyData.keyHash w.params n, key := Value.str n tk, val := v }
/-- the source: a Text at tx with its dict at td -/
noncomputable abbrev TL (w : World) (kt : Nat → Nat) (tx td : Nat) (text place : Value) : Ledger :=
  [(tx, instObj 38 td), (td, dictOf [ent w (Str.ofString "text") (kt 0) text, ent w (Str.ofString "place") (kt 1) place] 2)]
/-- the stream at x with its dict at d, its bound method at q, its source's reference tx, its errors at er -/
noncomputable abbrev SX (w : World) (kt : Nat → Nat) (x d q nl tx er : Nat) (chunk size off pl pc buf : Value) (dcs : Value) (errs : Array Value) (ne : Nat) : Ledger :=
  [(er, listOf errs ne), (q, methodObj (.ref 113) (.ref x)), (x, instObj 131 d),
   (d, dictOf [ent w (Str.ofString "reportCharacterErrors") (kt 2) (.ref q), ent w (Str.ofString "newLines") (kt 3) (.ref nl), ent w (Str.ofString "dataStream") (kt 4) (.ref tx),
    ent w (Str.ofString "chunk") (kt 5) chunk, ent w (Str.ofString "chunkSize") (kt 6) size, ent w (Str.ofString "chunkOffset") (kt 7) off, ent w (Str.ofString "errors") (kt 8) (.ref er),
    ent w (Str.ofString "prevNumLines") (kt 9) pl, ent w (Str.ofString "prevNumCols") (kt 10) pc, ent w (Str.ofString "_bufferedCharacter") (kt 11) buf
    , ent w (Str.ofString "_defaultChunkSize") (kt 12) dcs] 11)]
/-- .. as the constructor leaves it -/
noncomputable abbrev SX0 (w : World) (kt : Nat → Nat) (x d q nl tx er : Nat) (chunk size off pl pc buf : Value) (errs : Array Value) (ne : Nat) : Ledger :=
  [(er, listOf errs ne), (q, methodObj (.ref 113) (.ref x)), (x, instObj 131 d),
   (d, dictOf [ent w (Str.ofString "reportCharacterErrors") (kt 2) (.ref q), ent w (Str.ofString "newLines") (kt 3) (.ref nl), ent w (Str.ofString "dataStream") (kt 4) (.ref tx),
    ent w (Str.ofString "chunk") (kt 5) chunk, ent w (Str.ofString "chunkSize") (kt 6) size, ent w (Str.ofString "chunkOffset") (kt 7) off, ent w (Str.ofString "errors") (kt 8) (.ref er),
    ent w (Str.ofString "prevNumLines") (kt 9) pl, ent w (Str.ofString "prevNumCols") (kt 10) pc, ent w (Str.ofString "_bufferedCharacter") (kt 11) buf
    ] 10)]
theorem sx_sub {w : World} {kt : Nat → Nat} {x d q nl tx er : Nat} {chunk size off pl pc buf : Value} {dcs : Value} {errs : Array Value} {ne : Nat} : ∀ r ∈ SX w kt x d q nl tx er chunk size off pl pc buf dcs errs ne, r.1 ∈ [er, q, x, d] := fun _ hr => List.mem_map_of_mem (f := fun p : Addr × Obj => p.1) hr
theorem sxtl_sub {w : World} {kt : Nat → Nat} {x d q nl td tx er : Nat} {chunk size off pl pc buf : Value} {dcs : Value} {errs : Array Value} {ne : Nat} {text place : Value} : ∀ r ∈ SX w kt x d q nl tx er chunk size off pl pc buf dcs errs ne ++ TL w kt tx td text place, r.1 ∈ [er, q, x, d, tx, td] := fun _ hr => List.mem_map_of_mem (f := fun p : Addr × Obj => p.1) hr
noncomputable abbrev nlS : Str := Str.ofString "\n"
noncomputable def posL (C : Str) (pl o : Int) : Int := pl + cnt4 C nlS 0 o
noncomputable def posC (C : Str) (pc o : Int) : Int := if rfi4 C nlS 0 o = -1 then pc + o else o - (rfi4 C nlS 0 o + 1)
noncomputable abbrev tup2 (a b : Value) : Obj := { cls := .type "tuple", data := .seq #[a, b] }
theorem pos_end {C : Str} {pl pc o v2 : Int} {er D a b : Nat} {E : Ledger} (hlt : er < D) (e : v2 = posC C pc o) :
    ∃ t t5 t6, Value.ref D = .ref t ∧ er < t ∧ ((D, tup2 (.int (posL C pl o) a) (.int v2 b)) :: E : Ledger) = (t, tup2 (.int (posL C pl o) t5) (.int (posC C pc o) t6)) :: E := by
  subst e; exact ⟨_, _, _, rfl, hlt, rfl⟩
local macro_rules | `(tactic| k_ne) => `(tactic| (refine neN ?_; (try dsimp only); first | exact Nat.ne_of_lt (by with_reducible assumption) | exact Nat.ne_of_gt (by with_reducible assumption) | with_reducible assumption | exact Ne.symm (by with_reducible assumption) | omega))
local macro_rules | `(tactic| k_room) => `(tactic| ((simp only [depth_under_make, depth_under_kw, depth_in1, depth_deeper, depth_caller]); (try dsimp only [ktrTop]); omega))
local macro_rules | `(tactic| size_fits) => `(tactic| first | assumption | (rw [PySem.sizeLine_eq]; omega))
set_option maxRecDepth 100000 in
set_option maxHeartbeats 1000000 in
theorem does_read (w : World) (kt : Nat → Nat) (tx td : Nat) (hlt : td < tx) (S : Str) (p n : Nat) (t1 t2 t3 : Nat) (hp : p ≤ S.length) (hT : S.length ≤ 10000) (hn' : n ≤ 100000) :
    Does w 1 (.ref 35) [.ref tx, .int (n : Int) t1] (TL w kt tx td (.str S t2) (.int (p : Int) t3))
      (fun v E' => ∃ (P : Str) (t t' : Nat), P.cps.toList = (S.cps.toList.drop p).take n ∧ P.length ≤ S.length ∧ p + P.length ≤ S.length ∧ v = .str P t ∧ E' = TL w kt tx td (.str S t2) (.int ((p + P.length : Nat) : Int) t')) := by
  unfold Does
  k_fill
  intro dp un gd cn cs a ccd cl outer A₀ base h₀ L m s R loose mean mg mb rest B F KX N T hdis hk hroom hun hret
  refine' enterR (binds := [(Str.ofString "self", .ref tx), (Str.ofString "size", .int (n : Int) t1)]) ?k1 ?k2 ?k3 ?k4 ?k5 ?kd ?kA ?kF ?kK ?k6 ?k7 ?k8 ?k9 ?kB ?_ ?c2 ?c3 ?c4 ?c5
  (case kA => exact rfl); (case kF => exact rfl); (case kK => first | exact rfl | assumption); (case k1 => k_asm); (case k2 => k_asm); (case k3 => k_asm); (case k4 => k_asm); (case k5 => k_asm); (case kd => assumption); (case k6 => k_dflt k_is); (case k7 => k_dflt k_is); (case k8 => k_room); (case k9 => first | exact BindsTo.of_eq rfl | exact binds_K (by k_in) rfl (by k_is) rfl rfl rfl); (case c5 => decide); (case kB => exact locs rfl); (case c2 => exact rfl); (case c3 => exact rfl); (case c4 => exact rfl)
  k_whole
  intro g' L' h' FG' F' N' B' X' T' lt'
  clear N F
  dsimp only [TL, ent] at N'
  (try dsimp only)
  (try k_fold)
  w_on
  w_top on
  w_strict ((repeat' (first | with_reducible ((show wpAny _ _ (getMethod (Value.ref _) _ _) _ _ _); (k_here; (with_reducible show wpAny _ _ (getMethod (Value.ref _) (PySem.Str.ofString "reportCharacterErrors") _) _ _ _); k_dflt (refine' kmu_own ?zk1 ?zk2 ?zk3 ?zk4 ?zk5 ?_; (case zk1 => k_asm); (case zk2 => k_asm); (case zk3 => k_inst); (case zk4 => k_is); (case zk5 => k_is); k_whole))) | with_reducible ((show wpAny _ _ (execs (_ :: _) _) _ _ _); (k_here; (with_reducible show wpAny _ _ _ _ _ (Shared.mk _ _ _ (_ + _) _)); k_dflt (refine' gen_toks ?zp ?_; (case zp => ((try dsimp only); exact Nat.succ_pos _)); intro _ _))) | with_reducible ((show wpAny _ _ (isTrue (Expr.Compare _ _ _ _) _ _) _ _ _); (k_here; k_dflt (refine' isTrue_ll ?zF ?zv ?_ ?zk ?zl; (case zF => k_asm); (case zv => rfl); (case zk => rfl); (case zl => rfl); k_whole; intro _; (try dsimp only)))) | with_reducible ((show wpAny _ _ (call (Value.builtin "str.replace") _) _ _ _); k_dflt (first | (refine' call_replace_crlf ?zl ?zu ?zv ?zn ?_; (case zl => (omega)); (case zu => k_ne); (case zv => k_ne); (case zn => k_ne); intro _ _ _ _ _; (try dsimp only)) | (refine' call_replace_cr ?zl ?zu ?zv ?zn ?_; (case zl => (omega)); (case zu => k_ne); (case zv => k_ne); (case zn => k_ne); intro _ _ _ _ _; (try dsimp only)))) | with_reducible ((show wpAny _ _ (call (Value.builtin "str.rfind") _) _ _ _); (refine call_rfind4 ?_; (try dsimp only))) | with_reducible ((show wpAny _ _ (call (Value.builtin "str.count") _) _ _ _); (refine call_count4 ?_; (try dsimp only))) | with_reducible ((show wpAny _ _ (truthy (Value.ref _)) _ _ _); (k_here; (refine' truthy_meth ?zN ?zm ?_; (case zN => k_asm); (case zm => k_mem); k_whole; (try dsimp only)))) | (k_unfold; (try dsimp only)) | walk1 | (dsimp only; walk1) | (dsimp only [List.nil_append, List.cons_append]; walk1) | (k_end; dsimp only; k_unfold; (try dsimp only)) | (leave1; (try dsimp only)) | ((with_reducible show wpAny _ _ (call (Value.builtin "str.count") _) _ _ _); (refine call_count4 ?_; (try dsimp only))) | ((with_reducible show wpAny _ _ (call (Value.builtin "str.replace") _) _ _ _); k_dflt (first | (refine' call_replace_crlf ?zl ?zu ?zv ?zn ?_; (case zl => (omega)); (case zu => k_ne); (case zv => k_ne); (case zn => k_ne); intro _ _ _ _ _; (try dsimp only)) | (refine' call_replace_cr ?zl ?zu ?zv ?zn ?_; (case zl => (omega)); (case zu => k_ne); (case zv => k_ne); (case zn => k_ne); intro _ _ _ _ _; (try dsimp only)))) | ((with_reducible show wpAny _ _ (call (Value.builtin "str.rfind") _) _ _ _); (refine call_rfind4 ?_; (try dsimp only))) | ((with_reducible show wpAny _ _ (getMethod (Value.ref _) _ _) _ _ _); (k_here; (with_reducible show wpAny _ _ (getMethod (Value.ref _) (PySem.Str.ofString "reportCharacterErrors") _) _ _ _); k_dflt (refine' kmu_own ?zk1 ?zk2 ?zk3 ?zk4 ?zk5 ?_; (case zk1 => k_asm); (case zk2 => k_asm); (case zk3 => k_inst); (case zk4 => k_is); (case zk5 => k_is); k_whole))) | ((with_reducible show wpAny _ _ (isTrue (Expr.Compare _ _ _ _) _ _) _ _ _); (k_here; k_dflt (refine' isTrue_ll ?zF ?zv ?_ ?zk ?zl; (case zF => k_asm); (case zv => rfl); (case zk => rfl); (case zl => rfl); k_whole; intro _; (try dsimp only)))) | ((with_reducible show wpAny _ _ (truthy (Value.ref _)) _ _ _); (k_here; (refine' truthy_meth ?zN ?zm ?_; (case zN => k_asm); (case zm => k_mem); k_whole; (try dsimp only)))))))
  (with_reducible rename News _ _ _ (_ :: _) => kN9)
  refine hret _ _ _ _ (by k_asm) (news_app kN9 (by assumption)) ?_
  have e := slice_nat S n hp
  have hl : (Txt.slice S (some (p : Int)) (some ((p : Int) + (n : Int)))).length = min n (S.length - p) := by
    show (Txt.slice S (some (p : Int)) (some ((p : Int) + (n : Int)))).cps.size = _
    rw [← Array.length_toList, e]; simp [Str.length]
  exact ⟨_, _, _, e, by omega, by omega, rfl, by rw [Int.natCast_add]⟩
set_option maxRecDepth 100000 in
set_option maxHeartbeats 1000000 in
theorem does__position (w : World) (kt : Nat → Nat) (x d q nl tx er : Nat) (hord : d < x ∧ x < q ∧ q < er) (C : Str) (o pl pc : Int) (t1 t2 t3 t4 : Nat) (size off buf : Value) (dcs : Value) (errs : Array Value) (ne : Nat) (h0 : 0 ≤ o) (h1 : o ≤ 100000) :
    Does w 1 (.ref 84) [.ref x, .int o t1] (SX w kt x d q nl tx er (.str C t2) size off (.int pl t3) (.int pc t4) buf dcs errs ne)
      (fun v E' => ∃ t t5 t6, v = .ref t ∧ er < t ∧ E' = (t, tup2 (.int (posL C pl o) t5) (.int (posC C pc o) t6)) :: SX w kt x d q nl tx er (.str C t2) size off (.int pl t3) (.int pc t4) buf dcs errs ne) := by
  refine' ex_0_6 (ord4 hord) ?_; intro g1 g2 g3 g4 g5 g6
  unfold Does
  k_fill
  intro dp un gd cn cs a ccd cl outer A₀ base h₀ L m s R loose mean mg mb rest B F KX N T hdis hk hroom hun hret
  refine' enterR (binds := [(Str.ofString "self", .ref x), (Str.ofString "offset", .int o t1)]) ?k1 ?k2 ?k3 ?k4 ?k5 ?kd ?kA ?kF ?kK ?k6 ?k7 ?k8 ?k9 ?kB ?_ ?c2 ?c3 ?c4 ?c5
  (case kA => exact rfl); (case kF => exact rfl); (case kK => first | exact rfl | assumption); (case k1 => k_asm); (case k2 => k_asm); (case k3 => k_asm); (case k4 => k_asm); (case k5 => k_asm); (case kd => assumption); (case k6 => k_dflt k_is); (case k7 => k_dflt k_is); (case k8 => k_room); (case k9 => first | exact BindsTo.of_eq rfl | exact binds_K (by k_in) rfl (by k_is) rfl rfl rfl); (case c5 => decide); (case kB => exact locs rfl); (case c2 => exact rfl); (case c3 => exact rfl); (case c4 => exact rfl)
  k_whole
  intro g' L' h' FG' F' N' B' X' T' lt'
  clear N F
  dsimp only [SX, ent] at N'
  (try dsimp only)
  (try k_fold)
  w_on
  w_top on
  w_strict ((repeat' (first | with_reducible ((show wpAny _ _ (getMethod (Value.ref _) _ _) _ _ _); (k_here; (with_reducible show wpAny _ _ (getMethod (Value.ref _) (PySem.Str.ofString "reportCharacterErrors") _) _ _ _); k_dflt (refine' kmu_own ?zk1 ?zk2 ?zk3 ?zk4 ?zk5 ?_; (case zk1 => k_asm); (case zk2 => k_asm); (case zk3 => k_inst); (case zk4 => k_is); (case zk5 => k_is); k_whole))) | with_reducible ((show wpAny _ _ (execs (_ :: _) _) _ _ _); (k_here; (with_reducible show wpAny _ _ _ _ _ (Shared.mk _ _ _ (_ + _) _)); k_dflt (refine' gen_toks ?zp ?_; (case zp => ((try dsimp only); exact Nat.succ_pos _)); intro _ _))) | with_reducible ((show wpAny _ _ (isTrue (Expr.Compare _ _ _ _) _ _) _ _ _); (k_here; k_dflt (refine' isTrue_ll ?zF ?zv ?_ ?zk ?zl; (case zF => k_asm); (case zv => rfl); (case zk => rfl); (case zl => rfl); k_whole; intro _; (try dsimp only)))) | with_reducible ((show wpAny _ _ (call (Value.builtin "str.replace") _) _ _ _); k_dflt (first | (refine' call_replace_crlf ?zl ?zu ?zv ?zn ?_; (case zl => (omega)); (case zu => k_ne); (case zv => k_ne); (case zn => k_ne); intro _ _ _ _ _; (try dsimp only)) | (refine' call_replace_cr ?zl ?zu ?zv ?zn ?_; (case zl => (omega)); (case zu => k_ne); (case zv => k_ne); (case zn => k_ne); intro _ _ _ _ _; (try dsimp only)))) | with_reducible ((show wpAny _ _ (call (Value.builtin "str.rfind") _) _ _ _); (refine call_rfind4 ?_; (try dsimp only))) | with_reducible ((show wpAny _ _ (call (Value.builtin "str.count") _) _ _ _); (refine call_count4 ?_; (try dsimp only))) | with_reducible ((show wpAny _ _ (truthy (Value.ref _)) _ _ _); (k_here; (refine' truthy_meth ?zN ?zm ?_; (case zN => k_asm); (case zm => k_mem); k_whole; (try dsimp only)))) | (k_unfold; (try dsimp only)) | walk1 | (dsimp only; walk1) | (dsimp only [List.nil_append, List.cons_append]; walk1) | (k_end; dsimp only; k_unfold; (try dsimp only)) | (leave1; (try dsimp only)) | ((with_reducible show wpAny _ _ (call (Value.builtin "str.count") _) _ _ _); (refine call_count4 ?_; (try dsimp only))) | ((with_reducible show wpAny _ _ (call (Value.builtin "str.replace") _) _ _ _); k_dflt (first | (refine' call_replace_crlf ?zl ?zu ?zv ?zn ?_; (case zl => (omega)); (case zu => k_ne); (case zv => k_ne); (case zn => k_ne); intro _ _ _ _ _; (try dsimp only)) | (refine' call_replace_cr ?zl ?zu ?zv ?zn ?_; (case zl => (omega)); (case zu => k_ne); (case zv => k_ne); (case zn => k_ne); intro _ _ _ _ _; (try dsimp only)))) | ((with_reducible show wpAny _ _ (call (Value.builtin "str.rfind") _) _ _ _); (refine call_rfind4 ?_; (try dsimp only))) | ((with_reducible show wpAny _ _ (getMethod (Value.ref _) _ _) _ _ _); (k_here; (with_reducible show wpAny _ _ (getMethod (Value.ref _) (PySem.Str.ofString "reportCharacterErrors") _) _ _ _); k_dflt (refine' kmu_own ?zk1 ?zk2 ?zk3 ?zk4 ?zk5 ?_; (case zk1 => k_asm); (case zk2 => k_asm); (case zk3 => k_inst); (case zk4 => k_is); (case zk5 => k_is); k_whole))) | ((with_reducible show wpAny _ _ (isTrue (Expr.Compare _ _ _ _) _ _) _ _ _); (k_here; k_dflt (refine' isTrue_ll ?zF ?zv ?_ ?zk ?zl; (case zF => k_asm); (case zv => rfl); (case zk => rfl); (case zl => rfl); k_whole; intro _; (try dsimp only)))) | ((with_reducible show wpAny _ _ (truthy (Value.ref _)) _ _ _); (k_here; (refine' truthy_meth ?zN ?zm ?_; (case zN => k_asm); (case zm => k_mem); k_whole; (try dsimp only)))))))
  all_goals (
    (with_reducible rename News _ _ _ (_ :: _) => kN9)
    refine hret _ _ _ _ (by k_asm) (news_app kN9 (by assumption)) ?_
    exact pos_end (C := C) (pl := pl) (o := o) (pc := pc) (by omega) (by first | exact (if_pos (by assumption)).symm | exact (if_neg (by assumption)).symm))
/-- a mark at which the walk stands still -/
noncomputable def StopAt (P : Prop) : Prop := P
theorem stopAt_ {P : Prop} (h : StopAt P) : P := h
/-- a mark in the context: the walk stands still at these rows -/
noncomputable def StopList (_l : List Stmt) : Prop := True
theorem stop_list {l : List Stmt} (_h : StopList l) {M : Model} {A : Around} {env : Env} {Q : Flow → Shared → Prop} {E : Value → Shared → Prop} {s : Shared} (h : StopAt (wpAny M A (execs l env) Q E s)) : wpAny M A (execs l env) Q E s := h
/-- the loop's word fell -/
noncomputable def Again (J : Nat → Shared → Prop) (n : Nat) (s : Shared) : Prop := ∃ k, k < n ∧ J k s
section
variable {prog : Program} {w : World} {A : Around} {s : Shared} {env : Env} {E : Value → Shared → Prop} {Q : Flow → Shared → Prop}
/-- a while by any word of the state that falls -/
theorem while_gen {test : Expr} {body : List Stmt} {pos : Pos} (J : Nat → Shared → Prop)
    (turn : ∀ n s', ∀ JJ, JJ = J → J n s' → wpAny (model prog w) A (isTrue test env (eval test env)) (fun b s₂ =>
      if b = true then wpAny (model prog w) A (execs body env) (fun f s₃ => match f with
        | .next => Again JJ n s₃
        | .cont => Again JJ n s₃
        | .brk => Q .next s₃
        | .ret v => Q (.ret v) s₃) E s₂
      else Q .next s₂) E s')
    (n : Nat) (h : J n s) (hE : PassesOwn (model prog w) A env E := by passes_own) :
    wpAny (model prog w) A (exec (.While test body [] pos) env) Q E s := by
  refine wpAny_While (codeAny_whileLoop (R := fun r s' => match r with | .ok f => Q f s' | .error e => cameBackBy (model prog w) A env E e s') J (fun k s' hJ => ?_) n h)
  refine wpAny_passesOwn hE (wpAny_mono (turn k s' _ rfl hJ) (fun b s₂ h₂ => ?_) fun _ _ e => e)
  split
  · rename_i hb
    rw [if_pos hb] at h₂
    refine wpAny_passesOwn hE (wpAny_mono h₂ (fun f s₃ h₃ => ?_) fun _ _ e => e)
    cases f <;> exact h₃
  · rename_i hb
    rw [if_neg hb] at h₂
    exact wpAny_execs_nil h₂
end
section
/-- a list of nothing but the one text -/
noncomputable def Bads (errs : Array Value) : Prop := ∀ v ∈ errs.toList, ∃ t, v = .str (Str.ofString "invalid-codepoint") t
noncomputable def badCount (l : List Nat) : Nat := (l.filter fun (c : Nat) => bad (c : Int)).length
theorem kst_end {σ : Type} {Led : σ → Ledger} {x : Str} {m₀ m' : Str → Option Value} {P : List Int → σ → Prop} {pre : List Int} {own : Ledger} {adr : List Addr} {h₀ h' : Heap} {L : Addr} {s₁ : Shared} {tk : Nat} (c : σ) (F : Fr h₀ L h' m') (N : News h₀ L h' (Led c ++ own))
    (hm : ∀ z, z ≠ x → m' z = m₀ z) (hP : P pre c) (ha : (Led c).map (·.1) = adr) :
    InvEndN h₀ L (KstS Led (fun _ => []) (fun _ => True) x [] m₀ P pre) own adr s₁ { s₁ with heap := h', toks := tk } :=
  InvEndN.intro F N ⟨c, rfl, trivial, (fun _ h => nomatch h), fun z hz _ _ => hm z hz, hP⟩ ha (fun _ hp => List.mem_append_left _ hp) (fun _ hp => List.mem_append_right _ hp)
set_option maxRecDepth 100000 in
set_option maxHeartbeats 1000000 in
theorem does_charErr (w : World) (kt : Nat → Nat) (x d q nl tx er : Nat) (hord : d < x ∧ x < q ∧ q < er) (D : Str) (t1 : Nat) (hD : D.length ≤ 20000) (chunk size off pl pc buf : Value) (dcs : Value) (errs : Array Value) (ne : Nat) (hE : errs.size ≤ 20000) :
    Does w 2 (.ref 113) [.ref x, .str D t1] (SX w kt x d q nl tx er chunk size off pl pc buf dcs errs ne)
      (fun v E' => ∃ errs' ne', v = .none ∧ E' = SX w kt x d q nl tx er chunk size off pl pc buf dcs errs' ne' ∧ errs'.size = errs.size + badCount D.cps.toList ∧ (Bads errs → Bads errs')) := by
  refine' ex_0_6 (ord4 hord) ?_; intro g1 g2 g3 g4 g5 g6
  unfold Does
  k_fill
  intro dp un gd cn cs a ccd cl outer A₀ base h₀ L m s R loose mean mg mb rest B F KX N T hdis hk hroom hun hret
  refine' enterR (binds := [(Str.ofString "self", .ref x), (Str.ofString "data", .str D t1)]) ?k1 ?k2 ?k3 ?k4 ?k5 ?kd ?kA ?kF ?kK ?k6 ?k7 ?k8 ?k9 ?kB ?_ ?c2 ?c3 ?c4 ?c5
  (case kA => exact rfl); (case kF => exact rfl); (case kK => first | exact rfl | assumption); (case k1 => k_asm); (case k2 => k_asm); (case k3 => k_asm); (case k4 => k_asm); (case k5 => k_asm); (case kd => assumption); (case k6 => k_dflt k_is); (case k7 => k_dflt k_is); (case k8 => k_room); (case k9 => first | exact BindsTo.of_eq rfl | exact binds_K (by k_in) rfl (by k_is) rfl rfl rfl); (case c5 => decide); (case kB => exact locs rfl); (case c2 => exact rfl); (case c3 => exact rfl); (case c4 => exact rfl)
  k_whole
  intro g' L' h' FG' F' N' B' X' T' lt'
  clear N F
  dsimp only [SX, ent] at N'
  w_on
  w_top on
  refine wpAny_execs_cons ?_
  refine For_invVF F' rfl rfl ?_
  refine ld F' rfl ?_
  refine KStt.kst_text (σ := Array Value × Nat) (fun c => SX w kt x d q nl tx er chunk size off pl pc buf dcs c.1 c.2) (fun _ => []) (fun _ => True) [] (fun pre c => c.1.size = errs.size + (pre.filter bad).length ∧ (Bads errs → Bads c.1)) (errs, ne) rfl F' N' trivial (by simp) ⟨by simp, id⟩ ?_ ?_
  · intro c pre post n t u h tk own hc hoff _ hP F1 N1
    change Fr g' L' h _ at F1
    simp only [SX, ent, List.cons_append, List.nil_append] at N1
    simp only [SX, List.map_cons, List.map_nil] at hoff
    clear N' F'
    have hl : pre.length ≤ D.length := by have := congrArg List.length hc; rw [KStt.codes_length] at this; simp at this; omega
    have hf := List.length_filter_le bad pre
    have hsz : c.1.size ≤ sizeLine := by rw [sizeLine_eq]; omega
    w_strict ((repeat' (first | with_reducible ((show wpAny _ _ (call (Value.ref _) _) _ _ _); (k_here; (with_reducible show wpAny _ _ (call (Value.ref 49) _) _ _ _); refine stopAt_ ?_)) | with_reducible ((show wpAny _ _ (getMethod (Value.ref _) _ _) _ _ _); (k_here; (with_reducible show wpAny _ _ (getMethod (Value.ref _) (PySem.Str.ofString "reportCharacterErrors") _) _ _ _); k_dflt (refine' kmu_own ?zk1 ?zk2 ?zk3 ?zk4 ?zk5 ?_; (case zk1 => k_asm); (case zk2 => k_asm); (case zk3 => k_inst); (case zk4 => k_is); (case zk5 => k_is); k_whole))) | with_reducible ((show wpAny _ _ (execs (_ :: _) _) _ _ _); (k_here; (with_reducible show wpAny _ _ _ _ _ (Shared.mk _ _ _ (_ + _) _)); k_dflt (refine' gen_toks ?zp ?_; (case zp => ((try dsimp only); exact Nat.succ_pos _)); intro _ _))) | with_reducible ((show wpAny _ _ (isTrue (Expr.Compare _ _ _ _) _ _) _ _ _); (k_here; k_dflt (refine' isTrue_ll ?zF ?zv ?_ ?zk ?zl; (case zF => k_asm); (case zv => rfl); (case zk => rfl); (case zl => rfl); k_whole; intro _; (try dsimp only)))) | with_reducible ((show wpAny _ _ (call (Value.builtin "str.replace") _) _ _ _); k_dflt (first | (refine' call_replace_crlf ?zl ?zu ?zv ?zn ?_; (case zl => (omega)); (case zu => k_ne); (case zv => k_ne); (case zn => k_ne); intro _ _ _ _ _; (try dsimp only)) | (refine' call_replace_cr ?zl ?zu ?zv ?zn ?_; (case zl => (omega)); (case zu => k_ne); (case zv => k_ne); (case zn => k_ne); intro _ _ _ _ _; (try dsimp only)))) | with_reducible ((show wpAny _ _ (call (Value.builtin "str.rfind") _) _ _ _); (refine call_rfind4 ?_; (try dsimp only))) | with_reducible ((show wpAny _ _ (call (Value.builtin "str.count") _) _ _ _); (refine call_count4 ?_; (try dsimp only))) | with_reducible ((show wpAny _ _ (truthy (Value.ref _)) _ _ _); (k_here; (refine' truthy_meth ?zN ?zm ?_; (case zN => k_asm); (case zm => k_mem); k_whole; (try dsimp only)))) | (k_unfold; (try dsimp only)) | walk1 | (dsimp only; walk1) | (dsimp only [List.nil_append, List.cons_append]; walk1) | (k_end; dsimp only; k_unfold; (try dsimp only)) | (leave1; (try dsimp only)) | ((with_reducible show wpAny _ _ (call (Value.builtin "str.count") _) _ _ _); (refine call_count4 ?_; (try dsimp only))) | ((with_reducible show wpAny _ _ (call (Value.builtin "str.replace") _) _ _ _); k_dflt (first | (refine' call_replace_crlf ?zl ?zu ?zv ?zn ?_; (case zl => (omega)); (case zu => k_ne); (case zv => k_ne); (case zn => k_ne); intro _ _ _ _ _; (try dsimp only)) | (refine' call_replace_cr ?zl ?zu ?zv ?zn ?_; (case zl => (omega)); (case zu => k_ne); (case zv => k_ne); (case zn => k_ne); intro _ _ _ _ _; (try dsimp only)))) | ((with_reducible show wpAny _ _ (call (Value.builtin "str.rfind") _) _ _ _); (refine call_rfind4 ?_; (try dsimp only))) | ((with_reducible show wpAny _ _ (getMethod (Value.ref _) _ _) _ _ _); (k_here; (with_reducible show wpAny _ _ (getMethod (Value.ref _) (PySem.Str.ofString "reportCharacterErrors") _) _ _ _); k_dflt (refine' kmu_own ?zk1 ?zk2 ?zk3 ?zk4 ?zk5 ?_; (case zk1 => k_asm); (case zk2 => k_asm); (case zk3 => k_inst); (case zk4 => k_is); (case zk5 => k_is); k_whole))) | ((with_reducible show wpAny _ _ (isTrue (Expr.Compare _ _ _ _) _ _) _ _ _); (k_here; k_dflt (refine' isTrue_ll ?zF ?zv ?_ ?zk ?zl; (case zF => k_asm); (case zv => rfl); (case zk => rfl); (case zl => rfl); k_whole; intro _; (try dsimp only)))) | ((with_reducible show wpAny _ _ (truthy (Value.ref _)) _ _ _); (k_here; (refine' truthy_meth ?zN ?zm ?_; (case zN => k_asm); (case zm => k_mem); k_whole; (try dsimp only)))))))
    unfold StopAt
    (with_reducible rename Fr _ _ _ _ => F5)
    (with_reducible rename News _ _ _ _ => N5)
    k_dflt (refine' Does.useP [] (does_inval _ _ _) ?k1 ?k2 ?k3 ?k4 ?k5 ?kd ?kK ?kr ?ku ?_)
    case k4 => exact N5
    case k1 => assumption
    case k2 => exact F5
    case k3 => assumption
    case k5 => assumption
    case kK => rfl
    case kr => (first | assumption | ((simp only [depth_under_make, depth_under_kw, depth_in1, depth_deeper, depth_caller]); (try dsimp only [ktrTop]); first | exact room0 (by assumption) (by decide) | exact room1 (by assumption) (by decide) | omega | decide) | ((try dsimp only [ktrTop]); omega))
    case ku => (first | assumption | ((simp only [units_in1, units_deeper, Around.mark_units, units_caller]); (try dsimp only [ktrTop]); first | exact room0 (by assumption) (by decide) | exact room1 (by assumption) (by decide)) | ((have zhcL := cLine_is); (simp only [units_in1, units_deeper, Around.mark_units, units_caller]); (try dsimp only [ktrTop]); omega) | ((have zhcL := cLine_is); (try dsimp only [ktrTop]); omega))
    case kd => exact fun _ _ _ h9 => absurd h9 List.not_mem_nil
    k_whole
    intro v9 E9 h9 tk9 F9 N9 p9 T9
    clear N5 F5
    obtain ⟨e9, e8⟩ := p9
    subst e9
    subst e8
    simp only [List.nil_append] at N9
    w_strict ((repeat' (first | with_reducible ((show wpAny _ _ (call (Value.ref _) _) _ _ _); (k_here; (with_reducible show wpAny _ _ (call (Value.ref 49) _) _ _ _); refine stopAt_ ?_)) | with_reducible ((show wpAny _ _ (getMethod (Value.ref _) _ _) _ _ _); (k_here; (with_reducible show wpAny _ _ (getMethod (Value.ref _) (PySem.Str.ofString "reportCharacterErrors") _) _ _ _); k_dflt (refine' kmu_own ?zk1 ?zk2 ?zk3 ?zk4 ?zk5 ?_; (case zk1 => k_asm); (case zk2 => k_asm); (case zk3 => k_inst); (case zk4 => k_is); (case zk5 => k_is); k_whole))) | with_reducible ((show wpAny _ _ (execs (_ :: _) _) _ _ _); (k_here; (with_reducible show wpAny _ _ _ _ _ (Shared.mk _ _ _ (_ + _) _)); k_dflt (refine' gen_toks ?zp ?_; (case zp => ((try dsimp only); exact Nat.succ_pos _)); intro _ _))) | with_reducible ((show wpAny _ _ (isTrue (Expr.Compare _ _ _ _) _ _) _ _ _); (k_here; k_dflt (refine' isTrue_ll ?zF ?zv ?_ ?zk ?zl; (case zF => k_asm); (case zv => rfl); (case zk => rfl); (case zl => rfl); k_whole; intro _; (try dsimp only)))) | with_reducible ((show wpAny _ _ (call (Value.builtin "str.replace") _) _ _ _); k_dflt (first | (refine' call_replace_crlf ?zl ?zu ?zv ?zn ?_; (case zl => (omega)); (case zu => k_ne); (case zv => k_ne); (case zn => k_ne); intro _ _ _ _ _; (try dsimp only)) | (refine' call_replace_cr ?zl ?zu ?zv ?zn ?_; (case zl => (omega)); (case zu => k_ne); (case zv => k_ne); (case zn => k_ne); intro _ _ _ _ _; (try dsimp only)))) | with_reducible ((show wpAny _ _ (call (Value.builtin "str.rfind") _) _ _ _); (refine call_rfind4 ?_; (try dsimp only))) | with_reducible ((show wpAny _ _ (call (Value.builtin "str.count") _) _ _ _); (refine call_count4 ?_; (try dsimp only))) | with_reducible ((show wpAny _ _ (truthy (Value.ref _)) _ _ _); (k_here; (refine' truthy_meth ?zN ?zm ?_; (case zN => k_asm); (case zm => k_mem); k_whole; (try dsimp only)))) | (k_unfold; (try dsimp only)) | walk1 | (dsimp only; walk1) | (dsimp only [List.nil_append, List.cons_append]; walk1) | (k_end; dsimp only; k_unfold; (try dsimp only)) | (leave1; (try dsimp only)) | ((with_reducible show wpAny _ _ (call (Value.builtin "str.count") _) _ _ _); (refine call_count4 ?_; (try dsimp only))) | ((with_reducible show wpAny _ _ (call (Value.builtin "str.replace") _) _ _ _); k_dflt (first | (refine' call_replace_crlf ?zl ?zu ?zv ?zn ?_; (case zl => (omega)); (case zu => k_ne); (case zv => k_ne); (case zn => k_ne); intro _ _ _ _ _; (try dsimp only)) | (refine' call_replace_cr ?zl ?zu ?zv ?zn ?_; (case zl => (omega)); (case zu => k_ne); (case zv => k_ne); (case zn => k_ne); intro _ _ _ _ _; (try dsimp only)))) | ((with_reducible show wpAny _ _ (call (Value.builtin "str.rfind") _) _ _ _); (refine call_rfind4 ?_; (try dsimp only))) | ((with_reducible show wpAny _ _ (getMethod (Value.ref _) _ _) _ _ _); (k_here; (with_reducible show wpAny _ _ (getMethod (Value.ref _) (PySem.Str.ofString "reportCharacterErrors") _) _ _ _); k_dflt (refine' kmu_own ?zk1 ?zk2 ?zk3 ?zk4 ?zk5 ?_; (case zk1 => k_asm); (case zk2 => k_asm); (case zk3 => k_inst); (case zk4 => k_is); (case zk5 => k_is); k_whole))) | ((with_reducible show wpAny _ _ (isTrue (Expr.Compare _ _ _ _) _ _) _ _ _); (k_here; k_dflt (refine' isTrue_ll ?zF ?zv ?_ ?zk ?zl; (case zF => k_asm); (case zv => rfl); (case zk => rfl); (case zl => rfl); k_whole; intro _; (try dsimp only)))) | ((with_reducible show wpAny _ _ (truthy (Value.ref _)) _ _ _); (k_here; (refine' truthy_meth ?zN ?zm ?_; (case zN => k_asm); (case zm => k_mem); k_whole; (try dsimp only)))))))
    · rename_i hb _ _ _
      refine kst_end (c.1.push _, c.2 + 1) (by k_asm) (by k_asm) (fun z hz => (if_neg hz).trans rfl) ?_ rfl
      refine ⟨?_, fun hB v hv => ?_⟩
      · simp [List.filter_append, hb, Array.size_push]; omega
      · simp only [Array.toList_push, List.mem_append, List.mem_singleton] at hv
        rcases hv with hv | rfl
        · exact hP.2 hB v hv
        · exact ⟨_, rfl⟩
    · rename_i hb
      refine kst_end c (by k_asm) (by k_asm) (fun z hz => (if_neg hz).trans rfl) ?_ rfl
      refine ⟨?_, hP.2⟩
      simp [List.filter_append, hb]; omega
  · intro c u h tk _ hP F1 N1
    change Fr g' L' h _ at F1
    clear N' F'
    w_strict ((repeat' (first | with_reducible ((show wpAny _ _ (call (Value.ref _) _) _ _ _); (k_here; (with_reducible show wpAny _ _ (call (Value.ref 49) _) _ _ _); refine stopAt_ ?_)) | with_reducible ((show wpAny _ _ (getMethod (Value.ref _) _ _) _ _ _); (k_here; (with_reducible show wpAny _ _ (getMethod (Value.ref _) (PySem.Str.ofString "reportCharacterErrors") _) _ _ _); k_dflt (refine' kmu_own ?zk1 ?zk2 ?zk3 ?zk4 ?zk5 ?_; (case zk1 => k_asm); (case zk2 => k_asm); (case zk3 => k_inst); (case zk4 => k_is); (case zk5 => k_is); k_whole))) | with_reducible ((show wpAny _ _ (execs (_ :: _) _) _ _ _); (k_here; (with_reducible show wpAny _ _ _ _ _ (Shared.mk _ _ _ (_ + _) _)); k_dflt (refine' gen_toks ?zp ?_; (case zp => ((try dsimp only); exact Nat.succ_pos _)); intro _ _))) | with_reducible ((show wpAny _ _ (isTrue (Expr.Compare _ _ _ _) _ _) _ _ _); (k_here; k_dflt (refine' isTrue_ll ?zF ?zv ?_ ?zk ?zl; (case zF => k_asm); (case zv => rfl); (case zk => rfl); (case zl => rfl); k_whole; intro _; (try dsimp only)))) | with_reducible ((show wpAny _ _ (call (Value.builtin "str.replace") _) _ _ _); k_dflt (first | (refine' call_replace_crlf ?zl ?zu ?zv ?zn ?_; (case zl => (omega)); (case zu => k_ne); (case zv => k_ne); (case zn => k_ne); intro _ _ _ _ _; (try dsimp only)) | (refine' call_replace_cr ?zl ?zu ?zv ?zn ?_; (case zl => (omega)); (case zu => k_ne); (case zv => k_ne); (case zn => k_ne); intro _ _ _ _ _; (try dsimp only)))) | with_reducible ((show wpAny _ _ (call (Value.builtin "str.rfind") _) _ _ _); (refine call_rfind4 ?_; (try dsimp only))) | with_reducible ((show wpAny _ _ (call (Value.builtin "str.count") _) _ _ _); (refine call_count4 ?_; (try dsimp only))) | with_reducible ((show wpAny _ _ (truthy (Value.ref _)) _ _ _); (k_here; (refine' truthy_meth ?zN ?zm ?_; (case zN => k_asm); (case zm => k_mem); k_whole; (try dsimp only)))) | (k_unfold; (try dsimp only)) | walk1 | (dsimp only; walk1) | (dsimp only [List.nil_append, List.cons_append]; walk1) | (k_end; dsimp only; k_unfold; (try dsimp only)) | (leave1; (try dsimp only)) | ((with_reducible show wpAny _ _ (call (Value.builtin "str.count") _) _ _ _); (refine call_count4 ?_; (try dsimp only))) | ((with_reducible show wpAny _ _ (call (Value.builtin "str.replace") _) _ _ _); k_dflt (first | (refine' call_replace_crlf ?zl ?zu ?zv ?zn ?_; (case zl => (omega)); (case zu => k_ne); (case zv => k_ne); (case zn => k_ne); intro _ _ _ _ _; (try dsimp only)) | (refine' call_replace_cr ?zl ?zu ?zv ?zn ?_; (case zl => (omega)); (case zu => k_ne); (case zv => k_ne); (case zn => k_ne); intro _ _ _ _ _; (try dsimp only)))) | ((with_reducible show wpAny _ _ (call (Value.builtin "str.rfind") _) _ _ _); (refine call_rfind4 ?_; (try dsimp only))) | ((with_reducible show wpAny _ _ (getMethod (Value.ref _) _ _) _ _ _); (k_here; (with_reducible show wpAny _ _ (getMethod (Value.ref _) (PySem.Str.ofString "reportCharacterErrors") _) _ _ _); k_dflt (refine' kmu_own ?zk1 ?zk2 ?zk3 ?zk4 ?zk5 ?_; (case zk1 => k_asm); (case zk2 => k_asm); (case zk3 => k_inst); (case zk4 => k_is); (case zk5 => k_is); k_whole))) | ((with_reducible show wpAny _ _ (isTrue (Expr.Compare _ _ _ _) _ _) _ _ _); (k_here; k_dflt (refine' isTrue_ll ?zF ?zv ?_ ?zk ?zl; (case zF => k_asm); (case zv => rfl); (case zk => rfl); (case zl => rfl); k_whole; intro _; (try dsimp only)))) | ((with_reducible show wpAny _ _ (truthy (Value.ref _)) _ _ _); (k_here; (refine' truthy_meth ?zN ?zm ?_; (case zN => k_asm); (case zm => k_mem); k_whole; (try dsimp only)))))))
    (with_reducible rename News _ _ _ (SX _ _ _ _ _ _ _ _ _ _ _ _ _ _ _ _ _) => kN9)
    refine hret _ _ _ _ (by k_asm) (news_app kN9 (by assumption)) ⟨_, _, rfl, rfl, ?_, hP.2⟩
    rw [hP.1]
    congr 1
    unfold badCount KStt.codes
    rw [List.filter_map, List.length_map]
    rfl
end
section
/-- a buffered sign's value: none, or CR -/
noncomputable def BufIs (v : Value) (b : List Nat) : Prop := (b = [] ∧ v = .none) ∨ (b = [13] ∧ ∃ t, v = .str ⟨#[13]⟩ t)
theorem rc_cutA {D : Str} {t : Nat} (h : 1 < (D.length : Int)) (h13 : ((Txt.item D (-1)).cps.getD 0 0 : Int) = 13) :
    (Txt.slice D none (some (-1))).cps.toList = (cut13 D.cps.toList).1 ∧ BufIs (.str (Txt.item D (-1)) t) (cut13 D.cps.toList).2 ∧ (D.length ≤ 10001 → (Txt.slice D none (some (-1))).length ≤ 10001) := by
  obtain ⟨h1, h2⟩ := cut13_yes h h13
  have e := slice_init D (by omega)
  refine ⟨by rw [h1]; exact e, by rw [h1]; exact .inr ⟨rfl, t, by rw [h2]⟩, fun hl => ?_⟩
  have : (Txt.slice D none (some (-1))).length = D.cps.toList.dropLast.length := congrArg List.length e
  rw [this, List.length_dropLast]
  have : D.cps.toList.length = D.length := rfl
  omega
theorem rc_bufA {D : Str} {t : Nat} (h : 1 < (D.length : Int)) (h13 : ((Txt.item D (-1)).cps.getD 0 0 : Int) = 13) : BufIs (.str (Txt.item D (-1)) t) (cut13 D.cps.toList).2 := (rc_cutA h h13).2.1
theorem rc_endJ {D R1 R2 : Str} {l : List Nat} (h : D.cps.toList = l) (e1 : R1 = Txt.replace D (Str.ofString "\r\n") (Str.ofString "\n")) (e2 : R2 = Txt.replace R1 (Str.ofString "\r") (Str.ofString "\n")) : R2.cps.toList = norm l := by
  rw [e2, e1, replace_both, h]
theorem fr_self {h₀ h : Heap} {L : Addr} {v1 : Str → Option Value} {x z : Str} {a b : Value} (hs : v1 z = some b) (F : Fr h₀ L h (fun y => if y = x then some a else v1 y)) :
    Fr h₀ L h (fun y => if y = x then some a else if y = z then some b else v1 y) := by
  have e : (fun y => if y = x then some a else if y = z then some b else v1 y) = (fun y => if y = x then some a else v1 y) := by
    funext y
    by_cases h1 : y = x
    · rw [if_pos h1, if_pos h1]
    · rw [if_neg h1, if_neg h1]
      by_cases h2 : y = z
      · rw [if_pos h2, h2, hs]
      · rw [if_neg h2]
  rw [e]; exact F
/-- a mark in the context: the walk stands still at a bound method's call -/
noncomputable def StopHere : Prop := True
theorem stop_here {P : Prop} (_h : StopHere) (h : StopAt P) : P := h
/-- readChunk behind its reading: from «if len(data) > 1» on -/
noncomputable def RcTail (w : World) (body : List Stmt) (qual : Str) (scope : Scope) (cdv : Value) : Prop :=
  ∀ (kt : Nat → Nat) (x d q nl tx er : Nat) (_ : d < x ∧ x < q ∧ q < er) (D : Str) (t1 t2 t3 t4 : Nat) (pl pc : Value) (v1 : Str → Option Value) (dcs : Value) (errs : Array Value) (ne : Nat) (_ : D.length ≤ 10001) (_ : 1 ≤ D.length) (_ : noSur D.cps.toList) (_ : errs.size ≤ 10000)
    (dp un : Nat) (gd : Option (List Code)) (outer : List Env) (A₀ : Around) (base h₀ : Heap) (L : Addr) (s : Shared) (Q : Flow → Shared → Prop) (Er : Value → Shared → Prop)
    (loose : List Str) (mean : ExcName → Option Value) (mg mb : Str → Option Value)
    (_ : Below A₀ base outer h₀) (_ : Fr h₀ L s.heap (fun y => if y = Str.ofString "data" then some (.str D t1) else v1 y)) (_ : v1 (Str.ofString "self") = some (.ref x)) (_ : (hd.heap_39 w.params).In h₀)
    (gp : Addr × Obj) (rest : Ledger) (_ : OwnOff rest [er, q, x, d]) (_ : News h₀ L s.heap (gp :: (SX w kt x d q nl tx er (.str (Str.ofString "") t2) (.int 0 t3) (.int 0 t4) pl pc .none dcs errs ne ++ rest))) (_ : Top hd.view_39 loose mean mg mb h₀)
    (_ : dp + 4 * 2 < recursionLimit) (_ : un + 40 * 2 < cLine)
    (_ : ∀ (h' : Heap) (tk' : Nat) (m' : Str → Option Value) (R : Str) (bufV : Value) (errs' : Array Value) (ne' ta tb : Nat), Fr h₀ L h' m' → News h₀ L h' (SX w kt x d q nl tx er (.str R ta) (.int R.length tb) (.int 0 t4) pl pc bufV dcs errs' ne' ++ rest) →
      R.cps.toList = norm (cut13 D.cps.toList).1 → BufIs bufV (cut13 D.cps.toList).2 → errs'.size = errs.size + badCount (cut13 D.cps.toList).1 → (Bads errs → Bads errs') → Q (.ret (.bool true)) { s with heap := h', toks := tk' }),
    wpAny (model PySem.Challenge.rw_te0024_02.row.prog w) (ktrTop dp un gd qual scope L 106 cdv [] outer) (execs (body.drop 7) (envOf qual scope L 106 cdv)) Q Er s
set_option maxRecDepth 100000 in
set_option maxHeartbeats 2000000 in
theorem rc_tail (w : World) {oc od osl} {name qual : Str} {params : Arguments} {body : List Stmt} {scope : Scope} {dV kV doc pm cdv ct : Value} {an : Option Addr} :
    (hd.heap_39 w.params).lookup 106 = some ⟨oc, od, .func (fnOf name qual params body scope dV kV doc pm an cdv ct), osl⟩ → RcTail w body qual scope cdv := by
  unfold RcTail
  k_fill
  show _ → RcTail w body qual scope cdv
  intro ho
  obtain ⟨rfl, rfl, rfl, rfl⟩ := fn_parts ho (show (hd.heap_39 w.params).lookup 106 = some _ by k_is)
  unfold RcTail
  intro kt x d q nl tx er hord D t1 t2 t3 t4 pl pc v1 dcs errs ne hD h1 hsur hE dp un gd outer A₀ base h₀ L s Q Er loose mean mg mb B F hself KX gp rest hoff N0 TT hroom hun hret
  refine' ex_0_6 (ord4 hord) ?_; intro g1 g2 g3 g4 g5 g6
  have N : News h₀ L s.heap _ := fun p hp => N0 p (.tail _ hp)
  clear N0
  have F1 := fr_self hself F
  clear F
  simp only [SX, ent, List.cons_append, List.nil_append] at N
  have hstop : StopHere := trivial
  w_on
  w_top on
  refine' execs_join (fun s' => ∃ (h' : Heap) (tk : Nat) (m' : Str → Option Value) (D' : Str) (t : Nat) (bufV : Value), s' = ⟨h', s.gens, s.drawn, tk, s.os⟩ ∧ Fr h₀ L h' m' ∧ m' (Str.ofString "data") = some (.str D' t) ∧ m' (Str.ofString "self") = some (.ref x) ∧
    News h₀ L h' (SX w kt x d q nl tx er (.str (Str.ofString "") t2) (.int 0 t3) (.int 0 t4) pl pc bufV dcs errs ne ++ rest) ∧ D'.cps.toList = (cut13 D.cps.toList).1 ∧ BufIs bufV (cut13 D.cps.toList).2 ∧ D'.length ≤ 10001) ?tail ?first
  case first =>
    intro JJ hJJ
    w_strict ((repeat' (first | with_reducible (((with_reducible show (if decide ((55296 : Int) ≤ _ ∧ _ ≤ 56319) = true then _ else _)); k_dflt (refine ite_neg (nosur_not (by assumption) (by assumption)) ?_))) | with_reducible ((show wpAny _ _ (call (Value.ref _) _) _ _ _); (k_here; (with_reducible rename StopHere => zT9); k_dflt ((show wpAny _ _ (call (Value.ref _) [_]) _ _ _); refine stop_here zT9 ?_))) | with_reducible ((show wpAny _ _ (getMethod (Value.ref _) _ _) _ _ _); (k_here; (with_reducible show wpAny _ _ (getMethod (Value.ref _) (PySem.Str.ofString "reportCharacterErrors") _) _ _ _); k_dflt (refine' kmu_own ?zk1 ?zk2 ?zk3 ?zk4 ?zk5 ?_; (case zk1 => k_asm); (case zk2 => k_asm); (case zk3 => k_inst); (case zk4 => k_is); (case zk5 => k_is); k_whole))) | with_reducible ((show wpAny _ _ (execs (_ :: _) _) _ _ _); (k_here; (with_reducible show wpAny _ _ _ _ _ (Shared.mk _ _ _ (_ + _) _)); k_dflt (refine' gen_toks ?zp ?_; (case zp => ((try dsimp only); exact Nat.succ_pos _)); intro _ _))) | with_reducible ((show wpAny _ _ (isTrue (Expr.Compare _ _ _ _) _ _) _ _ _); (k_here; k_dflt (refine' isTrue_ll ?zF ?zv ?_ ?zk ?zl; (case zF => k_asm); (case zv => rfl); (case zk => rfl); (case zl => rfl); k_whole; intro _; (try dsimp only)))) | with_reducible ((show wpAny _ _ (call (Value.builtin "str.replace") _) _ _ _); k_dflt (first | (refine' call_replace_crlf ?zl ?zu ?zv ?zn ?_; (case zl => (omega)); (case zu => k_ne); (case zv => k_ne); (case zn => k_ne); intro _ _ _ _ _; (try dsimp only)) | (refine' call_replace_cr ?zl ?zu ?zv ?zn ?_; (case zl => (omega)); (case zu => k_ne); (case zv => k_ne); (case zn => k_ne); intro _ _ _ _ _; (try dsimp only)))) | with_reducible ((show wpAny _ _ (call (Value.builtin "str.rfind") _) _ _ _); (refine call_rfind4 ?_; (try dsimp only))) | with_reducible ((show wpAny _ _ (call (Value.builtin "str.count") _) _ _ _); (refine call_count4 ?_; (try dsimp only))) | with_reducible ((show wpAny _ _ (truthy (Value.ref _)) _ _ _); (k_here; (refine' truthy_meth ?zN ?zm ?_; (case zN => k_asm); (case zm => k_mem); k_whole; (try dsimp only)))) | (k_unfold; (try dsimp only)) | walk1 | (dsimp only; walk1) | (dsimp only [List.nil_append, List.cons_append]; walk1) | (k_end; dsimp only; k_unfold; (try dsimp only)) | (leave1; (try dsimp only)) | ((with_reducible show wpAny _ _ (call (Value.builtin "str.count") _) _ _ _); (refine call_count4 ?_; (try dsimp only))) | ((with_reducible show wpAny _ _ (call (Value.builtin "str.replace") _) _ _ _); k_dflt (first | (refine' call_replace_crlf ?zl ?zu ?zv ?zn ?_; (case zl => (omega)); (case zu => k_ne); (case zv => k_ne); (case zn => k_ne); intro _ _ _ _ _; (try dsimp only)) | (refine' call_replace_cr ?zl ?zu ?zv ?zn ?_; (case zl => (omega)); (case zu => k_ne); (case zv => k_ne); (case zn => k_ne); intro _ _ _ _ _; (try dsimp only)))) | ((with_reducible show wpAny _ _ (call (Value.builtin "str.rfind") _) _ _ _); (refine call_rfind4 ?_; (try dsimp only))) | ((with_reducible show wpAny _ _ (getMethod (Value.ref _) _ _) _ _ _); (k_here; (with_reducible show wpAny _ _ (getMethod (Value.ref _) (PySem.Str.ofString "reportCharacterErrors") _) _ _ _); k_dflt (refine' kmu_own ?zk1 ?zk2 ?zk3 ?zk4 ?zk5 ?_; (case zk1 => k_asm); (case zk2 => k_asm); (case zk3 => k_inst); (case zk4 => k_is); (case zk5 => k_is); k_whole))) | ((with_reducible show wpAny _ _ (isTrue (Expr.Compare _ _ _ _) _ _) _ _ _); (k_here; k_dflt (refine' isTrue_ll ?zF ?zv ?_ ?zk ?zl; (case zF => k_asm); (case zv => rfl); (case zk => rfl); (case zl => rfl); k_whole; intro _; (try dsimp only)))) | ((with_reducible show wpAny _ _ (truthy (Value.ref _)) _ _ _); (k_here; (refine' truthy_meth ?zN ?zm ?_; (case zN => k_asm); (case zm => k_mem); k_whole; (try dsimp only)))))))
    all_goals (
      subst hJJ
      (with_reducible rename News _ _ _ (_ :: _) => N9)
      (with_reducible rename Fr _ _ _ _ => F9)
      have hl9 : D.cps.toList.length = D.length := rfl)
    · obtain ⟨q1, q2, q3⟩ := rc_cutA (t := 0) (D := D) (by assumption) (by assumption)
      exact ⟨_, _, _, _, _, _, rfl, F9, rfl, rfl, N9, q1, rc_bufA (by assumption) (by assumption), q3 hD⟩
    · have q1 := cut13_ne (x := D) (by assumption) (by assumption)
      exact ⟨_, _, _, _, _, _, rfl, F9, rfl, rfl, N9, by rw [q1], by rw [q1]; exact .inl ⟨rfl, rfl⟩, hD⟩
    · have q1 := cut13_one (x := D) (by assumption)
      exact ⟨_, _, _, _, _, _, rfl, F9, rfl, rfl, N9, by rw [q1], by rw [q1]; exact .inl ⟨rfl, rfl⟩, hD⟩
  case tail =>
    intro s' hJ
    refine' ex_6_8 (hJ) ?_; intro h' tk m' D' t bufV r96 F2 e1 e2 N2 hcut hbuf hlen; (try clear hJ); subst r96
    have F3 : Fr h₀ L h' _ := fr_know2 e1 e2 F2
    have N3 : News h₀ L h' _ := N2
    clear F1 N F2 N2 h1 hsur
    simp only [SX, ent, List.cons_append, List.nil_append] at N3
    w_strict ((repeat' (first | with_reducible (((with_reducible show (if decide ((55296 : Int) ≤ _ ∧ _ ≤ 56319) = true then _ else _)); k_dflt (refine ite_neg (nosur_not (by assumption) (by assumption)) ?_))) | with_reducible ((show wpAny _ _ (call (Value.ref _) _) _ _ _); (k_here; (with_reducible rename StopHere => zT9); k_dflt ((show wpAny _ _ (call (Value.ref _) [_]) _ _ _); refine stop_here zT9 ?_))) | with_reducible ((show wpAny _ _ (getMethod (Value.ref _) _ _) _ _ _); (k_here; (with_reducible show wpAny _ _ (getMethod (Value.ref _) (PySem.Str.ofString "reportCharacterErrors") _) _ _ _); k_dflt (refine' kmu_own ?zk1 ?zk2 ?zk3 ?zk4 ?zk5 ?_; (case zk1 => k_asm); (case zk2 => k_asm); (case zk3 => k_inst); (case zk4 => k_is); (case zk5 => k_is); k_whole))) | with_reducible ((show wpAny _ _ (execs (_ :: _) _) _ _ _); (k_here; (with_reducible show wpAny _ _ _ _ _ (Shared.mk _ _ _ (_ + _) _)); k_dflt (refine' gen_toks ?zp ?_; (case zp => ((try dsimp only); exact Nat.succ_pos _)); intro _ _))) | with_reducible ((show wpAny _ _ (isTrue (Expr.Compare _ _ _ _) _ _) _ _ _); (k_here; k_dflt (refine' isTrue_ll ?zF ?zv ?_ ?zk ?zl; (case zF => k_asm); (case zv => rfl); (case zk => rfl); (case zl => rfl); k_whole; intro _; (try dsimp only)))) | with_reducible ((show wpAny _ _ (call (Value.builtin "str.replace") _) _ _ _); k_dflt (first | (refine' call_replace_crlf ?zl ?zu ?zv ?zn ?_; (case zl => (omega)); (case zu => k_ne); (case zv => k_ne); (case zn => k_ne); intro _ _ _ _ _; (try dsimp only)) | (refine' call_replace_cr ?zl ?zu ?zv ?zn ?_; (case zl => (omega)); (case zu => k_ne); (case zv => k_ne); (case zn => k_ne); intro _ _ _ _ _; (try dsimp only)))) | with_reducible ((show wpAny _ _ (call (Value.builtin "str.rfind") _) _ _ _); (refine call_rfind4 ?_; (try dsimp only))) | with_reducible ((show wpAny _ _ (call (Value.builtin "str.count") _) _ _ _); (refine call_count4 ?_; (try dsimp only))) | with_reducible ((show wpAny _ _ (truthy (Value.ref _)) _ _ _); (k_here; (refine' truthy_meth ?zN ?zm ?_; (case zN => k_asm); (case zm => k_mem); k_whole; (try dsimp only)))) | (k_unfold; (try dsimp only)) | walk1 | (dsimp only; walk1) | (dsimp only [List.nil_append, List.cons_append]; walk1) | (k_end; dsimp only; k_unfold; (try dsimp only)) | (leave1; (try dsimp only)) | ((with_reducible show wpAny _ _ (call (Value.builtin "str.count") _) _ _ _); (refine call_count4 ?_; (try dsimp only))) | ((with_reducible show wpAny _ _ (call (Value.builtin "str.replace") _) _ _ _); k_dflt (first | (refine' call_replace_crlf ?zl ?zu ?zv ?zn ?_; (case zl => (omega)); (case zu => k_ne); (case zv => k_ne); (case zn => k_ne); intro _ _ _ _ _; (try dsimp only)) | (refine' call_replace_cr ?zl ?zu ?zv ?zn ?_; (case zl => (omega)); (case zu => k_ne); (case zv => k_ne); (case zn => k_ne); intro _ _ _ _ _; (try dsimp only)))) | ((with_reducible show wpAny _ _ (call (Value.builtin "str.rfind") _) _ _ _); (refine call_rfind4 ?_; (try dsimp only))) | ((with_reducible show wpAny _ _ (getMethod (Value.ref _) _ _) _ _ _); (k_here; (with_reducible show wpAny _ _ (getMethod (Value.ref _) (PySem.Str.ofString "reportCharacterErrors") _) _ _ _); k_dflt (refine' kmu_own ?zk1 ?zk2 ?zk3 ?zk4 ?zk5 ?_; (case zk1 => k_asm); (case zk2 => k_asm); (case zk3 => k_inst); (case zk4 => k_is); (case zk5 => k_is); k_whole))) | ((with_reducible show wpAny _ _ (isTrue (Expr.Compare _ _ _ _) _ _) _ _ _); (k_here; k_dflt (refine' isTrue_ll ?zF ?zv ?_ ?zk ?zl; (case zF => k_asm); (case zv => rfl); (case zk => rfl); (case zl => rfl); k_whole; intro _; (try dsimp only)))) | ((with_reducible show wpAny _ _ (truthy (Value.ref _)) _ _ _); (k_here; (refine' truthy_meth ?zN ?zm ?_; (case zN => k_asm); (case zm => k_mem); k_whole; (try dsimp only)))))))
    unfold StopAt
    (with_reducible rename Fr _ _ _ _ => F5)
    (with_reducible rename News _ _ _ _ => N5)
    (try dsimp only [List.append_nil])
    k_dflt (refine' Does.useM [] (does_charErr _ _ _ _ _ _ _ _ ?h1 _ _ ?h2 _ _ _ _ _ _ _ _ _ ?h3) ?k1 ?k2 ?k3 ?k4 ?kq ?k5 ?kd ?kK ?kr ?ku ?_)
    case k4 => exact N5
    case kq => k_mem
    case k1 => k_asm
    case k2 => exact F5
    case k3 => k_asm
    case k5 => k_asm
    case kK => first | exact rfl | assumption
    case kr => (first | assumption | ((simp only [depth_under_make, depth_under_kw, depth_in1, depth_deeper, depth_caller]); (try dsimp only [ktrTop]); first | exact room0 (by assumption) (by decide) | exact room1 (by assumption) (by decide) | omega | decide) | ((try dsimp only [ktrTop]); omega))
    case ku => (first | assumption | ((simp only [units_in1, units_deeper, Around.mark_units, units_caller]); (try dsimp only [ktrTop]); first | exact room0 (by assumption) (by decide) | exact room1 (by assumption) (by decide)) | ((have zhcL := cLine_is); (simp only [units_in1, units_deeper, Around.mark_units, units_caller]); (try dsimp only [ktrTop]); omega) | ((have zhcL := cLine_is); (try dsimp only [ktrTop]); omega))
    (case h1 => omega); (case h2 => (omega)); (case h3 => omega)
    case kd => (first | (exact fun _ _ _ h9 => absurd h9 List.not_mem_nil) | (exact own_dis (by assumption) sx_sub) | ((simp only [List.nil_append, List.cons_append, List.append_nil, List.forall_mem_cons]); (repeat' (first | (refine And.intro ?_ ?_) | k_ne | (exact fun _ h9 => absurd h9 List.not_mem_nil) | assumption)); done))
    k_whole
    intro v9 E9 h9 tk9 F9 N9 p9 T9
    (try dsimp only at T9)
    (try simp only [List.nil_append, List.cons_append] at N9)
    clear N5 F5
    refine' ex_2_4 (p9) ?_; intro er9 n9 e9 e8 c9 b9; (try clear p9)
    subst e9
    subst e8
    (try simp only [List.nil_append, List.cons_append, SX, ent] at N9)
    w_strict ((repeat' (first | with_reducible (((with_reducible show (if decide ((55296 : Int) ≤ _ ∧ _ ≤ 56319) = true then _ else _)); k_dflt (refine ite_neg (nosur_not (by assumption) (by assumption)) ?_))) | with_reducible ((show wpAny _ _ (call (Value.ref _) _) _ _ _); (k_here; (with_reducible rename StopHere => zT9); k_dflt ((show wpAny _ _ (call (Value.ref _) [_]) _ _ _); refine stop_here zT9 ?_))) | with_reducible ((show wpAny _ _ (getMethod (Value.ref _) _ _) _ _ _); (k_here; (with_reducible show wpAny _ _ (getMethod (Value.ref _) (PySem.Str.ofString "reportCharacterErrors") _) _ _ _); k_dflt (refine' kmu_own ?zk1 ?zk2 ?zk3 ?zk4 ?zk5 ?_; (case zk1 => k_asm); (case zk2 => k_asm); (case zk3 => k_inst); (case zk4 => k_is); (case zk5 => k_is); k_whole))) | with_reducible ((show wpAny _ _ (execs (_ :: _) _) _ _ _); (k_here; (with_reducible show wpAny _ _ _ _ _ (Shared.mk _ _ _ (_ + _) _)); k_dflt (refine' gen_toks ?zp ?_; (case zp => ((try dsimp only); exact Nat.succ_pos _)); intro _ _))) | with_reducible ((show wpAny _ _ (isTrue (Expr.Compare _ _ _ _) _ _) _ _ _); (k_here; k_dflt (refine' isTrue_ll ?zF ?zv ?_ ?zk ?zl; (case zF => k_asm); (case zv => rfl); (case zk => rfl); (case zl => rfl); k_whole; intro _; (try dsimp only)))) | with_reducible ((show wpAny _ _ (call (Value.builtin "str.replace") _) _ _ _); k_dflt (first | (refine' call_replace_crlf ?zl ?zu ?zv ?zn ?_; (case zl => (omega)); (case zu => k_ne); (case zv => k_ne); (case zn => k_ne); intro _ _ _ _ _; (try dsimp only)) | (refine' call_replace_cr ?zl ?zu ?zv ?zn ?_; (case zl => (omega)); (case zu => k_ne); (case zv => k_ne); (case zn => k_ne); intro _ _ _ _ _; (try dsimp only)))) | with_reducible ((show wpAny _ _ (call (Value.builtin "str.rfind") _) _ _ _); (refine call_rfind4 ?_; (try dsimp only))) | with_reducible ((show wpAny _ _ (call (Value.builtin "str.count") _) _ _ _); (refine call_count4 ?_; (try dsimp only))) | with_reducible ((show wpAny _ _ (truthy (Value.ref _)) _ _ _); (k_here; (refine' truthy_meth ?zN ?zm ?_; (case zN => k_asm); (case zm => k_mem); k_whole; (try dsimp only)))) | (k_unfold; (try dsimp only)) | walk1 | (dsimp only; walk1) | (dsimp only [List.nil_append, List.cons_append]; walk1) | (k_end; dsimp only; k_unfold; (try dsimp only)) | (leave1; (try dsimp only)) | ((with_reducible show wpAny _ _ (call (Value.builtin "str.count") _) _ _ _); (refine call_count4 ?_; (try dsimp only))) | ((with_reducible show wpAny _ _ (call (Value.builtin "str.replace") _) _ _ _); k_dflt (first | (refine' call_replace_crlf ?zl ?zu ?zv ?zn ?_; (case zl => (omega)); (case zu => k_ne); (case zv => k_ne); (case zn => k_ne); intro _ _ _ _ _; (try dsimp only)) | (refine' call_replace_cr ?zl ?zu ?zv ?zn ?_; (case zl => (omega)); (case zu => k_ne); (case zv => k_ne); (case zn => k_ne); intro _ _ _ _ _; (try dsimp only)))) | ((with_reducible show wpAny _ _ (call (Value.builtin "str.rfind") _) _ _ _); (refine call_rfind4 ?_; (try dsimp only))) | ((with_reducible show wpAny _ _ (getMethod (Value.ref _) _ _) _ _ _); (k_here; (with_reducible show wpAny _ _ (getMethod (Value.ref _) (PySem.Str.ofString "reportCharacterErrors") _) _ _ _); k_dflt (refine' kmu_own ?zk1 ?zk2 ?zk3 ?zk4 ?zk5 ?_; (case zk1 => k_asm); (case zk2 => k_asm); (case zk3 => k_inst); (case zk4 => k_is); (case zk5 => k_is); k_whole))) | ((with_reducible show wpAny _ _ (isTrue (Expr.Compare _ _ _ _) _ _) _ _ _); (k_here; k_dflt (refine' isTrue_ll ?zF ?zv ?_ ?zk ?zl; (case zF => k_asm); (case zv => rfl); (case zk => rfl); (case zl => rfl); k_whole; intro _; (try dsimp only)))) | ((with_reducible show wpAny _ _ (truthy (Value.ref _)) _ _ _); (k_here; (refine' truthy_meth ?zN ?zm ?_; (case zN => k_asm); (case zm => k_mem); k_whole; (try dsimp only)))))))
    (try dsimp only)
    refine' hret _ _ _ _ _ _ _ _ _ ?F ?N (rc_endJ hcut (by assumption) (by assumption)) hbuf ?c ?d
    case F => k_asm
    case N => k_asm
    case c => rw [← hcut]; assumption
    case d => assumption
end
section
/-- the code points that readChunk has before it: what was kept back and what it reads -/
noncomputable def rcIn (b : List Nat) (S : Str) (p n : Nat) : List Nat := b ++ (S.cps.toList.drop p).take n
/-- what readChunk leaves -/
noncomputable def rcPost (w : World) (kt : Nat → Nat) (x d q nl td tx er : Nat) (C S : Str) (p n : Nat) (pl pc : Int) (b : List Nat) (t6 : Nat) (dcs : Value) (errs : Array Value) (v : Value) (E' : Ledger) : Prop :=
  ∃ (R : Str) (bufV : Value) (errs' : Array Value) (ne' ta tb tc t4 t5 t7 : Nat),
    E' = SX w kt x d q nl tx er (.str R ta) (.int R.length tb) (.int 0 tc) (.int (posL C pl C.length) t4) (.int (posC C pc C.length) t5) bufV dcs errs' ne' ++ TL w kt tx td (.str S t6) (.int ((min (p + n) S.length : Nat) : Int) t7) ∧
    R.cps.toList = norm (cut13 (rcIn b S p n)).1 ∧ BufIs bufV (cut13 (rcIn b S p n)).2 ∧ errs'.size = errs.size + badCount (cut13 (rcIn b S p n)).1 ∧ (Bads errs → Bads errs') ∧ v = .bool (!(rcIn b S p n).isEmpty)
theorem rc_fin {w : World} {kt : Nat → Nat} {x d q nl td tx er : Nat} {C S P D R : Str} {p n : Nat} {pl pc : Int} {b : List Nat} {t6 ta tb tc t4 t5 t7 : Nat} {dcs : Value} {errs errs' : Array Value} {ne' : Nat} {bufV : Value}
    (hP : P.cps.toList = (S.cps.toList.drop p).take n) (hD : D.cps.toList = b ++ P.cps.toList) (hpos : 1 ≤ D.length) (hp : p ≤ S.length)
    (hR : R.cps.toList = norm (cut13 D.cps.toList).1) (hb : BufIs bufV (cut13 D.cps.toList).2) (he : errs'.size = errs.size + badCount (cut13 D.cps.toList).1) (hB : Bads errs → Bads errs') :
    rcPost w kt x d q nl td tx er C S p n pl pc b t6 dcs errs (.bool true)
      (SX w kt x d q nl tx er (.str R ta) (.int R.length tb) (.int 0 tc) (.int (posL C pl C.length) t4) (.int (posC C pc C.length) t5) bufV dcs errs' ne' ++ TL w kt tx td (.str S t6) (.int ((p + P.length : Nat) : Int) t7)) := by
  have e : rcIn b S p n = D.cps.toList := by rw [hD, hP]; rfl
  have e2 : p + P.length = min (p + n) S.length := by
    have h := congrArg List.length hP
    have h1 : P.cps.toList.length = P.length := rfl
    have h2 : S.cps.toList.length = S.length := rfl
    rw [List.length_take, List.length_drop, h1, h2] at h
    rw [h, ← Nat.add_min_add_left, Nat.add_sub_cancel' hp]
  have e3 : (D.cps.toList).isEmpty = false := by
    cases h : D.cps.toList with
    | nil => have : D.cps.toList.length = D.length := rfl; rw [h] at this; simp at this; omega
    | cons _ _ => rfl
  rw [e2]
  refine ⟨R, bufV, errs', ne', ta, tb, tc, t4, t5, t7, rfl, ?_, ?_, ?_, hB, ?_⟩
  all_goals rw [e]
  · exact hR
  · exact hb
  · exact he
  · rw [e3]; rfl
theorem rc_finF {w : World} {kt : Nat → Nat} {x d q nl td tx er : Nat} {C S P : Str} {p n : Nat} {pl pc : Int} {t6 ta tb tc t4 t5 t7 : Nat} {dcs : Value} {errs : Array Value} {ne' : Nat}
    (hP : P.cps.toList = (S.cps.toList.drop p).take n) (hpos : (P.length : Int) = 0) (hp : p ≤ S.length) :
    rcPost w kt x d q nl td tx er C S p n pl pc [] t6 dcs errs (.bool false)
      (SX w kt x d q nl tx er (.str (Str.ofString "") ta) (.int 0 tb) (.int 0 tc) (.int (posL C pl C.length) t4) (.int (posC C pc C.length) t5) .none dcs errs ne' ++ TL w kt tx td (.str S t6) (.int ((p + P.length : Nat) : Int) t7)) := by
  have h0 : P.length = 0 := by omega
  have hl : P.cps.toList = [] := by
    cases h : P.cps.toList with
    | nil => rfl
    | cons _ _ => have : P.cps.toList.length = P.length := rfl; rw [h, h0] at this; simp at this
  have e : rcIn [] S p n = [] := by unfold rcIn; rw [List.nil_append, ← hP, hl]
  have e2 : p + P.length = min (p + n) S.length := by
    have h := congrArg List.length hP
    have h1 : P.cps.toList.length = P.length := rfl
    have h2 : S.cps.toList.length = S.length := rfl
    rw [List.length_take, List.length_drop, h1, h2] at h
    rw [h, ← Nat.add_min_add_left, Nat.add_sub_cancel' hp]
  rw [e2]
  refine ⟨Str.ofString "", .none, errs, ne', ta, tb, tc, t4, t5, t7, rfl, ?_, ?_, ?_, id, ?_⟩
  all_goals rw [e]
  · decide
  · exact .inl ⟨rfl, rfl⟩
  · rfl
  · rfl
theorem nosur_of {P S : Str} {p n : Nat} (h : P.cps.toList = (S.cps.toList.drop p).take n) (hs : noSur S.cps.toList) : noSur P.cps.toList := by
  intro c hc
  rw [h] at hc
  exact hs c (List.mem_of_mem_drop (List.mem_of_mem_take hc))
theorem nosur_cr {P S : Str} {p n : Nat} (h : P.cps.toList = (S.cps.toList.drop p).take n) (hs : noSur S.cps.toList) : noSur ((⟨#[13]⟩ : Str) ++ P).cps.toList := by
  intro c hc
  rw [Str.cps_append, Array.toList_append] at hc
  rcases List.mem_append.mp hc with hc | hc
  · have : c = 13 := by simpa using hc
    omega
  · exact nosur_of h hs c hc
theorem fr_two {h₀ h : Heap} {L : Addr} {m : Str → Option Value} {z1 z2 : Str} {b1 b2 : Value} (h1 : m z1 = some b1) (h2 : m z2 = some b2) (F : Fr h₀ L h m) : Fr h₀ L h (fun y => if y = z1 then some b1 else if y = z2 then some b2 else m y) := by
  have e : (fun y => if y = z1 then some b1 else if y = z2 then some b2 else m y) = m := by
    funext y
    by_cases k1 : y = z1
    · rw [if_pos k1, k1, h1]
    · rw [if_neg k1]
      by_cases k2 : y = z2
      · rw [if_pos k2, k2, h2]
      · rw [if_neg k2]
  rw [e]; exact F
theorem stop_rc {w : World} {body : List Stmt} {qual : Str} {scope : Scope} {cdv : Value} (_T : RcTail w body qual scope cdv) {M : Model} {A : Around} {env : Env} {Q : Flow → Shared → Prop} {E : Value → Shared → Prop} {s : Shared} (h : StopAt (wpAny M A (execs (body.drop 7) env) Q E s)) : wpAny M A (execs (body.drop 7) env) Q E s := h
/-- readChunk from its second row on -/
noncomputable def RcMid (w : World) (body : List Stmt) (qual : Str) (scope : Scope) (cdv : Value) : Prop :=
  ∀ (kt : Nat → Nat) (x d q nl td tx er : Nat) (_ : d < x ∧ x < q ∧ q < td ∧ td < tx ∧ tx < er) (C S : Str) (n p : Nat) (pl pc : Int) (tn t2 t3 t4 t5 t6 t7 : Nat) (off bufV : Value) (b : List Nat) (dcs : Value) (errs : Array Value) (ne : Nat)
    (_ : 1 ≤ n) (_ : n ≤ 20000) (_ : p ≤ S.length) (_ : S.length ≤ 10000) (_ : C.length ≤ 20000) (_ : errs.size ≤ 10000) (_ : noSur S.cps.toList) (_ : BufIs bufV b)
    (m : Str → Option Value) (_ : m (Str.ofString "self") = some (.ref x)) (_ : m (Str.ofString "chunkSize") = some (.int (n : Int) tn))
    (dp un : Nat) (gd : Option (List Code)) (outer : List Env) (A₀ : Around) (base h₀ : Heap) (L : Addr) (s : Shared) (Q : Flow → Shared → Prop) (Er : Value → Shared → Prop)
    (loose : List Str) (mean : ExcName → Option Value) (mg mb : Str → Option Value)
    (_ : Below A₀ base outer h₀) (_ : Fr h₀ L s.heap m) (_ : (hd.heap_39 w.params).In h₀) (_ : News h₀ L s.heap (SX w kt x d q nl tx er (.str C t2) (.int C.length t3) off (.int pl t4) (.int pc t5) bufV dcs errs ne ++ TL w kt tx td (.str S t6) (.int (p : Int) t7))) (_ : Top hd.view_39 loose mean mg mb h₀)
    (_ : dp + 4 * 2 < recursionLimit) (_ : un + 40 * 2 < cLine)
    (_ : ∀ (h' : Heap) (tk' : Nat) (m' : Str → Option Value) (v : Value) (E' : Ledger), Fr h₀ L h' m' → News h₀ L h' E' → rcPost w kt x d q nl td tx er C S p n pl pc b t6 dcs errs v E' → Q (.ret v) { s with heap := h', toks := tk' }),
    wpAny (model PySem.Challenge.rw_te0024_02.row.prog w) (ktrTop dp un gd qual scope L 106 cdv [] outer) (execs (body.drop 1) (envOf qual scope L 106 cdv)) Q Er s
set_option maxRecDepth 100000 in
set_option maxHeartbeats 2000000 in
theorem rc_mid (w : World) {oc od osl} {name qual : Str} {params : Arguments} {body : List Stmt} {scope : Scope} {dV kV doc pm cdv ct : Value} {an : Option Addr} :
    (hd.heap_39 w.params).lookup 106 = some ⟨oc, od, .func (fnOf name qual params body scope dV kV doc pm an cdv ct), osl⟩ → RcMid w body qual scope cdv := by
  unfold RcMid
  k_fill
  show _ → RcMid w body qual scope cdv
  intro ho
  obtain ⟨rfl, rfl, rfl, rfl⟩ := fn_parts ho (show (hd.heap_39 w.params).lookup 106 = some _ by k_is)
  unfold RcMid
  intro kt x d q nl td tx er hord C S n p pl pc tn t2 t3 t4 t5 t6 t7 off bufV b dcs errs ne hn hn' hp' hS hC hE hsur hb m hm1 hm2 dp un gd outer A₀ base h₀ L s Q Er loose mean mg mb B F KX N TT hroom hun hret
  refine' ex_0_15 (ord6 hord) ?_; intro g1 g2 g3 g4 g5 g6 g7 g8 g9 g10 g11 g12 g13 g14 g15
  have hT := rc_tail w (show (hd.heap_39 w.params).lookup 106 = some _ by k_is)
  clear ho
  have F1 := fr_two hm1 hm2 F
  clear F
  simp only [TL, SX, ent, List.cons_append, List.nil_append] at N
  w_on
  w_top on
  rcases hb with ⟨rfl, rfl⟩ | ⟨rfl, tb, rfl⟩
  · skip
    w_strict ((repeat' (first | with_reducible ((show wpAny _ _ (execs (_ :: _) _) _ _ _); (k_here; (with_reducible rename RcTail _ _ _ _ _ => zT9); k_dflt (refine stop_rc zT9 ?_))) | with_reducible ((show wpAny _ _ (call (Value.ref _) _) _ _ _); (k_here; (with_reducible show wpAny _ _ (call (Value.ref 35) _) _ _ _); refine stopAt_ ?_)) | with_reducible ((show wpAny _ _ (call (Value.ref _) _) _ _ _); (k_here; (with_reducible show wpAny _ _ (call (Value.ref 84) _) _ _ _); refine stopAt_ ?_)) | with_reducible ((show wpAny _ _ (getMethod (Value.ref _) _ _) _ _ _); (k_here; (with_reducible show wpAny _ _ (getMethod (Value.ref _) (PySem.Str.ofString "reportCharacterErrors") _) _ _ _); k_dflt (refine' kmu_own ?zk1 ?zk2 ?zk3 ?zk4 ?zk5 ?_; (case zk1 => k_asm); (case zk2 => k_asm); (case zk3 => k_inst); (case zk4 => k_is); (case zk5 => k_is); k_whole))) | with_reducible ((show wpAny _ _ (execs (_ :: _) _) _ _ _); (k_here; (with_reducible show wpAny _ _ _ _ _ (Shared.mk _ _ _ (_ + _) _)); k_dflt (refine' gen_toks ?zp ?_; (case zp => ((try dsimp only); exact Nat.succ_pos _)); intro _ _))) | with_reducible ((show wpAny _ _ (isTrue (Expr.Compare _ _ _ _) _ _) _ _ _); (k_here; k_dflt (refine' isTrue_ll ?zF ?zv ?_ ?zk ?zl; (case zF => k_asm); (case zv => rfl); (case zk => rfl); (case zl => rfl); k_whole; intro _; (try dsimp only)))) | with_reducible ((show wpAny _ _ (call (Value.builtin "str.replace") _) _ _ _); k_dflt (first | (refine' call_replace_crlf ?zl ?zu ?zv ?zn ?_; (case zl => (omega)); (case zu => k_ne); (case zv => k_ne); (case zn => k_ne); intro _ _ _ _ _; (try dsimp only)) | (refine' call_replace_cr ?zl ?zu ?zv ?zn ?_; (case zl => (omega)); (case zu => k_ne); (case zv => k_ne); (case zn => k_ne); intro _ _ _ _ _; (try dsimp only)))) | with_reducible ((show wpAny _ _ (call (Value.builtin "str.rfind") _) _ _ _); (refine call_rfind4 ?_; (try dsimp only))) | with_reducible ((show wpAny _ _ (call (Value.builtin "str.count") _) _ _ _); (refine call_count4 ?_; (try dsimp only))) | with_reducible ((show wpAny _ _ (truthy (Value.ref _)) _ _ _); (k_here; (refine' truthy_meth ?zN ?zm ?_; (case zN => k_asm); (case zm => k_mem); k_whole; (try dsimp only)))) | (k_unfold; (try dsimp only)) | walk1 | (dsimp only; walk1) | (dsimp only [List.nil_append, List.cons_append]; walk1) | (k_end; dsimp only; k_unfold; (try dsimp only)) | (leave1; (try dsimp only)) | ((with_reducible show wpAny _ _ (call (Value.builtin "str.count") _) _ _ _); (refine call_count4 ?_; (try dsimp only))) | ((with_reducible show wpAny _ _ (call (Value.builtin "str.replace") _) _ _ _); k_dflt (first | (refine' call_replace_crlf ?zl ?zu ?zv ?zn ?_; (case zl => (omega)); (case zu => k_ne); (case zv => k_ne); (case zn => k_ne); intro _ _ _ _ _; (try dsimp only)) | (refine' call_replace_cr ?zl ?zu ?zv ?zn ?_; (case zl => (omega)); (case zu => k_ne); (case zv => k_ne); (case zn => k_ne); intro _ _ _ _ _; (try dsimp only)))) | ((with_reducible show wpAny _ _ (call (Value.builtin "str.rfind") _) _ _ _); (refine call_rfind4 ?_; (try dsimp only))) | ((with_reducible show wpAny _ _ (getMethod (Value.ref _) _ _) _ _ _); (k_here; (with_reducible show wpAny _ _ (getMethod (Value.ref _) (PySem.Str.ofString "reportCharacterErrors") _) _ _ _); k_dflt (refine' kmu_own ?zk1 ?zk2 ?zk3 ?zk4 ?zk5 ?_; (case zk1 => k_asm); (case zk2 => k_asm); (case zk3 => k_inst); (case zk4 => k_is); (case zk5 => k_is); k_whole))) | ((with_reducible show wpAny _ _ (isTrue (Expr.Compare _ _ _ _) _ _) _ _ _); (k_here; k_dflt (refine' isTrue_ll ?zF ?zv ?_ ?zk ?zl; (case zF => k_asm); (case zv => rfl); (case zk => rfl); (case zl => rfl); k_whole; intro _; (try dsimp only)))) | ((with_reducible show wpAny _ _ (truthy (Value.ref _)) _ _ _); (k_here; (refine' truthy_meth ?zN ?zm ?_; (case zN => k_asm); (case zm => k_mem); k_whole; (try dsimp only)))))))
    unfold StopAt
    (with_reducible rename Fr _ _ _ _ => F5)
    (with_reducible rename News _ _ _ _ => N5)
    (try dsimp only [List.append_nil])
    k_dflt (refine' Does.useP [] (does__position _ _ _ _ _ _ _ _ ?h1 _ _ _ _ _ _ _ _ _ _ _ _ _ _ ?h2 ?h3) ?k1 ?k2 ?k3 ?k4 ?k5 ?kd ?kK ?kr ?ku ?_)
    case k4 => exact N5
    case k1 => k_asm
    case k2 => exact F5
    case k3 => k_asm
    case k5 => k_asm
    case kK => first | exact rfl | assumption
    case kr => (first | assumption | ((simp only [depth_under_make, depth_under_kw, depth_in1, depth_deeper, depth_caller]); (try dsimp only [ktrTop]); first | exact room0 (by assumption) (by decide) | exact room1 (by assumption) (by decide) | omega | decide) | ((try dsimp only [ktrTop]); omega))
    case ku => (first | assumption | ((simp only [units_in1, units_deeper, Around.mark_units, units_caller]); (try dsimp only [ktrTop]); first | exact room0 (by assumption) (by decide) | exact room1 (by assumption) (by decide)) | ((have zhcL := cLine_is); (simp only [units_in1, units_deeper, Around.mark_units, units_caller]); (try dsimp only [ktrTop]); omega) | ((have zhcL := cLine_is); (try dsimp only [ktrTop]); omega))
    (case h1 => omega); (case h2 => omega); (case h3 => omega)
    case kd => (first | (exact fun _ _ _ h9 => absurd h9 List.not_mem_nil) | (exact own_dis (by assumption) sx_sub) | ((simp only [List.nil_append, List.cons_append, List.append_nil, List.forall_mem_cons]); (repeat' (first | (refine And.intro ?_ ?_) | k_ne | (exact fun _ h9 => absurd h9 List.not_mem_nil) | assumption)); done))
    k_whole
    intro v9 E9 h9 tk9 F9 N9 p9 T9
    (try dsimp only at T9)
    (try simp only [List.nil_append, List.cons_append] at N9)
    clear N5 F5
    refine' ex_3_3 (p9) ?_; intro t9 t8 t7 e9 l9 e8; (try clear p9)
    subst e9
    subst e8
    replace l9 := ltN l9
    (try simp only [List.nil_append, List.cons_append, SX, ent] at N9)
    w_strict ((repeat' (first | with_reducible ((show wpAny _ _ (execs (_ :: _) _) _ _ _); (k_here; (with_reducible rename RcTail _ _ _ _ _ => zT9); k_dflt (refine stop_rc zT9 ?_))) | with_reducible ((show wpAny _ _ (call (Value.ref _) _) _ _ _); (k_here; (with_reducible show wpAny _ _ (call (Value.ref 35) _) _ _ _); refine stopAt_ ?_)) | with_reducible ((show wpAny _ _ (call (Value.ref _) _) _ _ _); (k_here; (with_reducible show wpAny _ _ (call (Value.ref 84) _) _ _ _); refine stopAt_ ?_)) | with_reducible ((show wpAny _ _ (getMethod (Value.ref _) _ _) _ _ _); (k_here; (with_reducible show wpAny _ _ (getMethod (Value.ref _) (PySem.Str.ofString "reportCharacterErrors") _) _ _ _); k_dflt (refine' kmu_own ?zk1 ?zk2 ?zk3 ?zk4 ?zk5 ?_; (case zk1 => k_asm); (case zk2 => k_asm); (case zk3 => k_inst); (case zk4 => k_is); (case zk5 => k_is); k_whole))) | with_reducible ((show wpAny _ _ (execs (_ :: _) _) _ _ _); (k_here; (with_reducible show wpAny _ _ _ _ _ (Shared.mk _ _ _ (_ + _) _)); k_dflt (refine' gen_toks ?zp ?_; (case zp => ((try dsimp only); exact Nat.succ_pos _)); intro _ _))) | with_reducible ((show wpAny _ _ (isTrue (Expr.Compare _ _ _ _) _ _) _ _ _); (k_here; k_dflt (refine' isTrue_ll ?zF ?zv ?_ ?zk ?zl; (case zF => k_asm); (case zv => rfl); (case zk => rfl); (case zl => rfl); k_whole; intro _; (try dsimp only)))) | with_reducible ((show wpAny _ _ (call (Value.builtin "str.replace") _) _ _ _); k_dflt (first | (refine' call_replace_crlf ?zl ?zu ?zv ?zn ?_; (case zl => (omega)); (case zu => k_ne); (case zv => k_ne); (case zn => k_ne); intro _ _ _ _ _; (try dsimp only)) | (refine' call_replace_cr ?zl ?zu ?zv ?zn ?_; (case zl => (omega)); (case zu => k_ne); (case zv => k_ne); (case zn => k_ne); intro _ _ _ _ _; (try dsimp only)))) | with_reducible ((show wpAny _ _ (call (Value.builtin "str.rfind") _) _ _ _); (refine call_rfind4 ?_; (try dsimp only))) | with_reducible ((show wpAny _ _ (call (Value.builtin "str.count") _) _ _ _); (refine call_count4 ?_; (try dsimp only))) | with_reducible ((show wpAny _ _ (truthy (Value.ref _)) _ _ _); (k_here; (refine' truthy_meth ?zN ?zm ?_; (case zN => k_asm); (case zm => k_mem); k_whole; (try dsimp only)))) | (k_unfold; (try dsimp only)) | walk1 | (dsimp only; walk1) | (dsimp only [List.nil_append, List.cons_append]; walk1) | (k_end; dsimp only; k_unfold; (try dsimp only)) | (leave1; (try dsimp only)) | ((with_reducible show wpAny _ _ (call (Value.builtin "str.count") _) _ _ _); (refine call_count4 ?_; (try dsimp only))) | ((with_reducible show wpAny _ _ (call (Value.builtin "str.replace") _) _ _ _); k_dflt (first | (refine' call_replace_crlf ?zl ?zu ?zv ?zn ?_; (case zl => (omega)); (case zu => k_ne); (case zv => k_ne); (case zn => k_ne); intro _ _ _ _ _; (try dsimp only)) | (refine' call_replace_cr ?zl ?zu ?zv ?zn ?_; (case zl => (omega)); (case zu => k_ne); (case zv => k_ne); (case zn => k_ne); intro _ _ _ _ _; (try dsimp only)))) | ((with_reducible show wpAny _ _ (call (Value.builtin "str.rfind") _) _ _ _); (refine call_rfind4 ?_; (try dsimp only))) | ((with_reducible show wpAny _ _ (getMethod (Value.ref _) _ _) _ _ _); (k_here; (with_reducible show wpAny _ _ (getMethod (Value.ref _) (PySem.Str.ofString "reportCharacterErrors") _) _ _ _); k_dflt (refine' kmu_own ?zk1 ?zk2 ?zk3 ?zk4 ?zk5 ?_; (case zk1 => k_asm); (case zk2 => k_asm); (case zk3 => k_inst); (case zk4 => k_is); (case zk5 => k_is); k_whole))) | ((with_reducible show wpAny _ _ (isTrue (Expr.Compare _ _ _ _) _ _) _ _ _); (k_here; k_dflt (refine' isTrue_ll ?zF ?zv ?_ ?zk ?zl; (case zF => k_asm); (case zv => rfl); (case zk => rfl); (case zl => rfl); k_whole; intro _; (try dsimp only)))) | ((with_reducible show wpAny _ _ (truthy (Value.ref _)) _ _ _); (k_here; (refine' truthy_meth ?zN ?zm ?_; (case zN => k_asm); (case zm => k_mem); k_whole; (try dsimp only)))))))
    unfold StopAt
    (with_reducible rename Fr _ _ _ _ => F5)
    (with_reducible rename News _ _ _ _ => N5)
    (try dsimp only [List.append_nil])
    k_dflt (refine' Does.useP [_, _, _, _, _] (does_read _ _ _ _ ?h1 _ _ _ _ _ _ ?h2 ?h3 ?h4) ?k1 ?k2 ?k3 ?k4 ?k5 ?kd ?kK ?kr ?ku ?_)
    case k4 => exact N5
    case k1 => k_asm
    case k2 => exact F5
    case k3 => k_asm
    case k5 => k_asm
    case kK => first | exact rfl | assumption
    case kr => (first | assumption | ((simp only [depth_under_make, depth_under_kw, depth_in1, depth_deeper, depth_caller]); (try dsimp only [ktrTop]); first | exact room0 (by assumption) (by decide) | exact room1 (by assumption) (by decide) | omega | decide) | ((try dsimp only [ktrTop]); omega))
    case ku => (first | assumption | ((simp only [units_in1, units_deeper, Around.mark_units, units_caller]); (try dsimp only [ktrTop]); first | exact room0 (by assumption) (by decide) | exact room1 (by assumption) (by decide)) | ((have zhcL := cLine_is); (simp only [units_in1, units_deeper, Around.mark_units, units_caller]); (try dsimp only [ktrTop]); omega) | ((have zhcL := cLine_is); (try dsimp only [ktrTop]); omega))
    (case h1 => omega); (case h2 => omega); (case h3 => omega); (case h4 => omega)
    case kd => (first | (exact fun _ _ _ h9 => absurd h9 List.not_mem_nil) | (exact own_dis (by assumption) sx_sub) | ((simp only [List.nil_append, List.cons_append, List.append_nil, List.forall_mem_cons]); (repeat' (first | (refine And.intro ?_ ?_) | k_ne | (exact fun _ h9 => absurd h9 List.not_mem_nil) | assumption)); done))
    k_whole
    intro v9 E9 h9 tk9 F9 N9 p9 T9
    (try dsimp only at T9)
    (try simp only [List.nil_append, List.cons_append] at N9)
    clear N5 F5
    refine' ex_3_5 (p9) ?_; intro P9 t9 t8 hP hl9 hq9 e9 e8; (try clear p9)
    subst e9
    subst e8
    (try simp only [List.nil_append, List.cons_append, TL, ent] at N9)
    w_strict ((repeat' (first | with_reducible ((show wpAny _ _ (execs (_ :: _) _) _ _ _); (k_here; (with_reducible rename RcTail _ _ _ _ _ => zT9); k_dflt (refine stop_rc zT9 ?_))) | with_reducible ((show wpAny _ _ (call (Value.ref _) _) _ _ _); (k_here; (with_reducible show wpAny _ _ (call (Value.ref 35) _) _ _ _); refine stopAt_ ?_)) | with_reducible ((show wpAny _ _ (call (Value.ref _) _) _ _ _); (k_here; (with_reducible show wpAny _ _ (call (Value.ref 84) _) _ _ _); refine stopAt_ ?_)) | with_reducible ((show wpAny _ _ (getMethod (Value.ref _) _ _) _ _ _); (k_here; (with_reducible show wpAny _ _ (getMethod (Value.ref _) (PySem.Str.ofString "reportCharacterErrors") _) _ _ _); k_dflt (refine' kmu_own ?zk1 ?zk2 ?zk3 ?zk4 ?zk5 ?_; (case zk1 => k_asm); (case zk2 => k_asm); (case zk3 => k_inst); (case zk4 => k_is); (case zk5 => k_is); k_whole))) | with_reducible ((show wpAny _ _ (execs (_ :: _) _) _ _ _); (k_here; (with_reducible show wpAny _ _ _ _ _ (Shared.mk _ _ _ (_ + _) _)); k_dflt (refine' gen_toks ?zp ?_; (case zp => ((try dsimp only); exact Nat.succ_pos _)); intro _ _))) | with_reducible ((show wpAny _ _ (isTrue (Expr.Compare _ _ _ _) _ _) _ _ _); (k_here; k_dflt (refine' isTrue_ll ?zF ?zv ?_ ?zk ?zl; (case zF => k_asm); (case zv => rfl); (case zk => rfl); (case zl => rfl); k_whole; intro _; (try dsimp only)))) | with_reducible ((show wpAny _ _ (call (Value.builtin "str.replace") _) _ _ _); k_dflt (first | (refine' call_replace_crlf ?zl ?zu ?zv ?zn ?_; (case zl => (omega)); (case zu => k_ne); (case zv => k_ne); (case zn => k_ne); intro _ _ _ _ _; (try dsimp only)) | (refine' call_replace_cr ?zl ?zu ?zv ?zn ?_; (case zl => (omega)); (case zu => k_ne); (case zv => k_ne); (case zn => k_ne); intro _ _ _ _ _; (try dsimp only)))) | with_reducible ((show wpAny _ _ (call (Value.builtin "str.rfind") _) _ _ _); (refine call_rfind4 ?_; (try dsimp only))) | with_reducible ((show wpAny _ _ (call (Value.builtin "str.count") _) _ _ _); (refine call_count4 ?_; (try dsimp only))) | with_reducible ((show wpAny _ _ (truthy (Value.ref _)) _ _ _); (k_here; (refine' truthy_meth ?zN ?zm ?_; (case zN => k_asm); (case zm => k_mem); k_whole; (try dsimp only)))) | (k_unfold; (try dsimp only)) | walk1 | (dsimp only; walk1) | (dsimp only [List.nil_append, List.cons_append]; walk1) | (k_end; dsimp only; k_unfold; (try dsimp only)) | (leave1; (try dsimp only)) | ((with_reducible show wpAny _ _ (call (Value.builtin "str.count") _) _ _ _); (refine call_count4 ?_; (try dsimp only))) | ((with_reducible show wpAny _ _ (call (Value.builtin "str.replace") _) _ _ _); k_dflt (first | (refine' call_replace_crlf ?zl ?zu ?zv ?zn ?_; (case zl => (omega)); (case zu => k_ne); (case zv => k_ne); (case zn => k_ne); intro _ _ _ _ _; (try dsimp only)) | (refine' call_replace_cr ?zl ?zu ?zv ?zn ?_; (case zl => (omega)); (case zu => k_ne); (case zv => k_ne); (case zn => k_ne); intro _ _ _ _ _; (try dsimp only)))) | ((with_reducible show wpAny _ _ (call (Value.builtin "str.rfind") _) _ _ _); (refine call_rfind4 ?_; (try dsimp only))) | ((with_reducible show wpAny _ _ (getMethod (Value.ref _) _ _) _ _ _); (k_here; (with_reducible show wpAny _ _ (getMethod (Value.ref _) (PySem.Str.ofString "reportCharacterErrors") _) _ _ _); k_dflt (refine' kmu_own ?zk1 ?zk2 ?zk3 ?zk4 ?zk5 ?_; (case zk1 => k_asm); (case zk2 => k_asm); (case zk3 => k_inst); (case zk4 => k_is); (case zk5 => k_is); k_whole))) | ((with_reducible show wpAny _ _ (isTrue (Expr.Compare _ _ _ _) _ _) _ _ _); (k_here; k_dflt (refine' isTrue_ll ?zF ?zv ?_ ?zk ?zl; (case zF => k_asm); (case zv => rfl); (case zk => rfl); (case zl => rfl); k_whole; intro _; (try dsimp only)))) | ((with_reducible show wpAny _ _ (truthy (Value.ref _)) _ _ _); (k_here; (refine' truthy_meth ?zN ?zm ?_; (case zN => k_asm); (case zm => k_mem); k_whole; (try dsimp only)))))))
    · skip
      unfold StopAt
      (with_reducible rename RcTail _ _ _ _ _ => hT)
      k_dflt (refine' hT _ _ _ _ _ _ _ ?h1 _ _ _ _ _ _ _ _ _ _ _ ?h2 ?h3 ?h4 ?h5 _ _ _ _ _ _ _ _ _ _ _ _ _ _ _ ?kB ?kF ?kS ?kX _ _ ?kO ?kN ?kT ?kr ?ku ?_)
      case kB => k_asm
      case kF => k_asm
      case kS => rfl
      case kX => k_asm
      case kN => k_asm
      case kO =>
        simp only [OwnOff, List.forall_mem_cons]
        (repeat' (first | (refine And.intro ?_ ?_) | k_ne | (exact fun _ h9 => absurd h9 List.not_mem_nil)))
      case kT => k_asm
      case h1 => omega
      case h2 => first | omega | (rw [Str.length_append]; show 1 + _ ≤ _; omega)
      case h3 => first | assumption | omega | (rw [Str.length_append]; show _ ≤ 1 + _; omega)
      case h4 => first | exact nosur_of hP (by assumption) | exact nosur_cr hP (by assumption)
      case h5 => omega
      case kr => (first | assumption | ((simp only [depth_under_make, depth_under_kw, depth_in1, depth_deeper, depth_caller]); (try dsimp only [ktrTop]); first | exact room0 (by assumption) (by decide) | exact room1 (by assumption) (by decide) | omega | decide) | ((try dsimp only [ktrTop]); omega))
      case ku => (first | assumption | ((simp only [units_in1, units_deeper, Around.mark_units, units_caller]); (try dsimp only [ktrTop]); first | exact room0 (by assumption) (by decide) | exact room1 (by assumption) (by decide)) | ((have zhcL := cLine_is); (simp only [units_in1, units_deeper, Around.mark_units, units_caller]); (try dsimp only [ktrTop]); omega) | ((have zhcL := cLine_is); (try dsimp only [ktrTop]); omega))
      k_whole
      intro h8 tk8 m8 R8 b8 er8 n8 ta8 tb8 F8 N8 hR8 hb8 he8 hB8
      w_strict ((repeat' (first | with_reducible ((show wpAny _ _ (execs (_ :: _) _) _ _ _); (k_here; (with_reducible rename RcTail _ _ _ _ _ => zT9); k_dflt (refine stop_rc zT9 ?_))) | with_reducible ((show wpAny _ _ (call (Value.ref _) _) _ _ _); (k_here; (with_reducible show wpAny _ _ (call (Value.ref 35) _) _ _ _); refine stopAt_ ?_)) | with_reducible ((show wpAny _ _ (call (Value.ref _) _) _ _ _); (k_here; (with_reducible show wpAny _ _ (call (Value.ref 84) _) _ _ _); refine stopAt_ ?_)) | with_reducible ((show wpAny _ _ (getMethod (Value.ref _) _ _) _ _ _); (k_here; (with_reducible show wpAny _ _ (getMethod (Value.ref _) (PySem.Str.ofString "reportCharacterErrors") _) _ _ _); k_dflt (refine' kmu_own ?zk1 ?zk2 ?zk3 ?zk4 ?zk5 ?_; (case zk1 => k_asm); (case zk2 => k_asm); (case zk3 => k_inst); (case zk4 => k_is); (case zk5 => k_is); k_whole))) | with_reducible ((show wpAny _ _ (execs (_ :: _) _) _ _ _); (k_here; (with_reducible show wpAny _ _ _ _ _ (Shared.mk _ _ _ (_ + _) _)); k_dflt (refine' gen_toks ?zp ?_; (case zp => ((try dsimp only); exact Nat.succ_pos _)); intro _ _))) | with_reducible ((show wpAny _ _ (isTrue (Expr.Compare _ _ _ _) _ _) _ _ _); (k_here; k_dflt (refine' isTrue_ll ?zF ?zv ?_ ?zk ?zl; (case zF => k_asm); (case zv => rfl); (case zk => rfl); (case zl => rfl); k_whole; intro _; (try dsimp only)))) | with_reducible ((show wpAny _ _ (call (Value.builtin "str.replace") _) _ _ _); k_dflt (first | (refine' call_replace_crlf ?zl ?zu ?zv ?zn ?_; (case zl => (omega)); (case zu => k_ne); (case zv => k_ne); (case zn => k_ne); intro _ _ _ _ _; (try dsimp only)) | (refine' call_replace_cr ?zl ?zu ?zv ?zn ?_; (case zl => (omega)); (case zu => k_ne); (case zv => k_ne); (case zn => k_ne); intro _ _ _ _ _; (try dsimp only)))) | with_reducible ((show wpAny _ _ (call (Value.builtin "str.rfind") _) _ _ _); (refine call_rfind4 ?_; (try dsimp only))) | with_reducible ((show wpAny _ _ (call (Value.builtin "str.count") _) _ _ _); (refine call_count4 ?_; (try dsimp only))) | with_reducible ((show wpAny _ _ (truthy (Value.ref _)) _ _ _); (k_here; (refine' truthy_meth ?zN ?zm ?_; (case zN => k_asm); (case zm => k_mem); k_whole; (try dsimp only)))) | (k_unfold; (try dsimp only)) | walk1 | (dsimp only; walk1) | (dsimp only [List.nil_append, List.cons_append]; walk1) | (k_end; dsimp only; k_unfold; (try dsimp only)) | (leave1; (try dsimp only)) | ((with_reducible show wpAny _ _ (call (Value.builtin "str.count") _) _ _ _); (refine call_count4 ?_; (try dsimp only))) | ((with_reducible show wpAny _ _ (call (Value.builtin "str.replace") _) _ _ _); k_dflt (first | (refine' call_replace_crlf ?zl ?zu ?zv ?zn ?_; (case zl => (omega)); (case zu => k_ne); (case zv => k_ne); (case zn => k_ne); intro _ _ _ _ _; (try dsimp only)) | (refine' call_replace_cr ?zl ?zu ?zv ?zn ?_; (case zl => (omega)); (case zu => k_ne); (case zv => k_ne); (case zn => k_ne); intro _ _ _ _ _; (try dsimp only)))) | ((with_reducible show wpAny _ _ (call (Value.builtin "str.rfind") _) _ _ _); (refine call_rfind4 ?_; (try dsimp only))) | ((with_reducible show wpAny _ _ (getMethod (Value.ref _) _ _) _ _ _); (k_here; (with_reducible show wpAny _ _ (getMethod (Value.ref _) (PySem.Str.ofString "reportCharacterErrors") _) _ _ _); k_dflt (refine' kmu_own ?zk1 ?zk2 ?zk3 ?zk4 ?zk5 ?_; (case zk1 => k_asm); (case zk2 => k_asm); (case zk3 => k_inst); (case zk4 => k_is); (case zk5 => k_is); k_whole))) | ((with_reducible show wpAny _ _ (isTrue (Expr.Compare _ _ _ _) _ _) _ _ _); (k_here; k_dflt (refine' isTrue_ll ?zF ?zv ?_ ?zk ?zl; (case zF => k_asm); (case zv => rfl); (case zk => rfl); (case zl => rfl); k_whole; intro _; (try dsimp only)))) | ((with_reducible show wpAny _ _ (truthy (Value.ref _)) _ _ _); (k_here; (refine' truthy_meth ?zN ?zm ?_; (case zN => k_asm); (case zm => k_mem); k_whole; (try dsimp only)))))))
      refine' hret _ _ _ _ _ ?F ?N (rc_fin hP rfl ?pos hp' hR8 hb8 he8 hB8)
      case F => k_asm
      case N => assumption
      case pos => first | assumption | omega
    · (with_reducible rename News _ _ _ (_ :: _) => kN9)
      refine' hret _ _ _ _ _ ?F (fun p hp => kN9 p (.tail _ hp)) (rc_finF hP ?pos hp')
      case F => k_asm
      case pos => assumption
  · skip
    w_strict ((repeat' (first | with_reducible ((show wpAny _ _ (execs (_ :: _) _) _ _ _); (k_here; (with_reducible rename RcTail _ _ _ _ _ => zT9); k_dflt (refine stop_rc zT9 ?_))) | with_reducible ((show wpAny _ _ (call (Value.ref _) _) _ _ _); (k_here; (with_reducible show wpAny _ _ (call (Value.ref 35) _) _ _ _); refine stopAt_ ?_)) | with_reducible ((show wpAny _ _ (call (Value.ref _) _) _ _ _); (k_here; (with_reducible show wpAny _ _ (call (Value.ref 84) _) _ _ _); refine stopAt_ ?_)) | with_reducible ((show wpAny _ _ (getMethod (Value.ref _) _ _) _ _ _); (k_here; (with_reducible show wpAny _ _ (getMethod (Value.ref _) (PySem.Str.ofString "reportCharacterErrors") _) _ _ _); k_dflt (refine' kmu_own ?zk1 ?zk2 ?zk3 ?zk4 ?zk5 ?_; (case zk1 => k_asm); (case zk2 => k_asm); (case zk3 => k_inst); (case zk4 => k_is); (case zk5 => k_is); k_whole))) | with_reducible ((show wpAny _ _ (execs (_ :: _) _) _ _ _); (k_here; (with_reducible show wpAny _ _ _ _ _ (Shared.mk _ _ _ (_ + _) _)); k_dflt (refine' gen_toks ?zp ?_; (case zp => ((try dsimp only); exact Nat.succ_pos _)); intro _ _))) | with_reducible ((show wpAny _ _ (isTrue (Expr.Compare _ _ _ _) _ _) _ _ _); (k_here; k_dflt (refine' isTrue_ll ?zF ?zv ?_ ?zk ?zl; (case zF => k_asm); (case zv => rfl); (case zk => rfl); (case zl => rfl); k_whole; intro _; (try dsimp only)))) | with_reducible ((show wpAny _ _ (call (Value.builtin "str.replace") _) _ _ _); k_dflt (first | (refine' call_replace_crlf ?zl ?zu ?zv ?zn ?_; (case zl => (omega)); (case zu => k_ne); (case zv => k_ne); (case zn => k_ne); intro _ _ _ _ _; (try dsimp only)) | (refine' call_replace_cr ?zl ?zu ?zv ?zn ?_; (case zl => (omega)); (case zu => k_ne); (case zv => k_ne); (case zn => k_ne); intro _ _ _ _ _; (try dsimp only)))) | with_reducible ((show wpAny _ _ (call (Value.builtin "str.rfind") _) _ _ _); (refine call_rfind4 ?_; (try dsimp only))) | with_reducible ((show wpAny _ _ (call (Value.builtin "str.count") _) _ _ _); (refine call_count4 ?_; (try dsimp only))) | with_reducible ((show wpAny _ _ (truthy (Value.ref _)) _ _ _); (k_here; (refine' truthy_meth ?zN ?zm ?_; (case zN => k_asm); (case zm => k_mem); k_whole; (try dsimp only)))) | (k_unfold; (try dsimp only)) | walk1 | (dsimp only; walk1) | (dsimp only [List.nil_append, List.cons_append]; walk1) | (k_end; dsimp only; k_unfold; (try dsimp only)) | (leave1; (try dsimp only)) | ((with_reducible show wpAny _ _ (call (Value.builtin "str.count") _) _ _ _); (refine call_count4 ?_; (try dsimp only))) | ((with_reducible show wpAny _ _ (call (Value.builtin "str.replace") _) _ _ _); k_dflt (first | (refine' call_replace_crlf ?zl ?zu ?zv ?zn ?_; (case zl => (omega)); (case zu => k_ne); (case zv => k_ne); (case zn => k_ne); intro _ _ _ _ _; (try dsimp only)) | (refine' call_replace_cr ?zl ?zu ?zv ?zn ?_; (case zl => (omega)); (case zu => k_ne); (case zv => k_ne); (case zn => k_ne); intro _ _ _ _ _; (try dsimp only)))) | ((with_reducible show wpAny _ _ (call (Value.builtin "str.rfind") _) _ _ _); (refine call_rfind4 ?_; (try dsimp only))) | ((with_reducible show wpAny _ _ (getMethod (Value.ref _) _ _) _ _ _); (k_here; (with_reducible show wpAny _ _ (getMethod (Value.ref _) (PySem.Str.ofString "reportCharacterErrors") _) _ _ _); k_dflt (refine' kmu_own ?zk1 ?zk2 ?zk3 ?zk4 ?zk5 ?_; (case zk1 => k_asm); (case zk2 => k_asm); (case zk3 => k_inst); (case zk4 => k_is); (case zk5 => k_is); k_whole))) | ((with_reducible show wpAny _ _ (isTrue (Expr.Compare _ _ _ _) _ _) _ _ _); (k_here; k_dflt (refine' isTrue_ll ?zF ?zv ?_ ?zk ?zl; (case zF => k_asm); (case zv => rfl); (case zk => rfl); (case zl => rfl); k_whole; intro _; (try dsimp only)))) | ((with_reducible show wpAny _ _ (truthy (Value.ref _)) _ _ _); (k_here; (refine' truthy_meth ?zN ?zm ?_; (case zN => k_asm); (case zm => k_mem); k_whole; (try dsimp only)))))))
    unfold StopAt
    (with_reducible rename Fr _ _ _ _ => F5)
    (with_reducible rename News _ _ _ _ => N5)
    (try dsimp only [List.append_nil])
    k_dflt (refine' Does.useP [] (does__position _ _ _ _ _ _ _ _ ?h1 _ _ _ _ _ _ _ _ _ _ _ _ _ _ ?h2 ?h3) ?k1 ?k2 ?k3 ?k4 ?k5 ?kd ?kK ?kr ?ku ?_)
    case k4 => exact N5
    case k1 => k_asm
    case k2 => exact F5
    case k3 => k_asm
    case k5 => k_asm
    case kK => first | exact rfl | assumption
    case kr => (first | assumption | ((simp only [depth_under_make, depth_under_kw, depth_in1, depth_deeper, depth_caller]); (try dsimp only [ktrTop]); first | exact room0 (by assumption) (by decide) | exact room1 (by assumption) (by decide) | omega | decide) | ((try dsimp only [ktrTop]); omega))
    case ku => (first | assumption | ((simp only [units_in1, units_deeper, Around.mark_units, units_caller]); (try dsimp only [ktrTop]); first | exact room0 (by assumption) (by decide) | exact room1 (by assumption) (by decide)) | ((have zhcL := cLine_is); (simp only [units_in1, units_deeper, Around.mark_units, units_caller]); (try dsimp only [ktrTop]); omega) | ((have zhcL := cLine_is); (try dsimp only [ktrTop]); omega))
    (case h1 => omega); (case h2 => omega); (case h3 => omega)
    case kd => (first | (exact fun _ _ _ h9 => absurd h9 List.not_mem_nil) | (exact own_dis (by assumption) sx_sub) | ((simp only [List.nil_append, List.cons_append, List.append_nil, List.forall_mem_cons]); (repeat' (first | (refine And.intro ?_ ?_) | k_ne | (exact fun _ h9 => absurd h9 List.not_mem_nil) | assumption)); done))
    k_whole
    intro v9 E9 h9 tk9 F9 N9 p9 T9
    (try dsimp only at T9)
    (try simp only [List.nil_append, List.cons_append] at N9)
    clear N5 F5
    refine' ex_3_3 (p9) ?_; intro t9 t8 t7 e9 l9 e8; (try clear p9)
    subst e9
    subst e8
    replace l9 := ltN l9
    (try simp only [List.nil_append, List.cons_append, SX, ent] at N9)
    w_strict ((repeat' (first | with_reducible ((show wpAny _ _ (execs (_ :: _) _) _ _ _); (k_here; (with_reducible rename RcTail _ _ _ _ _ => zT9); k_dflt (refine stop_rc zT9 ?_))) | with_reducible ((show wpAny _ _ (call (Value.ref _) _) _ _ _); (k_here; (with_reducible show wpAny _ _ (call (Value.ref 35) _) _ _ _); refine stopAt_ ?_)) | with_reducible ((show wpAny _ _ (call (Value.ref _) _) _ _ _); (k_here; (with_reducible show wpAny _ _ (call (Value.ref 84) _) _ _ _); refine stopAt_ ?_)) | with_reducible ((show wpAny _ _ (getMethod (Value.ref _) _ _) _ _ _); (k_here; (with_reducible show wpAny _ _ (getMethod (Value.ref _) (PySem.Str.ofString "reportCharacterErrors") _) _ _ _); k_dflt (refine' kmu_own ?zk1 ?zk2 ?zk3 ?zk4 ?zk5 ?_; (case zk1 => k_asm); (case zk2 => k_asm); (case zk3 => k_inst); (case zk4 => k_is); (case zk5 => k_is); k_whole))) | with_reducible ((show wpAny _ _ (execs (_ :: _) _) _ _ _); (k_here; (with_reducible show wpAny _ _ _ _ _ (Shared.mk _ _ _ (_ + _) _)); k_dflt (refine' gen_toks ?zp ?_; (case zp => ((try dsimp only); exact Nat.succ_pos _)); intro _ _))) | with_reducible ((show wpAny _ _ (isTrue (Expr.Compare _ _ _ _) _ _) _ _ _); (k_here; k_dflt (refine' isTrue_ll ?zF ?zv ?_ ?zk ?zl; (case zF => k_asm); (case zv => rfl); (case zk => rfl); (case zl => rfl); k_whole; intro _; (try dsimp only)))) | with_reducible ((show wpAny _ _ (call (Value.builtin "str.replace") _) _ _ _); k_dflt (first | (refine' call_replace_crlf ?zl ?zu ?zv ?zn ?_; (case zl => (omega)); (case zu => k_ne); (case zv => k_ne); (case zn => k_ne); intro _ _ _ _ _; (try dsimp only)) | (refine' call_replace_cr ?zl ?zu ?zv ?zn ?_; (case zl => (omega)); (case zu => k_ne); (case zv => k_ne); (case zn => k_ne); intro _ _ _ _ _; (try dsimp only)))) | with_reducible ((show wpAny _ _ (call (Value.builtin "str.rfind") _) _ _ _); (refine call_rfind4 ?_; (try dsimp only))) | with_reducible ((show wpAny _ _ (call (Value.builtin "str.count") _) _ _ _); (refine call_count4 ?_; (try dsimp only))) | with_reducible ((show wpAny _ _ (truthy (Value.ref _)) _ _ _); (k_here; (refine' truthy_meth ?zN ?zm ?_; (case zN => k_asm); (case zm => k_mem); k_whole; (try dsimp only)))) | (k_unfold; (try dsimp only)) | walk1 | (dsimp only; walk1) | (dsimp only [List.nil_append, List.cons_append]; walk1) | (k_end; dsimp only; k_unfold; (try dsimp only)) | (leave1; (try dsimp only)) | ((with_reducible show wpAny _ _ (call (Value.builtin "str.count") _) _ _ _); (refine call_count4 ?_; (try dsimp only))) | ((with_reducible show wpAny _ _ (call (Value.builtin "str.replace") _) _ _ _); k_dflt (first | (refine' call_replace_crlf ?zl ?zu ?zv ?zn ?_; (case zl => (omega)); (case zu => k_ne); (case zv => k_ne); (case zn => k_ne); intro _ _ _ _ _; (try dsimp only)) | (refine' call_replace_cr ?zl ?zu ?zv ?zn ?_; (case zl => (omega)); (case zu => k_ne); (case zv => k_ne); (case zn => k_ne); intro _ _ _ _ _; (try dsimp only)))) | ((with_reducible show wpAny _ _ (call (Value.builtin "str.rfind") _) _ _ _); (refine call_rfind4 ?_; (try dsimp only))) | ((with_reducible show wpAny _ _ (getMethod (Value.ref _) _ _) _ _ _); (k_here; (with_reducible show wpAny _ _ (getMethod (Value.ref _) (PySem.Str.ofString "reportCharacterErrors") _) _ _ _); k_dflt (refine' kmu_own ?zk1 ?zk2 ?zk3 ?zk4 ?zk5 ?_; (case zk1 => k_asm); (case zk2 => k_asm); (case zk3 => k_inst); (case zk4 => k_is); (case zk5 => k_is); k_whole))) | ((with_reducible show wpAny _ _ (isTrue (Expr.Compare _ _ _ _) _ _) _ _ _); (k_here; k_dflt (refine' isTrue_ll ?zF ?zv ?_ ?zk ?zl; (case zF => k_asm); (case zv => rfl); (case zk => rfl); (case zl => rfl); k_whole; intro _; (try dsimp only)))) | ((with_reducible show wpAny _ _ (truthy (Value.ref _)) _ _ _); (k_here; (refine' truthy_meth ?zN ?zm ?_; (case zN => k_asm); (case zm => k_mem); k_whole; (try dsimp only)))))))
    unfold StopAt
    (with_reducible rename Fr _ _ _ _ => F5)
    (with_reducible rename News _ _ _ _ => N5)
    (try dsimp only [List.append_nil])
    k_dflt (refine' Does.useP [_, _, _, _, _] (does_read _ _ _ _ ?h1 _ _ _ _ _ _ ?h2 ?h3 ?h4) ?k1 ?k2 ?k3 ?k4 ?k5 ?kd ?kK ?kr ?ku ?_)
    case k4 => exact N5
    case k1 => k_asm
    case k2 => exact F5
    case k3 => k_asm
    case k5 => k_asm
    case kK => first | exact rfl | assumption
    case kr => (first | assumption | ((simp only [depth_under_make, depth_under_kw, depth_in1, depth_deeper, depth_caller]); (try dsimp only [ktrTop]); first | exact room0 (by assumption) (by decide) | exact room1 (by assumption) (by decide) | omega | decide) | ((try dsimp only [ktrTop]); omega))
    case ku => (first | assumption | ((simp only [units_in1, units_deeper, Around.mark_units, units_caller]); (try dsimp only [ktrTop]); first | exact room0 (by assumption) (by decide) | exact room1 (by assumption) (by decide)) | ((have zhcL := cLine_is); (simp only [units_in1, units_deeper, Around.mark_units, units_caller]); (try dsimp only [ktrTop]); omega) | ((have zhcL := cLine_is); (try dsimp only [ktrTop]); omega))
    (case h1 => omega); (case h2 => omega); (case h3 => omega); (case h4 => omega)
    case kd => (first | (exact fun _ _ _ h9 => absurd h9 List.not_mem_nil) | (exact own_dis (by assumption) sx_sub) | ((simp only [List.nil_append, List.cons_append, List.append_nil, List.forall_mem_cons]); (repeat' (first | (refine And.intro ?_ ?_) | k_ne | (exact fun _ h9 => absurd h9 List.not_mem_nil) | assumption)); done))
    k_whole
    intro v9 E9 h9 tk9 F9 N9 p9 T9
    (try dsimp only at T9)
    (try simp only [List.nil_append, List.cons_append] at N9)
    clear N5 F5
    refine' ex_3_5 (p9) ?_; intro P9 t9 t8 hP hl9 hq9 e9 e8; (try clear p9)
    subst e9
    subst e8
    (try simp only [List.nil_append, List.cons_append, TL, ent] at N9)
    w_strict ((repeat' (first | with_reducible ((show wpAny _ _ (execs (_ :: _) _) _ _ _); (k_here; (with_reducible rename RcTail _ _ _ _ _ => zT9); k_dflt (refine stop_rc zT9 ?_))) | with_reducible ((show wpAny _ _ (call (Value.ref _) _) _ _ _); (k_here; (with_reducible show wpAny _ _ (call (Value.ref 35) _) _ _ _); refine stopAt_ ?_)) | with_reducible ((show wpAny _ _ (call (Value.ref _) _) _ _ _); (k_here; (with_reducible show wpAny _ _ (call (Value.ref 84) _) _ _ _); refine stopAt_ ?_)) | with_reducible ((show wpAny _ _ (getMethod (Value.ref _) _ _) _ _ _); (k_here; (with_reducible show wpAny _ _ (getMethod (Value.ref _) (PySem.Str.ofString "reportCharacterErrors") _) _ _ _); k_dflt (refine' kmu_own ?zk1 ?zk2 ?zk3 ?zk4 ?zk5 ?_; (case zk1 => k_asm); (case zk2 => k_asm); (case zk3 => k_inst); (case zk4 => k_is); (case zk5 => k_is); k_whole))) | with_reducible ((show wpAny _ _ (execs (_ :: _) _) _ _ _); (k_here; (with_reducible show wpAny _ _ _ _ _ (Shared.mk _ _ _ (_ + _) _)); k_dflt (refine' gen_toks ?zp ?_; (case zp => ((try dsimp only); exact Nat.succ_pos _)); intro _ _))) | with_reducible ((show wpAny _ _ (isTrue (Expr.Compare _ _ _ _) _ _) _ _ _); (k_here; k_dflt (refine' isTrue_ll ?zF ?zv ?_ ?zk ?zl; (case zF => k_asm); (case zv => rfl); (case zk => rfl); (case zl => rfl); k_whole; intro _; (try dsimp only)))) | with_reducible ((show wpAny _ _ (call (Value.builtin "str.replace") _) _ _ _); k_dflt (first | (refine' call_replace_crlf ?zl ?zu ?zv ?zn ?_; (case zl => (omega)); (case zu => k_ne); (case zv => k_ne); (case zn => k_ne); intro _ _ _ _ _; (try dsimp only)) | (refine' call_replace_cr ?zl ?zu ?zv ?zn ?_; (case zl => (omega)); (case zu => k_ne); (case zv => k_ne); (case zn => k_ne); intro _ _ _ _ _; (try dsimp only)))) | with_reducible ((show wpAny _ _ (call (Value.builtin "str.rfind") _) _ _ _); (refine call_rfind4 ?_; (try dsimp only))) | with_reducible ((show wpAny _ _ (call (Value.builtin "str.count") _) _ _ _); (refine call_count4 ?_; (try dsimp only))) | with_reducible ((show wpAny _ _ (truthy (Value.ref _)) _ _ _); (k_here; (refine' truthy_meth ?zN ?zm ?_; (case zN => k_asm); (case zm => k_mem); k_whole; (try dsimp only)))) | (k_unfold; (try dsimp only)) | walk1 | (dsimp only; walk1) | (dsimp only [List.nil_append, List.cons_append]; walk1) | (k_end; dsimp only; k_unfold; (try dsimp only)) | (leave1; (try dsimp only)) | ((with_reducible show wpAny _ _ (call (Value.builtin "str.count") _) _ _ _); (refine call_count4 ?_; (try dsimp only))) | ((with_reducible show wpAny _ _ (call (Value.builtin "str.replace") _) _ _ _); k_dflt (first | (refine' call_replace_crlf ?zl ?zu ?zv ?zn ?_; (case zl => (omega)); (case zu => k_ne); (case zv => k_ne); (case zn => k_ne); intro _ _ _ _ _; (try dsimp only)) | (refine' call_replace_cr ?zl ?zu ?zv ?zn ?_; (case zl => (omega)); (case zu => k_ne); (case zv => k_ne); (case zn => k_ne); intro _ _ _ _ _; (try dsimp only)))) | ((with_reducible show wpAny _ _ (call (Value.builtin "str.rfind") _) _ _ _); (refine call_rfind4 ?_; (try dsimp only))) | ((with_reducible show wpAny _ _ (getMethod (Value.ref _) _ _) _ _ _); (k_here; (with_reducible show wpAny _ _ (getMethod (Value.ref _) (PySem.Str.ofString "reportCharacterErrors") _) _ _ _); k_dflt (refine' kmu_own ?zk1 ?zk2 ?zk3 ?zk4 ?zk5 ?_; (case zk1 => k_asm); (case zk2 => k_asm); (case zk3 => k_inst); (case zk4 => k_is); (case zk5 => k_is); k_whole))) | ((with_reducible show wpAny _ _ (isTrue (Expr.Compare _ _ _ _) _ _) _ _ _); (k_here; k_dflt (refine' isTrue_ll ?zF ?zv ?_ ?zk ?zl; (case zF => k_asm); (case zv => rfl); (case zk => rfl); (case zl => rfl); k_whole; intro _; (try dsimp only)))) | ((with_reducible show wpAny _ _ (truthy (Value.ref _)) _ _ _); (k_here; (refine' truthy_meth ?zN ?zm ?_; (case zN => k_asm); (case zm => k_mem); k_whole; (try dsimp only)))))))
    unfold StopAt
    (with_reducible rename RcTail _ _ _ _ _ => hT)
    k_dflt (refine' hT _ _ _ _ _ _ _ ?h1 _ _ _ _ _ _ _ _ _ _ _ ?h2 ?h3 ?h4 ?h5 _ _ _ _ _ _ _ _ _ _ _ _ _ _ _ ?kB ?kF ?kS ?kX _ _ ?kO ?kN ?kT ?kr ?ku ?_)
    case kB => k_asm
    case kF => k_asm
    case kS => rfl
    case kX => k_asm
    case kN => k_asm
    case kO =>
      simp only [OwnOff, List.forall_mem_cons]
      (repeat' (first | (refine And.intro ?_ ?_) | k_ne | (exact fun _ h9 => absurd h9 List.not_mem_nil)))
    case kT => k_asm
    case h1 => omega
    case h2 => first | omega | (rw [Str.length_append]; show 1 + _ ≤ _; omega)
    case h3 => first | assumption | omega | (rw [Str.length_append]; show _ ≤ 1 + _; omega)
    case h4 => first | exact nosur_of hP (by assumption) | exact nosur_cr hP (by assumption)
    case h5 => omega
    case kr => (first | assumption | ((simp only [depth_under_make, depth_under_kw, depth_in1, depth_deeper, depth_caller]); (try dsimp only [ktrTop]); first | exact room0 (by assumption) (by decide) | exact room1 (by assumption) (by decide) | omega | decide) | ((try dsimp only [ktrTop]); omega))
    case ku => (first | assumption | ((simp only [units_in1, units_deeper, Around.mark_units, units_caller]); (try dsimp only [ktrTop]); first | exact room0 (by assumption) (by decide) | exact room1 (by assumption) (by decide)) | ((have zhcL := cLine_is); (simp only [units_in1, units_deeper, Around.mark_units, units_caller]); (try dsimp only [ktrTop]); omega) | ((have zhcL := cLine_is); (try dsimp only [ktrTop]); omega))
    k_whole
    intro h8 tk8 m8 R8 b8 er8 n8 ta8 tb8 F8 N8 hR8 hb8 he8 hB8
    w_strict ((repeat' (first | with_reducible ((show wpAny _ _ (execs (_ :: _) _) _ _ _); (k_here; (with_reducible rename RcTail _ _ _ _ _ => zT9); k_dflt (refine stop_rc zT9 ?_))) | with_reducible ((show wpAny _ _ (call (Value.ref _) _) _ _ _); (k_here; (with_reducible show wpAny _ _ (call (Value.ref 35) _) _ _ _); refine stopAt_ ?_)) | with_reducible ((show wpAny _ _ (call (Value.ref _) _) _ _ _); (k_here; (with_reducible show wpAny _ _ (call (Value.ref 84) _) _ _ _); refine stopAt_ ?_)) | with_reducible ((show wpAny _ _ (getMethod (Value.ref _) _ _) _ _ _); (k_here; (with_reducible show wpAny _ _ (getMethod (Value.ref _) (PySem.Str.ofString "reportCharacterErrors") _) _ _ _); k_dflt (refine' kmu_own ?zk1 ?zk2 ?zk3 ?zk4 ?zk5 ?_; (case zk1 => k_asm); (case zk2 => k_asm); (case zk3 => k_inst); (case zk4 => k_is); (case zk5 => k_is); k_whole))) | with_reducible ((show wpAny _ _ (execs (_ :: _) _) _ _ _); (k_here; (with_reducible show wpAny _ _ _ _ _ (Shared.mk _ _ _ (_ + _) _)); k_dflt (refine' gen_toks ?zp ?_; (case zp => ((try dsimp only); exact Nat.succ_pos _)); intro _ _))) | with_reducible ((show wpAny _ _ (isTrue (Expr.Compare _ _ _ _) _ _) _ _ _); (k_here; k_dflt (refine' isTrue_ll ?zF ?zv ?_ ?zk ?zl; (case zF => k_asm); (case zv => rfl); (case zk => rfl); (case zl => rfl); k_whole; intro _; (try dsimp only)))) | with_reducible ((show wpAny _ _ (call (Value.builtin "str.replace") _) _ _ _); k_dflt (first | (refine' call_replace_crlf ?zl ?zu ?zv ?zn ?_; (case zl => (omega)); (case zu => k_ne); (case zv => k_ne); (case zn => k_ne); intro _ _ _ _ _; (try dsimp only)) | (refine' call_replace_cr ?zl ?zu ?zv ?zn ?_; (case zl => (omega)); (case zu => k_ne); (case zv => k_ne); (case zn => k_ne); intro _ _ _ _ _; (try dsimp only)))) | with_reducible ((show wpAny _ _ (call (Value.builtin "str.rfind") _) _ _ _); (refine call_rfind4 ?_; (try dsimp only))) | with_reducible ((show wpAny _ _ (call (Value.builtin "str.count") _) _ _ _); (refine call_count4 ?_; (try dsimp only))) | with_reducible ((show wpAny _ _ (truthy (Value.ref _)) _ _ _); (k_here; (refine' truthy_meth ?zN ?zm ?_; (case zN => k_asm); (case zm => k_mem); k_whole; (try dsimp only)))) | (k_unfold; (try dsimp only)) | walk1 | (dsimp only; walk1) | (dsimp only [List.nil_append, List.cons_append]; walk1) | (k_end; dsimp only; k_unfold; (try dsimp only)) | (leave1; (try dsimp only)) | ((with_reducible show wpAny _ _ (call (Value.builtin "str.count") _) _ _ _); (refine call_count4 ?_; (try dsimp only))) | ((with_reducible show wpAny _ _ (call (Value.builtin "str.replace") _) _ _ _); k_dflt (first | (refine' call_replace_crlf ?zl ?zu ?zv ?zn ?_; (case zl => (omega)); (case zu => k_ne); (case zv => k_ne); (case zn => k_ne); intro _ _ _ _ _; (try dsimp only)) | (refine' call_replace_cr ?zl ?zu ?zv ?zn ?_; (case zl => (omega)); (case zu => k_ne); (case zv => k_ne); (case zn => k_ne); intro _ _ _ _ _; (try dsimp only)))) | ((with_reducible show wpAny _ _ (call (Value.builtin "str.rfind") _) _ _ _); (refine call_rfind4 ?_; (try dsimp only))) | ((with_reducible show wpAny _ _ (getMethod (Value.ref _) _ _) _ _ _); (k_here; (with_reducible show wpAny _ _ (getMethod (Value.ref _) (PySem.Str.ofString "reportCharacterErrors") _) _ _ _); k_dflt (refine' kmu_own ?zk1 ?zk2 ?zk3 ?zk4 ?zk5 ?_; (case zk1 => k_asm); (case zk2 => k_asm); (case zk3 => k_inst); (case zk4 => k_is); (case zk5 => k_is); k_whole))) | ((with_reducible show wpAny _ _ (isTrue (Expr.Compare _ _ _ _) _ _) _ _ _); (k_here; k_dflt (refine' isTrue_ll ?zF ?zv ?_ ?zk ?zl; (case zF => k_asm); (case zv => rfl); (case zk => rfl); (case zl => rfl); k_whole; intro _; (try dsimp only)))) | ((with_reducible show wpAny _ _ (truthy (Value.ref _)) _ _ _); (k_here; (refine' truthy_meth ?zN ?zm ?_; (case zN => k_asm); (case zm => k_mem); k_whole; (try dsimp only)))))))
    refine' hret _ _ _ _ _ ?F ?N (rc_fin hP ?hD ?pos hp' hR8 hb8 he8 hB8)
    case F => k_asm
    case N => assumption
    case pos => first | assumption | omega | (rw [Str.length_append]; show _ ≤ 1 + _; omega)
    case hD => rw [Str.cps_append, Array.toList_append]; rfl
theorem stop_mid {w : World} {body : List Stmt} {qual : Str} {scope : Scope} {cdv : Value} (_T : RcMid w body qual scope cdv) {M : Model} {A : Around} {env : Env} {Q : Flow → Shared → Prop} {E : Value → Shared → Prop} {s : Shared} (h : StopAt (wpAny M A (execs (body.drop 1) env) Q E s)) : wpAny M A (execs (body.drop 1) env) Q E s := h
set_option maxRecDepth 100000 in
set_option maxHeartbeats 2000000 in
theorem does_readChunkD (w : World) (kt : Nat → Nat) (x d q nl td tx er : Nat) (hord : d < x ∧ x < q ∧ q < td ∧ td < tx ∧ tx < er) (C S : Str) (n p : Nat) (pl pc : Int) (t1 t2 t3 t4 t5 t6 t7 : Nat) (off bufV : Value) (b : List Nat) (errs : Array Value) (ne : Nat)
    (hn : 1 ≤ n) (hn' : n ≤ 20000) (hp' : p ≤ S.length) (hS : S.length ≤ 10000) (hC : C.length ≤ 20000) (hE : errs.size ≤ 10000) (hsur : noSur S.cps.toList) (hb : BufIs bufV b) :
    Does w 3 (.ref 106) [.ref x] (SX w kt x d q nl tx er (.str C t2) (.int C.length t3) off (.int pl t4) (.int pc t5) bufV (.int (n : Int) t1) errs ne ++ TL w kt tx td (.str S t6) (.int (p : Int) t7))
      (rcPost w kt x d q nl td tx er C S p n pl pc b t6 (.int (n : Int) t1) errs) := by
  unfold Does
  k_fill
  refine' ex_0_15 (ord6 hord) ?_; intro g1 g2 g3 g4 g5 g6 g7 g8 g9 g10 g11 g12 g13 g14 g15
  have hM := rc_mid w (by k_is)
  intro dp un gd cn cs a ccd cl outer A₀ base h₀ L m s R loose mean mg mb rest B F KX N T hdis hk hroom hun hret
  refine' enterR (binds := [(Str.ofString "self", .ref x), (Str.ofString "chunkSize", .none)]) ?k1 ?k2 ?k3 ?k4 ?k5 ?kd ?kA ?kF ?kK ?k6 ?k7 ?k8 ?k9 ?kB ?_ ?c2 ?c3 ?c4 ?c5
  (case kA => exact rfl); (case kF => exact rfl); (case kK => first | exact rfl | assumption); (case k1 => k_asm); (case k2 => k_asm); (case k3 => k_asm); (case k4 => k_asm); (case k5 => k_asm); (case kd => assumption); (case k6 => k_dflt k_is); (case k7 => k_dflt k_is); (case k8 => k_room); (case k9 => first | exact BindsTo.of_eq rfl | exact binds_K (by k_in) rfl (by k_is) rfl rfl rfl); (case c5 => decide); (case kB => exact locs rfl); (case c2 => exact rfl); (case c3 => exact rfl); (case c4 => exact rfl)
  k_whole
  intro g' L' h' FG' F' N' B' X' T' lt'
  clear N F
  w_on
  w_top on
  w_strict ((repeat' (first | with_reducible ((show wpAny _ _ (execs (_ :: _) _) _ _ _); (k_here; (with_reducible rename RcMid _ _ _ _ _ => zT9); k_dflt (refine stop_mid zT9 ?_))) | with_reducible ((show wpAny _ _ (execs (_ :: _) _) _ _ _); (k_here; (with_reducible rename RcTail _ _ _ _ _ => zT9); k_dflt (refine stop_rc zT9 ?_))) | with_reducible ((show wpAny _ _ (call (Value.ref _) _) _ _ _); (k_here; (with_reducible show wpAny _ _ (call (Value.ref 35) _) _ _ _); refine stopAt_ ?_)) | with_reducible ((show wpAny _ _ (call (Value.ref _) _) _ _ _); (k_here; (with_reducible show wpAny _ _ (call (Value.ref 84) _) _ _ _); refine stopAt_ ?_)) | with_reducible ((show wpAny _ _ (getMethod (Value.ref _) _ _) _ _ _); (k_here; (with_reducible show wpAny _ _ (getMethod (Value.ref _) (PySem.Str.ofString "reportCharacterErrors") _) _ _ _); k_dflt (refine' kmu_own ?zk1 ?zk2 ?zk3 ?zk4 ?zk5 ?_; (case zk1 => k_asm); (case zk2 => k_asm); (case zk3 => k_inst); (case zk4 => k_is); (case zk5 => k_is); k_whole))) | with_reducible ((show wpAny _ _ (execs (_ :: _) _) _ _ _); (k_here; (with_reducible show wpAny _ _ _ _ _ (Shared.mk _ _ _ (_ + _) _)); k_dflt (refine' gen_toks ?zp ?_; (case zp => ((try dsimp only); exact Nat.succ_pos _)); intro _ _))) | with_reducible ((show wpAny _ _ (isTrue (Expr.Compare _ _ _ _) _ _) _ _ _); (k_here; k_dflt (refine' isTrue_ll ?zF ?zv ?_ ?zk ?zl; (case zF => k_asm); (case zv => rfl); (case zk => rfl); (case zl => rfl); k_whole; intro _; (try dsimp only)))) | with_reducible ((show wpAny _ _ (call (Value.builtin "str.replace") _) _ _ _); k_dflt (first | (refine' call_replace_crlf ?zl ?zu ?zv ?zn ?_; (case zl => (omega)); (case zu => k_ne); (case zv => k_ne); (case zn => k_ne); intro _ _ _ _ _; (try dsimp only)) | (refine' call_replace_cr ?zl ?zu ?zv ?zn ?_; (case zl => (omega)); (case zu => k_ne); (case zv => k_ne); (case zn => k_ne); intro _ _ _ _ _; (try dsimp only)))) | with_reducible ((show wpAny _ _ (call (Value.builtin "str.rfind") _) _ _ _); (refine call_rfind4 ?_; (try dsimp only))) | with_reducible ((show wpAny _ _ (call (Value.builtin "str.count") _) _ _ _); (refine call_count4 ?_; (try dsimp only))) | with_reducible ((show wpAny _ _ (truthy (Value.ref _)) _ _ _); (k_here; (refine' truthy_meth ?zN ?zm ?_; (case zN => k_asm); (case zm => k_mem); k_whole; (try dsimp only)))) | (k_unfold; (try dsimp only)) | walk1 | (dsimp only; walk1) | (dsimp only [List.nil_append, List.cons_append]; walk1) | (k_end; dsimp only; k_unfold; (try dsimp only)) | (leave1; (try dsimp only)) | ((with_reducible show wpAny _ _ (call (Value.builtin "str.count") _) _ _ _); (refine call_count4 ?_; (try dsimp only))) | ((with_reducible show wpAny _ _ (call (Value.builtin "str.replace") _) _ _ _); k_dflt (first | (refine' call_replace_crlf ?zl ?zu ?zv ?zn ?_; (case zl => (omega)); (case zu => k_ne); (case zv => k_ne); (case zn => k_ne); intro _ _ _ _ _; (try dsimp only)) | (refine' call_replace_cr ?zl ?zu ?zv ?zn ?_; (case zl => (omega)); (case zu => k_ne); (case zv => k_ne); (case zn => k_ne); intro _ _ _ _ _; (try dsimp only)))) | ((with_reducible show wpAny _ _ (call (Value.builtin "str.rfind") _) _ _ _); (refine call_rfind4 ?_; (try dsimp only))) | ((with_reducible show wpAny _ _ (getMethod (Value.ref _) _ _) _ _ _); (k_here; (with_reducible show wpAny _ _ (getMethod (Value.ref _) (PySem.Str.ofString "reportCharacterErrors") _) _ _ _); k_dflt (refine' kmu_own ?zk1 ?zk2 ?zk3 ?zk4 ?zk5 ?_; (case zk1 => k_asm); (case zk2 => k_asm); (case zk3 => k_inst); (case zk4 => k_is); (case zk5 => k_is); k_whole))) | ((with_reducible show wpAny _ _ (isTrue (Expr.Compare _ _ _ _) _ _) _ _ _); (k_here; k_dflt (refine' isTrue_ll ?zF ?zv ?_ ?zk ?zl; (case zF => k_asm); (case zv => rfl); (case zk => rfl); (case zl => rfl); k_whole; intro _; (try dsimp only)))) | ((with_reducible show wpAny _ _ (truthy (Value.ref _)) _ _ _); (k_here; (refine' truthy_meth ?zN ?zm ?_; (case zN => k_asm); (case zm => k_mem); k_whole; (try dsimp only)))))))
  unfold StopAt
  (with_reducible rename RcMid _ _ _ _ _ => hM)
  (with_reducible rename Fr _ _ _ _ => F5)
  k_dflt (refine' hM kt x d q nl td tx er hord C S _ p pl pc _ t2 t3 t4 t5 t6 t7 off bufV b _ errs ne ?h1 ?h2 hp' hS hC hE hsur hb _ ?m1 ?m2 _ _ _ _ _ _ _ _ _ _ _ _ _ _ _ ?kB ?kF ?kX ?kN ?kT ?kr ?ku ?_)
  case kB => k_asm
  case kF => exact F5
  case m1 => rfl
  case m2 => rfl
  case kX => k_asm
  case kN => k_asm
  case kT => k_asm
  case h1 => omega
  case h2 => omega
  case kr => (first | assumption | ((simp only [depth_under_make, depth_under_kw, depth_in1, depth_deeper, depth_caller]); (try dsimp only [ktrTop]); first | exact room0 (by assumption) (by decide) | exact room1 (by assumption) (by decide) | omega | decide) | ((try dsimp only [ktrTop]); omega))
  case ku => (first | assumption | ((simp only [units_in1, units_deeper, Around.mark_units, units_caller]); (try dsimp only [ktrTop]); first | exact room0 (by assumption) (by decide) | exact room1 (by assumption) (by decide)) | ((have zhcL := cLine_is); (simp only [units_in1, units_deeper, Around.mark_units, units_caller]); (try dsimp only [ktrTop]); omega) | ((have zhcL := cLine_is); (try dsimp only [ktrTop]); omega))
  k_whole
  intro h8 tk8 m8 v8 E8 F8 N8 p8
  w_strict ((repeat' (first | with_reducible ((show wpAny _ _ (execs (_ :: _) _) _ _ _); (k_here; (with_reducible rename RcMid _ _ _ _ _ => zT9); k_dflt (refine stop_mid zT9 ?_))) | with_reducible ((show wpAny _ _ (execs (_ :: _) _) _ _ _); (k_here; (with_reducible rename RcTail _ _ _ _ _ => zT9); k_dflt (refine stop_rc zT9 ?_))) | with_reducible ((show wpAny _ _ (call (Value.ref _) _) _ _ _); (k_here; (with_reducible show wpAny _ _ (call (Value.ref 35) _) _ _ _); refine stopAt_ ?_)) | with_reducible ((show wpAny _ _ (call (Value.ref _) _) _ _ _); (k_here; (with_reducible show wpAny _ _ (call (Value.ref 84) _) _ _ _); refine stopAt_ ?_)) | with_reducible ((show wpAny _ _ (getMethod (Value.ref _) _ _) _ _ _); (k_here; (with_reducible show wpAny _ _ (getMethod (Value.ref _) (PySem.Str.ofString "reportCharacterErrors") _) _ _ _); k_dflt (refine' kmu_own ?zk1 ?zk2 ?zk3 ?zk4 ?zk5 ?_; (case zk1 => k_asm); (case zk2 => k_asm); (case zk3 => k_inst); (case zk4 => k_is); (case zk5 => k_is); k_whole))) | with_reducible ((show wpAny _ _ (execs (_ :: _) _) _ _ _); (k_here; (with_reducible show wpAny _ _ _ _ _ (Shared.mk _ _ _ (_ + _) _)); k_dflt (refine' gen_toks ?zp ?_; (case zp => ((try dsimp only); exact Nat.succ_pos _)); intro _ _))) | with_reducible ((show wpAny _ _ (isTrue (Expr.Compare _ _ _ _) _ _) _ _ _); (k_here; k_dflt (refine' isTrue_ll ?zF ?zv ?_ ?zk ?zl; (case zF => k_asm); (case zv => rfl); (case zk => rfl); (case zl => rfl); k_whole; intro _; (try dsimp only)))) | with_reducible ((show wpAny _ _ (call (Value.builtin "str.replace") _) _ _ _); k_dflt (first | (refine' call_replace_crlf ?zl ?zu ?zv ?zn ?_; (case zl => (omega)); (case zu => k_ne); (case zv => k_ne); (case zn => k_ne); intro _ _ _ _ _; (try dsimp only)) | (refine' call_replace_cr ?zl ?zu ?zv ?zn ?_; (case zl => (omega)); (case zu => k_ne); (case zv => k_ne); (case zn => k_ne); intro _ _ _ _ _; (try dsimp only)))) | with_reducible ((show wpAny _ _ (call (Value.builtin "str.rfind") _) _ _ _); (refine call_rfind4 ?_; (try dsimp only))) | with_reducible ((show wpAny _ _ (call (Value.builtin "str.count") _) _ _ _); (refine call_count4 ?_; (try dsimp only))) | with_reducible ((show wpAny _ _ (truthy (Value.ref _)) _ _ _); (k_here; (refine' truthy_meth ?zN ?zm ?_; (case zN => k_asm); (case zm => k_mem); k_whole; (try dsimp only)))) | (k_unfold; (try dsimp only)) | walk1 | (dsimp only; walk1) | (dsimp only [List.nil_append, List.cons_append]; walk1) | (k_end; dsimp only; k_unfold; (try dsimp only)) | (leave1; (try dsimp only)) | ((with_reducible show wpAny _ _ (call (Value.builtin "str.count") _) _ _ _); (refine call_count4 ?_; (try dsimp only))) | ((with_reducible show wpAny _ _ (call (Value.builtin "str.replace") _) _ _ _); k_dflt (first | (refine' call_replace_crlf ?zl ?zu ?zv ?zn ?_; (case zl => (omega)); (case zu => k_ne); (case zv => k_ne); (case zn => k_ne); intro _ _ _ _ _; (try dsimp only)) | (refine' call_replace_cr ?zl ?zu ?zv ?zn ?_; (case zl => (omega)); (case zu => k_ne); (case zv => k_ne); (case zn => k_ne); intro _ _ _ _ _; (try dsimp only)))) | ((with_reducible show wpAny _ _ (call (Value.builtin "str.rfind") _) _ _ _); (refine call_rfind4 ?_; (try dsimp only))) | ((with_reducible show wpAny _ _ (getMethod (Value.ref _) _ _) _ _ _); (k_here; (with_reducible show wpAny _ _ (getMethod (Value.ref _) (PySem.Str.ofString "reportCharacterErrors") _) _ _ _); k_dflt (refine' kmu_own ?zk1 ?zk2 ?zk3 ?zk4 ?zk5 ?_; (case zk1 => k_asm); (case zk2 => k_asm); (case zk3 => k_inst); (case zk4 => k_is); (case zk5 => k_is); k_whole))) | ((with_reducible show wpAny _ _ (isTrue (Expr.Compare _ _ _ _) _ _) _ _ _); (k_here; k_dflt (refine' isTrue_ll ?zF ?zv ?_ ?zk ?zl; (case zF => k_asm); (case zv => rfl); (case zk => rfl); (case zl => rfl); k_whole; intro _; (try dsimp only)))) | ((with_reducible show wpAny _ _ (truthy (Value.ref _)) _ _ _); (k_here; (refine' truthy_meth ?zN ?zm ?_; (case zN => k_asm); (case zm => k_mem); k_whole; (try dsimp only)))))))
  refine' hret _ _ _ _ ?F (news_app ?N ?R) p8
  case F => k_asm
  case N => assumption
  case R => assumption
end
section
local macro_rules | `(tactic| k_lt $h) => `(tactic| (replace $h := allLt_of $h; simp only [AllLt, and_true] at $h:ident; (repeat (have lh9 := And.left $h; replace $h := And.right $h))))
/-- what the constructor leaves -/
noncomputable def ctorPost (w : World) (text : Str) (t : Nat) (rest : Ledger) (v : Value) (E' : Ledger) : Prop :=
  ∃ (kt : Nat → Nat) (x d q nl td tx er : Nat) (t1 t2 t3 t4 t5 t6 : Nat), (d < x ∧ x < q ∧ q < td ∧ td < tx ∧ tx < er) ∧ (∀ p ∈ rest, @LT.lt Nat _ p.1 d) ∧ v = .ref x ∧
    E' = SX0 w kt x d q nl tx er (.str (Str.ofString "") t1) (.int 0 t2) (.int 0 t3) (.int 0 t4) (.int 0 t5) .none #[] 0 ++ TL w kt tx td (.str text t) (.int 0 t6)
theorem ctor_fin {w : World} {text : Str} {t : Nat} {rest : Ledger} (k : List Nat) {x d q nl td tx er t1 t2 t3 t4 t5 t6 : Nat} (ho : d < x ∧ x < q ∧ q < td ∧ td < tx ∧ tx < er) (hl : ∀ p ∈ rest, @LT.lt Nat _ p.1 d) :
    ctorPost w text t rest (.ref x) (SX0 w (fun i => k.getD i 0) x d q nl tx er (.str (Str.ofString "") t1) (.int 0 t2) (.int 0 t3) (.int 0 t4) (.int 0 t5) .none #[] 0 ++ TL w (fun i => k.getD i 0) tx td (.str text t) (.int 0 t6)) :=
  ⟨_, x, d, q, nl, td, tx, er, t1, t2, t3, t4, t5, t6, ho, hl, rfl, rfl⟩
theorem perm7 {h₀ h : Heap} {L : Addr} {a b c d e f g : Addr × Obj} (N : News h₀ L h [a, b, c, d, e, f, g]) : News h₀ L h [a, e, f, g, b, c] := fun p hp => N p ((show [a, e, f, g, b, c] ⊆ [a, b, c, d, e, f, g] from List.cons_subset.mpr ⟨.head _, List.cons_subset.mpr ⟨.tail _ (.tail _ (.tail _ (.tail _ (.head _)))), List.cons_subset.mpr ⟨.tail _ (.tail _ (.tail _ (.tail _ (.tail _ (.head _))))), List.cons_subset.mpr ⟨.tail _ (.tail _ (.tail _ (.tail _ (.tail _ (.tail _ (.head _)))))), List.cons_subset.mpr ⟨.tail _ (.head _), List.cons_subset.mpr ⟨.tail _ (.tail _ (.head _)), List.nil_subset _⟩⟩⟩⟩⟩⟩) hp)
set_option maxRecDepth 100000 in
set_option maxHeartbeats 4000000 in
/-- the class called; rest: the whole ledger ahead of it -/
theorem make_stream (w : World) (text : Str) (t : Nat) (dp un : Nat) (gd : Option (List Code)) (cn : Str) (cs : Scope) (a : Addr) (ccd : Value) (cl : List (Str × Addr)) (outer : List Env) (A₀ : Around) (base h₀ : Heap) (L : Addr) (m : Str → Option Value) (s : Shared) (Q Er : Value → Shared → Prop)
    (loose : List Str) (mean : ExcName → Option Value) (mg mb : Str → Option Value) (rest : Ledger)
    (B : Below A₀ base outer h₀) (F : Fr h₀ L s.heap m) (KX : (hd.heap_39 w.params).In h₀) (N : News h₀ L s.heap rest) (TT : Top hd.view_39 loose mean mg mb h₀) (hk : cs.kind = .function)
    (hroom : dp + 4 * 3 < recursionLimit) (hun : un + 40 * 3 < cLine)
    (hret : ∀ v E' h' tk', Fr h₀ L h' m → News h₀ L h' (E' ++ rest) → ctorPost w text t rest v E' → Q v { s with heap := h', toks := tk' }) :
    wpAny (model PySem.Challenge.rw_te0024_02.row.prog w) (ktrTop dp un gd cn cs L a ccd cl outer) (call (.ref 131) [.str text t]) Q Er s := by
  revert KX
  k_fill
  intro KX
  refine' call_cls ?k1 ?k2 ?k3 ?k4 ?k5 ?k6 ?_; (case k1 => k_asm); (case k2 => k_asm); (case k3 => k_asm); (case k4 => k_is); (case k5 => k_is); (case k6 => k_is); intro x d h1 F1 N1 l1 l2
  have l1' : ∀ p ∈ rest, @LT.lt Nat _ p.1 d := l1
  have l2' := ltN l2
  have N : News h₀ L h1 ([(x, instObj 131 d), (d, dictOf [] 0)] ++ rest) := N1
  have hdis : ∀ q ∈ rest, ∀ r ∈ [((x, instObj 131 d) : Addr × Obj), (d, dictOf [] 0)], r.1 ≠ q.1 := by
    intro q hq r hr
    have := l1' q hq
    simp only [List.mem_cons, List.not_mem_nil, or_false] at hr
    rcases hr with rfl | rfl
    · exact neN (by dsimp only; omega)
    · exact neN (by dsimp only; omega)
  clear N1 F
  have F := F1
  clear F1
  refine' enterR (binds := [(Str.ofString "self", .ref x), (Str.ofString "source", .str text t)]) ?k1 ?k2 ?k3 ?k4 ?k5 ?kd ?kA ?kF ?kK ?k6 ?k7 ?k8 ?k9 ?kB ?_ ?c2 ?c3 ?c4 ?c5
  (case kA => exact rfl); (case kF => exact rfl); (case kK => first | exact rfl | assumption); (case k1 => k_asm); (case k2 => k_asm); (case k3 => k_asm); (case k4 => k_asm); (case k5 => k_asm); (case kd => assumption); (case k6 => k_dflt k_is); (case k7 => k_dflt k_is); (case k8 => k_room); (case k9 => first | exact BindsTo.of_eq rfl | exact binds_K (by k_in) rfl (by k_is) rfl rfl rfl); (case c5 => decide); (case kB => exact locs rfl); (case c2 => exact rfl); (case c3 => exact rfl); (case c4 => exact rfl)
  k_whole
  intro g' L' h' FG' F' N' B' X' T' lt'
  clear N F
  w_on
  w_top on
  w_strict ((repeat' (first | with_reducible ((show wpAny _ _ (getMethod (Value.ref _) _ _) _ _ _); (k_here; (with_reducible show wpAny _ _ (getMethod (Value.ref _) (PySem.Str.ofString "reportCharacterErrors") _) _ _ _); k_dflt (refine' kmu_own ?zk1 ?zk2 ?zk3 ?zk4 ?zk5 ?_; (case zk1 => k_asm); (case zk2 => k_asm); (case zk3 => k_inst); (case zk4 => k_is); (case zk5 => k_is); k_whole))) | with_reducible ((show wpAny _ _ (execs (_ :: _) _) _ _ _); (k_here; (with_reducible show wpAny _ _ _ _ _ (Shared.mk _ _ _ (_ + _) _)); k_dflt (refine' gen_toks ?zp ?_; (case zp => ((try dsimp only); exact Nat.succ_pos _)); intro _ _))) | with_reducible ((show wpAny _ _ (isTrue (Expr.Compare _ _ _ _) _ _) _ _ _); (k_here; k_dflt (refine' isTrue_ll ?zF ?zv ?_ ?zk ?zl; (case zF => k_asm); (case zv => rfl); (case zk => rfl); (case zl => rfl); k_whole; intro _; (try dsimp only)))) | with_reducible ((show wpAny _ _ (call (Value.builtin "str.replace") _) _ _ _); k_dflt (first | (refine' call_replace_crlf ?zl ?zu ?zv ?zn ?_; (case zl => (omega)); (case zu => k_ne); (case zv => k_ne); (case zn => k_ne); intro _ _ _ _ _; (try dsimp only)) | (refine' call_replace_cr ?zl ?zu ?zv ?zn ?_; (case zl => (omega)); (case zu => k_ne); (case zv => k_ne); (case zn => k_ne); intro _ _ _ _ _; (try dsimp only)))) | with_reducible ((show wpAny _ _ (call (Value.builtin "str.rfind") _) _ _ _); (refine call_rfind4 ?_; (try dsimp only))) | with_reducible ((show wpAny _ _ (call (Value.builtin "str.count") _) _ _ _); (refine call_count4 ?_; (try dsimp only))) | with_reducible ((show wpAny _ _ (truthy (Value.ref _)) _ _ _); (k_here; (refine' truthy_meth ?zN ?zm ?_; (case zN => k_asm); (case zm => k_mem); k_whole; (try dsimp only)))) | (k_unfold; (try dsimp only)) | walk1 | (dsimp only; walk1) | (dsimp only [List.nil_append, List.cons_append]; walk1) | (k_end; dsimp only; k_unfold; (try dsimp only)) | (leave1; (try dsimp only)) | ((with_reducible show wpAny _ _ (call (Value.builtin "str.count") _) _ _ _); (refine call_count4 ?_; (try dsimp only))) | ((with_reducible show wpAny _ _ (call (Value.builtin "str.replace") _) _ _ _); k_dflt (first | (refine' call_replace_crlf ?zl ?zu ?zv ?zn ?_; (case zl => (omega)); (case zu => k_ne); (case zv => k_ne); (case zn => k_ne); intro _ _ _ _ _; (try dsimp only)) | (refine' call_replace_cr ?zl ?zu ?zv ?zn ?_; (case zl => (omega)); (case zu => k_ne); (case zv => k_ne); (case zn => k_ne); intro _ _ _ _ _; (try dsimp only)))) | ((with_reducible show wpAny _ _ (call (Value.builtin "str.rfind") _) _ _ _); (refine call_rfind4 ?_; (try dsimp only))) | ((with_reducible show wpAny _ _ (getMethod (Value.ref _) _ _) _ _ _); (k_here; (with_reducible show wpAny _ _ (getMethod (Value.ref _) (PySem.Str.ofString "reportCharacterErrors") _) _ _ _); k_dflt (refine' kmu_own ?zk1 ?zk2 ?zk3 ?zk4 ?zk5 ?_; (case zk1 => k_asm); (case zk2 => k_asm); (case zk3 => k_inst); (case zk4 => k_is); (case zk5 => k_is); k_whole))) | ((with_reducible show wpAny _ _ (isTrue (Expr.Compare _ _ _ _) _ _) _ _ _); (k_here; k_dflt (refine' isTrue_ll ?zF ?zv ?_ ?zk ?zl; (case zF => k_asm); (case zv => rfl); (case zk => rfl); (case zl => rfl); k_whole; intro _; (try dsimp only)))) | ((with_reducible show wpAny _ _ (truthy (Value.ref _)) _ _ _); (k_here; (refine' truthy_meth ?zN ?zm ?_; (case zN => k_asm); (case zm => k_mem); k_whole; (try dsimp only)))))))
  (with_reducible rename News _ _ _ (_ :: _) => kN9)
  have P := perm7 kN9
  refine' hret _ _ _ _ ?F (news_app ?N ?R) (ctor_fin [_, _, _, _, _, _, _, _, _, _, _, _] ?o l1')
  case F => k_asm
  case N => exact P
  case R => assumption
  case o => omega
end
theorem crlf_append : ∀ (X Y : List Nat), ¬ (X.getLast? = some 13 ∧ Y.head? = some 10) → crlf (X ++ Y) = crlf X ++ crlf Y
  | [], Y, _ => rfl
  | [c], Y, h => by
    show crlf (c :: Y) = c :: crlf Y
    refine crlf_cons ?_
    rintro ⟨r, e⟩
    injection e with e1 e2
    exact h ⟨by rw [e1]; rfl, by rw [e2]; rfl⟩
  | c :: d :: r, Y, h => by
    have hl : (c :: d :: r).getLast? = (d :: r).getLast? := by simp [List.getLast?_cons_cons]
    by_cases hc : c = 13 ∧ d = 10
    · obtain ⟨rfl, rfl⟩ := hc
      show crlf (13 :: 10 :: (r ++ Y)) = crlf (13 :: 10 :: r) ++ crlf Y
      rw [crlf_starts, crlf_starts, crlf_append r Y ?_]
      · rfl
      · rintro ⟨h1, h2⟩
        refine h ⟨?_, h2⟩
        rw [hl]
        cases r with
        | nil => cases h1
        | cons a t => rw [List.getLast?_cons_cons]; exact h1
    · have hs : ∀ Z, ¬ starts (c :: d :: Z) := by
        rintro Z ⟨t, e⟩
        injection e with e1 e2
        injection e2 with e2 _
        exact hc ⟨e1, e2⟩
      show crlf (c :: d :: (r ++ Y)) = crlf (c :: d :: r) ++ crlf Y
      rw [crlf_cons (hs _), crlf_cons (hs _)]
      have ih := crlf_append (d :: r) Y (by rw [← hl]; exact h)
      show c :: crlf (d :: r ++ Y) = _
      rw [ih]; rfl
theorem cut13_cat (D : List Nat) : (cut13 D).1 ++ (cut13 D).2 = D := by
  unfold cut13
  split
  · rename_i h
    obtain ⟨h1, h2⟩ := h
    show D.dropLast ++ [13] = D
    have hne : D ≠ [] := by intro e; rw [e] at h1; simp at h1
    have h3 : D.getLast hne = 13 := by
      rw [List.getLast?_eq_some_getLast hne] at h2
      exact Option.some.inj h2
    have := List.dropLast_concat_getLast hne
    rw [h3] at this
    exact this
  · exact List.append_nil D
theorem norm_split (D rest : List Nat) (h : 2 ≤ D.length ∨ rest = []) : norm (D ++ rest) = norm (cut13 D).1 ++ norm ((cut13 D).2 ++ rest) := by
  have e : crlf (D ++ rest) = crlf (cut13 D).1 ++ crlf ((cut13 D).2 ++ rest) := by
    have hc := cut13_cat D
    have : D ++ rest = (cut13 D).1 ++ ((cut13 D).2 ++ rest) := by rw [← List.append_assoc, hc]
    rw [this]
    refine crlf_append _ _ ?_
    rintro ⟨h1, h2⟩
    unfold cut13 at h1 h2
    split at h1
    · rename_i hh
      rw [if_pos hh] at h2
      simp at h2
    · rename_i hh
      rw [if_neg hh] at h2
      rcases h with h | h
      · exact hh ⟨by omega, h1⟩
      · subst h
        cases h2
  unfold norm
  rw [e, List.map_append]
/-- the raw piece is not empty: what becomes of it is not either -/
theorem cut13_pos (D : List Nat) (h : D ≠ []) : (cut13 D).1 ≠ [] := by
  unfold cut13
  split
  · rename_i hh
    intro e
    have h1 : D.dropLast.length = D.length - 1 := List.length_dropLast
    have h2 : D.dropLast = [] := e
    rw [h2] at h1
    simp at h1
    omega
  · exact h
theorem crlf_pos : ∀ l : List Nat, l ≠ [] → crlf l ≠ []
  | [], h => absurd rfl h
  | [_], _ => by simp [crlf]
  | c :: d :: r, _ => by
    rw [crlf]
    split <;> simp
theorem norm_pos (l : List Nat) (h : l ≠ []) : norm l ≠ [] := by
  unfold norm
  intro e
  exact crlf_pos l h (List.map_eq_nil_iff.mp e)
/-- the stream's state; U: what came before the chunk -/
structure StS where
  C : Str
  o : Nat
  p : Nat
  pl : Int
  pc : Int
  b : List Nat
  errs : Array Value
  U : List Nat
  bufV : Value
  ta : Nat
  tb : Nat
  tc : Nat
  t4 : Nat
  t5 : Nat
  t7 : Nat
  ne : Nat
/-- the raw code points not yet looked at -/
noncomputable def rawOf (S : Str) (st : StS) : List Nat := st.b ++ S.cps.toList.drop st.p
/-- the signs that are still to come -/
noncomputable def remOf (S : Str) (st : StS) : List Nat := st.C.cps.toList.drop st.o ++ norm (rawOf S st)
structure StOk (S : Str) (st : StS) : Prop where
  o : st.o ≤ st.C.length
  p : st.p ≤ S.length
  C : st.C.length ≤ 15000
  E : st.errs.size + badCount (rawOf S st) ≤ 10000
/-- what readChunk makes of a state whose chunk is read -/
structure RcNext (S : Str) (n : Nat) (st st' : StS) : Prop where
  C : st'.C.cps.toList = norm (cut13 (rcIn st.b S st.p n)).1
  b : st'.b = (cut13 (rcIn st.b S st.p n)).2
  o : st'.o = 0
  p : st'.p = min (st.p + n) S.length
  pl : st'.pl = posL st.C st.pl st.C.length
  pc : st'.pc = posC st.C st.pc st.C.length
  E : st'.errs.size = st.errs.size + badCount (cut13 (rcIn st.b S st.p n)).1
  B : Bads st.errs → Bads st'.errs
  U : st'.U = st.U ++ st.C.cps.toList
theorem badCount_append (a b : List Nat) : badCount (a ++ b) = badCount a + badCount b := by
  unfold badCount; rw [List.filter_append, List.length_append]
theorem raw_split {S : Str} {n : Nat} {st st' : StS} (h : RcNext S n st st') (hp : st.p ≤ S.length) :
    rawOf S st = (cut13 (rcIn st.b S st.p n)).1 ++ rawOf S st' := by
  unfold rawOf
  rw [h.b, h.p, ← List.append_assoc, cut13_cat]
  unfold rcIn
  rw [List.append_assoc]
  congr 1
  have e : S.cps.toList.drop (min (st.p + n) S.length) = (S.cps.toList.drop st.p).drop n := by
    rw [List.drop_drop]
    have hl : S.cps.toList.length = S.length := rfl
    rcases Nat.le_total (st.p + n) S.length with hh | hh
    · rw [Nat.min_eq_left hh]
    · rw [Nat.min_eq_right hh, List.drop_of_length_le (by omega), List.drop_of_length_le (by omega)]
  rw [e, List.take_append_drop]
theorem raw_empty {S : Str} {n : Nat} {st : StS} (hn : 1 ≤ n) (hD : rcIn st.b S st.p n = []) : rawOf S st = [] := by
  unfold rcIn at hD
  unfold rawOf
  obtain ⟨h1, h2⟩ := List.append_eq_nil_iff.mp hD
  rw [h1, List.nil_append]
  cases h : S.cps.toList.drop st.p with
  | nil => rfl
  | cons a r =>
    rw [h] at h2
    cases n with
    | zero => omega
    | succ n => simp at h2
theorem rem_next {S : Str} {n : Nat} {st st' : StS} (h : RcNext S n st st') (hn : 2 ≤ n) (hp : st.p ≤ S.length) (ho : st.o = st.C.length) : remOf S st' = remOf S st := by
  unfold remOf
  have e0 : st.C.cps.toList.drop st.o = [] := List.drop_of_length_le (by rw [ho]; exact Nat.le_refl _)
  rw [e0, List.nil_append, h.o, List.drop_zero, h.C]
  have hs := raw_split h hp
  have hl : S.cps.toList.length = S.length := rfl
  -- the raw text is D and what lies behind it
  have hD : rawOf S st = rcIn st.b S st.p n ++ S.cps.toList.drop (st.p + n) := by
    unfold rawOf rcIn
    rw [List.append_assoc, ← List.drop_drop, List.take_append_drop]
  have hk := norm_split (rcIn st.b S st.p n) (S.cps.toList.drop (st.p + n)) (by
    by_cases h2 : st.p + n ≤ S.length
    · left
      unfold rcIn
      rw [List.length_append, List.length_take, List.length_drop, hl]
      omega
    · right
      exact List.drop_of_length_le (by omega))
  rw [hD, hk]
  congr 2
  unfold rawOf
  rw [h.b, h.p]
  congr 1
  rcases Nat.le_total (st.p + n) S.length with hh | hh
  · rw [Nat.min_eq_left hh]
  · rw [Nat.min_eq_right hh, List.drop_of_length_le (by omega), List.drop_of_length_le (by omega)]
theorem ok_next {S : Str} {n : Nat} {st st' : StS} (h : RcNext S n st st') (ok : StOk S st) (hS : S.length ≤ 10000) (hb : st.b.length ≤ 1) : StOk S st' := by
  have hs := raw_split h ok.p
  have hl : S.cps.toList.length = S.length := rfl
  refine ⟨by rw [h.o]; omega, by rw [h.p]; omega, ?_, ?_⟩
  · have h1 : st'.C.length = (norm (cut13 (rcIn st.b S st.p n)).1).length := by rw [← h.C]; rfl
    have h2 := norm_length (cut13 (rcIn st.b S st.p n)).1
    have h3 := congrArg List.length hs
    unfold rawOf at h3
    simp only [List.length_append, List.length_drop, hl] at h3
    omega
  · have h1 := congrArg badCount hs
    rw [badCount_append] at h1
    have h2 := ok.E
    have h3 := h.E
    omega
theorem err_next {S : Str} {n : Nat} {st st' : StS} (h : RcNext S n st st') (hp : st.p ≤ S.length) : st'.errs.size + badCount (rawOf S st') = st.errs.size + badCount (rawOf S st) := by
  have h1 := congrArg badCount (raw_split h hp)
  rw [badCount_append] at h1
  have h3 := h.E
  omega
theorem fall_next {S : Str} {n : Nat} {st st' : StS} (h : RcNext S n st st') (hp : st.p ≤ S.length) (hD : rcIn st.b S st.p n ≠ []) : (rawOf S st').length < (rawOf S st).length := by
  have h1 := congrArg List.length (raw_split h hp)
  rw [List.length_append] at h1
  have h2 := List.length_pos_iff.mpr (cut13_pos _ hD)
  omega
theorem pos_next {S : Str} {n : Nat} {st st' : StS} (h : RcNext S n st st') (hD : rcIn st.b S st.p n ≠ []) : st'.C.length ≠ 0 := by
  have h1 : st'.C.length = (norm (cut13 (rcIn st.b S st.p n)).1).length := by rw [← h.C]; rfl
  have h2 := List.length_pos_iff.mpr (norm_pos _ (cut13_pos _ hD))
  omega
section
open Builtin Builtin.Str StrLaws
noncomputable def linesOf (l : List Nat) : Int := ((l.filter (· == 10)).length : Nat)
noncomputable def colFrom (k : Int) (l : List Nat) : Int := l.foldl (fun k c => if c = 10 then 0 else k + 1) k
theorem linesOf_append (a b : List Nat) : linesOf (a ++ b) = linesOf a + linesOf b := by
  unfold linesOf; rw [List.filter_append, List.length_append, Int.natCast_add]
theorem colFrom_append (k : Int) (a b : List Nat) : colFrom k (a ++ b) = colFrom (colFrom k a) b := by
  unfold colFrom; rw [List.foldl_append]
theorem nl_at (x : Str) (i hi : Nat) : At x nlS hi i ↔ i + 1 ≤ hi ∧ x.cps.toList[i]? = some 10 := by
  have e : nlS = ⟨#[10]⟩ := by decide +kernel
  unfold At
  rw [e]
  constructor
  · rintro ⟨h1, h2⟩
    refine ⟨h1, ?_⟩
    rw [subAt_eq] at h2
    exact take1_drop.mp h2
  · rintro ⟨h1, h2⟩
    refine ⟨h1, ?_⟩
    rw [subAt_eq]
    exact take1_drop.mpr h2
theorem suf_cons (x : List Nat) (a hi : Nat) (h : a < hi) (hh : hi ≤ x.length) : ∃ c, x[a]? = some c ∧ (x.take hi).drop a = c :: (x.take hi).drop (a + 1) := by
  have hl : a < x.length := by omega
  refine ⟨x[a], List.getElem?_eq_getElem hl, ?_⟩
  have h2 : a < (x.take hi).length := by rw [List.length_take]; omega
  rw [List.drop_eq_getElem_cons h2, List.getElem_take]
theorem occ_nl (x : Str) (hi limit : Nat) (hh : hi ≤ x.length) : ∀ (n a : Nat) (found : Array Nat) (free : Nat), a + n = hi + 1 → free ≤ a → found.size + n ≤ limit →
    ((forIn (List.range' a n) (found, free) (occBody x nlS hi limit)).run.fst.size : Int) = found.size + linesOf ((x.cps.toList.take hi).drop a)
  | 0, a, found, free, h, _, _ => by
    rw [List.drop_of_length_le (by rw [List.length_take]; omega)]
    show (found.size : Int) = found.size + 0
    omega
  | n + 1, a, found, free, h, hf, hl => by
    rw [List.range'_succ, List.forIn_cons]
    unfold occBody
    have key := nl_at x a hi
    unfold At at key
    by_cases hc : a + nlS.length ≤ hi ∧ subAt x nlS a = true
    · obtain ⟨h1, h2⟩ := key.mp hc
      rw [if_pos ⟨⟨⟨by show found.size < limit; omega, hf⟩, hc.1⟩, hc.2⟩]
      have ih := occ_nl x hi limit hh n (a + 1) (found.push a) (a + nlS.length) (by omega) (Nat.le_of_eq (by rfl)) (by rw [Array.size_push]; omega)
      obtain ⟨c, e1, e2⟩ := suf_cons x.cps.toList a hi (by omega) hh
      rw [h2] at e1
      cases e1
      rw [e2]
      refine Eq.trans ih ?_
      rw [Array.size_push]
      show _ = (found.size : Int) + linesOf ([10] ++ _)
      rw [linesOf_append]
      show _ = (found.size : Int) + (1 + _)
      omega
    · rw [if_neg fun q => hc ⟨q.1.2, q.2⟩]
      have ih := occ_nl x hi limit hh n (a + 1) found free (by omega) (by omega) (by omega)
      refine Eq.trans ih ?_
      by_cases hlt : a < hi
      · obtain ⟨c, e1, e2⟩ := suf_cons x.cps.toList a hi hlt hh
        rw [e2]
        show _ = (found.size : Int) + linesOf ([c] ++ _)
        rw [linesOf_append]
        have : linesOf [c] = 0 := by
          have hne : c ≠ 10 := fun e => hc (key.mpr ⟨by omega, by rw [e1, e]⟩)
          unfold linesOf
          rw [List.filter_cons_of_neg (by simpa using hne)]
          rfl
        omega
      · rw [List.drop_of_length_le (by rw [List.length_take]; omega), List.drop_of_length_le (by rw [List.length_take]; omega)]
theorem last_nl (x : Str) (hi : Nat) (hh : hi ≤ x.length) : ∀ (n a : Nat) (st : Option Nat), a + n = hi + 1 →
    (10 ∉ (x.cps.toList.take hi).drop a → (forIn (List.range' a n) st (lastBody x nlS hi)).run = st ∧ ∀ k, colFrom k ((x.cps.toList.take hi).drop a) = k + ((x.cps.toList.take hi).drop a).length) ∧
    (10 ∈ (x.cps.toList.take hi).drop a → ∃ j : Nat, (forIn (List.range' a n) st (lastBody x nlS hi)).run = some j ∧ ∀ k, colFrom k ((x.cps.toList.take hi).drop a) = hi - (j + 1))
  | 0, a, st, h => by
    rw [List.drop_of_length_le (by rw [List.length_take]; omega)]
    exact ⟨fun _ => ⟨rfl, fun k => by show k = k + 0; omega⟩, fun hm => absurd hm List.not_mem_nil⟩
  | n + 1, a, st, h => by
    rw [List.range'_succ, List.forIn_cons]
    unfold lastBody
    have key := nl_at x a hi
    unfold At at key
    by_cases hc : a + nlS.length ≤ hi ∧ subAt x nlS a = true
    · obtain ⟨h1, h2⟩ := key.mp hc
      rw [if_pos hc]
      have ih := last_nl x hi hh n (a + 1) (some a) (by omega)
      obtain ⟨c, e1, e2⟩ := suf_cons x.cps.toList a hi (by omega) hh
      rw [h2] at e1
      cases e1
      rw [e2]
      refine ⟨fun hm => absurd (.head _) hm, fun _ => ?_⟩
      have hl : ((x.cps.toList.take hi).drop (a + 1)).length = hi - (a + 1) := by
        have : x.cps.toList.length = x.length := rfl
        rw [List.length_drop, List.length_take]; omega
      by_cases hm : 10 ∈ (x.cps.toList.take hi).drop (a + 1)
      · obtain ⟨j, ej, ek⟩ := ih.2 hm
        exact ⟨j, ej, fun k => ek 0⟩
      · obtain ⟨ej, ek⟩ := ih.1 hm
        refine ⟨a, ej, fun k => (ek 0).trans ?_⟩
        rw [hl]
        omega
    · rw [if_neg hc]
      have ih := last_nl x hi hh n (a + 1) st (by omega)
      by_cases hlt : a < hi
      · obtain ⟨c, e1, e2⟩ := suf_cons x.cps.toList a hi hlt hh
        have hne : c ≠ 10 := fun e => hc (key.mpr ⟨by omega, by rw [e1, e]⟩)
        rw [e2]
        have hcol : ∀ k l, colFrom k (c :: l) = colFrom (k + 1) l := fun k l => by
          show List.foldl _ (if c = 10 then 0 else k + 1) l = _
          rw [if_neg hne]; rfl
        refine ⟨fun hm => ?_, fun hm => ?_⟩
        · obtain ⟨ej, ek⟩ := ih.1 fun q => hm (.tail _ q)
          refine ⟨ej, fun k => ?_⟩
          rw [hcol, ek, List.length_cons]
          omega
        · obtain ⟨j, ej, ek⟩ := ih.2 ((List.mem_cons.mp hm).resolve_left (Ne.symm hne))
          exact ⟨j, ej, fun k => by rw [hcol]; exact ek _⟩
      · rw [List.drop_of_length_le (by rw [List.length_take]; omega)] at ih ⊢
        exact ⟨fun _ => ⟨(ih.1 List.not_mem_nil).1, fun k => by show k = k + 0; omega⟩, fun hm => absurd hm List.not_mem_nil⟩
theorem fromIndex_nat (n k : Nat) : fromIndex n (k : Int) = k := by unfold fromIndex; rw [if_neg (by omega)]; omega
theorem posL_eq (C : Str) (pl : Int) (k : Nat) (h : k ≤ C.length) : posL C pl k = pl + linesOf (C.cps.toList.take k) := by
  unfold posL cnt4
  have e0 : fromIndex C.length 0 = 0 := fromIndex_nat C.length 0
  rw [e0, fromIndex_nat, Nat.min_eq_left h, occ_eq, Array.length_toList]
  have := occ_nl C k (C.length + 1) h (k + 1 - 0) 0 #[] 0 (by omega) (Nat.le_refl _) (by show 0 + _ ≤ _; omega)
  rw [this]
  show pl + ((0 : Int) + _) = _
  rw [List.drop_zero, Int.zero_add]
theorem posC_eq (C : Str) (pc : Int) (k : Nat) (h : k ≤ C.length) : posC C pc k = colFrom pc (C.cps.toList.take k) := by
  unfold posC rfi4
  have e0 : fromIndex C.length 0 = 0 := fromIndex_nat C.length 0
  rw [e0, fromIndex_nat, Nat.min_eq_left h, last_eq]
  have key := last_nl C k h (k + 1 - 0) 0 none (by omega)
  rw [List.drop_zero] at key
  have hl : (C.cps.toList.take k).length = k := by rw [List.length_take]; exact Nat.min_eq_left h
  by_cases hm : 10 ∈ C.cps.toList.take k
  · obtain ⟨j, ej, ek⟩ := key.2 hm
    rw [ej, ek pc]
    dsimp only
    rw [if_neg (by omega)]
  · obtain ⟨ej, ek⟩ := key.1 hm
    rw [ej, ek pc, hl]
    dsimp only
    rw [if_pos rfl]
end
/-- what was read of the stream so far -/
noncomputable def consOf (st : StS) : List Nat := st.U ++ st.C.cps.toList.take st.o
/-- the place told is right -/
noncomputable def PosOk (st : StS) : Prop := st.pl = linesOf st.U ∧ st.pc = colFrom 0 st.U
/-- st' came of st by taking acc -/
structure Took (S : Str) (st : StS) (acc : List Nat) (st' : StS) : Prop where
  cons : consOf st' = consOf st ++ acc
  rem : remOf S st = acc ++ remOf S st'
  E : st'.errs.size + badCount (rawOf S st') = st.errs.size + badCount (rawOf S st)
  B : Bads st.errs → Bads st'.errs
  pos : PosOk st → PosOk st'
theorem Took.refl {S : Str} {st : StS} : Took S st [] st := ⟨(List.append_nil _).symm, rfl, rfl, id, id⟩
theorem Took.trans {S : Str} {a b c : StS} {x y : List Nat} (h : Took S a x b) (k : Took S b y c) : Took S a (x ++ y) c :=
  ⟨by rw [k.cons, h.cons, List.append_assoc], by rw [h.rem, k.rem, List.append_assoc], k.E.trans h.E, fun z => k.B (h.B z), fun z => k.pos (h.pos z)⟩
/-- taking a stretch of the chunk -/
theorem took_chunk {S : Str} {st : StS} {e tc : Nat} (h1 : st.o ≤ e) : Took S st ((st.C.cps.toList.drop st.o).take (e - st.o)) { st with o := e, tc := tc } := by
  have e1 : st.C.cps.toList.take e = st.C.cps.toList.take st.o ++ (st.C.cps.toList.drop st.o).take (e - st.o) := by
    conv => lhs; rw [show e = st.o + (e - st.o) by omega, List.take_add]
  refine ⟨?_, ?_, rfl, id, id⟩
  · show st.U ++ st.C.cps.toList.take e = (st.U ++ st.C.cps.toList.take st.o) ++ _
    rw [e1, List.append_assoc]
  · show st.C.cps.toList.drop st.o ++ _ = _ ++ (st.C.cps.toList.drop e ++ _)
    rw [← List.append_assoc]
    congr 1
    have e2 : st.C.cps.toList.drop e = (st.C.cps.toList.drop st.o).drop (e - st.o) := by rw [List.drop_drop]; congr 1; omega
    rw [e2, List.take_append_drop]
/-- reading on -/
theorem took_next {S : Str} {n : Nat} {st st' : StS} (h : RcNext S n st st') (hn : 2 ≤ n) (hp : st.p ≤ S.length) (ho : st.o = st.C.length) : Took S st [] st' := by
  have hl : st.C.cps.toList.length = st.C.length := rfl
  refine ⟨?_, (rem_next h hn hp ho).symm, err_next h hp, h.B, fun hP => ?_⟩
  · unfold consOf
    rw [h.o, h.U, ho, List.take_of_length_le (Nat.le_of_eq hl), List.take_zero]
  · unfold PosOk
    rw [h.pl, h.pc, h.U, posL_eq _ _ _ (Nat.le_refl _), posC_eq _ _ _ (Nat.le_refl _), List.take_of_length_le (Nat.le_of_eq hl), hP.1, hP.2, linesOf_append, colFrom_append]
    exact ⟨rfl, rfl⟩
/-- readChunk's answer as a state -/
noncomputable def nextSt (S : Str) (n : Nat) (st : StS) (R : Str) (bufV : Value) (errs : Array Value) (ta tb tc t4 t5 t7 ne : Nat) : StS :=
  ⟨R, 0, min (st.p + n) S.length, posL st.C st.pl st.C.length, posC st.C st.pc st.C.length, (cut13 (rcIn st.b S st.p n)).2, errs, st.U ++ st.C.cps.toList, bufV, ta, tb, tc, t4, t5, t7, ne⟩
theorem next_rc {S : Str} {n : Nat} {st : StS} {R : Str} {bufV : Value} {errs : Array Value} {ta tb tc t4 t5 t7 ne : Nat} (hR : R.cps.toList = norm (cut13 (rcIn st.b S st.p n)).1)
    (hE : errs.size = st.errs.size + badCount (cut13 (rcIn st.b S st.p n)).1) (hB : Bads st.errs → Bads errs) : RcNext S n st (nextSt S n st R bufV errs ta tb tc t4 t5 t7 ne) :=
  ⟨hR, rfl, rfl, rfl, rfl, rfl, hE, hB, rfl⟩
theorem buf_len {v : Value} {b : List Nat} (h : BufIs v b) : b.length ≤ 1 := by
  rcases h with ⟨h, _⟩ | ⟨h, _⟩ <;> subst h <;> decide
/-- the pieces of a list joined -/
theorem join_snoc0 (ys : List Str) (a : Str) : (Str.join (Str.ofString "") (ys ++ [a])).cps.toList = (Str.join (Str.ofString "") ys).cps.toList ++ a.cps.toList := by
  rw [FinIter.join_snoc]
  split
  · rename_i h; subst h; rfl
  · have e : Str.ofString "" = (⟨#[]⟩ : Str) := by decide +kernel
    rw [e, FinIter.str_append_nil, Str.cps_append, Array.toList_append]
theorem weight_snoc (ys : List Str) (a : Str) : ((ys ++ [a]).map (·.length)).sum = (ys.map (·.length)).sum + a.length := by
  rw [List.map_append, List.sum_append]; simp
theorem strs_push {its : Array Value} {ys : List Str} {a : Str} {t : Nat} (h : StrsAre its.toList ys) : StrsAre (its.push (.str a t)).toList (ys ++ [a]) := by
  rw [Array.toList_push]
  have : ∀ {vs : List Value} {zs : List Str}, StrsAre vs zs → StrsAre (vs ++ [.str a t]) (zs ++ [a]) := by
    intro vs zs h
    induction h with
    | nil => exact .cons a t .nil
    | cons y t' _ ih => exact .cons y t' ih
  exact this h
/-- the pieces taken so far -/
structure Pieces (its : Array Value) (acc : List Nat) : Prop where
  at_ : ∃ ys, StrsAre its.toList ys ∧ (Str.join (Str.ofString "") ys).cps.toList = acc ∧ (ys.map (·.length)).sum = acc.length ∧ ys.length = its.size
theorem Pieces.nil : Pieces #[] [] := ⟨⟨[], .nil, rfl, rfl, rfl⟩⟩
theorem Pieces.push {its : Array Value} {acc : List Nat} {a : Str} {t : Nat} (h : Pieces its acc) {add : List Nat} (ha : a.cps.toList = add) : Pieces (its.push (.str a t)) (acc ++ add) := by
  subst ha
  obtain ⟨ys, h1, h2, h3, h4⟩ := h.at_
  refine ⟨ys ++ [a], strs_push h1, by rw [join_snoc0, h2], ?_, by simp [h4]⟩
  rw [weight_snoc, h3, List.length_append]; rfl
/-- the stretch of the chunk that the scan went over -/
noncomputable def Went (goes : Nat → Bool) (C : Str) (o e : Nat) : Prop := ∀ i, o ≤ i → i < e → goes (C.cps.toList.getD i 0) = true
theorem went_all {goes : Nat → Bool} {C : Str} {o e : Nat} (he : e ≤ C.length) (h : Went goes C o e) : ∀ c ∈ (C.cps.toList.drop o).take (e - o), goes c = true := by
  intro c hc
  have hl : C.cps.toList.length = C.length := rfl
  obtain ⟨i, hi, e1⟩ := List.mem_iff_getElem.mp hc
  rw [List.getElem_take, List.getElem_drop] at e1
  rw [List.length_take, List.length_drop, hl] at hi
  have h1 : o + i < e := Nat.add_lt_of_lt_sub' (Nat.lt_of_lt_of_le hi (Nat.min_le_left _ _))
  have := h (o + i) (Nat.le_add_right _ _) h1
  rw [List.getD_eq_getElem?_getD, List.getElem?_eq_getElem (Nat.lt_of_lt_of_le h1 he), Option.getD_some, e1] at this
  exact this
theorem went_more {goes : Nat → Bool} {C : Str} {o e : Nat} (h : Went goes C o e) (hg : goes (C.cps.toList.getD e 0) = true) : Went goes C o (e + 1) := by
  intro i h1 h2
  by_cases hi : i = e
  · rw [hi]; exact hg
  · exact h i h1 (by omega)
theorem take_split {goes : Nat → Bool} {l a b : List Nat} (h : l = a ++ b) (ha : ∀ c ∈ a, goes c = true) (hb : ∀ c r, b = c :: r → goes c = false) : a = l.takeWhile goes ∧ b = l.dropWhile goes := by
  subst h
  induction a with
  | nil =>
    cases b with
    | nil => exact ⟨rfl, rfl⟩
    | cons c r =>
      have := hb c r rfl
      simp [List.takeWhile_cons, List.dropWhile_cons, this]
  | cons c r ih =>
    have h1 := ha c (.head _)
    have h2 := ih fun z hz => ha z (.tail _ hz)
    constructor
    · rw [List.cons_append, List.takeWhile_cons, if_pos h1, ← h2.1]
    · rw [List.cons_append, List.dropWhile_cons, if_pos h1, ← h2.2]
theorem rem_head {S : Str} {st : StS} {c : Nat} {r : List Nat} (ho : st.o < st.C.length) (h : remOf S st = c :: r) : c = st.C.cps.toList.getD st.o 0 := by
  have hl : st.o < st.C.cps.toList.length := ho
  unfold remOf at h
  rw [List.drop_eq_getElem_cons hl, List.cons_append] at h
  injection h with h1 h2
  rw [List.getD_eq_getElem?_getD, List.getElem?_eq_getElem hl, Option.getD_some, h1]
/-- what charsUntil gives and leaves -/
structure UntilR (S : Str) (st : StS) (goes : Nat → Bool) (r : List Nat) (st' : StS) : Prop where
  took : Took S st r st'
  r : r = (remOf S st).takeWhile goes
  rem : remOf S st' = (remOf S st).dropWhile goes
  ok : StOk S st'
  b : BufIs st'.bufV st'.b
theorem until_end {S : Str} {st st' : StS} {goes : Nat → Bool} {acc : List Nat} (t : Took S st acc st') (ok : StOk S st') (b : BufIs st'.bufV st'.b) (ha : ∀ c ∈ acc, goes c = true) (hb : ∀ c r, remOf S st' = c :: r → goes c = false) :
    UntilR S st goes acc st' := by
  have h := take_split t.rem ha hb
  exact ⟨t, h.1, h.2, ok, b⟩
theorem ok_errs {S : Str} {st : StS} (h : StOk S st) : st.errs.size ≤ 10000 := by have := h.E; omega
theorem rem_len {S : Str} {st : StS} (h : StOk S st) (hb : BufIs st.bufV st.b) (hS : S.length ≤ 10000) : (remOf S st).length ≤ 25001 := by
  unfold remOf rawOf
  have h1 := norm_length (st.b ++ S.cps.toList.drop st.p)
  have h2 := buf_len hb
  have h3 := h.C
  have hl : S.cps.toList.length = S.length := rfl
  have hc : st.C.cps.toList.length = st.C.length := rfl
  rw [List.length_append, List.length_drop, hc]
  rw [List.length_append, List.length_drop, hl] at h1
  omega
theorem took_len {S : Str} {st st' : StS} {acc : List Nat} (t : Took S st acc st') (h : StOk S st) (hb : BufIs st.bufV st.b) (hS : S.length ≤ 10000) : acc.length ≤ 25001 := by
  have h1 := congrArg List.length t.rem
  rw [List.length_append] at h1
  have := rem_len h hb hS
  omega
theorem rc_either {w : World} {kt : Nat → Nat} {x d q nl td tx er : Nat} {C S : Str} {p n : Nat} {pl pc : Int} {b : List Nat} {t6 : Nat} {dcs : Value} {errs : Array Value} {v : Value} {E' : Ledger}
    (h : rcPost w kt x d q nl td tx er C S p n pl pc b t6 dcs errs v E') : ∃ (R : Str) (bufV : Value) (errs' : Array Value) (ne' ta tb tc t4 t5 t7 : Nat),
    E' = SX w kt x d q nl tx er (.str R ta) (.int R.length tb) (.int 0 tc) (.int (posL C pl C.length) t4) (.int (posC C pc C.length) t5) bufV dcs errs' ne' ++ TL w kt tx td (.str S t6) (.int ((min (p + n) S.length : Nat) : Int) t7) ∧
    R.cps.toList = norm (cut13 (rcIn b S p n)).1 ∧ BufIs bufV (cut13 (rcIn b S p n)).2 ∧ errs'.size = errs.size + badCount (cut13 (rcIn b S p n)).1 ∧ (Bads errs → Bads errs') ∧
    ((v = .bool true ∧ rcIn b S p n ≠ []) ∨ (v = .bool false ∧ rcIn b S p n = [])) := by
  refine' ex_10_6 (h) ?_; intro R bufV errs' ne' ta tb tc t4 t5 t7 h1 h2 h3 h4 h5 h6; (try clear h)
  refine ⟨R, bufV, errs', ne', ta, tb, tc, t4, t5, t7, h1, h2, h3, h4, h5, ?_⟩
  cases h : rcIn b S p n with
  | nil => rw [h] at h6; exact .inr ⟨h6, rfl⟩
  | cons c r => rw [h] at h6; exact .inl ⟨h6, fun e => by cases e⟩
section
variable {S : Str} {st st' : StS} {acc : List Nat} {goes : Nat → Bool} {e : Nat}
theorem until_A {r : Str} (t : Took S st acc st') (ok : StOk S st') (hb : BufIs st'.bufV st'.b) (ha : ∀ c ∈ acc, goes c = true) (ho : (st'.o : Int) ≠ st'.C.length) (he : (e : Int) = st'.o) (hm : goes (st'.C.cps.toList.getD e 0) = false) (hr : r.cps.toList = acc) :
    UntilR S st goes r.cps.toList st' := by
  rw [hr]
  refine until_end t ok hb ha fun c l h => ?_
  have h1 := ok.o
  have h2 := rem_head (by omega) h
  have h3 : e = st'.o := by omega
  rw [h2, ← h3]; exact hm
theorem all_add (ha : ∀ c ∈ acc, goes c = true) (he : e ≤ st'.C.length) (went : Went goes st'.C st'.o e) : ∀ c ∈ acc ++ (st'.C.cps.toList.drop st'.o).take (e - st'.o), goes c = true := by
  intro c hc
  rcases List.mem_append.mp hc with hc | hc
  · exact ha c hc
  · exact went_all he went c hc
theorem until_B {r : Str} {tc : Nat} (t : Took S st acc st') (ok : StOk S st') (hb : BufIs st'.bufV st'.b) (ha : ∀ c ∈ acc, goes c = true) (hoe : st'.o ≤ e) (hec : e ≤ st'.C.length) (hne : (e : Int) ≠ st'.C.length) (went : Went goes st'.C st'.o e)
    (hm : goes (st'.C.cps.toList.getD e 0) = false) (hr : r.cps.toList = acc ++ (st'.C.cps.toList.drop st'.o).take (e - st'.o)) :
    UntilR S st goes r.cps.toList { st' with o := e, tc := tc } := by
  rw [hr]
  have ok' : StOk S { st' with o := e, tc := tc } := ⟨hec, ok.p, ok.C, ok.E⟩
  refine until_end (t.trans (took_chunk hoe)) ok' hb (all_add ha hec went) fun c l h => ?_
  have h2 := rem_head (st := { st' with o := e, tc := tc }) (by show e < st'.C.length; omega) h
  rw [h2]; exact hm
theorem take_C {n : Nat} {R : Str} {bufV : Value} {errs : Array Value} {ta tb tc t4 t5 t7 ne : Nat} (t : Took S st acc st') (ok : StOk S st') (hb : BufIs st'.bufV st'.b) (hS : S.length ≤ 10000) (ha : ∀ c ∈ acc, goes c = true) (hoe : st'.o ≤ e) (hec : (e : Int) = st'.C.length) (went : Went goes st'.C st'.o e) (hn : 2 ≤ n)
    (hR : R.cps.toList = norm (cut13 (rcIn st'.b S st'.p n)).1)
    (hE : errs.size = st'.errs.size + badCount (cut13 (rcIn st'.b S st'.p n)).1) (hB : Bads st'.errs → Bads errs) :
    Took S st (acc ++ st'.C.cps.toList.drop st'.o) (nextSt S n st' R bufV errs ta tb tc t4 t5 t7 ne) ∧ StOk S (nextSt S n st' R bufV errs ta tb tc t4 t5 t7 ne) ∧ (∀ c ∈ acc ++ st'.C.cps.toList.drop st'.o, goes c = true) ∧
      (rcIn st'.b S st'.p n ≠ [] → (rawOf S (nextSt S n st' R bufV errs ta tb tc t4 t5 t7 ne)).length < (rawOf S st').length) := by
  have he : e = st'.C.length := by omega
  have hl : st'.C.cps.toList.length = st'.C.length := rfl
  have e1 : (st'.C.cps.toList.drop st'.o).take (e - st'.o) = st'.C.cps.toList.drop st'.o := List.take_of_length_le (by rw [List.length_drop, hl]; omega)
  have tk := took_chunk (S := S) (st := st') (e := e) (tc := 0) hoe
  rw [e1] at tk
  have hall := all_add ha (by omega) went
  rw [e1] at hall
  have rc : RcNext S n { st' with o := e, tc := 0 } (nextSt S n st' R bufV errs ta tb tc t4 t5 t7 ne) := next_rc (st := { st' with o := e, tc := 0 }) hR hE hB
  have rc' : RcNext S n st' (nextSt S n st' R bufV errs ta tb tc t4 t5 t7 ne) := next_rc hR hE hB
  have tn := took_next rc hn ok.p he
  have t2 := (t.trans tk).trans tn
  rw [List.append_nil] at t2
  exact ⟨t2, ok_next rc' ok hS (buf_len hb), hall, fun h => fall_next rc' ok.p h⟩
theorem until_C {n : Nat} {r R : Str} {bufV : Value} {errs : Array Value} {ta tb tc t4 t5 t7 ne : Nat} (t : Took S st acc st') (ok : StOk S st') (hb : BufIs st'.bufV st'.b) (hS : S.length ≤ 10000) (ha : ∀ c ∈ acc, goes c = true) (hoe : st'.o ≤ e) (hec : (e : Int) = st'.C.length) (went : Went goes st'.C st'.o e) (hn : 2 ≤ n)
    (hR : R.cps.toList = norm (cut13 (rcIn st'.b S st'.p n)).1)
    (hE : errs.size = st'.errs.size + badCount (cut13 (rcIn st'.b S st'.p n)).1) (hB : Bads st'.errs → Bads errs) (hb2 : BufIs bufV (cut13 (rcIn st'.b S st'.p n)).2) (hD : rcIn st'.b S st'.p n = []) (hr : r.cps.toList = acc ++ st'.C.cps.toList.drop st'.o) :
    UntilR S st goes r.cps.toList (nextSt S n st' R bufV errs ta tb tc t4 t5 t7 ne) := by
  rw [hr]
  obtain ⟨h1, h2, h3, _⟩ := take_C (bufV := bufV) (ta := ta) (tb := tb) (tc := tc) (t4 := t4) (t5 := t5) (t7 := t7) (ne := ne) t ok hb hS ha hoe hec went hn hR hE hB
  refine until_end h1 h2 hb2 h3 fun c l h => ?_
  exfalso
  have rc' : RcNext S n st' (nextSt S n st' R bufV errs ta tb tc t4 t5 t7 ne) := next_rc hR hE hB
  have hs := raw_split rc' ok.p
  rw [raw_empty (by omega) hD] at hs
  have h4 := (List.append_eq_nil_iff.mp hs.symm).2
  have h5 := (List.append_eq_nil_iff.mp hs.symm).1
  unfold remOf at h
  rw [h4] at h
  have h6 : (nextSt S n st' R bufV errs ta tb tc t4 t5 t7 ne).C.cps.toList = [] := by
    rw [rc'.C, h5]; rfl
  rw [h6, List.drop_nil] at h
  cases h
end
section
variable {prog : Program} {w : World} {A : Around} {s : Shared} {E : Value → Shared → Prop} {Q : Value → Shared → Prop}
theorem join_pieces {its : Array Value} {acc : List Nat} {nr t : Nat} {rv : Addr} {h₀ : Heap} {L : Addr} {news : Ledger} (N : News h₀ L s.heap news) (hm : (rv, listOf its nr) ∈ news) (hp : Pieces its acc) (hw : acc.length + its.size ≤ 1048576)
    (h : ∀ r t' k, r.cps.toList = acc → Q (.str r t') { s with toks := k }) : wpAny (model prog w) A (call (.builtin "str.join") [.str (Str.ofString "") t, .ref rv]) Q E s := by
  obtain ⟨ys, h1, h2, h3, h4⟩ := hp.at_
  exact join_listW (ys := ys) ⟨_, (N _ hm).1, rfl, _, rfl⟩ h1 (by decide) (by omega) fun t' k => h _ t' k (by show (Builtin.Str.glued _ _).cps.toList = _; rw [StrLaws.glued_eq_join]; exact h2)
theorem dis_rv {p : Addr × Obj} {Ob E : Ledger} {adr : List Addr} (h : OwnOff Ob adr) (hr : ∀ a ∈ adr, a ≠ p.1) (hs : ∀ r ∈ E, r.1 ∈ adr) : ∀ q ∈ [p] ++ Ob, ∀ r ∈ E, r.1 ≠ q.1 := by
  intro q hq r hre
  rcases List.mem_append.mp hq with hq | hq
  · have : q = p := by simpa using hq
    subst this
    exact hr _ (hs r hre)
  · exact (h q hq r.1 (hs r hre)).symm
theorem size_push_le {its : Array Value} {v : Value} {nm len k : Nat} (hsz : its.size + nm ≤ 20000) (hnm : nm = k) (h : len < k) : (its.push v).size + len ≤ 20000 := by
  rw [Array.size_push]; omega
theorem pieces_size {its : Array Value} {v : Value} : (its.push v).size = its.size + 1 := Array.size_push ..
end
section
/-- the stream's part of the ledger -/
noncomputable abbrev LS (w : World) (kt : Nat → Nat) (x d q nl td tx er : Nat) (S : Str) (t6 : Nat) (dcs : Value) (st : StS) : Ledger :=
  SX w kt x d q nl tx er (.str st.C st.ta) (.int st.C.length st.tb) (.int (st.o : Int) st.tc) (.int st.pl st.t4) (.int st.pc st.t5) st.bufV dcs st.errs st.ne ++ TL w kt tx td (.str S t6) (.int ((st.p : Nat) : Int) st.t7)
/-- «a sign in chars», wherever Ob stands -/
noncomputable def InTest (w : World) (chars : Value) (mem : Nat → Bool) (Ob : Ledger) : Prop :=
  ∀ (A : Around) (E : Value → Shared → Prop) (s : Shared) (X : Str) (c t : Nat) (Q : Value → Shared → Prop), X = ⟨#[c]⟩ → (∀ p ∈ Ob, s.heap.get? p.1 = some p.2) → (∀ tk, Q (.bool (mem c)) { s with toks := tk }) →
    wpAny (model PySem.Challenge.rw_te0024_02.row.prog w) A (compareOp .In (.str X t) chars) Q E s
theorem item_nat (x : Str) {e : Nat} (h : e < x.length) : Txt.item x (e : Int) = ⟨#[x.cps.toList.getD e 0]⟩ := by
  have hx : e < x.cps.size := h
  have h2 : e < x.cps.toList.length := h
  unfold Txt.item Txt.charAt
  rw [StrLaws.at_nonneg (n := x.cps[e]) (by omega) (by simpa using Array.getElem?_eq_getElem hx)]
  rw [List.getD_eq_getElem?_getD, List.getElem?_eq_getElem h2]
  simp
theorem fr_opq5 {h₀ h : Heap} {L : Addr} {m : Str → Option Value} {b0 b1 b2 b3 b4 : Value} (z0 z1 z2 z3 z4 : Str) (F : Fr h₀ L h m) (h0 : m z0 = some b0) (h1 : m z1 = some b1) (h2 : m z2 = some b2) (h3 : m z3 = some b3) (h4 : m z4 = some b4) :
    ∃ m', Fr h₀ L h m' ∧ m' z0 = some b0 ∧ m' z1 = some b1 ∧ m' z2 = some b2 ∧ m' z3 = some b3 ∧ m' z4 = some b4 := ⟨m, F, h0, h1, h2, h3, h4⟩
theorem fr_opq4 {h₀ h : Heap} {L : Addr} {m : Str → Option Value} {b1 b2 b3 b4 : Value} (z1 z2 z3 z4 : Str) (F : Fr h₀ L h m) (h1 : m z1 = some b1) (h2 : m z2 = some b2) (h3 : m z3 = some b3) (h4 : m z4 = some b4) :
    ∃ m', Fr h₀ L h m' ∧ m' z1 = some b1 ∧ m' z2 = some b2 ∧ m' z3 = some b3 ∧ m' z4 = some b4 := ⟨m, F, h1, h2, h3, h4⟩
theorem until_rv {er q x d tx td rv : Nat} {P : Prop} (l : er < rv ∧ q < rv ∧ x < rv ∧ d < rv ∧ tx < rv ∧ td < rv ∧ P) : ∀ a ∈ [er, q, x, d, tx, td], a ≠ rv := by
  obtain ⟨a1, a2, a3, a4, a5, a6, _⟩ := l
  intro a ha
  simp only [List.mem_cons, List.not_mem_nil, or_false] at ha
  rcases ha with rfl | rfl | rfl | rfl | rfl | rfl <;> exact Nat.ne_of_lt (by assumption)
theorem raw_len {S : Str} {st : StS} (hS : S.length ≤ 10000) (hb : BufIs st.bufV st.b) : (#[] : Array Value).size + (rawOf S st).length ≤ 20000 := by
  have := buf_len hb
  have hl : S.cps.toList.length = S.length := rfl
  unfold rawOf
  rw [List.length_append, List.length_drop]
  show 0 + _ ≤ _
  omega
/-- charsUntil's body, whatever opposite is -/
noncomputable def UntilMid (w : World) (body : List Stmt) (qual : Str) (scope : Scope) (cdv : Value) : Prop :=
  ∀ (kt : Nat → Nat) (x d q nl td tx er : Nat) (_ : d < x ∧ x < q ∧ q < td ∧ td < tx ∧ tx < er) (S : Str) (_ : S.length ≤ 10000) (_ : noSur S.cps.toList) (chars : Value) (mem : Nat → Bool) (ob : Bool) (Ob : Ledger) (_ : InTest w chars mem Ob) (_ : OwnOff Ob [er, q, x, d, tx, td])
    (st : StS) (_ : StOk S st) (_ : BufIs st.bufV st.b) (t6 : Nat)
    (n t1 : Nat) (_ : 2 ≤ n) (_ : n ≤ 20000)
    (m : Str → Option Value) (_ : m (Str.ofString "self") = some (.ref x)) (_ : m (Str.ofString "characters") = some chars) (_ : m (Str.ofString "opposite") = some (.bool ob))
    (dp un : Nat) (gd : Option (List Code)) (outer : List Env) (A₀ : Around) (base h₀ : Heap) (L : Addr) (s : Shared) (Q : Flow → Shared → Prop) (Er : Value → Shared → Prop)
    (loose : List Str) (mean : ExcName → Option Value) (mg mb : Str → Option Value)
    (_ : Below A₀ base outer h₀) (_ : Fr h₀ L s.heap m) (_ : (hd.heap_39 w.params).In h₀) (_ : News h₀ L s.heap (LS w kt x d q nl td tx er S t6 (.int (n : Int) t1) st ++ Ob)) (_ : Top hd.view_39 loose mean mg mb h₀)
    (_ : dp + 4 * 4 < recursionLimit) (_ : un + 40 * 4 < cLine)
    (_ : ∀ (h' : Heap) (tk' : Nat) (m' : Str → Option Value) (r : Str) (t : Nat) (st' : StS), Fr h₀ L h' m' → News h₀ L h' (LS w kt x d q nl td tx er S t6 (.int (n : Int) t1) st' ++ Ob) → UntilR S st (fun c => mem c == ob) r.cps.toList st' → Q (.ret (.str r t)) { s with heap := h', toks := tk' }),
    wpAny (model PySem.Challenge.rw_te0024_02.row.prog w) (ktrTop dp un gd qual scope L 121 cdv [] outer) (execs body (envOf qual scope L 121 cdv)) Q Er s
set_option maxRecDepth 100000 in
set_option maxHeartbeats 8000000 in
theorem until_mid (w : World) {oc od osl} {name qual : Str} {params : Arguments} {body : List Stmt} {scope : Scope} {dV kV doc pm cdv ct : Value} {an : Option Addr} :
    (hd.heap_39 w.params).lookup 121 = some ⟨oc, od, .func (fnOf name qual params body scope dV kV doc pm an cdv ct), osl⟩ → UntilMid w body qual scope cdv := by
  unfold UntilMid
  k_fill
  show _ → UntilMid w body qual scope cdv
  intro ho
  obtain ⟨rfl, rfl, rfl, rfl⟩ := fn_parts ho (show (hd.heap_39 w.params).lookup 121 = some _ by k_is)
  unfold UntilMid
  intro kt x d q nl td tx er hord S hS hsur chars mem ob Ob hin hOb st hst hb t6 n t1 hn hn' m hm1 hm2 hm3 dp un gd outer A₀ base h₀ L s Q Er loose mean mg mb B F KX N TT hroom hun hret
  clear ho
  refine' ex_0_15 (ord6 hord) ?_; intro g1 g2 g3 g4 g5 g6 g7 g8 g9 g10 g11 g12 g13 g14 g15
  have F0 : Fr h₀ L s.heap _ := fr_know3 hm1 hm2 hm3 F
  clear F
  refine wpAny_noRaise ?_
  have N0 : News h₀ L s.heap _ := N
  simp only [LS, TL, SX, ent, List.cons_append, List.nil_append] at N0
  clear N
  w_on
  w_top on
  w_strict ((repeat' (first | with_reducible ((first | (show wpAny _ _ (exec (Stmt.While _ _ _ _) _) _ _ _) | (show wpAny _ _ (call (Value.builtin "str.join") _) _ _ _)); refine stopAt_ ?_) | with_reducible ((show wpAny _ _ (execs (_ :: _) _) _ _ _); (k_here; (first | (with_reducible show wpAny _ _ (execs [Stmt.If _ _ _ _, _, _] _) _ _ _) | (with_reducible show wpAny _ _ (execs [Stmt.While _ _ _ _, _, _] _) _ _ _) | (with_reducible show wpAny _ _ (execs [Stmt.While _ _ _ _, _, _, _] _) _ _ _)); refine stopAt_ ?_)) | with_reducible ((show wpAny _ _ (call (Value.ref _) _) _ _ _); (k_here; (with_reducible show wpAny _ _ (call (Value.ref 106) _) _ _ _); refine stopAt_ ?_)) | with_reducible ((show wpAny _ _ (compareOp CmpOp.In (Value.str _ _) _) _ _ _); (k_here; (with_reducible rename InTest _ _ _ _ => ziT); k_dflt (refine' ziT _ _ _ _ _ _ _ ?zhX ?zhO ?_; (case zhX => (refine' item_nat _ ?_; omega)); (case zhO => ((intro zp9 zhp9; (with_reducible rename News _ _ _ (_ :: _) => zkN); refine (zkN zp9 ?_).1; (repeat (first | exact zhp9 | refine List.mem_cons_of_mem _ ?_))))); intro _; (try dsimp only)))) | with_reducible ((show wpAny _ _ (getMethod (Value.ref _) _ _) _ _ _); (k_here; (with_reducible show wpAny _ _ (getMethod (Value.ref _) (PySem.Str.ofString "reportCharacterErrors") _) _ _ _); k_dflt (refine' kmu_own ?zk1 ?zk2 ?zk3 ?zk4 ?zk5 ?_; (case zk1 => k_asm); (case zk2 => k_asm); (case zk3 => k_inst); (case zk4 => k_is); (case zk5 => k_is); k_whole))) | with_reducible ((show wpAny _ _ (execs (_ :: _) _) _ _ _); (k_here; (with_reducible show wpAny _ _ _ _ _ (Shared.mk _ _ _ (_ + _) _)); k_dflt (refine' gen_toks ?zp ?_; (case zp => ((try dsimp only); exact Nat.succ_pos _)); intro _ _))) | with_reducible ((show wpAny _ _ (isTrue (Expr.Compare _ _ _ _) _ _) _ _ _); (k_here; k_dflt (refine' isTrue_ll ?zF ?zv ?_ ?zk ?zl; (case zF => k_asm); (case zv => rfl); (case zk => rfl); (case zl => rfl); k_whole; intro _; (try dsimp only)))) | with_reducible ((show wpAny _ _ (call (Value.builtin "str.replace") _) _ _ _); k_dflt (first | (refine' call_replace_crlf ?zl ?zu ?zv ?zn ?_; (case zl => (omega)); (case zu => k_ne); (case zv => k_ne); (case zn => k_ne); intro _ _ _ _ _; (try dsimp only)) | (refine' call_replace_cr ?zl ?zu ?zv ?zn ?_; (case zl => (omega)); (case zu => k_ne); (case zv => k_ne); (case zn => k_ne); intro _ _ _ _ _; (try dsimp only)))) | with_reducible ((show wpAny _ _ (call (Value.builtin "str.rfind") _) _ _ _); (refine call_rfind4 ?_; (try dsimp only))) | with_reducible ((show wpAny _ _ (call (Value.builtin "str.count") _) _ _ _); (refine call_count4 ?_; (try dsimp only))) | with_reducible ((show wpAny _ _ (truthy (Value.ref _)) _ _ _); (k_here; (refine' truthy_meth ?zN ?zm ?_; (case zN => k_asm); (case zm => k_mem); k_whole; (try dsimp only)))) | (k_unfold; (try dsimp only)) | walk1 | (dsimp only; walk1) | (dsimp only [List.nil_append, List.cons_append]; walk1) | (k_end; dsimp only; k_unfold; (try dsimp only)) | (leave1; (try dsimp only)) | ((with_reducible show wpAny _ _ (call (Value.builtin "str.count") _) _ _ _); (refine call_count4 ?_; (try dsimp only))) | ((with_reducible show wpAny _ _ (call (Value.builtin "str.replace") _) _ _ _); k_dflt (first | (refine' call_replace_crlf ?zl ?zu ?zv ?zn ?_; (case zl => (omega)); (case zu => k_ne); (case zv => k_ne); (case zn => k_ne); intro _ _ _ _ _; (try dsimp only)) | (refine' call_replace_cr ?zl ?zu ?zv ?zn ?_; (case zl => (omega)); (case zu => k_ne); (case zv => k_ne); (case zn => k_ne); intro _ _ _ _ _; (try dsimp only)))) | ((with_reducible show wpAny _ _ (call (Value.builtin "str.rfind") _) _ _ _); (refine call_rfind4 ?_; (try dsimp only))) | ((with_reducible show wpAny _ _ (getMethod (Value.ref _) _ _) _ _ _); (k_here; (with_reducible show wpAny _ _ (getMethod (Value.ref _) (PySem.Str.ofString "reportCharacterErrors") _) _ _ _); k_dflt (refine' kmu_own ?zk1 ?zk2 ?zk3 ?zk4 ?zk5 ?_; (case zk1 => k_asm); (case zk2 => k_asm); (case zk3 => k_inst); (case zk4 => k_is); (case zk5 => k_is); k_whole))) | ((with_reducible show wpAny _ _ (isTrue (Expr.Compare _ _ _ _) _ _) _ _ _); (k_here; k_dflt (refine' isTrue_ll ?zF ?zv ?_ ?zk ?zl; (case zF => k_asm); (case zv => rfl); (case zk => rfl); (case zl => rfl); k_whole; intro _; (try dsimp only)))) | ((with_reducible show wpAny _ _ (truthy (Value.ref _)) _ _ _); (k_here; (refine' truthy_meth ?zN ?zm ?_; (case zN => k_asm); (case zm => k_mem); k_whole; (try dsimp only)))))))
  rename_i rv hh1 l1 hh2 F1 N1
  unfold StopAt
  have hrv : ∀ a ∈ [er, q, x, d, tx, td], a ≠ rv := until_rv l1
  (try clear F0); (try clear N0)
  refine' ex_1_5 (fr_opq4 (Str.ofString "self") (Str.ofString "characters") (Str.ofString "opposite") (Str.ofString "rv") F1 rfl rfl rfl rfl) ?_; intro m1 F2 k1 k2 k3 k4
  clear F1
  refine' execs_join (fun s' => ∃ (h' : Heap) (tk : Nat) (m' : Str → Option Value) (st' : StS) (its : Array Value) (acc : List Nat) (nr : Nat), s' = ⟨h', s.gens, s.drawn, tk, s.os⟩ ∧ Fr h₀ L h' m' ∧ m' (Str.ofString "rv") = some (.ref rv) ∧
    News h₀ L h' ((rv, listOf its nr) :: (LS w kt x d q nl td tx er S t6 (.int (n : Int) t1) st' ++ Ob)) ∧ Pieces its acc ∧ acc.length + its.size ≤ 1048576 ∧ UntilR S st (fun c => mem c == ob) acc st') ?out ?loop
  case out =>
    intro s' hJ
    refine' ex_7_7 (hJ) ?_; intro h' tk m' st' its acc nr r97 F3 e1 N3 hp hsz u; (try clear hJ); subst r97
    have F4 : Fr h₀ L h' _ := fr_know1 e1 F3
    have N4 : News h₀ L h' _ := N3
    clear F2 F3 N1 N3
    w_strict ((repeat' (first | with_reducible ((first | (show wpAny _ _ (exec (Stmt.While _ _ _ _) _) _ _ _) | (show wpAny _ _ (call (Value.builtin "str.join") _) _ _ _)); refine stopAt_ ?_) | with_reducible ((show wpAny _ _ (execs (_ :: _) _) _ _ _); (k_here; (first | (with_reducible show wpAny _ _ (execs [Stmt.If _ _ _ _, _, _] _) _ _ _) | (with_reducible show wpAny _ _ (execs [Stmt.While _ _ _ _, _, _] _) _ _ _) | (with_reducible show wpAny _ _ (execs [Stmt.While _ _ _ _, _, _, _] _) _ _ _)); refine stopAt_ ?_)) | with_reducible ((show wpAny _ _ (call (Value.ref _) _) _ _ _); (k_here; (with_reducible show wpAny _ _ (call (Value.ref 106) _) _ _ _); refine stopAt_ ?_)) | with_reducible ((show wpAny _ _ (compareOp CmpOp.In (Value.str _ _) _) _ _ _); (k_here; (with_reducible rename InTest _ _ _ _ => ziT); k_dflt (refine' ziT _ _ _ _ _ _ _ ?zhX ?zhO ?_; (case zhX => (refine' item_nat _ ?_; omega)); (case zhO => ((intro zp9 zhp9; (with_reducible rename News _ _ _ (_ :: _) => zkN); refine (zkN zp9 ?_).1; (repeat (first | exact zhp9 | refine List.mem_cons_of_mem _ ?_))))); intro _; (try dsimp only)))) | with_reducible ((show wpAny _ _ (getMethod (Value.ref _) _ _) _ _ _); (k_here; (with_reducible show wpAny _ _ (getMethod (Value.ref _) (PySem.Str.ofString "reportCharacterErrors") _) _ _ _); k_dflt (refine' kmu_own ?zk1 ?zk2 ?zk3 ?zk4 ?zk5 ?_; (case zk1 => k_asm); (case zk2 => k_asm); (case zk3 => k_inst); (case zk4 => k_is); (case zk5 => k_is); k_whole))) | with_reducible ((show wpAny _ _ (execs (_ :: _) _) _ _ _); (k_here; (with_reducible show wpAny _ _ _ _ _ (Shared.mk _ _ _ (_ + _) _)); k_dflt (refine' gen_toks ?zp ?_; (case zp => ((try dsimp only); exact Nat.succ_pos _)); intro _ _))) | with_reducible ((show wpAny _ _ (isTrue (Expr.Compare _ _ _ _) _ _) _ _ _); (k_here; k_dflt (refine' isTrue_ll ?zF ?zv ?_ ?zk ?zl; (case zF => k_asm); (case zv => rfl); (case zk => rfl); (case zl => rfl); k_whole; intro _; (try dsimp only)))) | with_reducible ((show wpAny _ _ (call (Value.builtin "str.replace") _) _ _ _); k_dflt (first | (refine' call_replace_crlf ?zl ?zu ?zv ?zn ?_; (case zl => (omega)); (case zu => k_ne); (case zv => k_ne); (case zn => k_ne); intro _ _ _ _ _; (try dsimp only)) | (refine' call_replace_cr ?zl ?zu ?zv ?zn ?_; (case zl => (omega)); (case zu => k_ne); (case zv => k_ne); (case zn => k_ne); intro _ _ _ _ _; (try dsimp only)))) | with_reducible ((show wpAny _ _ (call (Value.builtin "str.rfind") _) _ _ _); (refine call_rfind4 ?_; (try dsimp only))) | with_reducible ((show wpAny _ _ (call (Value.builtin "str.count") _) _ _ _); (refine call_count4 ?_; (try dsimp only))) | with_reducible ((show wpAny _ _ (truthy (Value.ref _)) _ _ _); (k_here; (refine' truthy_meth ?zN ?zm ?_; (case zN => k_asm); (case zm => k_mem); k_whole; (try dsimp only)))) | (k_unfold; (try dsimp only)) | walk1 | (dsimp only; walk1) | (dsimp only [List.nil_append, List.cons_append]; walk1) | (k_end; dsimp only; k_unfold; (try dsimp only)) | (leave1; (try dsimp only)) | ((with_reducible show wpAny _ _ (call (Value.builtin "str.count") _) _ _ _); (refine call_count4 ?_; (try dsimp only))) | ((with_reducible show wpAny _ _ (call (Value.builtin "str.replace") _) _ _ _); k_dflt (first | (refine' call_replace_crlf ?zl ?zu ?zv ?zn ?_; (case zl => (omega)); (case zu => k_ne); (case zv => k_ne); (case zn => k_ne); intro _ _ _ _ _; (try dsimp only)) | (refine' call_replace_cr ?zl ?zu ?zv ?zn ?_; (case zl => (omega)); (case zu => k_ne); (case zv => k_ne); (case zn => k_ne); intro _ _ _ _ _; (try dsimp only)))) | ((with_reducible show wpAny _ _ (call (Value.builtin "str.rfind") _) _ _ _); (refine call_rfind4 ?_; (try dsimp only))) | ((with_reducible show wpAny _ _ (getMethod (Value.ref _) _ _) _ _ _); (k_here; (with_reducible show wpAny _ _ (getMethod (Value.ref _) (PySem.Str.ofString "reportCharacterErrors") _) _ _ _); k_dflt (refine' kmu_own ?zk1 ?zk2 ?zk3 ?zk4 ?zk5 ?_; (case zk1 => k_asm); (case zk2 => k_asm); (case zk3 => k_inst); (case zk4 => k_is); (case zk5 => k_is); k_whole))) | ((with_reducible show wpAny _ _ (isTrue (Expr.Compare _ _ _ _) _ _) _ _ _); (k_here; k_dflt (refine' isTrue_ll ?zF ?zv ?_ ?zk ?zl; (case zF => k_asm); (case zv => rfl); (case zk => rfl); (case zl => rfl); k_whole; intro _; (try dsimp only)))) | ((with_reducible show wpAny _ _ (truthy (Value.ref _)) _ _ _); (k_here; (refine' truthy_meth ?zN ?zm ?_; (case zN => k_asm); (case zm => k_mem); k_whole; (try dsimp only)))))))
    unfold StopAt
    k_dflt (refine' join_pieces ?jN ?jm hp hsz ?_)
    case jN => exact N4
    case jm => exact List.Mem.head _
    intro r9 t9 k9 hr9
    (try dsimp only)
    w_strict ((repeat' (first | with_reducible ((first | (show wpAny _ _ (exec (Stmt.While _ _ _ _) _) _ _ _) | (show wpAny _ _ (call (Value.builtin "str.join") _) _ _ _)); refine stopAt_ ?_) | with_reducible ((show wpAny _ _ (execs (_ :: _) _) _ _ _); (k_here; (first | (with_reducible show wpAny _ _ (execs [Stmt.If _ _ _ _, _, _] _) _ _ _) | (with_reducible show wpAny _ _ (execs [Stmt.While _ _ _ _, _, _] _) _ _ _) | (with_reducible show wpAny _ _ (execs [Stmt.While _ _ _ _, _, _, _] _) _ _ _)); refine stopAt_ ?_)) | with_reducible ((show wpAny _ _ (call (Value.ref _) _) _ _ _); (k_here; (with_reducible show wpAny _ _ (call (Value.ref 106) _) _ _ _); refine stopAt_ ?_)) | with_reducible ((show wpAny _ _ (compareOp CmpOp.In (Value.str _ _) _) _ _ _); (k_here; (with_reducible rename InTest _ _ _ _ => ziT); k_dflt (refine' ziT _ _ _ _ _ _ _ ?zhX ?zhO ?_; (case zhX => (refine' item_nat _ ?_; omega)); (case zhO => ((intro zp9 zhp9; (with_reducible rename News _ _ _ (_ :: _) => zkN); refine (zkN zp9 ?_).1; (repeat (first | exact zhp9 | refine List.mem_cons_of_mem _ ?_))))); intro _; (try dsimp only)))) | with_reducible ((show wpAny _ _ (getMethod (Value.ref _) _ _) _ _ _); (k_here; (with_reducible show wpAny _ _ (getMethod (Value.ref _) (PySem.Str.ofString "reportCharacterErrors") _) _ _ _); k_dflt (refine' kmu_own ?zk1 ?zk2 ?zk3 ?zk4 ?zk5 ?_; (case zk1 => k_asm); (case zk2 => k_asm); (case zk3 => k_inst); (case zk4 => k_is); (case zk5 => k_is); k_whole))) | with_reducible ((show wpAny _ _ (execs (_ :: _) _) _ _ _); (k_here; (with_reducible show wpAny _ _ _ _ _ (Shared.mk _ _ _ (_ + _) _)); k_dflt (refine' gen_toks ?zp ?_; (case zp => ((try dsimp only); exact Nat.succ_pos _)); intro _ _))) | with_reducible ((show wpAny _ _ (isTrue (Expr.Compare _ _ _ _) _ _) _ _ _); (k_here; k_dflt (refine' isTrue_ll ?zF ?zv ?_ ?zk ?zl; (case zF => k_asm); (case zv => rfl); (case zk => rfl); (case zl => rfl); k_whole; intro _; (try dsimp only)))) | with_reducible ((show wpAny _ _ (call (Value.builtin "str.replace") _) _ _ _); k_dflt (first | (refine' call_replace_crlf ?zl ?zu ?zv ?zn ?_; (case zl => (omega)); (case zu => k_ne); (case zv => k_ne); (case zn => k_ne); intro _ _ _ _ _; (try dsimp only)) | (refine' call_replace_cr ?zl ?zu ?zv ?zn ?_; (case zl => (omega)); (case zu => k_ne); (case zv => k_ne); (case zn => k_ne); intro _ _ _ _ _; (try dsimp only)))) | with_reducible ((show wpAny _ _ (call (Value.builtin "str.rfind") _) _ _ _); (refine call_rfind4 ?_; (try dsimp only))) | with_reducible ((show wpAny _ _ (call (Value.builtin "str.count") _) _ _ _); (refine call_count4 ?_; (try dsimp only))) | with_reducible ((show wpAny _ _ (truthy (Value.ref _)) _ _ _); (k_here; (refine' truthy_meth ?zN ?zm ?_; (case zN => k_asm); (case zm => k_mem); k_whole; (try dsimp only)))) | (k_unfold; (try dsimp only)) | walk1 | (dsimp only; walk1) | (dsimp only [List.nil_append, List.cons_append]; walk1) | (k_end; dsimp only; k_unfold; (try dsimp only)) | (leave1; (try dsimp only)) | ((with_reducible show wpAny _ _ (call (Value.builtin "str.count") _) _ _ _); (refine call_count4 ?_; (try dsimp only))) | ((with_reducible show wpAny _ _ (call (Value.builtin "str.replace") _) _ _ _); k_dflt (first | (refine' call_replace_crlf ?zl ?zu ?zv ?zn ?_; (case zl => (omega)); (case zu => k_ne); (case zv => k_ne); (case zn => k_ne); intro _ _ _ _ _; (try dsimp only)) | (refine' call_replace_cr ?zl ?zu ?zv ?zn ?_; (case zl => (omega)); (case zu => k_ne); (case zv => k_ne); (case zn => k_ne); intro _ _ _ _ _; (try dsimp only)))) | ((with_reducible show wpAny _ _ (call (Value.builtin "str.rfind") _) _ _ _); (refine call_rfind4 ?_; (try dsimp only))) | ((with_reducible show wpAny _ _ (getMethod (Value.ref _) _ _) _ _ _); (k_here; (with_reducible show wpAny _ _ (getMethod (Value.ref _) (PySem.Str.ofString "reportCharacterErrors") _) _ _ _); k_dflt (refine' kmu_own ?zk1 ?zk2 ?zk3 ?zk4 ?zk5 ?_; (case zk1 => k_asm); (case zk2 => k_asm); (case zk3 => k_inst); (case zk4 => k_is); (case zk5 => k_is); k_whole))) | ((with_reducible show wpAny _ _ (isTrue (Expr.Compare _ _ _ _) _ _) _ _ _); (k_here; k_dflt (refine' isTrue_ll ?zF ?zv ?_ ?zk ?zl; (case zF => k_asm); (case zv => rfl); (case zk => rfl); (case zl => rfl); k_whole; intro _; (try dsimp only)))) | ((with_reducible show wpAny _ _ (truthy (Value.ref _)) _ _ _); (k_here; (refine' truthy_meth ?zN ?zm ?_; (case zN => k_asm); (case zm => k_mem); k_whole; (try dsimp only)))))))
    (with_reducible rename News _ _ _ (_ :: _) => N9)
    (with_reducible rename Fr _ _ _ _ => F9)
    refine' hret _ _ _ _ _ st' F9 (fun p hp => N9 p (List.mem_cons_of_mem _ hp)) ?_
    rw [hr9]; exact u
  case loop =>
    intro JO hJO
    refine' while_gen (fun nm s' => ∃ (h' : Heap) (tk : Nat) (m' : Str → Option Value) (st' : StS) (its : Array Value) (acc : List Nat) (nr : Nat), s' = ⟨h', s.gens, s.drawn, tk, s.os⟩ ∧ Fr h₀ L h' m' ∧
      m' (Str.ofString "self") = some (.ref x) ∧ m' (Str.ofString "characters") = some chars ∧ m' (Str.ofString "opposite") = some (.bool ob) ∧ m' (Str.ofString "rv") = some (.ref rv) ∧
      News h₀ L h' ((rv, listOf its nr) :: (LS w kt x d q nl td tx er S t6 (.int (n : Int) t1) st' ++ Ob)) ∧ BufIs st'.bufV st'.b ∧ StOk S st' ∧ Took S st acc st' ∧ (∀ c ∈ acc, (mem c == ob) = true) ∧ Pieces its acc ∧ its.size + nm ≤ 20000 ∧ nm = (rawOf S st').length) ?turn (rawOf S st).length ?init
    case init => exact ⟨_, _, _, st, #[], [], 0, rfl, F2, k1, k2, k3, k4, by simp only [LS, TL, SX, ent, List.cons_append, List.nil_append]; exact N1, hb, hst, .refl, fun _ h => absurd h List.not_mem_nil, .nil, raw_len hS hb, rfl⟩
    intro nm s' JJ hJJ hJ
    refine' ex_7_14 (hJ) ?_; intro h' tk m' st' its acc nr r97 F3 e1 e2 e3 e4 N3 hb' ok took hacc hp hsz hnm; (try clear hJ); subst r97
    have F4 := fr_know4 e1 e2 e3 e4 F3
    clear F3 F2 N1
    have okC := ok.C
    have okE := ok_errs ok
    have hal := took_len took hst hb hS
    have hits : its.size ≤ 20000 := by omega
    have hcl : st'.C.cps.toList.length = st'.C.length := rfl
    have okp := ok.p
    have oko := ok.o
    simp only [LS, TL, SX, ent, List.cons_append, List.nil_append] at N3
    w_strict ((repeat' (first | with_reducible ((first | (show wpAny _ _ (exec (Stmt.While _ _ _ _) _) _ _ _) | (show wpAny _ _ (call (Value.builtin "str.join") _) _ _ _)); refine stopAt_ ?_) | with_reducible ((show wpAny _ _ (execs (_ :: _) _) _ _ _); (k_here; (first | (with_reducible show wpAny _ _ (execs [Stmt.If _ _ _ _, _, _] _) _ _ _) | (with_reducible show wpAny _ _ (execs [Stmt.While _ _ _ _, _, _] _) _ _ _) | (with_reducible show wpAny _ _ (execs [Stmt.While _ _ _ _, _, _, _] _) _ _ _)); refine stopAt_ ?_)) | with_reducible ((show wpAny _ _ (call (Value.ref _) _) _ _ _); (k_here; (with_reducible show wpAny _ _ (call (Value.ref 106) _) _ _ _); refine stopAt_ ?_)) | with_reducible ((show wpAny _ _ (compareOp CmpOp.In (Value.str _ _) _) _ _ _); (k_here; (with_reducible rename InTest _ _ _ _ => ziT); k_dflt (refine' ziT _ _ _ _ _ _ _ ?zhX ?zhO ?_; (case zhX => (refine' item_nat _ ?_; omega)); (case zhO => ((intro zp9 zhp9; (with_reducible rename News _ _ _ (_ :: _) => zkN); refine (zkN zp9 ?_).1; (repeat (first | exact zhp9 | refine List.mem_cons_of_mem _ ?_))))); intro _; (try dsimp only)))) | with_reducible ((show wpAny _ _ (getMethod (Value.ref _) _ _) _ _ _); (k_here; (with_reducible show wpAny _ _ (getMethod (Value.ref _) (PySem.Str.ofString "reportCharacterErrors") _) _ _ _); k_dflt (refine' kmu_own ?zk1 ?zk2 ?zk3 ?zk4 ?zk5 ?_; (case zk1 => k_asm); (case zk2 => k_asm); (case zk3 => k_inst); (case zk4 => k_is); (case zk5 => k_is); k_whole))) | with_reducible ((show wpAny _ _ (execs (_ :: _) _) _ _ _); (k_here; (with_reducible show wpAny _ _ _ _ _ (Shared.mk _ _ _ (_ + _) _)); k_dflt (refine' gen_toks ?zp ?_; (case zp => ((try dsimp only); exact Nat.succ_pos _)); intro _ _))) | with_reducible ((show wpAny _ _ (isTrue (Expr.Compare _ _ _ _) _ _) _ _ _); (k_here; k_dflt (refine' isTrue_ll ?zF ?zv ?_ ?zk ?zl; (case zF => k_asm); (case zv => rfl); (case zk => rfl); (case zl => rfl); k_whole; intro _; (try dsimp only)))) | with_reducible ((show wpAny _ _ (call (Value.builtin "str.replace") _) _ _ _); k_dflt (first | (refine' call_replace_crlf ?zl ?zu ?zv ?zn ?_; (case zl => (omega)); (case zu => k_ne); (case zv => k_ne); (case zn => k_ne); intro _ _ _ _ _; (try dsimp only)) | (refine' call_replace_cr ?zl ?zu ?zv ?zn ?_; (case zl => (omega)); (case zu => k_ne); (case zv => k_ne); (case zn => k_ne); intro _ _ _ _ _; (try dsimp only)))) | with_reducible ((show wpAny _ _ (call (Value.builtin "str.rfind") _) _ _ _); (refine call_rfind4 ?_; (try dsimp only))) | with_reducible ((show wpAny _ _ (call (Value.builtin "str.count") _) _ _ _); (refine call_count4 ?_; (try dsimp only))) | with_reducible ((show wpAny _ _ (truthy (Value.ref _)) _ _ _); (k_here; (refine' truthy_meth ?zN ?zm ?_; (case zN => k_asm); (case zm => k_mem); k_whole; (try dsimp only)))) | (k_unfold; (try dsimp only)) | walk1 | (dsimp only; walk1) | (dsimp only [List.nil_append, List.cons_append]; walk1) | (k_end; dsimp only; k_unfold; (try dsimp only)) | (leave1; (try dsimp only)) | ((with_reducible show wpAny _ _ (call (Value.builtin "str.count") _) _ _ _); (refine call_count4 ?_; (try dsimp only))) | ((with_reducible show wpAny _ _ (call (Value.builtin "str.replace") _) _ _ _); k_dflt (first | (refine' call_replace_crlf ?zl ?zu ?zv ?zn ?_; (case zl => (omega)); (case zu => k_ne); (case zv => k_ne); (case zn => k_ne); intro _ _ _ _ _; (try dsimp only)) | (refine' call_replace_cr ?zl ?zu ?zv ?zn ?_; (case zl => (omega)); (case zu => k_ne); (case zv => k_ne); (case zn => k_ne); intro _ _ _ _ _; (try dsimp only)))) | ((with_reducible show wpAny _ _ (call (Value.builtin "str.rfind") _) _ _ _); (refine call_rfind4 ?_; (try dsimp only))) | ((with_reducible show wpAny _ _ (getMethod (Value.ref _) _ _) _ _ _); (k_here; (with_reducible show wpAny _ _ (getMethod (Value.ref _) (PySem.Str.ofString "reportCharacterErrors") _) _ _ _); k_dflt (refine' kmu_own ?zk1 ?zk2 ?zk3 ?zk4 ?zk5 ?_; (case zk1 => k_asm); (case zk2 => k_asm); (case zk3 => k_inst); (case zk4 => k_is); (case zk5 => k_is); k_whole))) | ((with_reducible show wpAny _ _ (isTrue (Expr.Compare _ _ _ _) _ _) _ _ _); (k_here; k_dflt (refine' isTrue_ll ?zF ?zv ?_ ?zk ?zl; (case zF => k_asm); (case zv => rfl); (case zk => rfl); (case zl => rfl); k_whole; intro _; (try dsimp only)))) | ((with_reducible show wpAny _ _ (truthy (Value.ref _)) _ _ _); (k_here; (refine' truthy_meth ?zN ?zm ?_; (case zN => k_asm); (case zm => k_mem); k_whole; (try dsimp only)))))))
    (with_reducible rename Fr _ _ _ _ => F5)
    (with_reducible rename News _ _ _ _ => N5)
    unfold StopAt
    refine' ex_1_6 (fr_opq5 (Str.ofString "end") (Str.ofString "self") (Str.ofString "characters") (Str.ofString "opposite") (Str.ofString "rv") F5 rfl rfl rfl rfl rfl) ?_; intro m3 F6 j0 j1 j2 j3 j4
    clear F5
    refine' execs_join (fun s2 => ∃ (h2 : Heap) (tk2 : Nat) (m2 : Str → Option Value) (e te : Nat), s2 = ⟨h2, s.gens, s.drawn, tk2, s.os⟩ ∧ Fr h₀ L h2 m2 ∧ m2 (Str.ofString "end") = some (.int (e : Int) te) ∧
      m2 (Str.ofString "self") = some (.ref x) ∧ m2 (Str.ofString "characters") = some chars ∧ m2 (Str.ofString "opposite") = some (.bool ob) ∧ m2 (Str.ofString "rv") = some (.ref rv) ∧
      News h₀ L h2 ((rv, listOf its nr) :: (LS w kt x d q nl td tx er S t6 (.int (n : Int) t1) st' ++ Ob)) ∧ st'.o ≤ e ∧ e ≤ st'.C.length ∧ Went (fun c => mem c == ob) st'.C st'.o e ∧ ((e : Int) ≠ st'.C.length → (mem (st'.C.cps.toList.getD e 0) == ob) = false)) ?scan ?inner
    case inner =>
      intro JI hJI
      refine' while_gen (fun n2 s2 => ∃ (h2 : Heap) (tk2 : Nat) (m2 : Str → Option Value) (e te : Nat), s2 = ⟨h2, s.gens, s.drawn, tk2, s.os⟩ ∧ Fr h₀ L h2 m2 ∧ m2 (Str.ofString "end") = some (.int (e : Int) te) ∧
        m2 (Str.ofString "self") = some (.ref x) ∧ m2 (Str.ofString "characters") = some chars ∧ m2 (Str.ofString "opposite") = some (.bool ob) ∧ m2 (Str.ofString "rv") = some (.ref rv) ∧
        News h₀ L h2 ((rv, listOf its nr) :: (LS w kt x d q nl td tx er S t6 (.int (n : Int) t1) st' ++ Ob)) ∧ st'.o ≤ e ∧ e ≤ st'.C.length ∧ Went (fun c => mem c == ob) st'.C st'.o e ∧ n2 = st'.C.length - e) ?turn2 (st'.C.length - st'.o) ?init2
      case init2 => exact ⟨_, _, _, st'.o, st'.tc, rfl, F6, j0, j1, j2, j3, j4, by simp only [LS, TL, SX, ent, List.cons_append, List.nil_append]; exact N5, Nat.le_refl _, oko, fun i h1 h2 => absurd h2 (Nat.not_lt.mpr h1), rfl⟩
      intro n2 s2 JJ2 hJJ2 hJ2
      refine' ex_5_12 (hJ2) ?_; intro h2 tk2 m2 e te r95 F7 i0 i1 i2 i3 i4 N7 hoe hec went hn2; (try clear hJ2); subst r95
      have F8 := fr_know5 i0 i1 i2 i3 i4 F7
      clear F6 F7 N5
      simp only [LS, TL, SX, ent, List.cons_append, List.nil_append] at N7
      w_strict ((repeat' (first | with_reducible ((first | (show wpAny _ _ (exec (Stmt.While _ _ _ _) _) _ _ _) | (show wpAny _ _ (call (Value.builtin "str.join") _) _ _ _)); refine stopAt_ ?_) | with_reducible ((show wpAny _ _ (execs (_ :: _) _) _ _ _); (k_here; (first | (with_reducible show wpAny _ _ (execs [Stmt.If _ _ _ _, _, _] _) _ _ _) | (with_reducible show wpAny _ _ (execs [Stmt.While _ _ _ _, _, _] _) _ _ _) | (with_reducible show wpAny _ _ (execs [Stmt.While _ _ _ _, _, _, _] _) _ _ _)); refine stopAt_ ?_)) | with_reducible ((show wpAny _ _ (call (Value.ref _) _) _ _ _); (k_here; (with_reducible show wpAny _ _ (call (Value.ref 106) _) _ _ _); refine stopAt_ ?_)) | with_reducible ((show wpAny _ _ (compareOp CmpOp.In (Value.str _ _) _) _ _ _); (k_here; (with_reducible rename InTest _ _ _ _ => ziT); k_dflt (refine' ziT _ _ _ _ _ _ _ ?zhX ?zhO ?_; (case zhX => (refine' item_nat _ ?_; omega)); (case zhO => ((intro zp9 zhp9; (with_reducible rename News _ _ _ (_ :: _) => zkN); refine (zkN zp9 ?_).1; (repeat (first | exact zhp9 | refine List.mem_cons_of_mem _ ?_))))); intro _; (try dsimp only)))) | with_reducible ((show wpAny _ _ (getMethod (Value.ref _) _ _) _ _ _); (k_here; (with_reducible show wpAny _ _ (getMethod (Value.ref _) (PySem.Str.ofString "reportCharacterErrors") _) _ _ _); k_dflt (refine' kmu_own ?zk1 ?zk2 ?zk3 ?zk4 ?zk5 ?_; (case zk1 => k_asm); (case zk2 => k_asm); (case zk3 => k_inst); (case zk4 => k_is); (case zk5 => k_is); k_whole))) | with_reducible ((show wpAny _ _ (execs (_ :: _) _) _ _ _); (k_here; (with_reducible show wpAny _ _ _ _ _ (Shared.mk _ _ _ (_ + _) _)); k_dflt (refine' gen_toks ?zp ?_; (case zp => ((try dsimp only); exact Nat.succ_pos _)); intro _ _))) | with_reducible ((show wpAny _ _ (isTrue (Expr.Compare _ _ _ _) _ _) _ _ _); (k_here; k_dflt (refine' isTrue_ll ?zF ?zv ?_ ?zk ?zl; (case zF => k_asm); (case zv => rfl); (case zk => rfl); (case zl => rfl); k_whole; intro _; (try dsimp only)))) | with_reducible ((show wpAny _ _ (call (Value.builtin "str.replace") _) _ _ _); k_dflt (first | (refine' call_replace_crlf ?zl ?zu ?zv ?zn ?_; (case zl => (omega)); (case zu => k_ne); (case zv => k_ne); (case zn => k_ne); intro _ _ _ _ _; (try dsimp only)) | (refine' call_replace_cr ?zl ?zu ?zv ?zn ?_; (case zl => (omega)); (case zu => k_ne); (case zv => k_ne); (case zn => k_ne); intro _ _ _ _ _; (try dsimp only)))) | with_reducible ((show wpAny _ _ (call (Value.builtin "str.rfind") _) _ _ _); (refine call_rfind4 ?_; (try dsimp only))) | with_reducible ((show wpAny _ _ (call (Value.builtin "str.count") _) _ _ _); (refine call_count4 ?_; (try dsimp only))) | with_reducible ((show wpAny _ _ (truthy (Value.ref _)) _ _ _); (k_here; (refine' truthy_meth ?zN ?zm ?_; (case zN => k_asm); (case zm => k_mem); k_whole; (try dsimp only)))) | (k_unfold; (try dsimp only)) | walk1 | (dsimp only; walk1) | (dsimp only [List.nil_append, List.cons_append]; walk1) | (k_end; dsimp only; k_unfold; (try dsimp only)) | (leave1; (try dsimp only)) | ((with_reducible show wpAny _ _ (call (Value.builtin "str.count") _) _ _ _); (refine call_count4 ?_; (try dsimp only))) | ((with_reducible show wpAny _ _ (call (Value.builtin "str.replace") _) _ _ _); k_dflt (first | (refine' call_replace_crlf ?zl ?zu ?zv ?zn ?_; (case zl => (omega)); (case zu => k_ne); (case zv => k_ne); (case zn => k_ne); intro _ _ _ _ _; (try dsimp only)) | (refine' call_replace_cr ?zl ?zu ?zv ?zn ?_; (case zl => (omega)); (case zu => k_ne); (case zv => k_ne); (case zn => k_ne); intro _ _ _ _ _; (try dsimp only)))) | ((with_reducible show wpAny _ _ (call (Value.builtin "str.rfind") _) _ _ _); (refine call_rfind4 ?_; (try dsimp only))) | ((with_reducible show wpAny _ _ (getMethod (Value.ref _) _ _) _ _ _); (k_here; (with_reducible show wpAny _ _ (getMethod (Value.ref _) (PySem.Str.ofString "reportCharacterErrors") _) _ _ _); k_dflt (refine' kmu_own ?zk1 ?zk2 ?zk3 ?zk4 ?zk5 ?_; (case zk1 => k_asm); (case zk2 => k_asm); (case zk3 => k_inst); (case zk4 => k_is); (case zk5 => k_is); k_whole))) | ((with_reducible show wpAny _ _ (isTrue (Expr.Compare _ _ _ _) _ _) _ _ _); (k_here; k_dflt (refine' isTrue_ll ?zF ?zv ?_ ?zk ?zl; (case zF => k_asm); (case zv => rfl); (case zk => rfl); (case zl => rfl); k_whole; intro _; (try dsimp only)))) | ((with_reducible show wpAny _ _ (truthy (Value.ref _)) _ _ _); (k_here; (refine' truthy_meth ?zN ?zm ?_; (case zN => k_asm); (case zm => k_mem); k_whole; (try dsimp only)))))))
      · subst hJJ2
        show Again _ n2 _
        (with_reducible rename News _ _ _ (_ :: _) => N9)
        (with_reducible rename Fr _ _ _ _ => G9)
        have hel : e < st'.C.length := by omega
        exact ⟨st'.C.length - (e + 1), by rw [hn2]; exact Nat.sub_succ_lt_self _ _ hel, _, _, _, e + 1, _, rfl, G9, rfl, rfl, rfl, rfl, rfl, N9, Nat.le_succ_of_le hoe, hel, went_more went (by assumption), rfl⟩
      all_goals (
        subst hJI
        (with_reducible rename News _ _ _ (_ :: _) => N9)
        (with_reducible rename Fr _ _ _ _ => G9)
        exact ⟨_, _, _, e, _, rfl, G9, rfl, rfl, rfl, rfl, rfl, N9, hoe, hec, went, by first | exact fun h => absurd (by assumption) h | exact fun _ => by assumption⟩)
    case scan =>
      intro s2 hJ2
      refine' ex_5_12 (hJ2) ?_; intro h2 tk2 m2 e te r95 F7 i0 i1 i2 i3 i4 N7 hoe hec went hstop; (try clear hJ2); subst r95
      have F8 := fr_know5 i0 i1 i2 i3 i4 F7
      clear F6 F7 N5
      simp only [LS, TL, SX, ent, List.cons_append, List.nil_append] at N7
      w_strict ((repeat' (first | with_reducible ((first | (show wpAny _ _ (exec (Stmt.While _ _ _ _) _) _ _ _) | (show wpAny _ _ (call (Value.builtin "str.join") _) _ _ _)); refine stopAt_ ?_) | with_reducible ((show wpAny _ _ (execs (_ :: _) _) _ _ _); (k_here; (first | (with_reducible show wpAny _ _ (execs [Stmt.If _ _ _ _, _, _] _) _ _ _) | (with_reducible show wpAny _ _ (execs [Stmt.While _ _ _ _, _, _] _) _ _ _) | (with_reducible show wpAny _ _ (execs [Stmt.While _ _ _ _, _, _, _] _) _ _ _)); refine stopAt_ ?_)) | with_reducible ((show wpAny _ _ (call (Value.ref _) _) _ _ _); (k_here; (with_reducible show wpAny _ _ (call (Value.ref 106) _) _ _ _); refine stopAt_ ?_)) | with_reducible ((show wpAny _ _ (compareOp CmpOp.In (Value.str _ _) _) _ _ _); (k_here; (with_reducible rename InTest _ _ _ _ => ziT); k_dflt (refine' ziT _ _ _ _ _ _ _ ?zhX ?zhO ?_; (case zhX => (refine' item_nat _ ?_; omega)); (case zhO => ((intro zp9 zhp9; (with_reducible rename News _ _ _ (_ :: _) => zkN); refine (zkN zp9 ?_).1; (repeat (first | exact zhp9 | refine List.mem_cons_of_mem _ ?_))))); intro _; (try dsimp only)))) | with_reducible ((show wpAny _ _ (getMethod (Value.ref _) _ _) _ _ _); (k_here; (with_reducible show wpAny _ _ (getMethod (Value.ref _) (PySem.Str.ofString "reportCharacterErrors") _) _ _ _); k_dflt (refine' kmu_own ?zk1 ?zk2 ?zk3 ?zk4 ?zk5 ?_; (case zk1 => k_asm); (case zk2 => k_asm); (case zk3 => k_inst); (case zk4 => k_is); (case zk5 => k_is); k_whole))) | with_reducible ((show wpAny _ _ (execs (_ :: _) _) _ _ _); (k_here; (with_reducible show wpAny _ _ _ _ _ (Shared.mk _ _ _ (_ + _) _)); k_dflt (refine' gen_toks ?zp ?_; (case zp => ((try dsimp only); exact Nat.succ_pos _)); intro _ _))) | with_reducible ((show wpAny _ _ (isTrue (Expr.Compare _ _ _ _) _ _) _ _ _); (k_here; k_dflt (refine' isTrue_ll ?zF ?zv ?_ ?zk ?zl; (case zF => k_asm); (case zv => rfl); (case zk => rfl); (case zl => rfl); k_whole; intro _; (try dsimp only)))) | with_reducible ((show wpAny _ _ (call (Value.builtin "str.replace") _) _ _ _); k_dflt (first | (refine' call_replace_crlf ?zl ?zu ?zv ?zn ?_; (case zl => (omega)); (case zu => k_ne); (case zv => k_ne); (case zn => k_ne); intro _ _ _ _ _; (try dsimp only)) | (refine' call_replace_cr ?zl ?zu ?zv ?zn ?_; (case zl => (omega)); (case zu => k_ne); (case zv => k_ne); (case zn => k_ne); intro _ _ _ _ _; (try dsimp only)))) | with_reducible ((show wpAny _ _ (call (Value.builtin "str.rfind") _) _ _ _); (refine call_rfind4 ?_; (try dsimp only))) | with_reducible ((show wpAny _ _ (call (Value.builtin "str.count") _) _ _ _); (refine call_count4 ?_; (try dsimp only))) | with_reducible ((show wpAny _ _ (truthy (Value.ref _)) _ _ _); (k_here; (refine' truthy_meth ?zN ?zm ?_; (case zN => k_asm); (case zm => k_mem); k_whole; (try dsimp only)))) | (k_unfold; (try dsimp only)) | walk1 | (dsimp only; walk1) | (dsimp only [List.nil_append, List.cons_append]; walk1) | (k_end; dsimp only; k_unfold; (try dsimp only)) | (leave1; (try dsimp only)) | ((with_reducible show wpAny _ _ (call (Value.builtin "str.count") _) _ _ _); (refine call_count4 ?_; (try dsimp only))) | ((with_reducible show wpAny _ _ (call (Value.builtin "str.replace") _) _ _ _); k_dflt (first | (refine' call_replace_crlf ?zl ?zu ?zv ?zn ?_; (case zl => (omega)); (case zu => k_ne); (case zv => k_ne); (case zn => k_ne); intro _ _ _ _ _; (try dsimp only)) | (refine' call_replace_cr ?zl ?zu ?zv ?zn ?_; (case zl => (omega)); (case zu => k_ne); (case zv => k_ne); (case zn => k_ne); intro _ _ _ _ _; (try dsimp only)))) | ((with_reducible show wpAny _ _ (call (Value.builtin "str.rfind") _) _ _ _); (refine call_rfind4 ?_; (try dsimp only))) | ((with_reducible show wpAny _ _ (getMethod (Value.ref _) _ _) _ _ _); (k_here; (with_reducible show wpAny _ _ (getMethod (Value.ref _) (PySem.Str.ofString "reportCharacterErrors") _) _ _ _); k_dflt (refine' kmu_own ?zk1 ?zk2 ?zk3 ?zk4 ?zk5 ?_; (case zk1 => k_asm); (case zk2 => k_asm); (case zk3 => k_inst); (case zk4 => k_is); (case zk5 => k_is); k_whole))) | ((with_reducible show wpAny _ _ (isTrue (Expr.Compare _ _ _ _) _ _) _ _ _); (k_here; k_dflt (refine' isTrue_ll ?zF ?zv ?_ ?zk ?zl; (case zF => k_asm); (case zv => rfl); (case zk => rfl); (case zl => rfl); k_whole; intro _; (try dsimp only)))) | ((with_reducible show wpAny _ _ (truthy (Value.ref _)) _ _ _); (k_here; (refine' truthy_meth ?zN ?zm ?_; (case zN => k_asm); (case zm => k_mem); k_whole; (try dsimp only)))))))
      unfold StopAt
      refine' execs_join (fun s3 => ∃ (tk3 : Nat), s3 = ⟨h2, s.gens, s.drawn, tk3, s.os⟩ ∧ (e : Int) = st'.C.length) ?app ?ifs
      case ifs =>
        intro JA hJA
        w_strict ((repeat' (first | with_reducible ((first | (show wpAny _ _ (exec (Stmt.While _ _ _ _) _) _ _ _) | (show wpAny _ _ (call (Value.builtin "str.join") _) _ _ _)); refine stopAt_ ?_) | with_reducible ((show wpAny _ _ (execs (_ :: _) _) _ _ _); (k_here; (first | (with_reducible show wpAny _ _ (execs [Stmt.If _ _ _ _, _, _] _) _ _ _) | (with_reducible show wpAny _ _ (execs [Stmt.While _ _ _ _, _, _] _) _ _ _) | (with_reducible show wpAny _ _ (execs [Stmt.While _ _ _ _, _, _, _] _) _ _ _)); refine stopAt_ ?_)) | with_reducible ((show wpAny _ _ (call (Value.ref _) _) _ _ _); (k_here; (with_reducible show wpAny _ _ (call (Value.ref 106) _) _ _ _); refine stopAt_ ?_)) | with_reducible ((show wpAny _ _ (compareOp CmpOp.In (Value.str _ _) _) _ _ _); (k_here; (with_reducible rename InTest _ _ _ _ => ziT); k_dflt (refine' ziT _ _ _ _ _ _ _ ?zhX ?zhO ?_; (case zhX => (refine' item_nat _ ?_; omega)); (case zhO => ((intro zp9 zhp9; (with_reducible rename News _ _ _ (_ :: _) => zkN); refine (zkN zp9 ?_).1; (repeat (first | exact zhp9 | refine List.mem_cons_of_mem _ ?_))))); intro _; (try dsimp only)))) | with_reducible ((show wpAny _ _ (getMethod (Value.ref _) _ _) _ _ _); (k_here; (with_reducible show wpAny _ _ (getMethod (Value.ref _) (PySem.Str.ofString "reportCharacterErrors") _) _ _ _); k_dflt (refine' kmu_own ?zk1 ?zk2 ?zk3 ?zk4 ?zk5 ?_; (case zk1 => k_asm); (case zk2 => k_asm); (case zk3 => k_inst); (case zk4 => k_is); (case zk5 => k_is); k_whole))) | with_reducible ((show wpAny _ _ (execs (_ :: _) _) _ _ _); (k_here; (with_reducible show wpAny _ _ _ _ _ (Shared.mk _ _ _ (_ + _) _)); k_dflt (refine' gen_toks ?zp ?_; (case zp => ((try dsimp only); exact Nat.succ_pos _)); intro _ _))) | with_reducible ((show wpAny _ _ (isTrue (Expr.Compare _ _ _ _) _ _) _ _ _); (k_here; k_dflt (refine' isTrue_ll ?zF ?zv ?_ ?zk ?zl; (case zF => k_asm); (case zv => rfl); (case zk => rfl); (case zl => rfl); k_whole; intro _; (try dsimp only)))) | with_reducible ((show wpAny _ _ (call (Value.builtin "str.replace") _) _ _ _); k_dflt (first | (refine' call_replace_crlf ?zl ?zu ?zv ?zn ?_; (case zl => (omega)); (case zu => k_ne); (case zv => k_ne); (case zn => k_ne); intro _ _ _ _ _; (try dsimp only)) | (refine' call_replace_cr ?zl ?zu ?zv ?zn ?_; (case zl => (omega)); (case zu => k_ne); (case zv => k_ne); (case zn => k_ne); intro _ _ _ _ _; (try dsimp only)))) | with_reducible ((show wpAny _ _ (call (Value.builtin "str.rfind") _) _ _ _); (refine call_rfind4 ?_; (try dsimp only))) | with_reducible ((show wpAny _ _ (call (Value.builtin "str.count") _) _ _ _); (refine call_count4 ?_; (try dsimp only))) | with_reducible ((show wpAny _ _ (truthy (Value.ref _)) _ _ _); (k_here; (refine' truthy_meth ?zN ?zm ?_; (case zN => k_asm); (case zm => k_mem); k_whole; (try dsimp only)))) | (k_unfold; (try dsimp only)) | walk1 | (dsimp only; walk1) | (dsimp only [List.nil_append, List.cons_append]; walk1) | (k_end; dsimp only; k_unfold; (try dsimp only)) | (leave1; (try dsimp only)) | ((with_reducible show wpAny _ _ (call (Value.builtin "str.count") _) _ _ _); (refine call_count4 ?_; (try dsimp only))) | ((with_reducible show wpAny _ _ (call (Value.builtin "str.replace") _) _ _ _); k_dflt (first | (refine' call_replace_crlf ?zl ?zu ?zv ?zn ?_; (case zl => (omega)); (case zu => k_ne); (case zv => k_ne); (case zn => k_ne); intro _ _ _ _ _; (try dsimp only)) | (refine' call_replace_cr ?zl ?zu ?zv ?zn ?_; (case zl => (omega)); (case zu => k_ne); (case zv => k_ne); (case zn => k_ne); intro _ _ _ _ _; (try dsimp only)))) | ((with_reducible show wpAny _ _ (call (Value.builtin "str.rfind") _) _ _ _); (refine call_rfind4 ?_; (try dsimp only))) | ((with_reducible show wpAny _ _ (getMethod (Value.ref _) _ _) _ _ _); (k_here; (with_reducible show wpAny _ _ (getMethod (Value.ref _) (PySem.Str.ofString "reportCharacterErrors") _) _ _ _); k_dflt (refine' kmu_own ?zk1 ?zk2 ?zk3 ?zk4 ?zk5 ?_; (case zk1 => k_asm); (case zk2 => k_asm); (case zk3 => k_inst); (case zk4 => k_is); (case zk5 => k_is); k_whole))) | ((with_reducible show wpAny _ _ (isTrue (Expr.Compare _ _ _ _) _ _) _ _ _); (k_here; k_dflt (refine' isTrue_ll ?zF ?zv ?_ ?zk ?zl; (case zF => k_asm); (case zv => rfl); (case zk => rfl); (case zl => rfl); k_whole; intro _; (try dsimp only)))) | ((with_reducible show wpAny _ _ (truthy (Value.ref _)) _ _ _); (k_here; (refine' truthy_meth ?zN ?zm ?_; (case zN => k_asm); (case zm => k_mem); k_whole; (try dsimp only)))))))
        all_goals (with_reducible rename News _ _ _ (_ :: _) => N9)
        all_goals (with_reducible rename Fr _ _ _ _ => F9)
        · subst hJO
          exact ⟨_, _, _, st', its, acc, _, rfl, F9, rfl, N9, hp, (by omega), until_A (r := ⟨acc.toArray⟩) took ok hb' hacc (by omega) (by omega) (hstop (by omega)) rfl⟩
        · subst hJA
          exact ⟨_, rfl, by omega⟩
        · subst hJO
          exact ⟨_, _, _, { st' with o := e, tc := _ }, _, _, _, rfl, F9, rfl, N9, hp.push (slice_range _ hoe hec), (by rw [pieces_size, List.length_append, List.length_take, List.length_drop, hcl]; omega), until_B (r := ⟨(acc ++ (st'.C.cps.toList.drop st'.o).take (e - st'.o)).toArray⟩) took ok hb' hacc hoe hec (by assumption) went (hstop (by assumption)) rfl⟩
        · subst hJA
          exact ⟨_, rfl, by omega⟩
      case app =>
        intro s3 hJ3
        refine' ex_1_2 (hJ3) ?_; intro tk3 r91 hee; (try clear hJ3); subst r91
        w_strict ((repeat' (first | with_reducible ((first | (show wpAny _ _ (exec (Stmt.While _ _ _ _) _) _ _ _) | (show wpAny _ _ (call (Value.builtin "str.join") _) _ _ _)); refine stopAt_ ?_) | with_reducible ((show wpAny _ _ (execs (_ :: _) _) _ _ _); (k_here; (first | (with_reducible show wpAny _ _ (execs [Stmt.If _ _ _ _, _, _] _) _ _ _) | (with_reducible show wpAny _ _ (execs [Stmt.While _ _ _ _, _, _] _) _ _ _) | (with_reducible show wpAny _ _ (execs [Stmt.While _ _ _ _, _, _, _] _) _ _ _)); refine stopAt_ ?_)) | with_reducible ((show wpAny _ _ (call (Value.ref _) _) _ _ _); (k_here; (with_reducible show wpAny _ _ (call (Value.ref 106) _) _ _ _); refine stopAt_ ?_)) | with_reducible ((show wpAny _ _ (compareOp CmpOp.In (Value.str _ _) _) _ _ _); (k_here; (with_reducible rename InTest _ _ _ _ => ziT); k_dflt (refine' ziT _ _ _ _ _ _ _ ?zhX ?zhO ?_; (case zhX => (refine' item_nat _ ?_; omega)); (case zhO => ((intro zp9 zhp9; (with_reducible rename News _ _ _ (_ :: _) => zkN); refine (zkN zp9 ?_).1; (repeat (first | exact zhp9 | refine List.mem_cons_of_mem _ ?_))))); intro _; (try dsimp only)))) | with_reducible ((show wpAny _ _ (getMethod (Value.ref _) _ _) _ _ _); (k_here; (with_reducible show wpAny _ _ (getMethod (Value.ref _) (PySem.Str.ofString "reportCharacterErrors") _) _ _ _); k_dflt (refine' kmu_own ?zk1 ?zk2 ?zk3 ?zk4 ?zk5 ?_; (case zk1 => k_asm); (case zk2 => k_asm); (case zk3 => k_inst); (case zk4 => k_is); (case zk5 => k_is); k_whole))) | with_reducible ((show wpAny _ _ (execs (_ :: _) _) _ _ _); (k_here; (with_reducible show wpAny _ _ _ _ _ (Shared.mk _ _ _ (_ + _) _)); k_dflt (refine' gen_toks ?zp ?_; (case zp => ((try dsimp only); exact Nat.succ_pos _)); intro _ _))) | with_reducible ((show wpAny _ _ (isTrue (Expr.Compare _ _ _ _) _ _) _ _ _); (k_here; k_dflt (refine' isTrue_ll ?zF ?zv ?_ ?zk ?zl; (case zF => k_asm); (case zv => rfl); (case zk => rfl); (case zl => rfl); k_whole; intro _; (try dsimp only)))) | with_reducible ((show wpAny _ _ (call (Value.builtin "str.replace") _) _ _ _); k_dflt (first | (refine' call_replace_crlf ?zl ?zu ?zv ?zn ?_; (case zl => (omega)); (case zu => k_ne); (case zv => k_ne); (case zn => k_ne); intro _ _ _ _ _; (try dsimp only)) | (refine' call_replace_cr ?zl ?zu ?zv ?zn ?_; (case zl => (omega)); (case zu => k_ne); (case zv => k_ne); (case zn => k_ne); intro _ _ _ _ _; (try dsimp only)))) | with_reducible ((show wpAny _ _ (call (Value.builtin "str.rfind") _) _ _ _); (refine call_rfind4 ?_; (try dsimp only))) | with_reducible ((show wpAny _ _ (call (Value.builtin "str.count") _) _ _ _); (refine call_count4 ?_; (try dsimp only))) | with_reducible ((show wpAny _ _ (truthy (Value.ref _)) _ _ _); (k_here; (refine' truthy_meth ?zN ?zm ?_; (case zN => k_asm); (case zm => k_mem); k_whole; (try dsimp only)))) | (k_unfold; (try dsimp only)) | walk1 | (dsimp only; walk1) | (dsimp only [List.nil_append, List.cons_append]; walk1) | (k_end; dsimp only; k_unfold; (try dsimp only)) | (leave1; (try dsimp only)) | ((with_reducible show wpAny _ _ (call (Value.builtin "str.count") _) _ _ _); (refine call_count4 ?_; (try dsimp only))) | ((with_reducible show wpAny _ _ (call (Value.builtin "str.replace") _) _ _ _); k_dflt (first | (refine' call_replace_crlf ?zl ?zu ?zv ?zn ?_; (case zl => (omega)); (case zu => k_ne); (case zv => k_ne); (case zn => k_ne); intro _ _ _ _ _; (try dsimp only)) | (refine' call_replace_cr ?zl ?zu ?zv ?zn ?_; (case zl => (omega)); (case zu => k_ne); (case zv => k_ne); (case zn => k_ne); intro _ _ _ _ _; (try dsimp only)))) | ((with_reducible show wpAny _ _ (call (Value.builtin "str.rfind") _) _ _ _); (refine call_rfind4 ?_; (try dsimp only))) | ((with_reducible show wpAny _ _ (getMethod (Value.ref _) _ _) _ _ _); (k_here; (with_reducible show wpAny _ _ (getMethod (Value.ref _) (PySem.Str.ofString "reportCharacterErrors") _) _ _ _); k_dflt (refine' kmu_own ?zk1 ?zk2 ?zk3 ?zk4 ?zk5 ?_; (case zk1 => k_asm); (case zk2 => k_asm); (case zk3 => k_inst); (case zk4 => k_is); (case zk5 => k_is); k_whole))) | ((with_reducible show wpAny _ _ (isTrue (Expr.Compare _ _ _ _) _ _) _ _ _); (k_here; k_dflt (refine' isTrue_ll ?zF ?zv ?_ ?zk ?zl; (case zF => k_asm); (case zv => rfl); (case zk => rfl); (case zl => rfl); k_whole; intro _; (try dsimp only)))) | ((with_reducible show wpAny _ _ (truthy (Value.ref _)) _ _ _); (k_here; (refine' truthy_meth ?zN ?zm ?_; (case zN => k_asm); (case zm => k_mem); k_whole; (try dsimp only)))))))
        unfold StopAt
        (with_reducible rename Fr _ _ _ _ => F5)
        (with_reducible rename News _ _ _ _ => N5)
        (try dsimp only [List.append_nil])
        k_dflt (refine' Does.useP [_] (does_readChunkD _ _ _ _ _ _ _ _ _ ?h1 _ _ _ _ _ _ _ _ _ _ _ _ _ _ _ _ _ _ ?h9 ?h0 ?h3 ?h4 ?h5 ?h6 ?h7 ?h8) ?k1 ?k2 ?k3 ?k4 ?k5 ?kd ?kK ?kr ?ku ?_)
        case k4 => exact N5
        case k1 => k_asm
        case k2 => exact F5
        case k3 => k_asm
        case k5 => k_asm
        case kK => first | exact rfl | assumption
        case kr => (first | assumption | ((simp only [depth_under_make, depth_under_kw, depth_in1, depth_deeper, depth_caller]); (try dsimp only [ktrTop]); first | exact room0 (by assumption) (by decide) | exact room1 (by assumption) (by decide) | omega | decide) | ((try dsimp only [ktrTop]); omega))
        case ku => (first | assumption | ((simp only [units_in1, units_deeper, Around.mark_units, units_caller]); (try dsimp only [ktrTop]); first | exact room0 (by assumption) (by decide) | exact room1 (by assumption) (by decide)) | ((have zhcL := cLine_is); (simp only [units_in1, units_deeper, Around.mark_units, units_caller]); (try dsimp only [ktrTop]); omega) | ((have zhcL := cLine_is); (try dsimp only [ktrTop]); omega))
        case h9 => omega
        case h0 => omega
        case h1 => omega
        case h3 => omega
        case h4 => omega
        case h5 => omega
        case h6 => omega
        case h7 => assumption
        case h8 => assumption
        case kd => ((exact dis_rv (by assumption) (by assumption) sxtl_sub))
        k_whole
        intro v9 E9 h9 tk9 F9 N9 p9 T9
        (try dsimp only at T9)
        (try simp only [List.nil_append, List.cons_append] at N9)
        clear N5 F5
        have p8 := rc_either p9
        clear p9
        refine' ex_10_6 (p8) ?_; intro R9 bufV9 er9 ne9 ta9 tb9 tc9 t49 t59 t79 e9 hR9 hb9 hE9 hB9 hv9; (try clear p8)
        subst e9
        (try simp only [List.nil_append, List.cons_append, SX, TL, ent] at N9)
        (rcases hv9 with ⟨e9, hD9⟩ | ⟨e9, hD9⟩ <;> (subst e9; (try dsimp only)))
        all_goals (w_strict ((repeat' (first | with_reducible ((first | (show wpAny _ _ (exec (Stmt.While _ _ _ _) _) _ _ _) | (show wpAny _ _ (call (Value.builtin "str.join") _) _ _ _)); refine stopAt_ ?_) | with_reducible ((show wpAny _ _ (execs (_ :: _) _) _ _ _); (k_here; (first | (with_reducible show wpAny _ _ (execs [Stmt.If _ _ _ _, _, _] _) _ _ _) | (with_reducible show wpAny _ _ (execs [Stmt.While _ _ _ _, _, _] _) _ _ _) | (with_reducible show wpAny _ _ (execs [Stmt.While _ _ _ _, _, _, _] _) _ _ _)); refine stopAt_ ?_)) | with_reducible ((show wpAny _ _ (call (Value.ref _) _) _ _ _); (k_here; (with_reducible show wpAny _ _ (call (Value.ref 106) _) _ _ _); refine stopAt_ ?_)) | with_reducible ((show wpAny _ _ (compareOp CmpOp.In (Value.str _ _) _) _ _ _); (k_here; (with_reducible rename InTest _ _ _ _ => ziT); k_dflt (refine' ziT _ _ _ _ _ _ _ ?zhX ?zhO ?_; (case zhX => (refine' item_nat _ ?_; omega)); (case zhO => ((intro zp9 zhp9; (with_reducible rename News _ _ _ (_ :: _) => zkN); refine (zkN zp9 ?_).1; (repeat (first | exact zhp9 | refine List.mem_cons_of_mem _ ?_))))); intro _; (try dsimp only)))) | with_reducible ((show wpAny _ _ (getMethod (Value.ref _) _ _) _ _ _); (k_here; (with_reducible show wpAny _ _ (getMethod (Value.ref _) (PySem.Str.ofString "reportCharacterErrors") _) _ _ _); k_dflt (refine' kmu_own ?zk1 ?zk2 ?zk3 ?zk4 ?zk5 ?_; (case zk1 => k_asm); (case zk2 => k_asm); (case zk3 => k_inst); (case zk4 => k_is); (case zk5 => k_is); k_whole))) | with_reducible ((show wpAny _ _ (execs (_ :: _) _) _ _ _); (k_here; (with_reducible show wpAny _ _ _ _ _ (Shared.mk _ _ _ (_ + _) _)); k_dflt (refine' gen_toks ?zp ?_; (case zp => ((try dsimp only); exact Nat.succ_pos _)); intro _ _))) | with_reducible ((show wpAny _ _ (isTrue (Expr.Compare _ _ _ _) _ _) _ _ _); (k_here; k_dflt (refine' isTrue_ll ?zF ?zv ?_ ?zk ?zl; (case zF => k_asm); (case zv => rfl); (case zk => rfl); (case zl => rfl); k_whole; intro _; (try dsimp only)))) | with_reducible ((show wpAny _ _ (call (Value.builtin "str.replace") _) _ _ _); k_dflt (first | (refine' call_replace_crlf ?zl ?zu ?zv ?zn ?_; (case zl => (omega)); (case zu => k_ne); (case zv => k_ne); (case zn => k_ne); intro _ _ _ _ _; (try dsimp only)) | (refine' call_replace_cr ?zl ?zu ?zv ?zn ?_; (case zl => (omega)); (case zu => k_ne); (case zv => k_ne); (case zn => k_ne); intro _ _ _ _ _; (try dsimp only)))) | with_reducible ((show wpAny _ _ (call (Value.builtin "str.rfind") _) _ _ _); (refine call_rfind4 ?_; (try dsimp only))) | with_reducible ((show wpAny _ _ (call (Value.builtin "str.count") _) _ _ _); (refine call_count4 ?_; (try dsimp only))) | with_reducible ((show wpAny _ _ (truthy (Value.ref _)) _ _ _); (k_here; (refine' truthy_meth ?zN ?zm ?_; (case zN => k_asm); (case zm => k_mem); k_whole; (try dsimp only)))) | (k_unfold; (try dsimp only)) | walk1 | (dsimp only; walk1) | (dsimp only [List.nil_append, List.cons_append]; walk1) | (k_end; dsimp only; k_unfold; (try dsimp only)) | (leave1; (try dsimp only)) | ((with_reducible show wpAny _ _ (call (Value.builtin "str.count") _) _ _ _); (refine call_count4 ?_; (try dsimp only))) | ((with_reducible show wpAny _ _ (call (Value.builtin "str.replace") _) _ _ _); k_dflt (first | (refine' call_replace_crlf ?zl ?zu ?zv ?zn ?_; (case zl => (omega)); (case zu => k_ne); (case zv => k_ne); (case zn => k_ne); intro _ _ _ _ _; (try dsimp only)) | (refine' call_replace_cr ?zl ?zu ?zv ?zn ?_; (case zl => (omega)); (case zu => k_ne); (case zv => k_ne); (case zn => k_ne); intro _ _ _ _ _; (try dsimp only)))) | ((with_reducible show wpAny _ _ (call (Value.builtin "str.rfind") _) _ _ _); (refine call_rfind4 ?_; (try dsimp only))) | ((with_reducible show wpAny _ _ (getMethod (Value.ref _) _ _) _ _ _); (k_here; (with_reducible show wpAny _ _ (getMethod (Value.ref _) (PySem.Str.ofString "reportCharacterErrors") _) _ _ _); k_dflt (refine' kmu_own ?zk1 ?zk2 ?zk3 ?zk4 ?zk5 ?_; (case zk1 => k_asm); (case zk2 => k_asm); (case zk3 => k_inst); (case zk4 => k_is); (case zk5 => k_is); k_whole))) | ((with_reducible show wpAny _ _ (isTrue (Expr.Compare _ _ _ _) _ _) _ _ _); (k_here; k_dflt (refine' isTrue_ll ?zF ?zv ?_ ?zk ?zl; (case zF => k_asm); (case zv => rfl); (case zk => rfl); (case zl => rfl); k_whole; intro _; (try dsimp only)))) | ((with_reducible show wpAny _ _ (truthy (Value.ref _)) _ _ _); (k_here; (refine' truthy_meth ?zN ?zm ?_; (case zN => k_asm); (case zm => k_mem); k_whole; (try dsimp only))))))))
        all_goals (with_reducible rename News _ _ _ (_ :: _) => N9)
        all_goals (with_reducible rename Fr _ _ _ _ => G9)
        · subst hJJ
          show Again _ nm _
          have T9 := fun (bv : Value) (ta tb tc t4 t5 t7 ne : Nat) => take_C (bufV := bv) (ta := ta) (tb := tb) (tc := tc) (t4 := t4) (t5 := t5) (t7 := t7) (ne := ne) took ok hb' hS hacc hoe hee went (by omega) hR9 hE9 hB9
          exact ⟨(rawOf S (nextSt S n st' _ _ _ _ _ _ _ _ _ _)).length, by rw [hnm]; exact (T9 _ _ _ _ _ _ _ _).2.2.2 (by assumption), _, _, _, nextSt S n st' _ _ _ _ _ _ _ _ _ _, its.push _, acc ++ st'.C.cps.toList.drop st'.o, _, rfl, G9, rfl, rfl, rfl, rfl, N9, hb9, (T9 _ _ _ _ _ _ _ _).2.1, (T9 _ _ _ _ _ _ _ _).1, (T9 .none 0 0 0 0 0 0 0).2.2.1, Pieces.push hp (slice_tail _ oko), size_push_le hsz hnm ((T9 _ _ _ _ _ _ _ _).2.2.2 (by assumption)), rfl⟩
        · subst hJO
          exact ⟨_, _, _, nextSt S n st' _ _ _ _ _ _ _ _ _ _, its.push _, acc ++ st'.C.cps.toList.drop st'.o, _, rfl, G9, rfl, N9, hp.push (slice_tail _ oko), (by rw [pieces_size, List.length_append, List.length_drop, hcl]; omega), until_C (r := ⟨(acc ++ st'.C.cps.toList.drop st'.o).toArray⟩) took ok hb' hS hacc hoe hee went (by omega) hR9 hE9 hB9 hb9 (by assumption) rfl⟩
theorem stop_until {w : World} {body : List Stmt} {qual : Str} {scope : Scope} {cdv : Value} (_T : UntilMid w body qual scope cdv) {M : Model} {A : Around} {env : Env} {Q : Flow → Shared → Prop} {E : Value → Shared → Prop} {s : Shared} (h : StopAt (wpAny M A (execs body env) Q E s)) : wpAny M A (execs body env) Q E s := h
end
section
set_option maxRecDepth 100000 in
set_option maxHeartbeats 2000000 in
theorem does_until (w : World) (kt : Nat → Nat) (x d q nl td tx er : Nat) (hord : d < x ∧ x < q ∧ q < td ∧ td < tx ∧ tx < er) (S : Str) (hS : S.length ≤ 10000) (hsur : noSur S.cps.toList) (chars : Value) (mem : Nat → Bool) (Ob : Ledger) (hin : InTest w chars mem Ob) (hOb : OwnOff Ob [er, q, x, d, tx, td])
    (st : StS) (hst : StOk S st) (hb : BufIs st.bufV st.b) (t6 n t1 : Nat) (hn : 2 ≤ n) (hn' : n ≤ 20000) :
    Does w 5 (.ref 121) [.ref x, chars] (LS w kt x d q nl td tx er S t6 (.int (n : Int) t1) st ++ Ob) (fun v E' => ∃ r t st', v = .str r t ∧ E' = LS w kt x d q nl td tx er S t6 (.int (n : Int) t1) st' ++ Ob ∧ UntilR S st (fun c => mem c == false) r.cps.toList st') := by
  unfold Does
  k_fill
  have hM := until_mid w (by k_is)
  intro dp un gd cn cs a ccd cl outer A₀ base h₀ L m s R loose mean mg mb rest B F KX N T hdis hk hroom hun hret
  refine' enterR (binds := [(Str.ofString "self", .ref x), (Str.ofString "characters", chars), (Str.ofString "opposite", .bool false)]) ?k1 ?k2 ?k3 ?k4 ?k5 ?kd ?kA ?kF ?kK ?k6 ?k7 ?k8 ?k9 ?kB ?_ ?c2 ?c3 ?c4 ?c5
  (case kA => exact rfl); (case kF => exact rfl); (case kK => first | exact rfl | assumption); (case k1 => k_asm); (case k2 => k_asm); (case k3 => k_asm); (case k4 => k_asm); (case k5 => k_asm); (case kd => assumption); (case k6 => k_dflt k_is); (case k7 => k_dflt k_is); (case k8 => k_room); (case k9 => first | exact BindsTo.of_eq rfl | exact binds_K (by k_in) rfl (by k_is) rfl rfl rfl); (case c5 => decide); (case kB => exact locs rfl); (case c2 => exact rfl); (case c3 => exact rfl); (case c4 => exact rfl)
  k_whole
  intro g' L' h' FG' F' N' B' X' T' lt'
  clear N F
  w_on
  w_top on
  w_strict ((repeat' (first | with_reducible ((show wpAny _ _ (execs (_ :: _) _) _ _ _); (k_here; (with_reducible rename UntilMid _ _ _ _ _ => zT9); k_dflt (refine stop_until zT9 ?_))) | with_reducible ((show wpAny _ _ (getMethod (Value.ref _) _ _) _ _ _); (k_here; (with_reducible show wpAny _ _ (getMethod (Value.ref _) (PySem.Str.ofString "reportCharacterErrors") _) _ _ _); k_dflt (refine' kmu_own ?zk1 ?zk2 ?zk3 ?zk4 ?zk5 ?_; (case zk1 => k_asm); (case zk2 => k_asm); (case zk3 => k_inst); (case zk4 => k_is); (case zk5 => k_is); k_whole))) | with_reducible ((show wpAny _ _ (execs (_ :: _) _) _ _ _); (k_here; (with_reducible show wpAny _ _ _ _ _ (Shared.mk _ _ _ (_ + _) _)); k_dflt (refine' gen_toks ?zp ?_; (case zp => ((try dsimp only); exact Nat.succ_pos _)); intro _ _))) | with_reducible ((show wpAny _ _ (isTrue (Expr.Compare _ _ _ _) _ _) _ _ _); (k_here; k_dflt (refine' isTrue_ll ?zF ?zv ?_ ?zk ?zl; (case zF => k_asm); (case zv => rfl); (case zk => rfl); (case zl => rfl); k_whole; intro _; (try dsimp only)))) | with_reducible ((show wpAny _ _ (call (Value.builtin "str.replace") _) _ _ _); k_dflt (first | (refine' call_replace_crlf ?zl ?zu ?zv ?zn ?_; (case zl => (omega)); (case zu => k_ne); (case zv => k_ne); (case zn => k_ne); intro _ _ _ _ _; (try dsimp only)) | (refine' call_replace_cr ?zl ?zu ?zv ?zn ?_; (case zl => (omega)); (case zu => k_ne); (case zv => k_ne); (case zn => k_ne); intro _ _ _ _ _; (try dsimp only)))) | with_reducible ((show wpAny _ _ (call (Value.builtin "str.rfind") _) _ _ _); (refine call_rfind4 ?_; (try dsimp only))) | with_reducible ((show wpAny _ _ (call (Value.builtin "str.count") _) _ _ _); (refine call_count4 ?_; (try dsimp only))) | with_reducible ((show wpAny _ _ (truthy (Value.ref _)) _ _ _); (k_here; (refine' truthy_meth ?zN ?zm ?_; (case zN => k_asm); (case zm => k_mem); k_whole; (try dsimp only)))) | (k_unfold; (try dsimp only)) | walk1 | (dsimp only; walk1) | (dsimp only [List.nil_append, List.cons_append]; walk1) | (k_end; dsimp only; k_unfold; (try dsimp only)) | (leave1; (try dsimp only)) | ((with_reducible show wpAny _ _ (call (Value.builtin "str.count") _) _ _ _); (refine call_count4 ?_; (try dsimp only))) | ((with_reducible show wpAny _ _ (call (Value.builtin "str.replace") _) _ _ _); k_dflt (first | (refine' call_replace_crlf ?zl ?zu ?zv ?zn ?_; (case zl => (omega)); (case zu => k_ne); (case zv => k_ne); (case zn => k_ne); intro _ _ _ _ _; (try dsimp only)) | (refine' call_replace_cr ?zl ?zu ?zv ?zn ?_; (case zl => (omega)); (case zu => k_ne); (case zv => k_ne); (case zn => k_ne); intro _ _ _ _ _; (try dsimp only)))) | ((with_reducible show wpAny _ _ (call (Value.builtin "str.rfind") _) _ _ _); (refine call_rfind4 ?_; (try dsimp only))) | ((with_reducible show wpAny _ _ (getMethod (Value.ref _) _ _) _ _ _); (k_here; (with_reducible show wpAny _ _ (getMethod (Value.ref _) (PySem.Str.ofString "reportCharacterErrors") _) _ _ _); k_dflt (refine' kmu_own ?zk1 ?zk2 ?zk3 ?zk4 ?zk5 ?_; (case zk1 => k_asm); (case zk2 => k_asm); (case zk3 => k_inst); (case zk4 => k_is); (case zk5 => k_is); k_whole))) | ((with_reducible show wpAny _ _ (isTrue (Expr.Compare _ _ _ _) _ _) _ _ _); (k_here; k_dflt (refine' isTrue_ll ?zF ?zv ?_ ?zk ?zl; (case zF => k_asm); (case zv => rfl); (case zk => rfl); (case zl => rfl); k_whole; intro _; (try dsimp only)))) | ((with_reducible show wpAny _ _ (truthy (Value.ref _)) _ _ _); (k_here; (refine' truthy_meth ?zN ?zm ?_; (case zN => k_asm); (case zm => k_mem); k_whole; (try dsimp only)))))))
  unfold StopAt
  (with_reducible rename UntilMid _ _ _ _ _ => hM)
  (with_reducible rename Fr _ _ _ _ => F5)
  k_dflt (refine' hM kt x d q nl td tx er hord S hS hsur chars mem false Ob hin hOb st hst hb t6 n t1 hn hn' _ ?m1 ?m2 ?m3 _ _ _ _ _ _ _ _ _ _ _ _ _ _ _ ?kB ?kF ?kX ?kN ?kT ?kr ?ku ?_)
  case kB => k_asm
  case kF => exact F5
  case m1 => rfl
  case m2 => rfl
  case m3 => rfl
  case kX => k_asm
  case kN => k_asm
  case kT => k_asm
  case kr => (first | assumption | ((simp only [depth_under_make, depth_under_kw, depth_in1, depth_deeper, depth_caller]); (try dsimp only [ktrTop]); first | exact room0 (by assumption) (by decide) | exact room1 (by assumption) (by decide) | omega | decide) | ((try dsimp only [ktrTop]); omega))
  case ku => (first | assumption | ((simp only [units_in1, units_deeper, Around.mark_units, units_caller]); (try dsimp only [ktrTop]); first | exact room0 (by assumption) (by decide) | exact room1 (by assumption) (by decide)) | ((have zhcL := cLine_is); (simp only [units_in1, units_deeper, Around.mark_units, units_caller]); (try dsimp only [ktrTop]); omega) | ((have zhcL := cLine_is); (try dsimp only [ktrTop]); omega))
  k_whole
  intro h8 tk8 m8 r8 t8 st8 F8 N8 p8
  w_strict ((repeat' (first | with_reducible ((show wpAny _ _ (execs (_ :: _) _) _ _ _); (k_here; (with_reducible rename UntilMid _ _ _ _ _ => zT9); k_dflt (refine stop_until zT9 ?_))) | with_reducible ((show wpAny _ _ (getMethod (Value.ref _) _ _) _ _ _); (k_here; (with_reducible show wpAny _ _ (getMethod (Value.ref _) (PySem.Str.ofString "reportCharacterErrors") _) _ _ _); k_dflt (refine' kmu_own ?zk1 ?zk2 ?zk3 ?zk4 ?zk5 ?_; (case zk1 => k_asm); (case zk2 => k_asm); (case zk3 => k_inst); (case zk4 => k_is); (case zk5 => k_is); k_whole))) | with_reducible ((show wpAny _ _ (execs (_ :: _) _) _ _ _); (k_here; (with_reducible show wpAny _ _ _ _ _ (Shared.mk _ _ _ (_ + _) _)); k_dflt (refine' gen_toks ?zp ?_; (case zp => ((try dsimp only); exact Nat.succ_pos _)); intro _ _))) | with_reducible ((show wpAny _ _ (isTrue (Expr.Compare _ _ _ _) _ _) _ _ _); (k_here; k_dflt (refine' isTrue_ll ?zF ?zv ?_ ?zk ?zl; (case zF => k_asm); (case zv => rfl); (case zk => rfl); (case zl => rfl); k_whole; intro _; (try dsimp only)))) | with_reducible ((show wpAny _ _ (call (Value.builtin "str.replace") _) _ _ _); k_dflt (first | (refine' call_replace_crlf ?zl ?zu ?zv ?zn ?_; (case zl => (omega)); (case zu => k_ne); (case zv => k_ne); (case zn => k_ne); intro _ _ _ _ _; (try dsimp only)) | (refine' call_replace_cr ?zl ?zu ?zv ?zn ?_; (case zl => (omega)); (case zu => k_ne); (case zv => k_ne); (case zn => k_ne); intro _ _ _ _ _; (try dsimp only)))) | with_reducible ((show wpAny _ _ (call (Value.builtin "str.rfind") _) _ _ _); (refine call_rfind4 ?_; (try dsimp only))) | with_reducible ((show wpAny _ _ (call (Value.builtin "str.count") _) _ _ _); (refine call_count4 ?_; (try dsimp only))) | with_reducible ((show wpAny _ _ (truthy (Value.ref _)) _ _ _); (k_here; (refine' truthy_meth ?zN ?zm ?_; (case zN => k_asm); (case zm => k_mem); k_whole; (try dsimp only)))) | (k_unfold; (try dsimp only)) | walk1 | (dsimp only; walk1) | (dsimp only [List.nil_append, List.cons_append]; walk1) | (k_end; dsimp only; k_unfold; (try dsimp only)) | (leave1; (try dsimp only)) | ((with_reducible show wpAny _ _ (call (Value.builtin "str.count") _) _ _ _); (refine call_count4 ?_; (try dsimp only))) | ((with_reducible show wpAny _ _ (call (Value.builtin "str.replace") _) _ _ _); k_dflt (first | (refine' call_replace_crlf ?zl ?zu ?zv ?zn ?_; (case zl => (omega)); (case zu => k_ne); (case zv => k_ne); (case zn => k_ne); intro _ _ _ _ _; (try dsimp only)) | (refine' call_replace_cr ?zl ?zu ?zv ?zn ?_; (case zl => (omega)); (case zu => k_ne); (case zv => k_ne); (case zn => k_ne); intro _ _ _ _ _; (try dsimp only)))) | ((with_reducible show wpAny _ _ (call (Value.builtin "str.rfind") _) _ _ _); (refine call_rfind4 ?_; (try dsimp only))) | ((with_reducible show wpAny _ _ (getMethod (Value.ref _) _ _) _ _ _); (k_here; (with_reducible show wpAny _ _ (getMethod (Value.ref _) (PySem.Str.ofString "reportCharacterErrors") _) _ _ _); k_dflt (refine' kmu_own ?zk1 ?zk2 ?zk3 ?zk4 ?zk5 ?_; (case zk1 => k_asm); (case zk2 => k_asm); (case zk3 => k_inst); (case zk4 => k_is); (case zk5 => k_is); k_whole))) | ((with_reducible show wpAny _ _ (isTrue (Expr.Compare _ _ _ _) _ _) _ _ _); (k_here; k_dflt (refine' isTrue_ll ?zF ?zv ?_ ?zk ?zl; (case zF => k_asm); (case zv => rfl); (case zk => rfl); (case zl => rfl); k_whole; intro _; (try dsimp only)))) | ((with_reducible show wpAny _ _ (truthy (Value.ref _)) _ _ _); (k_here; (refine' truthy_meth ?zN ?zm ?_; (case zN => k_asm); (case zm => k_mem); k_whole; (try dsimp only)))))))
  refine' hret _ _ _ _ ?F (news_app ?N ?R) ⟨r8, t8, st8, rfl, rfl, p8⟩
  case F => k_asm
  case N => assumption
  case R => assumption
set_option maxRecDepth 100000 in
set_option maxHeartbeats 2000000 in
theorem does_untilT (w : World) (kt : Nat → Nat) (x d q nl td tx er : Nat) (hord : d < x ∧ x < q ∧ q < td ∧ td < tx ∧ tx < er) (S : Str) (hS : S.length ≤ 10000) (hsur : noSur S.cps.toList) (chars : Value) (mem : Nat → Bool) (Ob : Ledger) (hin : InTest w chars mem Ob) (hOb : OwnOff Ob [er, q, x, d, tx, td])
    (st : StS) (hst : StOk S st) (hb : BufIs st.bufV st.b) (t6 n t1 : Nat) (hn : 2 ≤ n) (hn' : n ≤ 20000) :
    Does w 5 (.ref 121) [.ref x, chars, .bool true] (LS w kt x d q nl td tx er S t6 (.int (n : Int) t1) st ++ Ob) (fun v E' => ∃ r t st', v = .str r t ∧ E' = LS w kt x d q nl td tx er S t6 (.int (n : Int) t1) st' ++ Ob ∧ UntilR S st (fun c => mem c == true) r.cps.toList st') := by
  unfold Does
  k_fill
  have hM := until_mid w (by k_is)
  intro dp un gd cn cs a ccd cl outer A₀ base h₀ L m s R loose mean mg mb rest B F KX N T hdis hk hroom hun hret
  refine' enterR (binds := [(Str.ofString "self", .ref x), (Str.ofString "characters", chars), (Str.ofString "opposite", .bool true)]) ?k1 ?k2 ?k3 ?k4 ?k5 ?kd ?kA ?kF ?kK ?k6 ?k7 ?k8 ?k9 ?kB ?_ ?c2 ?c3 ?c4 ?c5
  (case kA => exact rfl); (case kF => exact rfl); (case kK => first | exact rfl | assumption); (case k1 => k_asm); (case k2 => k_asm); (case k3 => k_asm); (case k4 => k_asm); (case k5 => k_asm); (case kd => assumption); (case k6 => k_dflt k_is); (case k7 => k_dflt k_is); (case k8 => k_room); (case k9 => first | exact BindsTo.of_eq rfl | exact binds_K (by k_in) rfl (by k_is) rfl rfl rfl); (case c5 => decide); (case kB => exact locs rfl); (case c2 => exact rfl); (case c3 => exact rfl); (case c4 => exact rfl)
  k_whole
  intro g' L' h' FG' F' N' B' X' T' lt'
  clear N F
  w_on
  w_top on
  w_strict ((repeat' (first | with_reducible ((show wpAny _ _ (execs (_ :: _) _) _ _ _); (k_here; (with_reducible rename UntilMid _ _ _ _ _ => zT9); k_dflt (refine stop_until zT9 ?_))) | with_reducible ((show wpAny _ _ (getMethod (Value.ref _) _ _) _ _ _); (k_here; (with_reducible show wpAny _ _ (getMethod (Value.ref _) (PySem.Str.ofString "reportCharacterErrors") _) _ _ _); k_dflt (refine' kmu_own ?zk1 ?zk2 ?zk3 ?zk4 ?zk5 ?_; (case zk1 => k_asm); (case zk2 => k_asm); (case zk3 => k_inst); (case zk4 => k_is); (case zk5 => k_is); k_whole))) | with_reducible ((show wpAny _ _ (execs (_ :: _) _) _ _ _); (k_here; (with_reducible show wpAny _ _ _ _ _ (Shared.mk _ _ _ (_ + _) _)); k_dflt (refine' gen_toks ?zp ?_; (case zp => ((try dsimp only); exact Nat.succ_pos _)); intro _ _))) | with_reducible ((show wpAny _ _ (isTrue (Expr.Compare _ _ _ _) _ _) _ _ _); (k_here; k_dflt (refine' isTrue_ll ?zF ?zv ?_ ?zk ?zl; (case zF => k_asm); (case zv => rfl); (case zk => rfl); (case zl => rfl); k_whole; intro _; (try dsimp only)))) | with_reducible ((show wpAny _ _ (call (Value.builtin "str.replace") _) _ _ _); k_dflt (first | (refine' call_replace_crlf ?zl ?zu ?zv ?zn ?_; (case zl => (omega)); (case zu => k_ne); (case zv => k_ne); (case zn => k_ne); intro _ _ _ _ _; (try dsimp only)) | (refine' call_replace_cr ?zl ?zu ?zv ?zn ?_; (case zl => (omega)); (case zu => k_ne); (case zv => k_ne); (case zn => k_ne); intro _ _ _ _ _; (try dsimp only)))) | with_reducible ((show wpAny _ _ (call (Value.builtin "str.rfind") _) _ _ _); (refine call_rfind4 ?_; (try dsimp only))) | with_reducible ((show wpAny _ _ (call (Value.builtin "str.count") _) _ _ _); (refine call_count4 ?_; (try dsimp only))) | with_reducible ((show wpAny _ _ (truthy (Value.ref _)) _ _ _); (k_here; (refine' truthy_meth ?zN ?zm ?_; (case zN => k_asm); (case zm => k_mem); k_whole; (try dsimp only)))) | (k_unfold; (try dsimp only)) | walk1 | (dsimp only; walk1) | (dsimp only [List.nil_append, List.cons_append]; walk1) | (k_end; dsimp only; k_unfold; (try dsimp only)) | (leave1; (try dsimp only)) | ((with_reducible show wpAny _ _ (call (Value.builtin "str.count") _) _ _ _); (refine call_count4 ?_; (try dsimp only))) | ((with_reducible show wpAny _ _ (call (Value.builtin "str.replace") _) _ _ _); k_dflt (first | (refine' call_replace_crlf ?zl ?zu ?zv ?zn ?_; (case zl => (omega)); (case zu => k_ne); (case zv => k_ne); (case zn => k_ne); intro _ _ _ _ _; (try dsimp only)) | (refine' call_replace_cr ?zl ?zu ?zv ?zn ?_; (case zl => (omega)); (case zu => k_ne); (case zv => k_ne); (case zn => k_ne); intro _ _ _ _ _; (try dsimp only)))) | ((with_reducible show wpAny _ _ (call (Value.builtin "str.rfind") _) _ _ _); (refine call_rfind4 ?_; (try dsimp only))) | ((with_reducible show wpAny _ _ (getMethod (Value.ref _) _ _) _ _ _); (k_here; (with_reducible show wpAny _ _ (getMethod (Value.ref _) (PySem.Str.ofString "reportCharacterErrors") _) _ _ _); k_dflt (refine' kmu_own ?zk1 ?zk2 ?zk3 ?zk4 ?zk5 ?_; (case zk1 => k_asm); (case zk2 => k_asm); (case zk3 => k_inst); (case zk4 => k_is); (case zk5 => k_is); k_whole))) | ((with_reducible show wpAny _ _ (isTrue (Expr.Compare _ _ _ _) _ _) _ _ _); (k_here; k_dflt (refine' isTrue_ll ?zF ?zv ?_ ?zk ?zl; (case zF => k_asm); (case zv => rfl); (case zk => rfl); (case zl => rfl); k_whole; intro _; (try dsimp only)))) | ((with_reducible show wpAny _ _ (truthy (Value.ref _)) _ _ _); (k_here; (refine' truthy_meth ?zN ?zm ?_; (case zN => k_asm); (case zm => k_mem); k_whole; (try dsimp only)))))))
  unfold StopAt
  (with_reducible rename UntilMid _ _ _ _ _ => hM)
  (with_reducible rename Fr _ _ _ _ => F5)
  k_dflt (refine' hM kt x d q nl td tx er hord S hS hsur chars mem true Ob hin hOb st hst hb t6 n t1 hn hn' _ ?m1 ?m2 ?m3 _ _ _ _ _ _ _ _ _ _ _ _ _ _ _ ?kB ?kF ?kX ?kN ?kT ?kr ?ku ?_)
  case kB => k_asm
  case kF => exact F5
  case m1 => rfl
  case m2 => rfl
  case m3 => rfl
  case kX => k_asm
  case kN => k_asm
  case kT => k_asm
  case kr => (first | assumption | ((simp only [depth_under_make, depth_under_kw, depth_in1, depth_deeper, depth_caller]); (try dsimp only [ktrTop]); first | exact room0 (by assumption) (by decide) | exact room1 (by assumption) (by decide) | omega | decide) | ((try dsimp only [ktrTop]); omega))
  case ku => (first | assumption | ((simp only [units_in1, units_deeper, Around.mark_units, units_caller]); (try dsimp only [ktrTop]); first | exact room0 (by assumption) (by decide) | exact room1 (by assumption) (by decide)) | ((have zhcL := cLine_is); (simp only [units_in1, units_deeper, Around.mark_units, units_caller]); (try dsimp only [ktrTop]); omega) | ((have zhcL := cLine_is); (try dsimp only [ktrTop]); omega))
  k_whole
  intro h8 tk8 m8 r8 t8 st8 F8 N8 p8
  w_strict ((repeat' (first | with_reducible ((show wpAny _ _ (execs (_ :: _) _) _ _ _); (k_here; (with_reducible rename UntilMid _ _ _ _ _ => zT9); k_dflt (refine stop_until zT9 ?_))) | with_reducible ((show wpAny _ _ (getMethod (Value.ref _) _ _) _ _ _); (k_here; (with_reducible show wpAny _ _ (getMethod (Value.ref _) (PySem.Str.ofString "reportCharacterErrors") _) _ _ _); k_dflt (refine' kmu_own ?zk1 ?zk2 ?zk3 ?zk4 ?zk5 ?_; (case zk1 => k_asm); (case zk2 => k_asm); (case zk3 => k_inst); (case zk4 => k_is); (case zk5 => k_is); k_whole))) | with_reducible ((show wpAny _ _ (execs (_ :: _) _) _ _ _); (k_here; (with_reducible show wpAny _ _ _ _ _ (Shared.mk _ _ _ (_ + _) _)); k_dflt (refine' gen_toks ?zp ?_; (case zp => ((try dsimp only); exact Nat.succ_pos _)); intro _ _))) | with_reducible ((show wpAny _ _ (isTrue (Expr.Compare _ _ _ _) _ _) _ _ _); (k_here; k_dflt (refine' isTrue_ll ?zF ?zv ?_ ?zk ?zl; (case zF => k_asm); (case zv => rfl); (case zk => rfl); (case zl => rfl); k_whole; intro _; (try dsimp only)))) | with_reducible ((show wpAny _ _ (call (Value.builtin "str.replace") _) _ _ _); k_dflt (first | (refine' call_replace_crlf ?zl ?zu ?zv ?zn ?_; (case zl => (omega)); (case zu => k_ne); (case zv => k_ne); (case zn => k_ne); intro _ _ _ _ _; (try dsimp only)) | (refine' call_replace_cr ?zl ?zu ?zv ?zn ?_; (case zl => (omega)); (case zu => k_ne); (case zv => k_ne); (case zn => k_ne); intro _ _ _ _ _; (try dsimp only)))) | with_reducible ((show wpAny _ _ (call (Value.builtin "str.rfind") _) _ _ _); (refine call_rfind4 ?_; (try dsimp only))) | with_reducible ((show wpAny _ _ (call (Value.builtin "str.count") _) _ _ _); (refine call_count4 ?_; (try dsimp only))) | with_reducible ((show wpAny _ _ (truthy (Value.ref _)) _ _ _); (k_here; (refine' truthy_meth ?zN ?zm ?_; (case zN => k_asm); (case zm => k_mem); k_whole; (try dsimp only)))) | (k_unfold; (try dsimp only)) | walk1 | (dsimp only; walk1) | (dsimp only [List.nil_append, List.cons_append]; walk1) | (k_end; dsimp only; k_unfold; (try dsimp only)) | (leave1; (try dsimp only)) | ((with_reducible show wpAny _ _ (call (Value.builtin "str.count") _) _ _ _); (refine call_count4 ?_; (try dsimp only))) | ((with_reducible show wpAny _ _ (call (Value.builtin "str.replace") _) _ _ _); k_dflt (first | (refine' call_replace_crlf ?zl ?zu ?zv ?zn ?_; (case zl => (omega)); (case zu => k_ne); (case zv => k_ne); (case zn => k_ne); intro _ _ _ _ _; (try dsimp only)) | (refine' call_replace_cr ?zl ?zu ?zv ?zn ?_; (case zl => (omega)); (case zu => k_ne); (case zv => k_ne); (case zn => k_ne); intro _ _ _ _ _; (try dsimp only)))) | ((with_reducible show wpAny _ _ (call (Value.builtin "str.rfind") _) _ _ _); (refine call_rfind4 ?_; (try dsimp only))) | ((with_reducible show wpAny _ _ (getMethod (Value.ref _) _ _) _ _ _); (k_here; (with_reducible show wpAny _ _ (getMethod (Value.ref _) (PySem.Str.ofString "reportCharacterErrors") _) _ _ _); k_dflt (refine' kmu_own ?zk1 ?zk2 ?zk3 ?zk4 ?zk5 ?_; (case zk1 => k_asm); (case zk2 => k_asm); (case zk3 => k_inst); (case zk4 => k_is); (case zk5 => k_is); k_whole))) | ((with_reducible show wpAny _ _ (isTrue (Expr.Compare _ _ _ _) _ _) _ _ _); (k_here; k_dflt (refine' isTrue_ll ?zF ?zv ?_ ?zk ?zl; (case zF => k_asm); (case zv => rfl); (case zk => rfl); (case zl => rfl); k_whole; intro _; (try dsimp only)))) | ((with_reducible show wpAny _ _ (truthy (Value.ref _)) _ _ _); (k_here; (refine' truthy_meth ?zN ?zm ?_; (case zN => k_asm); (case zm => k_mem); k_whole; (try dsimp only)))))))
  refine' hret _ _ _ _ ?F (news_app ?N ?R) ⟨r8, t8, st8, rfl, rfl, p8⟩
  case F => k_asm
  case N => assumption
  case R => assumption
end
section
variable {prog : Program} {w : World} {A : Around} {E : Value → Shared → Prop} {s : Shared} {env : Env} {h₀ : Heap} {target : Expr} {body : List Stmt} {Q : Flow → Shared → Prop}
theorem core_turns {fp : List Addr} {n : Nat} {P Md : Nat → Value → Heap → Prop} {St : Nat → Heap → Prop} {m₀ : Str → Option Value} {news : Ledger} (keep : Ledger) (J : Nat → (Str → Option Value) → Ledger → Prop)
    (W : KTurns prog w A target (s.heap.objs.size) fp [s.heap.objs.size] n P Md St) (_ : s.heap.objs.size = s.heap.objs.size) (hfp : ∀ b ∈ fp, b = s.heap.objs.size ∨ ∃ o, (b, o) ∈ keep) (hkeep : ∀ p ∈ keep, p ∈ news) (F : Fr h₀ env.locals s.heap m₀) (N : News h₀ env.locals s.heap news) (o : Obj) (hst : St 0 (s.heap.push o)) (hj : J 0 m₀ news)
    (turn : ∀ i v m₁ news₁ h tk own, i < n → P i v h → news₁.map (·.1) = news.map (·.1) → OwnOff own (news.map (·.1)) → (∀ p ∈ keep, p ∈ news₁) → J i m₁ news₁ → Fr h₀ env.locals h m₁ → News h₀ env.locals h (news₁ ++ own) →
      wpAny (model prog w) A (assign target env v) (fun _ s₃ => wpAny (model prog w) A (execs body env) (InvPostN h₀ env.locals (fun m' nx => (∀ p ∈ keep, p ∈ nx) ∧ J (i + 1) m' nx) own (news.map (·.1)) { s with heap := h, toks := tk } Q) E s₃) E { s with heap := h, toks := tk })
    (done : ∀ m₁ news₁ h tk, (∀ p ∈ keep, p ∈ news₁) → J n m₁ news₁ → Fr h₀ env.locals h m₁ → News h₀ env.locals h news₁ → Q .next { s with heap := h, toks := tk }) :
    TurnsAt prog w A h₀ env target body Q E (.ref s.heap.objs.size) { s with heap := s.heap.push o } := by
  refine ⟨s.heap.objs.size, fp, [s.heap.objs.size], n, P, Md, St, m₀, news, (fun i m nx => nx.map (·.1) = news.map (·.1) ∧ (∀ p ∈ keep, p ∈ nx) ∧ J i m nx), rfl, W, ?_, ?_, ?_, hst, F.push _, (fun p hp => ⟨Heap.get?_push_of_some _ (N p hp).1, (N p hp).2⟩), ⟨rfl, hkeep, hj⟩, ?_, ?_⟩
  · intro hm
    rcases hfp _ hm with e | ⟨o', ho⟩
    · exact absurd F.ns.lt (e ▸ Nat.lt_irrefl _)
    · exact (N _ (hkeep _ ho)).2.1 rfl
  · intro b hb
    rw [List.mem_singleton.mp hb]
    exact next_is_new F
  · intro p hp hI
    exact absurd (Heap.lt_size (N p hp).1) ((List.mem_singleton.mp hI) ▸ Nat.lt_irrefl _)
  · rintro i v m₁ news₁ h₁ tk₁ own hin hP ⟨hadr, hk₁, hJ⟩ hoff hown hget hall hst₁ F₁ N₁
    have hsep : OwnOff (own.filter fun p => decide (p.1 = s.heap.objs.size)) (news.map (·.1)) := by
      intro p hp b hb e
      obtain ⟨q, hq, rfl⟩ := List.mem_map.mp hb
      have h1 : p.1 = s.heap.objs.size := by simpa using (List.mem_filter.mp hp).2
      exact absurd (Heap.lt_size (N q hq).1) (by rw [← e, h1]; exact Nat.lt_irrefl _)
    have N₂ : News h₀ env.locals h₁ (news₁ ++ own.filter fun p => decide (p.1 = s.heap.objs.size)) := fun p hp => N₁ p ((List.mem_append.mp hp).elim (fun h => List.mem_append.mpr (.inr h)) fun h => List.mem_append.mpr (.inl ((List.mem_filter.mp h).1)))
    refine wpAny_mono (turn i v m₁ news₁ h₁ tk₁ _ hin hP hadr hsep hk₁ hJ F₁ N₂) (fun _ s₃ h₃ => wpAny_mono h₃ (fun f s₂ p => ?_) fun _ _ e => e) fun _ _ e => e
    have fin : InvEndN h₀ env.locals (fun m' nx => (∀ p ∈ keep, p ∈ nx) ∧ J (i + 1) m' nx) (own.filter fun p => decide (p.1 = s.heap.objs.size)) (news.map (·.1)) { s with heap := h₁, toks := tk₁ } s₂ →
        LoopStepU h₀ env.locals [s.heap.objs.size] own (fun m nx => nx.map (·.1) = news.map (·.1) ∧ (∀ p ∈ keep, p ∈ nx) ∧ J (i + 1) m nx) { s with heap := h₁, toks := tk₁ } .next s₂ := by
      intro hI9
      refine' ex_5_7 (hI9) ?_; intro h' tk m' news' nx e F' N' hn ho ha hm; (try clear hI9)
      refine ⟨rfl, h', tk, m', nx, e, F', fun p hp => ?_, fun p hp => ?_, ha, hm⟩
      · rcases List.mem_append.mp hp with h | h
        · by_cases hI : p.1 = s.heap.objs.size
          · exact N' p (ho p (List.mem_filter.mpr ⟨h, by simpa using hI⟩))
          · rcases hfp _ (hown p h) with h2 | ⟨o', ho'⟩
            · exact absurd h2 hI
            · have h2 : h₁.get? p.1 = some p.2 := hget p h
              have h4 : h₁.get? p.1 = some o' := (N₁ _ (List.mem_append.mpr (.inr (hk₁ _ ho')))).1
              rw [h2] at h4
              have h3 : p = (p.1, o') := Prod.ext rfl (Option.some.inj h4)
              rw [h3]
              exact N' _ (hn _ (hm.1 _ ho'))
        · exact N' p (hn p h)
      · have h1 : p.1 ∈ nx.map (·.1) := List.mem_map.mpr ⟨p, hp, rfl⟩
        rw [ha] at h1
        obtain ⟨q, hq, e⟩ := List.mem_map.mp h1
        intro hI
        exact absurd (Heap.lt_size (N q hq).1) (by rw [e, List.mem_singleton.mp hI]; exact Nat.lt_irrefl _)
    cases f with
    | ret v => exact .ret p
    | brk => exact .brk p
    | next => exact .next (fin p)
    | cont => exact .cont (fin p)
  · rintro h' tk m' news' F' N' _ ⟨_, hk', hJ⟩
    exact done m' news' h' tk hk' hJ F' N'
theorem for_t {iter : Expr} {pos : Pos} {L : Addr} {m : Str → Option Value} (_F : Fr h₀ L s.heap m)
    (h : wpAny (model prog w) A (eval iter env) (fun xv s₁ => wpAny (model prog w) A (pyIter xv) (fun it s₂ => TurnsAt prog w A h₀ env target body Q (fun _ _ => False) it s₂) (fun _ _ => False) s₁) (fun _ _ => False) s)
    (hs : ∀ x, foldedSetIterable iter env x = pure x) : wpAny (model prog w) A (exec (.For target iter body [] pos) env) Q (fun _ _ => False) s := by
  refine wpAny_For (wpAny_mono h (fun xv s₁ h₁ => wpAny_mono h₁ (fun it s₂ h₂ => ?_) fun _ _ e => e) fun _ _ e => e) hs
  refine' ex_10_11 (h₂) ?_; intro I fp wr n P Md St m news J r910 W hLf hwr hnw hst F N h0 step hQ; subst r910
  exact ktu_loop (R := fun r s' => match r with | .ok f => Q f s' | .error e => cameBackBy (model prog w) A env (fun _ _ => False) e s') W hLf hwr hnw hst F N J h0
    (fun i v m₁ news₁ h₁ tk₁ own a b c d e f g st F₁ N₁ => wpAny_mono (step i v m₁ news₁ h₁ tk₁ own a b c d e f g st F₁ N₁) (fun _ _ x => wpAny_passesOwn PassesOwn.never x) PassesOwn.never) hQ
theorem turn_end {L : Addr} {J : (Str → Option Value) → Ledger → Prop} {m' : Str → Option Value} {own nx : Ledger} {adr : List Addr} {s₁ : Shared} {h' : Heap} {tk : Nat} (F : Fr h₀ L h' m') (hj : J m' nx) (N : News h₀ L h' (nx ++ own)) (ha : nx.map (·.1) = adr) :
    InvEndN h₀ L J own adr s₁ { s₁ with heap := h', toks := tk } := InvEndN.intro F N hj ha (fun _ hp => List.mem_append_left _ hp) (fun _ hp => List.mem_append_right _ hp)
theorem const_int_tk {M : Model} {A : Around} {E : Value → Shared → Prop} {Q : Value → Shared → Prop} {n : Int} {k : Nat} {p : Pos} {heap gens drawn toks os} (h : ∀ tk tk' : Nat, Q (.int n tk) ⟨heap, gens, drawn, tk', os⟩) :
    wpAny M A (eval (.Constant (.int n) k p) env) Q E ⟨heap, gens, drawn, toks, os⟩ := wpAny_Constant_int (h _ _)
theorem const_str_tk {M : Model} {A : Around} {E : Value → Shared → Prop} {Q : Value → Shared → Prop} {n : Str} {k : Nat} {p : Pos} {heap gens drawn toks os} (h : ∀ tk tk' : Nat, Q (.str n tk) ⟨heap, gens, drawn, tk', os⟩) :
    wpAny M A (eval (.Constant (.str n) k p) env) Q E ⟨heap, gens, drawn, toks, os⟩ := wpAny_Constant_str (h _ _)
/-- for over a list of the ledger's -/
theorem list_turns {ax : Addr} {items : Array Value} {nr : Nat} {m₀ : Str → Option Value} {news : Ledger} (J : Nat → (Str → Option Value) → Ledger → Prop)
    (hh : A.handled = none) (hm : (ax, listOf items nr) ∈ news) (F : Fr h₀ env.locals s.heap m₀) (N : News h₀ env.locals s.heap news) (hj : J 0 m₀ news)
    (turn : ∀ i v m₁ news₁ h tk own, items[i]? = some v → news₁.map (·.1) = news.map (·.1) → OwnOff own (news.map (·.1)) → (ax, listOf items nr) ∈ news₁ → J i m₁ news₁ → Fr h₀ env.locals h m₁ → News h₀ env.locals h (news₁ ++ own) → ∀ QQ, QQ = InvPostN h₀ env.locals (fun m' nx => (∀ p ∈ [((ax, listOf items nr) : Addr × Obj)], p ∈ nx) ∧ J (i + 1) m' nx) own (news.map (·.1)) { s with heap := h, toks := tk } Q →
      wpAny (model prog w) A (assign target env v) (fun _ s₃ => wpAny (model prog w) A (execs body env) QQ E s₃) E { s with heap := h, toks := tk })
    (done : ∀ m₁ news₁ h tk, (ax, listOf items nr) ∈ news₁ → J items.size m₁ news₁ → Fr h₀ env.locals h m₁ → News h₀ env.locals h news₁ → Q .next { s with heap := h, toks := tk }) :
    wpAny (model prog w) A (pyIter (.ref ax)) (fun it s₂ => TurnsAt prog w A h₀ env target body Q E it s₂) E s := by
  have hl : s.heap.IsList ax items := ⟨_, (N _ hm).1, rfl, nr, rfl⟩
  have hne : ax ≠ s.heap.objs.size := Nat.ne_of_lt (Heap.lt_size (N _ hm).1)
  refine wpAny_pyIter_list hl ?_
  refine core_turns [((ax, listOf items nr) : Addr × Obj)] J (KTurns.ofWalks (Walks.list hh s.heap.objs.size ax hne items) fun i v s Q E st q => letGo_listiter st.1 q) rfl (fun b hb => ?_) (fun p hp => by rw [List.mem_singleton.mp hp]; exact hm) F N _ ⟨⟨_, Heap.get?_push_size _ rfl, rfl, rfl⟩, hl.at fun o e => Heap.get?_push_of_some _ e⟩ hj
    (fun i v m₁ news₁ h tk own _ hP a b c hJ F₁ N₁ => turn i v m₁ news₁ h tk own hP a b (c _ (.head _)) hJ F₁ N₁ _ rfl) (fun m₁ news₁ h tk c => done m₁ news₁ h tk (c _ (.head _)))
  rcases List.mem_cons.mp hb with e | hb
  · exact .inl e
  · exact .inr ⟨_, by rw [List.mem_singleton.mp hb]; exact .head _⟩
end
section
open PyProof.Rows.LCg
section
variable {prog : Program} {w : World} {A : Around} {E : Value → Shared → Prop} {s : Shared} {h₀ : Heap} {L : Addr} {m : Str → Option Value} {env : Env}
/-- a turn's end -/
noncomputable def CEnd (h₀ : Heap) (L : Addr) (m : Str → Option Value) (s : Shared) (news : Ledger) (P : Prop) (s' : Shared) : Prop := ∃ h' tk', s' = { s with heap := h', toks := tk' } ∧ Fr h₀ L h' m ∧ News h₀ L h' news ∧ P
theorem cEnd {h₀ : Heap} {L : Addr} {m : Str → Option Value} {s : Shared} {news : Ledger} {P : Prop} {h' : Heap} {tk' : Nat} (F : Fr h₀ L h' m) (N : News h₀ L h' news) (p : P) : CEnd h₀ L m s news P { s with heap := h', toks := tk' } := ⟨h', tk', rfl, F, N, p⟩
/-- a comprehension's turns by an invariant, the ledger kept -/
theorem rest_ind {elt : Expr} {x : Str} {scope : Scope} {cl : List (Str × Addr)} {S : Ledger → Prop} {P : Nat → Value → Prop} {Fin : List Value → Ledger → Prop} {n : Nat} {news : Ledger} (J : Nat → List Value → Prop) (hS : S news) (hj : J 0 [])
    (turn : ∀ i v ys I oI C oC D m₂ h tk (E' : Value → Shared → Prop), i < n → P i v → J i ys → NsObj oC m₂ → m₂ x = some v → Fr h₀ L h m → News h₀ L h ((I, oI) :: (C, oC) :: (D, lst ys) :: news) →
      wpAny (model prog w) A (eval elt (compEnvC scope cl C env)) (fun y s' => CEnd h₀ L m s ((I, oI) :: (C, oC) :: (D, lst ys) :: news) (J (i + 1) (ys ++ [y])) s') E' { s with heap := h, toks := tk })
    (fin : ∀ ys, J n ys → Fin ys news) : CompRest prog w A h₀ L m env elt x scope cl s S P Fin n 0 [] news := by
  have all : ∀ k i ys, i + k = n → J i ys → CompRest prog w A h₀ L m env elt x scope cl s S P Fin k i ys news := by
    intro k
    induction k with
    | zero => intro i ys e hJ; exact CompRest.zero (fin ys (by have : i = n := e; rw [← this]; exact hJ))
    | succ k ih =>
      intro i ys e hJ
      refine CompRest.succ fun v I oI C oC D m₂ h tk E' hP hC hx F N off ne => ?_
      refine wpAny_mono (turn i v ys I oI C oC D m₂ h tk E' (by omega) hP hJ hC hx F N) (fun y s' h' => ?_) fun _ _ e => e
      obtain ⟨h1, tk1, rfl, F1, N1, hJ1⟩ := h'
      exact ⟨h1, tk1, news, rfl, F1, N1, off, hS, ih (i + 1) (ys ++ [y]) (by omega) hJ1⟩
  exact all n 0 [] (Nat.zero_add n) hj
end
end
section
open PyProof.Rows.LCg
section
variable {prog : Program} {w : World} {A : Around} {s : Shared} {h₀ : Heap} {L : Addr} {m : Str → Option Value} {env : Env}
theorem two_out (elt t1 t2 iter1 iter2 : Expr) (ifs : List Expr) (scope : Scope) (pos : Pos) (it acc : Value) (env : Env) :
    compTurn (.ListComp elt [⟨t1, iter1, [], 0⟩, ⟨t2, iter2, ifs, 0⟩] scope pos) 0 it acc env = (do
      standAt iter1.pos
      match ← pyNext it with
      | none => pure (.done .next)
      | some v =>
        letOwnedTupleGo t1 it v
        assign t1 env v
        let x ← eval iter2 env
        standAt iter2.pos
        let x ← foldedSetIterable iter2 env x
        let _ ← runOwn (.compStart (.ListComp elt [⟨t1, iter1, [], 0⟩, ⟨t2, iter2, ifs, 0⟩] scope pos) 1 (← holding [x] (pyIter x)) acc env) env
        again (.compLoop (.ListComp elt [⟨t1, iter1, [], 0⟩, ⟨t2, iter2, ifs, 0⟩] scope pos) 0 it acc env)) := by rfl
theorem two_in (elt t1 t2 iter1 iter2 : Expr) (ifs : List Expr) (scope : Scope) (pos : Pos) (it acc : Value) (env : Env) :
    compTurn (.ListComp elt [⟨t1, iter1, [], 0⟩, ⟨t2, iter2, ifs, 0⟩] scope pos) 1 it acc env = (do
      standAt iter2.pos
      match ← pyNext it with
      | none => pure (.done .next)
      | some v =>
        letOwnedTupleGo t2 it v
        assign t2 env v
        let mut ok := true
        for c in ifs do
          if ok then ok ← isTrue c env (eval c env)
        if ok then
          (do let _ ← call (.builtin "list.append") [acc, ← eval elt env])
        again (.compLoop (.ListComp elt [⟨t1, iter1, [], 0⟩, ⟨t2, iter2, ifs, 0⟩] scope pos) 1 it acc env)) := by rfl
theorem loop_out {elt t1 t2 iter1 iter2 : Expr} {ifs : List Expr} {scope : Scope} {pos : Pos} {it acc : Value} {env : Env} {R : Result → Shared → Prop} (I : Nat → Shared → Prop)
    (turn : ∀ n s, I n s → wpAny (model prog w) A (pyNext it) (fun r s₁ => match r with
      | none => R (.ok .next) s₁
      | some v => wpAny (model prog w) A (letOwnedTupleGo t1 it v) (fun _ s₁' => wpAny (model prog w) A (assign t1 env v) (fun _ s₂ => wpAny (model prog w) A (eval iter2 env) (fun x s₃ => wpAny (model prog w) A (pyIter x) (fun it2 s₄ =>
          codeAny (model prog w) A (.compStart (.ListComp elt [⟨t1, iter1, [], 0⟩, ⟨t2, iter2, ifs, 0⟩] scope pos) 1 it2 acc env) (fun r s₅ => match r with | .ok _ => ∃ k, k < n ∧ I k s₅ | .error _ => False) s₄) (fun _ _ => False) s₃) (fun _ _ => False) s₂) (fun _ _ => False) s₁') (fun _ _ => False) s₁) (fun _ _ => False) s)
    (hs : ∀ x, foldedSetIterable iter2 env x = pure x) (n : Nat) (h : I n s) :
    codeAny (model prog w) A (.compLoop (.ListComp elt [⟨t1, iter1, [], 0⟩, ⟨t2, iter2, ifs, 0⟩] scope pos) 0 it acc env) R s := by
  refine codeAny_loop rfl I (fun n s hI => ?_) n h
  show wpAny _ A ((compTurn (.ListComp elt [⟨t1, iter1, [], 0⟩, ⟨t2, iter2, ifs, 0⟩] scope pos) 0 it acc env).onRaise (fun x => do noteFrame x env; theTreesLotGoes x)) _ _ s
  refine wpAny_noted ?_
  rw [two_out]
  refine wpAny_bind (wpAny_standAt (wpAny_bind (wpAny_mono (turn n s hI) (fun r s₁ h₁ => ?_) fun _ _ h' => h'.elim)))
  cases r with
  | none => exact wpAny_pure h₁
  | some v =>
    refine wpAny_bind (wpAny_mono h₁ (fun _ s₁' h₁' => wpAny_bind (wpAny_mono h₁' (fun _ s₂ h₂ => wpAny_bind (wpAny_mono h₂ (fun x s₃ h₃ => ?_) fun _ _ h' => h'.elim)) fun _ _ h' => h'.elim)) fun _ _ h' => h'.elim)
    refine wpAny_bind (wpAny_standAt (wpAny_bind (wpAny_of_eq (hs x) (wpAny_bind (wpAny_holding (wpAny_mono h₃ (fun it2 s₄ h₄ => ?_) fun _ _ h' => h'.elim))))))
    refine wpAny_bind (wpAny_runOwn (codeAny_mono h₄ fun r s₅ h₅ => ?_))
    cases r with
    | ok f => exact wpAny_pure ⟨rfl, h₅⟩
    | error e => exact h₅.elim
theorem loop_in {elt t1 t2 iter1 iter2 : Expr} {ifs : List Expr} {scope : Scope} {pos : Pos} {it acc : Value} {env : Env} {R : Result → Shared → Prop} (I : Nat → Shared → Prop)
    (turn : ∀ n s, I n s → wpAny (model prog w) A (pyNext it) (fun r s₁ => match r with
      | none => R (.ok .next) s₁
      | some v => wpAny (model prog w) A (assign t2 env v) (fun _ s₂ =>
          wpAny (model prog w) A (forIn ifs true fun c r => if r = true then do let ok ← isTrue c env (eval c env); pure (ForInStep.yield ok) else pure (ForInStep.yield r)) (fun ok s₃ =>
            if ok = true then wpAny (model prog w) A (eval elt env) (fun x s₄ =>
              wpAny (model prog w) A (call (.builtin "list.append") [acc, x]) (fun _ s₅ => ∃ m, m < n ∧ I m s₅) (fun _ _ => False) s₄) (fun _ _ => False) s₃
            else ∃ m, m < n ∧ I m s₃) (fun _ _ => False) s₂) (fun _ _ => False) s₁) (fun _ _ => False) s)
    (n : Nat) (h : I n s) (ht : ∀ v, letOwnedTupleGo t2 it v = pure () := by intro _; rfl) :
    codeAny (model prog w) A (.compLoop (.ListComp elt [⟨t1, iter1, [], 0⟩, ⟨t2, iter2, ifs, 0⟩] scope pos) 1 it acc env) R s := by
  refine codeAny_loop rfl I (fun n s hI => ?_) n h
  show wpAny _ A ((compTurn (.ListComp elt [⟨t1, iter1, [], 0⟩, ⟨t2, iter2, ifs, 0⟩] scope pos) 1 it acc env).onRaise (fun x => do noteFrame x env; theTreesLotGoes x)) _ _ s
  refine wpAny_noted ?_
  rw [two_in]
  refine wpAny_bind (wpAny_standAt (wpAny_bind (wpAny_mono (turn n s hI) (fun r s₁ h₁ => ?_) fun _ _ h' => h'.elim)))
  cases r with
  | none => exact wpAny_pure h₁
  | some v =>
    refine wpAny_bind (wpAny_of_eq (ht v) ?_)
    refine wpAny_bind (wpAny_mono h₁ (fun _ s₂ h₂ => wpAny_bind (wpAny_mono h₂ (fun ok s₃ h₃ => ?_) fun _ _ h' => h'.elim)) fun _ _ h' => h'.elim)
    cases ok with
    | false => exact wpAny_pure ⟨rfl, h₃⟩
    | true =>
      exact wpAny_bind (wpAny_bind (wpAny_mono h₃ (fun x s₄ h₄ => wpAny_bind (wpAny_mono h₄ (fun _ s₅ h₅ => wpAny_pure (wpAny_pure ⟨rfl, h₅⟩)) fun _ _ h' => h'.elim)) fun _ _ h' => h'.elim))
theorem start_in {elt t1 t2 iter1 iter2 : Expr} {ifs : List Expr} {scope : Scope} {pos : Pos} {it acc : Value} {env : Env} {R : Result → Shared → Prop}
    (h0 : codeAny (model prog w) A (.compLoop (.ListComp elt [⟨t1, iter1, [], 0⟩, ⟨t2, iter2, ifs, 0⟩] scope pos) 1 it acc env) R s)
    (h : wpAny (model prog w) A (pyIter it) (fun it' s' => codeAny (model prog w) A (.compLoop (.ListComp elt [⟨t1, iter1, [], 0⟩, ⟨t2, iter2, ifs, 0⟩] scope pos) 1 it' acc env) R s') (fun _ _ => False) s) :
    codeAny (model prog w) A (.compStart (.ListComp elt [⟨t1, iter1, [], 0⟩, ⟨t2, iter2, ifs, 0⟩] scope pos) 1 it acc env) R s := by
  refine codeAny_of_tree ?_
  show wpAny _ _ ((compStart (.ListComp elt [⟨t1, iter1, [], 0⟩, ⟨t2, iter2, ifs, 0⟩] scope pos) 1 it acc env).onRaise (fun x => do noteFrame x env; standAt theWindowsPlace)) _ _ s
  refine wpAny_notedAt ?_
  unfold compStart
  show wpAny _ _ (ask >>= _) _ _ s
  refine wpAny_bind (wpAny_askSetting (wpAny_ite ?_))
  split
  · first
      | exact wpAny_bind (wpAny_pure (wpAny_pure (And.intro rfl h0)))
      | exact wpAny_pure (And.intro rfl h0)
  · refine wpAny_bind (wpAny_rule ?_)
    show wpAny _ _ (standAt iter2.pos >>= _) _ _ s
    exact wpAny_bind (wpAny_standAt (wpAny_bind (wpAny_mono h (fun it' s' h' => wpAny_pure (And.intro rfl h')) fun _ _ x => x.elim)))
/-- a turn's end, the ledger grown -/
noncomputable def GrEnd (h₀ : Heap) (L : Addr) (m : Str → Option Value) (s : Shared) (off : List Addr) (fixed own R : Ledger) (J : Ledger → Prop) (s' : Shared) : Prop :=
  ∃ h' tk' new, s' = { s with heap := h', toks := tk' } ∧ Fr h₀ L h' m ∧ News h₀ L h' (new ++ (fixed ++ (own ++ R))) ∧ OwnOff new off ∧ J (new ++ own)
theorem grEnd {off : List Addr} {fixed own R : Ledger} {J : Ledger → Prop} {h' : Heap} {tk' : Nat} (new : Ledger) (F : Fr h₀ L h' m) (N : News h₀ L h' (new ++ (fixed ++ (own ++ R)))) (o : OwnOff new off) (hj : J (new ++ own)) :
    GrEnd h₀ L m s off fixed own R J { s with heap := h', toks := tk' } := ⟨h', tk', new, rfl, F, N, o, hj⟩
theorem gr_mem4 {p i2 i c d : Addr × Obj} {new own R : Ledger} (h : p ∈ i :: d :: ((new ++ own) ++ R)) : p ∈ new ++ ([i2, i, c, d] ++ (own ++ R)) := by
  have k : i :: d :: ((new ++ own) ++ R) ⊆ new ++ ([i2, i, c, d] ++ (own ++ R)) := List.cons_subset.mpr ⟨List.mem_append_right new (.tail _ (.head _)), List.cons_subset.mpr ⟨List.mem_append_right new (.tail _ (.tail _ (.tail _ (.head _)))), List.append_subset.mpr ⟨List.append_subset.mpr ⟨fun q hq => List.mem_append_left _ hq, fun q hq => List.mem_append_right new (.tail _ (.tail _ (.tail _ (.tail _ (List.mem_append_left R hq)))))⟩, fun q hq => List.mem_append_right new (.tail _ (.tail _ (.tail _ (.tail _ (List.mem_append_right own hq)))))⟩⟩⟩
  exact k h
/-- the inner loop's turns -/
noncomputable def InTurns (prog : Program) (w : World) (A : Around) (h₀ : Heap) (L : Addr) (m : Str → Option Value) (env : Env) (elt : Expr) (y : Str) (ifs : List Expr) (scope : Scope) (cl : List (Str × Addr)) (s : Shared) (R : Ledger) (n : Nat) (P : Nat → Value → Prop) (J : Nat → List Value → Ledger → Prop) : Prop :=
  ∀ i v ys own I oI C oC D I2 oI2 m₂ h tk, i < n → P i v → J i ys own → NsObj oC m₂ → m₂ y = some v → Fr h₀ L h m → News h₀ L h ((I2, oI2) :: (I, oI) :: (C, oC) :: (D, lst ys) :: (own ++ R)) →
    wpAny (model prog w) A (forIn ifs true fun c r => if r = true then do let ok ← isTrue c (compEnvC scope cl C env) (eval c (compEnvC scope cl C env)); pure (ForInStep.yield ok) else pure (ForInStep.yield r)) (fun ok s₃ =>
      if ok = true then wpAny (model prog w) A (eval elt (compEnvC scope cl C env)) (fun y' s' => GrEnd h₀ L m s [I2, I, C, D] [(I2, oI2), (I, oI), (C, oC), (D, lst ys)] own R (J (i + 1) (ys ++ [y'])) s') (fun _ _ => False) s₃
      else GrEnd h₀ L m s [I2, I, C, D] [(I2, oI2), (I, oI), (C, oC), (D, lst ys)] own R (J (i + 1) ys) s₃) (fun _ _ => False) { s with heap := h, toks := tk }
theorem inner_loop {elt t1 iter1 iter2 : Expr} {y : Str} {py pos : Pos} {ifs : List Expr} {scope : Scope} {cl : List (Str × Addr)} {I C D I2 : Addr} {oI : Obj} {R : Ledger} {fp : List Addr} {n : Nat} {P : Nat → Value → Prop} {St : Nat → Heap → Prop} {RR : Result → Shared → Prop}
    (J : Nat → List Value → Ledger → Prop) (W : Walks prog w A I2 fp [I2] n P St) (hfp : ∀ b ∈ fp, b = I2 ∨ ∃ o, ((b, o) : Addr × Obj) ∈ R) (hIo : ∀ i h, St i h → ∃ o, h.get? I2 = some o)
    (hkind : scope.kind = .function) (hy : scope.names.lookup y = some .local) (hlen : ∀ i ys own, J i ys own → ys.length ≤ sizeLine)
    (d1 : I2 ≠ I) (d2 : I2 ≠ C) (d3 : I2 ≠ D) (d4 : I ≠ C) (d5 : I ≠ D) (d6 : C ≠ D) (dL : L ≠ I2) (dC : C ≠ L) (g1 : h₀.get? I2 = none) (g2 : h₀.get? C = none)
    (turn : InTurns prog w A h₀ L m env elt y ifs scope cl s R n P J) {m' : Str → Option Value} {ys : List Value} {own : Ledger}
    (hst : St 0 s.heap) (F : Fr h₀ L s.heap m) (hn : s.heap.Ns C m') (N : News h₀ L s.heap ((I, oI) :: (D, lst ys) :: (own ++ R))) (off : OwnOff (own ++ R) [I2, I, C, D]) (hj : J 0 ys own)
    (done : ∀ h' tk m' ys own, Fr h₀ L h' m → h'.Ns C m' → News h₀ L h' ((I, oI) :: (D, lst ys) :: (own ++ R)) → OwnOff (own ++ R) [I2, I, C, D] → J n ys own → RR (.ok .next) { s with heap := h', toks := tk }) :
    codeAny (model prog w) A (.compLoop (.ListComp elt [⟨t1, iter1, [], 0⟩, ⟨.Name y py, iter2, ifs, 0⟩] scope pos) 1 (.ref I2) (.ref D) (compEnvC scope cl C env)) RR s := by
  have hDf : D ∉ fp := fun hm => by
    rcases hfp _ hm with e | ⟨o, e⟩
    · exact d3 e.symm
    · exact off (D, o) (List.mem_append_right _ e) D (.tail _ (.tail _ (.tail _ (.head _)))) rfl
  have hCf : C ∉ fp := fun hm => by
    rcases hfp _ hm with e | ⟨o, e⟩
    · exact d2 e.symm
    · exact off (C, o) (List.mem_append_right _ e) C (.tail _ (.tail _ (.head _))) rfl
  have zI0 := N (I, oI) (.head _)
  have zD0 := N (D, lst ys) (.tail _ (.head _))
  have hD₀ := zD0.2.2
  have hDL := zD0.2.1
  refine loop_in
    (fun k s' => ∃ h' tk i ys own m', s' = { s with heap := h', toks := tk } ∧ i ≤ n ∧ k = n + 1 - i ∧ St i h' ∧ Fr h₀ L h' m ∧ h'.Ns C m' ∧ News h₀ L h' ((I, oI) :: (D, lst ys) :: (own ++ R)) ∧
      OwnOff (own ++ R) [I2, I, C, D] ∧ J i ys own) ?_ (n + 1) ⟨s.heap, s.toks, 0, ys, own, m', rfl, Nat.zero_le _, rfl, hst, F, hn, N, off, hj⟩
  intro k s' hI9
  refine' ex_6_9 (hI9) ?_; intro h' tk i ys own m' r96 hi r98 hst' F' hn' N' off' hJ; (try clear hI9); subst r96; subst r98
  by_cases hlt : i < n
  · refine W.item i _ _ _ hlt hst' fun v h₂ tk₂ hPv hst₂ hk₂ => ?_
    refine wpAny_assign_Name (wpAny_storeName_local (lookup_relabel_local hy) (hn'.at' fun o e => hk₂ _ o (fun q => d2 (List.mem_singleton.mp q).symm) e) (fun h₃ hn₃ hs₃ => ?_) (by simp [compEnvC, relabel, hkind]))
    have hst₃ : St (i + 1) h₃ := W.frame _ _ _ hst₂ fun b hb o e => hs₃.extBut b o (fun q => hCf (by have q' : b = C := q; rw [← q']; exact hb)) e
    obtain ⟨oI2, heI⟩ := hIo _ _ hst₃
    obtain ⟨oC, heC, hoC⟩ := ns_obj hn₃
    have F₃ : Fr h₀ L h₃ m := (fr_but F' hk₂ dL g1).change hs₃ dC g2
    have up : ∀ b o, b ≠ I2 → b ≠ C → h'.get? b = some o → h₃.get? b = some o := fun b o e1 e2 e => hs₃.extBut b o e2 (hk₂ b o (fun q => e1 (List.mem_singleton.mp q)) e)
    have N₃ : News h₀ L h₃ ((I2, oI2) :: (I, oI) :: (C, oC) :: (D, lst ys) :: (own ++ R)) := fun p hp => by
      rcases List.mem_cons.mp hp with rfl | hp
      · exact ⟨heI, Ne.symm dL, g1⟩
      · rcases List.mem_cons.mp hp with rfl | hp
        · have z := N' (I, oI) (.head _)
          exact ⟨up _ _ (Ne.symm d1) d4 z.1, z.2⟩
        · rcases List.mem_cons.mp hp with rfl | hp
          · exact ⟨heC, dC, g2⟩
          · rcases List.mem_cons.mp hp with rfl | hp
            · have z := N' (D, lst ys) (.tail _ (.head _))
              exact ⟨up _ _ (Ne.symm d3) (Ne.symm d6) z.1, z.2⟩
            · have z := N' p (.tail _ (.tail _ hp))
              exact ⟨up _ _ (off' p hp I2 (.head _)) (off' p hp C (.tail _ (.tail _ (.head _)))) z.1, z.2⟩
    have keepSt : ∀ h₄, h₄.get? I2 = some oI2 → (∀ p ∈ R, h₄.get? p.1 = some p.2) → St (i + 1) h₄ := fun h₄ e1 e2 => W.frame _ _ _ hst₃ fun b hb o e => by
      rcases hfp b hb with rfl | ⟨o', hm⟩
      · rw [heI] at e; cases e; exact e1
      · have z := (N₃ (b, o') (.tail _ (.tail _ (.tail _ (.tail _ (List.mem_append_right own hm)))))).1
        rw [show h₃.get? b = some o' from z] at e
        cases e
        exact e2 (b, o) hm
    have next : ∀ (ys' : List Value) (new : Ledger) (h₅ : Heap) (tk₅ : Nat), Fr h₀ L h₅ m → h₅.get? I2 = some oI2 → h₅.get? C = some oC → News h₀ L h₅ ((I, oI) :: (D, lst ys') :: ((new ++ own) ++ R)) → OwnOff new [I2, I, C, D] → J (i + 1) ys' (new ++ own) →
        ∃ q', q' < n + 1 - i ∧ (∃ h' tk i ys own m', ({ s with heap := h₅, toks := tk₅ } : Shared) = { s with heap := h', toks := tk } ∧ i ≤ n ∧ q' = n + 1 - i ∧ St i h' ∧ Fr h₀ L h' m ∧ h'.Ns C m' ∧ News h₀ L h' ((I, oI) :: (D, lst ys) :: (own ++ R)) ∧ OwnOff (own ++ R) [I2, I, C, D] ∧ J i ys own) := by
      intro ys' new h₅ tk₅ F₅ zI zC N₅ o₅ hJ₅
      refine ⟨n + 1 - (i + 1), by omega, h₅, tk₅, i + 1, ys', new ++ own, _, rfl, hlt, rfl, keepSt h₅ zI (fun p hp => (N₅ p (.tail _ (.tail _ (List.mem_append_right _ hp)))).1), F₅, hoC.ns zC, N₅, fun p hp => ?_, hJ₅⟩
      rw [List.append_assoc] at hp
      rcases List.mem_append.mp hp with hp | hp
      · exact o₅ p hp
      · exact off' p hp
    refine wpAny_mono (turn i v ys own I oI C oC D I2 oI2 _ h₃ _ hlt hPv hJ hoC (if_pos rfl) F₃ N₃) (fun ok s₃ h₃' => ?_) fun _ _ e => e
    cases ok with
    | false =>
      simp only [Bool.false_eq_true, if_false] at h₃' ⊢
      refine' ex_3_5 (h₃') ?_; intro h₄ tk₄ new r93 F₄ N₄ o₄ hJ₄; subst r93
      exact next ys new h₄ tk₄ F₄ (N₄ (I2, oI2) (List.mem_append_right new (.head _))).1 (N₄ (C, oC) (List.mem_append_right new (.tail _ (.tail _ (.head _))))).1 (fun p hp => N₄ p (gr_mem4 hp)) o₄ hJ₄
    | true =>
      simp only [if_true] at h₃' ⊢
      refine wpAny_mono h₃' (fun y' s₄ h₄' => ?_) fun _ _ e => e
      refine' ex_3_5 (h₄') ?_; intro h₄ tk₄ new r93 F₄ N₄ o₄ hJ₄; subst r93
      have zD := (N₄ (D, lst ys) (List.mem_append_right new (.tail _ (.tail _ (.tail _ (.head _)))))).1
      refine append_at (hsz := by show ys.toArray.size ≤ sizeLine; rw [List.size_toArray]; exact hlen i ys own hJ) zD fun h₅ hs₅ hD₅ => ?_
      refine next (ys ++ [y']) new h₅ _ (F₄.change hs₅ hDL hD₀) (hs₅.extBut _ _ d3 (N₄ (I2, oI2) (List.mem_append_right new (.head _))).1) (hs₅.extBut _ _ d6 (N₄ (C, oC) (List.mem_append_right new (.tail _ (.tail _ (.head _))))).1) (fun p hp => ?_) o₄ hJ₄
      rcases List.mem_cons.mp hp with rfl | hp
      · have z := N₄ (I, oI) (List.mem_append_right new (.tail _ (.head _)))
        exact ⟨hs₅.extBut _ _ d5 z.1, z.2⟩
      · rcases List.mem_cons.mp hp with rfl | hp
        · exact ⟨hD₅.trans (congrArg some (lst_snoc ys y')), hDL, hD₀⟩
        · have z := N₄ p (gr_mem4 (i := (I, oI)) (d := (D, lst ys)) (.tail _ (.tail _ hp)))
          refine ⟨hs₅.extBut _ _ ?_ z.1, z.2⟩
          rw [List.append_assoc] at hp
          rcases List.mem_append.mp hp with hp | hp
          · exact o₄ p hp D (.tail _ (.tail _ (.tail _ (.head _))))
          · exact off' p hp D (.tail _ (.tail _ (.tail _ (.head _))))
  · obtain rfl : i = n := Nat.le_antisymm hi (Nat.not_lt.mp hlt)
    refine W.done _ _ _ hst' fun h₂ tk₂ hk₂ => ?_
    refine done h₂ tk₂ m' ys own (fr_but F' hk₂ dL g1) (hn'.at' fun o e => hk₂ _ o (fun q => d2 (List.mem_singleton.mp q).symm) e) (news_but N' hk₂ fun p hp => ?_) off' hJ
    rcases List.mem_cons.mp hp with rfl | hp
    · exact Ne.symm d1
    · rcases List.mem_cons.mp hp with rfl | hp
      · exact Ne.symm d3
      · exact off' p hp I2 (.head _)
/-- what an iterable of a clause gives -/
noncomputable def IterOk (prog : Program) (w : World) (A : Around) (t : Expr) (xv : Value) (R : Ledger) (n : Nat) (P : Nat → Value → Prop) : Prop :=
  ∀ (s : Shared) (Q : Value → Shared → Prop), (∀ p ∈ R, s.heap.get? p.1 = some p.2) →
    (∀ o fp St, Walks prog w A s.heap.objs.size fp [s.heap.objs.size] n P St → St 0 (s.heap.push o) → (∀ b ∈ fp, b = s.heap.objs.size ∨ ∃ o', ((b, o') : Addr × Obj) ∈ R) → (∀ i h, St i h → ∃ o, h.get? s.heap.objs.size = some o) →
      (∀ i v s' (Q' : Unit → Shared → Prop) E, St i s'.heap → Q' () s' → wpAny (model prog w) A (letOwnedTupleGo t (.ref s.heap.objs.size) v) Q' E s') → Q (.ref s.heap.objs.size) { s with heap := s.heap.push o }) →
    wpAny (model prog w) A (pyIter xv) Q (fun _ _ => False) s
theorem iter_str {x X : Str} {px : Pos} {t : Nat} {R : Ledger} (hh : A.handled = none) : IterOk prog w A (.Name x px) (.str X t) R X.length (SignAt X) := by
  intro s Q hR h
  refine wpAny_pyIter_strU ?_
  unfold strIterType
  by_cases ha : X.cps.all (· < 128) = true
  · rw [if_pos ha]
    exact h _ _ _ (Walks.strAscii hh _ X t) ⟨_, Heap.get?_push_size _ rfl, rfl, rfl⟩ (fun b hb => .inl (List.mem_singleton.mp hb)) (fun i h st => let ⟨o, e, _⟩ := st; ⟨o, e⟩) fun i v s' Q' E st q => by unfold letOwnedTupleGo; exact wpAny_pure q
  · rw [if_neg ha]
    exact h _ _ _ (Walks.strWide hh _ X t) ⟨_, Heap.get?_push_size _ rfl, rfl, rfl⟩ (fun b hb => .inl (List.mem_singleton.mp hb)) (fun i h st => let ⟨o, e, _⟩ := st; ⟨o, e⟩) fun i v s' Q' E st q => by unfold letOwnedTupleGo; exact wpAny_pure q
theorem iter_list {t : Expr} {ax : Addr} {o : Obj} {items : Array Value} {nr : Nat} {R : Ledger} (hh : A.handled = none) (hc : o.cls = .type "list") (hd : o.data = .seq items nr) (hm : (ax, o) ∈ R) : IterOk prog w A t (.ref ax) R items.size (fun i v => items[i]? = some v) := by
  intro s Q hR h
  have hl : s.heap.IsList ax items := ⟨_, hR _ hm, hc, nr, hd⟩
  have hne : ax ≠ s.heap.objs.size := Nat.ne_of_lt (Heap.lt_size (hR _ hm))
  refine wpAny_pyIter_list hl (h _ _ _ (Walks.list hh s.heap.objs.size ax hne items) ⟨⟨_, Heap.get?_push_size _ rfl, rfl, rfl⟩, hl.push _⟩ (fun b hb => ?_) (fun i h st => by obtain ⟨o, e, _⟩ := st.1; exact ⟨o, e⟩) fun i v s' Q' E st q => letGo_listiter st.1 q)
  rcases List.mem_cons.mp hb with e | hb
  · exact .inl e
  · exact .inr ⟨_, by rw [List.mem_singleton.mp hb]; exact hm⟩
theorem iter_tup {t : Expr} {ax : Addr} {o : Obj} {items : Array Value} {nr : Nat} {R : Ledger} (hh : A.handled = none) (hc : o.cls = .type "tuple") (hd : o.data = .seq items nr) (hm : (ax, o) ∈ R) : IterOk prog w A t (.ref ax) R items.size (fun i v => items[i]? = some v) := by
  intro s Q hR h
  have hl : s.heap.IsTuple ax items := ⟨_, hR _ hm, hc, nr, hd⟩
  have hne : ax ≠ s.heap.objs.size := Nat.ne_of_lt (Heap.lt_size (hR _ hm))
  refine wpAny_pyIter_tuple hl (h _ _ _ (Walks.tuple hh s.heap.objs.size ax hne items) ⟨⟨_, Heap.get?_push_size _ rfl, rfl, rfl⟩, hl.push _⟩ (fun b hb => ?_) (fun i h st => by obtain ⟨o, e, _⟩ := st.1; exact ⟨o, e⟩) fun i v s' Q' E st q => letGo_tupleiter st.1 q)
  rcases List.mem_cons.mp hb with e | hb
  · exact .inl e
  · exact .inr ⟨_, by rw [List.mem_singleton.mp hb]; exact hm⟩
/-- an outer turn: its target set, the inner iterable read -/
noncomputable def Binds2 (prog : Program) (w : World) (A : Around) (env : Env) (t1 iter2 : Expr) (scope : Scope) (cl : List (Str × Addr)) (R : Ledger) (P : Nat → Value → Prop) (xi : Value → Value → Prop) : Prop :=
  ∀ i v C m' (s : Shared) (Q : Value → Shared → Prop), P i v → (∀ p ∈ R, s.heap.get? p.1 = some p.2) → s.heap.Ns C m' →
    (∀ x h' tk m'', xi v x → h'.Ns C m'' → (∀ b o, b ≠ C → s.heap.get? b = some o → h'.get? b = some o) → Q x { s with heap := h', toks := tk }) →
    wpAny (model prog w) A (assign t1 (compEnvC scope cl C env) v) (fun _ s₂ => wpAny (model prog w) A (eval iter2 (compEnvC scope cl C env)) Q (fun _ _ => False) s₂) (fun _ _ => False) s
theorem bind_name {x : Str} {px py : Pos} {scope : Scope} {cl : List (Str × Addr)} {R : Ledger} {P : Nat → Value → Prop} (hkind : scope.kind = .function) (hx : scope.names.lookup x = some .local) (hd : (x == ("__debug__" : Str)) = false) :
    Binds2 prog w A env (.Name x px) (.Name x py) scope cl R P (fun v x => x = v) := by
  intro i v C m' s Q hP hR hn h
  refine wpAny_assign_Name (wpAny_storeName_local (lookup_relabel_local hx) hn (fun h₃ hn₃ hs₃ => ?_) (by simp [compEnvC, relabel, hkind]))
  exact wpAny_Name (wpAny_loadName_local (by simp [compEnvC, relabel, hkind]) (lookup_relabel_local hx) hn₃ (v := v) (by simp) (h v _ _ _ rfl hn₃ hs₃.extBut)) hd
theorem bind_tup3 {a b c : Str} {pa pb pc py tp : Pos} {kk : Nat} {scope : Scope} {cl : List (Str × Addr)} {R : Ledger} {P : Nat → Value → Prop} (hh : A.handled = none) (hkind : scope.kind = .function) (ha : scope.names.lookup a = some .local) (hb : scope.names.lookup b = some .local) (hc : scope.names.lookup c = some .local)
    (hd : (c == ("__debug__" : Str)) = false) (hP : ∀ i v, P i v → ∃ T o x y z nt, v = .ref T ∧ ((T, o) : Addr × Obj) ∈ R ∧ o.cls = .type "tuple" ∧ o.data = .seq #[x, y, z] nt) :
    Binds2 prog w A env (.Tuple [.Name a pa, .Name b pb, .Name c pc] kk tp) (.Name c py) scope cl R P (fun v x => ∃ T o x1 x2 nt, v = .ref T ∧ ((T, o) : Addr × Obj) ∈ R ∧ o.data = .seq #[x1, x2, x] nt) := by
  intro i v C m' s Q hPv hR hn h
  obtain ⟨T, o, x, y, z, nt, rfl, hm, hcl, hdt⟩ := hP i v hPv
  have ht : s.heap.IsTuple T #[x, y, z] := ⟨o, hR _ hm, hcl, nt, hdt⟩
  refine wpAny_assign_Tuple hh ht rfl rfl fun h₁ he₁ => ?_
  have hL : C ≠ s.heap.objs.size := Nat.ne_of_lt hn.lt
  have hn₁ : h₁.Ns C m' := hn.at' fun o e => he₁ _ o hL e
  have up₁ : ∀ c o, s.heap.get? c = some o → h₁.get? c = some o := fun c o e => he₁ c o (Nat.ne_of_lt (Heap.lt_size e)) e
  show wpAny _ _ (assignInOrder [assign (.Name a pa) (compEnvC scope cl C env), assign (.Name b pb) (compEnvC scope cl C env), assign (.Name c pc) (compEnvC scope cl C env)] [x, y, z]) _ _ _
  refine assignInOrder_cons (wpAny_assign_Name (wpAny_storeName_local (lookup_relabel_local ha) hn₁ (fun h₂ hn₂ hs₂ => ?_) (by simp [compEnvC, relabel, hkind])))
  refine assignInOrder_cons (wpAny_assign_Name (wpAny_storeName_local (lookup_relabel_local hb) hn₂ (fun h₃ hn₃ hs₃ => ?_) (by simp [compEnvC, relabel, hkind])))
  refine assignInOrder_cons (wpAny_assign_Name (wpAny_storeName_local (lookup_relabel_local hc) hn₃ (fun h₄ hn₄ hs₄ => ?_) (by simp [compEnvC, relabel, hkind])))
  refine assignInOrder_nil ?_
  exact wpAny_Name (wpAny_loadName_local (by simp [compEnvC, relabel, hkind]) (lookup_relabel_local hc) hn₄ (v := z) (by simp) (h z _ _ _ ⟨T, o, x, y, nt, rfl, hm, hdt⟩ hn₄ fun b o hb e => hs₄.extBut b o hb (hs₃.extBut b o hb (hs₂.extBut b o hb (up₁ b o e))))) hd
/-- the rest of a comprehension of two clauses, its first iterable there -/
noncomputable def TwoK (prog : Program) (w : World) (A : Around) (h₀ : Heap) (L : Addr) (m : Str → Option Value) (env : Env) (elt t1 iter2 : Expr) (y : Str) (py : Pos) (ifs : List Expr) (scope : Scope) (cl : List (Str × Addr)) (Q : Value → Shared → Prop) (xv : Value) (s₁ : Shared) : Prop :=
  ∃ (R : Ledger) (n1 : Nat) (P1 : Nat → Value → Prop) (JO : Nat → List Value → Ledger → Prop) (xi : Value → Value → Prop), IterOk prog w A t1 xv R n1 P1 ∧ Fr h₀ L s₁.heap m ∧ News h₀ L s₁.heap R ∧ JO 0 [] [] ∧ Binds2 prog w A env t1 iter2 scope cl R P1 xi ∧
    (∀ i v x, i < n1 → P1 i v → xi v x → ∃ (n2 : Nat) (P2 : Nat → Value → Prop) (J2 : Nat → List Value → Ledger → Prop), IterOk prog w A (.Name y py) x R n2 P2 ∧ (∀ ys own, JO i ys own → J2 0 ys own) ∧ (∀ j ys own, J2 j ys own → ys.length ≤ sizeLine) ∧
      InTurns prog w A h₀ L m env elt y ifs scope cl s₁ R n2 P2 J2 ∧ ∀ ys own, J2 n2 ys own → JO (i + 1) ys own) ∧
    ∀ D h' tk ys own, JO n1 ys own → Fr h₀ L h' m → News h₀ L h' ((D, lst ys) :: (own ++ R)) → Q (.ref D) { s₁ with heap := h', toks := tk }
theorem comp_two (_F₀ : Fr h₀ L s.heap m) {elt t1 iter1 iter2 : Expr} {y : Str} {py pos : Pos} {ifs : List Expr} {scope : Scope} {cl : List (Str × Addr)} {Q : Value → Shared → Prop}
    (hclos : closureFor scope env = pure cl) (hcell : ∀ y ∈ scope.names, y.2 ≠ .cell) (hkind : scope.kind = .function)
    (hnames : ∀ y ∈ scope.names, y.2 = .local → scope.names.lookup y.1 = some .local) (hy : scope.names.lookup y = some .local)
    (hs2 : ∀ C x, foldedSetIterable iter2 (compEnvC scope cl C env) x = pure x)
    (h : wpAny (model prog w) A (eval iter1 env) (TwoK prog w A h₀ L m env elt t1 iter2 y py ifs scope cl Q) (fun _ _ => False) s)
    (hs : ∀ x, foldedSetIterable iter1 env x = pure x) :
    wpAny (model prog w) A (eval (.ListComp elt [⟨t1, iter1, [], 0⟩, ⟨.Name y py, iter2, ifs, 0⟩] scope pos) env) Q (fun _ _ => False) s := by
  rw [eval_ListComp]
  refine wpAny_comprehension_free (use := none) rfl hs hclos hkind hnames (wpAny_mono h (fun xv s₁ h₁ => ?_) fun _ _ e => e)
  refine' ex_5_7 (h₁) ?_; intro R n1 P1 JO xi hit F N hj hb inner fin
  refine hit s₁ _ (fun p hp => (N p hp).1) fun oit fp St W hst hfp hIo hlet => ?_
  generalize hI : s₁.heap.objs.size = I at W hst hfp hIo hlet ⊢
  have up₀ : ∀ b o', s₁.heap.get? b = some o' → (s₁.heap.push oit).get? b = some o' := fun b o' e => Heap.get?_push_of_some _ e
  refine wpAny_newObj_type (wpAny_newFunctionEnv hcell (by intro y hy; simp at hy) (fun h₁ hns₁ hsb₁ => ?_) hkind)
  dsimp only at hns₁ hsb₁ ⊢
  have hIs : (s₁.heap.push oit).objs.size = I + 1 := by rw [Heap.size_push, hI]
  generalize hD : (s₁.heap.push oit).objs.size = D at hns₁ hsb₁ ⊢
  generalize hH2 : (s₁.heap.push oit).push { cls := .type "list", dict := none, data := .seq ([] : List Value).toArray } = H2 at hns₁ hsb₁ ⊢
  have hDI : D = I + 1 := by rw [← hD, hIs]
  have hC' : H2.objs.size = D + 1 := by rw [← hH2, Heap.size_push, hD]
  generalize hC : H2.objs.size = C at hns₁ hsb₁ hC' ⊢
  have old : ∀ b o, b < D → (s₁.heap.push oit).get? b = some o → h₁.get? b = some o := fun b o hb e => hsb₁.extBut b o (Nat.ne_of_lt (by rw [hC']; exact Nat.lt_succ_of_lt hb)) (Heap.get?_push_of_some _ (hH2 ▸ Heap.get?_push_of_some _ e))
  have hLI : L < I := hI ▸ F.ns.lt
  have fresh₀ : ∀ a, I ≤ a → h₀.get? a = none := fun a ha => by
    cases e : h₀.get? a with
    | none => rfl
    | some o' => exact absurd (Heap.lt_size (F.keep a o' e)) (Nat.not_lt.mpr (hI ▸ ha))
  have hI₀ := fresh₀ I (Nat.le_refl _)
  have hD₀ := fresh₀ D (by rw [hDI]; exact Nat.le_succ _)
  have hC₀ := fresh₀ C (by rw [hC', hDI]; exact Nat.le_succ_of_le (Nat.le_succ _))
  have lt1 : I < D := by rw [hDI]; exact Nat.lt_succ_self _
  have lt2 : D < C := by rw [hC']; exact Nat.lt_succ_self _
  have ltN : ∀ p ∈ R, p.1 < I := fun p hp => hI ▸ Heap.lt_size (N p hp).1
  have ltfp : ∀ b ∈ fp, b ≤ I := fun b hb => by
    rcases hfp b hb with e | ⟨o', e⟩
    · rw [e]; exact Nat.le_refl _
    · exact Nat.le_of_lt (ltN _ e)
  have oldS : ∀ b o, s₁.heap.get? b = some o → h₁.get? b = some o := fun b o' e => old b o' (by rw [hDI]; exact Nat.lt_succ_of_lt (hI ▸ Heap.lt_size e)) (up₀ b o' e)
  have hacc : h₁.get? D = some (lst []) := hsb₁.extBut _ _ (Nat.ne_of_lt lt2) (Heap.get?_push_of_some _ (hH2 ▸ hD ▸ Heap.get?_push_size _ rfl))
  have hst₁ : St 0 h₁ := W.frame _ _ _ hst fun b hb o' e => old b o' (Nat.lt_of_le_of_lt (ltfp b hb) lt1) e
  have hCL : C ≠ L := Nat.ne_of_gt (Nat.lt_trans hLI (Nat.lt_trans lt1 lt2))
  have hDL : D ≠ L := Nat.ne_of_gt (Nat.lt_trans hLI lt1)
  have hIC : I ≠ C := Nat.ne_of_lt (Nat.lt_trans lt1 lt2)
  have hCf : C ∉ fp := fun hm => absurd (ltfp _ hm) (Nat.not_le.mpr (Nat.lt_trans lt1 lt2))
  have loop : ∀ s₃ : Shared, s₃ = { s₁ with heap := h₁, toks := s₁.toks + ([] : List (Str × Value)).length } →
      codeAny (model prog w) A (.compLoop (.ListComp elt [⟨t1, iter1, [], 0⟩, ⟨.Name y py, iter2, ifs, 0⟩] scope pos) 0 (.ref I) (.ref D) (compEnvC scope cl C env))
        (compPost (model prog w) A (fun _ _ => False) none Q (.ref D) C) s₃ := by
    rintro s₃ rfl
    refine loop_out
      (fun k s' => ∃ h' tk i ys own m', s' = { s₁ with heap := h', toks := tk } ∧ i ≤ n1 ∧ k = n1 + 1 - i ∧ St i h' ∧ Fr h₀ L h' m ∧ h'.Ns C m' ∧ News h₀ L h' ((D, lst ys) :: (own ++ R)) ∧ OwnOff (own ++ R) [I, C, D] ∧ JO i ys own) ?_ (hs2 C) (n1 + 1)
      ⟨h₁, _, 0, [], [], _, rfl, Nat.zero_le _, rfl, hst₁, F.keeps oldS, hns₁, fun p hp => ?_, fun p hp b hb => ?_, hj⟩
    · intro k s' hI9
      refine' ex_6_9 (hI9) ?_; intro h' tk i ys own m' r96 hi r98 hst' F' hn' N' off' hJ; (try clear hI9); subst r96; subst r98
      by_cases hlt : i < n1
      · refine W.item i _ _ _ hlt hst' fun v h₂ tk₂ hPv hst₂ hk₂ => ?_
        refine hlet (i + 1) v _ _ _ hst₂ ?_
        have up₂ : ∀ b o, b ≠ I → h'.get? b = some o → h₂.get? b = some o := fun b o e1 e => hk₂ b o (fun q => e1 (List.mem_singleton.mp q)) e
        have N₂ : News h₀ L h₂ ((D, lst ys) :: (own ++ R)) := news_but N' hk₂ fun p hp => by
          rcases List.mem_cons.mp hp with rfl | hp
          · exact Nat.ne_of_gt lt1
          · exact off' p hp I (.head _)
        have F₂ : Fr h₀ L h₂ m := fr_but F' hk₂ (Nat.ne_of_lt hLI) hI₀
        have hn₂ : h₂.Ns C m' := hn'.at' fun o e => up₂ _ o (Ne.symm hIC) e
        refine hb i v C m' { s₁ with heap := h₂, toks := tk₂ } _ hPv (fun p hp => (N₂ p (.tail _ (List.mem_append_right own hp))).1) hn₂ fun x h₃ tk₃ m₃ hxi hn₃ hk₃ => ?_
        refine' ex_3_5 (inner i v x hlt hPv hxi) ?_; intro n2 P2 J2 hit2 hj2 hlen2 turns hend
        have F₃ : Fr h₀ L h₃ m := ⟨F₂.ns.at' fun o e => hk₃ L o (Ne.symm hCL) e, fun b o e => hk₃ b o (fun q => by rw [q, hC₀] at e; cases e) (F₂.keep b o e), F₂.above⟩
        have N₃ : News h₀ L h₃ ((D, lst ys) :: (own ++ R)) := fun p hp => by
          have z := N₂ p hp
          refine ⟨hk₃ _ _ ?_ z.1, z.2⟩
          rcases List.mem_cons.mp hp with rfl | hp
          · exact Nat.ne_of_lt lt2
          · exact off' p hp C (.tail _ (.head _))
        have hst₃ : St (i + 1) h₃ := W.frame _ _ _ hst₂ fun b hb o e => hk₃ b o (fun q => hCf (by have q' : b = C := q; rw [← q']; exact hb)) e
        obtain ⟨oI, heI⟩ := hIo _ _ hst₃
        refine hit2 { s₁ with heap := h₃, toks := tk₃ } _ (fun p hp => (N₃ p (.tail _ (List.mem_append_right own hp))).1) fun o2 fp2 St2 W2 hst2 hfp2 hIo2 _ => ?_
        dsimp only at W2 hst2 hfp2 hIo2 ⊢
        have up3 : ∀ b o', h₃.get? b = some o' → (h₃.push o2).get? b = some o' := fun b o' e => Heap.get?_push_of_some _ e
        have ltI : I < h₃.objs.size := Heap.lt_size heI
        have ltC : C < h₃.objs.size := hn₃.lt
        have ltD : D < h₃.objs.size := Heap.lt_size (N₃ (D, lst ys) (.head _)).1
        have ltL : L < h₃.objs.size := F₃.ns.lt
        have g1 : h₀.get? h₃.objs.size = none := by
          cases e : h₀.get? h₃.objs.size with
          | none => rfl
          | some o' => exact absurd (Heap.lt_size (F₃.keep _ o' e)) (Nat.lt_irrefl _)
        have zI : ∀ g : Heap, g.get? I = some oI → (g.get? I = some oI ∧ I ≠ L ∧ h₀.get? I = none) := fun g e => ⟨e, Nat.ne_of_gt hLI, hI₀⟩
        have inn : ∀ s₅ : Shared, s₅ = { s₁ with heap := h₃.push o2, toks := tk₃ } →
            codeAny (model prog w) A (.compLoop (.ListComp elt [⟨t1, iter1, [], 0⟩, ⟨.Name y py, iter2, ifs, 0⟩] scope pos) 1 (.ref h₃.objs.size) (.ref D) (compEnvC scope cl C env))
              (fun r s₅ => match r with | .ok _ => ∃ k, k < n1 + 1 - i ∧ (∃ h' tk i ys own m', s₅ = { s₁ with heap := h', toks := tk } ∧ i ≤ n1 ∧ k = n1 + 1 - i ∧ St i h' ∧ Fr h₀ L h' m ∧ h'.Ns C m' ∧ News h₀ L h' ((D, lst ys) :: (own ++ R)) ∧ OwnOff (own ++ R) [I, C, D] ∧ JO i ys own) | .error _ => False) s₅ := by
          rintro s₅ rfl
          refine inner_loop (I := I) (oI := oI) (s := { s₁ with heap := h₃.push o2, toks := tk₃ }) J2 W2 hfp2 hIo2 hkind hy hlen2 (Nat.ne_of_gt ltI) (Nat.ne_of_gt ltC) (Nat.ne_of_gt ltD) hIC (Nat.ne_of_lt lt1) (Nat.ne_of_gt lt2) (Nat.ne_of_lt ltL) hCL g1 hC₀ turns (m' := m₃) (ys := ys) (own := own)
            hst2 (F₃.keeps up3) (hn₃.at' fun o e => up3 _ o e) (fun p hp => ?_) (fun p hp b hb => ?_) (hj2 ys own hJ) ?_
          · rcases List.mem_cons.mp hp with rfl | hp
            · exact zI _ (up3 _ _ heI)
            · have z := N₃ p hp
              exact ⟨up3 _ _ z.1, z.2⟩
          · rcases List.mem_cons.mp hb with rfl | hb
            · exact Nat.ne_of_lt (Heap.lt_size (N₃ p (List.mem_cons_of_mem _ hp)).1)
            · exact off' p hp b hb
          · intro h₆ tk₆ m₆ ys₆ own₆ F₆ hn₆ N₆ off₆ hJ₆
            refine ⟨n1 + 1 - (i + 1), by omega, h₆, tk₆, i + 1, ys₆, own₆, m₆, rfl, hlt, rfl, ?_, F₆, hn₆, fun p hp => N₆ p (List.mem_cons_of_mem _ hp), fun p hp b hb => off₆ p hp b (List.mem_cons_of_mem _ hb), hend _ _ hJ₆⟩
            refine W.frame _ _ _ hst₃ fun b hb' o' e => ?_
            rcases hfp b hb' with rfl | ⟨o'', hm⟩
            · rw [heI] at e; cases e; exact (N₆ (b, oI) (.head _)).1
            · have z := (N₃ (b, o'') (.tail _ (List.mem_append_right own hm))).1
              rw [show h₃.get? b = some o'' from z] at e
              cases e
              exact (N₆ (b, o') (.tail _ (.tail _ (List.mem_append_right own₆ hm)))).1
        exact start_in (inn _ rfl) (W2.self 0 _ _ _ hst2 (inn _ rfl))
      · obtain rfl : i = n1 := Nat.le_antisymm hi (Nat.not_lt.mp hlt)
        refine W.done _ _ _ hst' fun h₂ tk₂ hk₂ => ?_
        have N₂ : News h₀ L h₂ ((D, lst ys) :: (own ++ R)) := news_but N' hk₂ fun p hp => by
          rcases List.mem_cons.mp hp with rfl | hp
          · exact Nat.ne_of_gt lt1
          · exact off' p hp I (.head _)
        refine ⟨m', hn'.at' fun o e => hk₂ _ o (fun q => hIC (List.mem_singleton.mp q).symm) e, fun h'' hs'' => fin D h'' tk₂ ys own hJ ((fr_but F' hk₂ (Nat.ne_of_lt hLI) hI₀).change hs'' hCL hC₀) fun p hp => ?_⟩
        refine ⟨hs''.extBut _ _ ?_ (N₂ p hp).1, (N₂ p hp).2⟩
        rcases List.mem_cons.mp hp with rfl | hp
        · exact Nat.ne_of_lt lt2
        · exact off' p hp C (.tail _ (.head _))
    · rcases List.mem_cons.mp hp with rfl | hp
      · exact ⟨hacc, hDL, hD₀⟩
      · exact ⟨oldS _ _ (N p hp).1, (N p hp).2⟩
    · have h1 := ltN p hp
      simp only [List.mem_cons, List.not_mem_nil, or_false] at hb
      rcases hb with rfl | rfl | rfl
      · exact Nat.ne_of_lt h1
      · exact Nat.ne_of_lt (Nat.lt_trans h1 (Nat.lt_trans lt1 lt2))
      · exact Nat.ne_of_lt (Nat.lt_trans h1 lt1)
  exact codeAny_compStart_list (loop _ rfl) (W.self 0 _ _ _ hst₁ (loop _ rfl))
end
end
section
open PyProof.Rows.LCg
set_option maxRecDepth 100000
theorem plain_dul : plainId "dict.update.loop" = true := by decide +kernel
theorem entry_dul : entryFor table "dict.update.loop" = some Builtin.«dict.update.loop» := entryFor_of_fast (by kernel_rfl)
theorem list_no_keys : typeLookup (.type "list") "keys" = pure none := by rw [typeLookup_type, builtinLookup_eq_fast]; kernel_rfl
/-- the list's values are pairs of a text and something -/
noncomputable def PairsAt (h : Heap) (ys : List Value) (xs : List Str) : Prop := ys.length = xs.length ∧ ∀ (i : Nat) (x : Str), xs[i]? = some x → ∃ (T : Addr) (o : Obj) (t : Nat) (v : Value) (nt : Nat), ys[i]? = some (Value.ref T) ∧ h.get? T = some o ∧ o.cls = .type "tuple" ∧ o.data = .seq #[.str x t, v] nt
theorem PairsAt.keep {h h' : Heap} {ys : List Value} {xs : List Str} (p : PairsAt h ys xs) (k : ∀ b o, (∃ c n vs, o.cls = .type c ∧ c = "tuple" ∧ o.data = .seq vs n) → h.get? b = some o → h'.get? b = some o) : PairsAt h' ys xs :=
  ⟨p.1, fun i x e => let ⟨T, o, t, v, nt, a, b, c, d⟩ := p.2 i x e; ⟨T, o, t, v, nt, a, k T o ⟨_, _, _, c, rfl, d⟩ b, c, d⟩⟩
section
variable {prog : Program} {w : World} {A : Around} {E : Value → Shared → Prop} {s : Shared}
theorem keys_none {a : Addr} {ys : List Value} {Q : Option Value → Shared → Prop} (hx : s.heap.get? a = some (lst ys)) (hA : A.handled = none)
    (h : ∀ h' tk, (∀ b o, s.heap.get? b = some o → h'.get? b = some o) → Q none { s with heap := h', toks := tk }) : wpAny (model prog w) A (getAttr? (.ref a) "keys") Q E s := by
  obtain ⟨hp, g, d, tk, os⟩ := s
  have hT : ∀ tk', (⟨hp, g, d, tk', os⟩ : Shared).TypeIs (.ref a) "list" := fun _ => ⟨_, hx, rfl⟩
  have f1 := sub_AttributeError
  have f3 := F.slot_list_getattribute.lookup
  have f4 := F.slot_list_getattribute.bind (.ref a)
  have f5 := am_list_getattr_none
  unfold getAttr? getAttrBy? getAttrBy
  repeat (any_goals (first | assumption | exact hT _ | ((with_reducible show wpAny _ _ (call (Value.builtin "list.__getattribute__") _ _) _ _ _); refine call_meets F.slot_list_getattribute (hT _) am_entry_list_getattribute (F.args_list_getattribute_2 _ _) (meets_getattribute_miss_list a ys.toArray ys.length #[] _ _ list_no_keys (by decide +kernel) (by decide +kernel)) ⟨hx, hA, fun h' tk' e hx' => ?_⟩) | wp_step))
  obtain ⟨t', u', he⟩ := hx'.there
  show wpAny _ _ (getattributeRaised _ _ _ _ _ _ _) _ _ _
  unfold getattributeRaised
  repeat (any_goals (first | assumption | wp_step))
  exact h _ _ hx'.of.keeps
theorem stored_keys {kvs : List (Str × Value)} {k : Str} {v : Value} {x : Str} : x ∈ (stored kvs k v).map (·.1) ↔ x ∈ kvs.map (·.1) ∨ x = k := by
  unfold stored
  by_cases h : (kvs.any fun kv => kv.1 = k) = true
  · rw [if_pos h]
    have e : (kvs.map fun kv => if kv.1 = k then (kv.1, v) else kv).map (·.1) = kvs.map (·.1) := by
      rw [List.map_map]
      apply List.map_congr_left
      intro a _
      show (if a.1 = k then (a.1, v) else a).1 = a.1
      split <;> rfl
    rw [e]
    refine ⟨.inl, fun h2 => h2.elim id fun e => ?_⟩
    subst e
    obtain ⟨kv, h3, h4⟩ := List.any_eq_true.mp h
    exact List.mem_map.mpr ⟨kv, h3, of_decide_eq_true h4⟩
  · rw [if_neg h, List.map_append, List.mem_append]
    simp
theorem tup_ne {h : Heap} {I D d : Addr} {i : Nat} {kvs : List (Str × Value)} (hit : h.IsListIter I D i) (hm : h.DictOf (strKind prog w) d kvs) (T : Addr) (o : Obj) (e : h.get? T = some o) (c : o.cls = .type "tuple") : T ≠ I ∧ T ≠ d := by
  obtain ⟨o1, e1, c1, _⟩ := hit
  obtain ⟨o2, _, _, e2, c2, _⟩ := hm
  refine ⟨fun q => ?_, fun q => ?_⟩
  · subst q; rw [e] at e1; cases e1; rw [c] at c1; exact absurd c1 (by decide)
  · subst q; rw [e] at e2; cases e2; have := c2.1; rw [c] at this; exact absurd this (by decide)
/-- the loop of dict(pairs) -/
theorem dict_pairs_loop {d I D : Addr} {ys : List Value} {xs : List Str} {lo : Obj} {R : Result → Shared → Prop} (hh : A.handled = none) (hDI : D ≠ I) (hDd : D ≠ d) (hId : I ≠ d) (hn : ys.length ≤ 1000) (hc : lo.cls = .type "list") {nl : Nat} (hd : lo.data = .seq ys.toArray nl) :
    ∀ (k i : Nat) (z : Int) (s : Shared) (kvs : List (Str × Value)), ys.length - i = k → i ≤ ys.length → s.heap.IsListIter I D i → s.heap.get? D = some lo → PairsAt s.heap ys xs → s.heap.DictOf (strKind prog w) d kvs → kvs.length ≤ i → (∀ x, x ∈ kvs.map (·.1) ↔ x ∈ xs.take i)  →
    (∀ h' tk kvs', h'.DictOf (strKind prog w) d kvs' → (∀ x, x ∈ kvs'.map (·.1) ↔ x ∈ xs) → (∀ b o, b ≠ I → b ≠ d → s.heap.get? b = some o → h'.get? b = some o) → R (.ok (.ret .none)) { s with heap := h', toks := tk }) →
    codeAny (model prog w) A (.builtin "dict.update.loop" ⟨[.ref d, .ref I, .int z 0, .none], []⟩) R s := by
  intro k
  induction k with
  | zero =>
    intro i z s kvs hk hi hit hD hP hm hl hkeys hR
    have hin : i = ys.length := by omega
    subst hin
    refine codeAny_builtin entry_dul ?_
    rw [Around.under_plainId plain_dul _]
    show wpAny _ A.in1 (pyNext (.ref I) >>= _) _ _ s
    have W := Walks.list (prog := prog) (w := w) (A := A.in1) hh I D hDI ys.toArray
    refine wpAny_bind (W.done s _ _ ⟨by simpa using hit, ⟨lo, hD, hc, nl, hd⟩⟩ fun h' tk hk' => ?_)
    show wpAny _ _ (Builtin.Dict.addKeywords d [] >>= _) _ _ _
    refine wpAny_bind (wpAny_pure (wpAny_pure ?_))
    have up : ∀ b o, b ≠ I → s.heap.get? b = some o → h'.get? b = some o := fun b o e1 e => hk' b o (by simpa using e1) e
    refine hR h' tk kvs (hm.at fun o e => up _ o (Ne.symm hId) e) (fun x => ?_) fun b o e1 _ e => up b o e1 e
    rw [hkeys x, hP.1, List.take_length]
  | succ k ih =>
    intro i z s kvs hk hi hit hD hP hm hl hkeys hR
    have hlt : i < ys.length := by omega
    refine codeAny_builtin entry_dul ?_
    rw [Around.under_plainId plain_dul _]
    show wpAny _ A.in1 (pyNext (.ref I) >>= _) _ _ s
    have W := Walks.list (prog := prog) (w := w) (A := A.in1) hh I D hDI ys.toArray
    refine wpAny_bind (W.item i s _ _ (by simpa using hlt) ⟨hit, ⟨lo, hD, hc, nl, hd⟩⟩ fun v h₁ tk₁ hPv hst₁ hk₁ => ?_)
    have up₁ : ∀ b o, b ≠ I → s.heap.get? b = some o → h₁.get? b = some o := fun b o e1 e => hk₁ b o (by simpa using e1) e
    have hlt' : i < xs.length := by rw [← hP.1]; exact hlt
    obtain ⟨T, o, t, v', nt, e1, e2, e3, e4⟩ := hP.2 i xs[i] (List.getElem?_eq_getElem hlt')
    have hv : ys[i]? = some v := by simpa using hPv
    obtain rfl : v = .ref T := Option.some.inj (hv.symm.trans e1)
    have hTI := tup_ne hit hm T o e2 e3
    have e2' : h₁.get? T = some o := up₁ T o hTI.1 e2
    show wpAny _ _ (holding _ _ >>= _) _ _ _
    refine wpAny_bind (wpAny_holding ?_)
    refine wpAny_bind (wpAny_tryCatch ?_)
    unfold Builtin.Dict.pairItems
    refine wpAny_bind (wpAny_typeOf (T := "tuple") ⟨o, e2', e3⟩ ?_)
    have hq : ((Value.type "tuple" == Value.type "list") || (Value.type "tuple" == Value.type "tuple")) = true := by decide
    rw [if_pos hq]
    refine wpAny_bind (wpAny_seqItems e2' e4 (wpAny_pure ?_))
    show wpAny _ _ (holding [Value.str xs[i] t, v'] (dictSet d (.str xs[i] t) v')) _ _ _
    refine wpAny_holding ?_
    refine wpAny_dictSet_pairs (knd := strKind prog w) (strKind_is prog w xs[i] t) (kvs := kvs) (hm.at fun o e => up₁ _ o (Ne.symm hId) e) (fun h₂ hm₂ hs₂ => ?_) (by rw [sizeLine_eq]; omega)
    show wpAny _ _ (pure (Fin.again (.builtin "dict.update.loop" ⟨[.ref d, .ref I, .int (z + 1) 0, .none], []⟩))) _ _ _
    refine wpAny_pure ⟨plainId_quiet plain_dul _, ?_⟩
    have up₂ : ∀ b o, b ≠ I → b ≠ d → s.heap.get? b = some o → h₂.get? b = some o := fun b o q1 q2 e => (hs₂.2 b q2).trans (up₁ b o q1 e)
    refine ih (i + 1) (z + 1) _ (stored kvs xs[i] v') (by omega) (by omega) (hst₁.1.at fun o e => (hs₂.2 I hId).trans e) (up₂ D lo hDI hDd hD) ⟨hP.1, fun j x e => ?_⟩ hm₂ (Nat.le_trans (stored_length_le _ _ _) (Nat.succ_le_succ hl)) (fun x => ?_) fun h' tk kvs' q1 q2 q3 => ?_
    · obtain ⟨T', o', t', v'', nt', a1, a2, a3, a4⟩ := hP.2 j x e
      exact ⟨T', o', t', v'', nt', a1, up₂ T' o' (tup_ne hit hm T' o' a2 a3).1 (tup_ne hit hm T' o' a2 a3).2 a2, a3, a4⟩
    · rw [List.take_succ, List.getElem?_eq_getElem hlt']
      rw [stored_keys, hkeys x, List.mem_append]
      simp
    · exact hR h' tk kvs' q1 q2 fun b o b1 b2 e => q3 b o b1 b2 (up₂ b o b1 b2 e)
/-- dict of a list of pairs -/
theorem call_dict_pairs {D : Addr} {ys : List Value} {xs : List Str} {Q : Value → Shared → Prop} (hh : A.handled = none) (hD : s.heap.get? D = some (lst ys)) (hP : PairsAt s.heap ys xs) (hn : ys.length ≤ 1000)
    (h : ∀ h' tk o kvs, h'.get? s.heap.objs.size = some o → o.IsDictOf (strKind prog w) kvs → (∀ x, x ∈ kvs.map (·.1) ↔ x ∈ xs) → (∀ b o, s.heap.get? b = some o → h'.get? b = some o) → Q (.ref s.heap.objs.size) { s with heap := h', toks := tk }) :
    wpAny (model prog w) A (call (.type "dict") [.ref D]) Q E s := by
  refine callType_codes (Q₁ := fun obj s₁ => obj = .ref s.heap.objs.size ∧ s₁ = { s with heap := s.heap.push { cls := .type "dict", data := .dict #[] } }) F.kt_called_dict (F.kt_typeCall_dict_1 _) F.entry_dict_init (kt_code_dict_new _ ⟨rfl, rfl⟩) ?_
  rintro obj s₁ ⟨rfl, rfl⟩
  have hnew : (s.heap.push { cls := .type "dict", data := .dict #[] }).DictOf (strKind prog w) s.heap.objs.size [] := Heap.DictOf.new s.heap
  generalize hd : s.heap.objs.size = d at hnew h ⊢
  have up0 : ∀ b o, s.heap.get? b = some o → (s.heap.push { cls := .type "dict", data := .dict #[] }).get? b = some o := fun b o e => Heap.get?_push_of_some _ e
  have hD' := up0 _ _ hD
  have hDd : D ≠ d := by rw [← hd]; exact Nat.ne_of_lt (Heap.lt_size hD)
  have hT : (({ s with heap := s.heap.push { cls := .type "dict", data := .dict #[] } } : Shared)).TypeIs (.ref D) "list" := ⟨_, hD', rfl⟩
  refine ⟨hnew.typeIs, F.args_dict_init_2 _ _, ?_⟩
  unfold Builtin.«dict.__init__»
  refine wpAny_bind ?_
  unfold Builtin.Dict.selfAndRest
  refine wpAny_bind (wpAny_notOrdered_dict hnew.typeIs ?_)
  show wpAny _ _ (pure (d, [Value.ref D])) _ _ _
  refine wpAny_pure ?_
  show wpAny _ _ (Builtin.Dict.updateFrom "dict.__init__" d (.ref D) [] .none) _ _ _
  unfold Builtin.Dict.updateFrom
  refine wpAny_bind (wpAny_typeOf hT ?_)
  rw [if_pos (by decide)]
  refine wpAny_bind (keys_none hD' hh fun h₂ tk₂ hk₂ => ?_)
  rw [if_pos (by rfl)]
  refine wpAny_bind (wpAny_rule ?_)
  have hl₂ : h₂.IsList D ys.toArray := ⟨_, hk₂ _ _ hD', rfl, ys.length, rfl⟩
  refine wpAny_bind (wpAny_pyIter_list hl₂ ?_)
  have up₂ : ∀ b o, s.heap.get? b = some o → h₂.get? b = some o := fun b o e => hk₂ b o (up0 b o e)
  have up₃ : ∀ b o, h₂.get? b = some o → (h₂.push { cls := .type "list_iterator", data := .fields #[.ref D, .int 0 0] }).get? b = some o := fun b o e => Heap.get?_push_of_some _ e
  have hId : h₂.objs.size ≠ d := by
    obtain ⟨o, _, _, e, _⟩ := hnew
    exact Nat.ne_of_gt (Heap.lt_size (hk₂ _ _ e))
  have hID : D ≠ h₂.objs.size := Nat.ne_of_lt (Heap.lt_size (up₂ _ _ hD))
  refine wpAny_pure ⟨plainId_quiet plain_dul _, ?_⟩
  show codeAny _ _ (.builtin "dict.update.loop" ⟨[.ref d, .ref h₂.objs.size, .int 0 0, .none], []⟩) _ _
  refine dict_pairs_loop (prog := prog) (w := w) (lo := lst ys) (ys := ys) (xs := xs) (nl := ys.length) (A := A.in1) (show A.in1.handled = none from hh) hID hDd hId hn rfl rfl _ 0 0 _ [] rfl (Nat.zero_le _) ?_ ?_ ?_ ?_ (Nat.le_refl _) (fun x => by simp) ?_
  · exact ⟨_, Heap.get?_push_size _ rfl, rfl, rfl⟩
  · exact up₃ _ _ (up₂ _ _ hD)
  · refine ⟨hP.1, fun j x e => ?_⟩
    obtain ⟨T', o', t', v'', nt', a1, a2, a3, a4⟩ := hP.2 j x e
    exact ⟨T', o', t', v'', nt', a1, up₃ _ _ (up₂ _ _ a2), a3, a4⟩
  · exact hnew.keep fun b o e => up₃ b o (hk₂ b o e)
  · intro h' tk kvs' q1 q2 q3
    obtain ⟨o', e', hd'⟩ := Heap.dictOf_iff.mp q1
    refine ⟨rfl, h h' tk o' kvs' e' hd' q2 fun b o e => q3 b o ?_ ?_ (up₃ _ _ (up₂ _ _ e))⟩
    · exact Nat.ne_of_lt (Heap.lt_size (up₂ _ _ e))
    · rw [← hd]; exact Nat.ne_of_lt (Heap.lt_size e)
end
/-- «a sign in a dict» -/
theorem intest_dict (w : World) {d : Addr} {o : Obj} {kvs : List (Str × Value)} {cs : List Nat} (lo : (d == sysModules) = false) (ho : o.IsDictOf (strKind PySem.Challenge.rw_te0024_02.row.prog w) kvs) (hk : ∀ x, x ∈ kvs.map (·.1) ↔ x ∈ cs.map fun c => (⟨#[c]⟩ : Str)) : InTest w (.ref d) (fun c => decide (c ∈ cs)) [(d, o)] := by
  intro A E s X c t Q hX hO h
  subst hX
  have hd : s.heap.DictOf (strKind PySem.Challenge.rw_te0024_02.row.prog w) d kvs := Heap.dictOf_iff.mpr ⟨o, hO _ (.head _), ho⟩
  refine wpAny_in_of (strKind_is _ w ⟨#[c]⟩ t) lo hd.mapOf ?_
  have e : (valueAt kvs ⟨#[c]⟩).isSome = decide (c ∈ cs) := by
    rw [valueAt_isSome_eq_any, Bool.eq_iff_iff, List.any_eq_true, decide_eq_true_iff]
    constructor
    · rintro ⟨kv, h1, h2⟩
      have h3 := (hk kv.1).mp (List.mem_map.mpr ⟨kv, h1, rfl⟩)
      rw [of_decide_eq_true h2] at h3
      obtain ⟨c', h4, h5⟩ := List.mem_map.mp h3
      have : c' = c := by injection h5 with h5; injection h5 with h5; injection h5
      exact this ▸ h4
    · intro h1
      obtain ⟨kv, h2, h3⟩ := List.mem_map.mp ((hk ⟨#[c]⟩).mpr (List.mem_map.mpr ⟨c, h1, rfl⟩))
      exact ⟨kv, h2, decide_eq_true h3⟩
  rw [e]
  exact h _
end
section
open PyProof.Rows.LCg
section
variable {prog : Program} {w : World} {A : Around} {E : Value → Shared → Prop} {s : Shared} {h₀ : Heap} {L : Addr} {m : Str → Option Value} {env : Env}
end
end
theorem rsz {a b : Int} {n : Nat} (h : b = a + n ∨ (b ≤ a ∧ n = 0)) : Builtin.Range.rangeSize a b 1 = (n : Int) := by
  unfold Builtin.Range.rangeSize
  rw [if_pos (by decide : (1 : Int) > 0)]
  split <;> omega
theorem rfl_ {i : Int} (h0 : -1000000000 ≤ i) (h1 : i ≤ 1000000000) : Builtin.Range.rangeFitsLong i = true := by
  unfold Builtin.Range.rangeFitsLong
  rw [Bool.and_eq_true]
  exact ⟨decide_eq_true (by omega), decide_eq_true (by omega)⟩
theorem rsmall {a b : Int} {n : Nat} (h : b = a + n ∨ (b ≤ a ∧ n = 0)) (ha : -100000000 ≤ a ∧ a ≤ 100000000) (hb : -100000000 ≤ b ∧ b ≤ 100000000) : Builtin.Range.small a b 1 = true := by
  unfold Builtin.Range.small
  rw [rsz h, rfl_ (by omega) (by omega), rfl_ (by omega) (by omega), rfl_ (by omega) (by omega), rfl_ (by omega) (by omega)]
  rw [if_pos (by decide : (1 : Int) > 0), rfl_ (by omega) (by omega)]
  simp
section
variable {prog : Program} {w : World} {A : Around} {E : Value → Shared → Prop} {s : Shared} {env : Env} {h₀ : Heap} {body : List Stmt} {Q : Flow → Shared → Prop}
theorem iter_turns {r : Addr} {x : Str} {px : Pos} {a b : Int} {t u v : Nat} {n : Nat} {m₀ : Str → Option Value} {news : Ledger} (J : Nat → (Str → Option Value) → Ledger → Prop)
    (hh : A.handled = none) (hr : IsRange s.heap r a b 1 t u v) (hn : b = a + n ∨ (b ≤ a ∧ n = 0)) (ha : -100000000 ≤ a ∧ a ≤ 100000000) (hb : -100000000 ≤ b ∧ b ≤ 100000000) (F : Fr h₀ env.locals s.heap m₀) (N : News h₀ env.locals s.heap news) (hj : J 0 m₀ news)
    (turn : ∀ (i : Nat) tv m₁ news₁ h tk own, i < n → news₁.map (·.1) = news.map (·.1) → OwnOff own (news.map (·.1)) → J i m₁ news₁ → Fr h₀ env.locals h m₁ → News h₀ env.locals h (news₁ ++ own) → ∀ QQ, QQ = InvPostN h₀ env.locals (fun m' nx => (∀ p ∈ ([] : Ledger), p ∈ nx) ∧ J (i + 1) m' nx) own (news.map (·.1)) { s with heap := h, toks := tk } Q →
      wpAny (model prog w) A (assign (.Name x px) env (.int (a + (i : Int)) tv)) (fun _ s₃ => wpAny (model prog w) A (execs body env) QQ E s₃) E { s with heap := h, toks := tk })
    (done : ∀ m₁ news₁ h tk, J n m₁ news₁ → Fr h₀ env.locals h m₁ → News h₀ env.locals h news₁ → Q .next { s with heap := h, toks := tk }) :
    wpAny (model prog w) A (pyIter (.ref r)) (fun it s₂ => TurnsAt prog w A h₀ env (.Name x px) body Q E it s₂) E s := by
  refine wpAny_pyIter_range hr (rsmall hn ha hb) ?_
  rw [rsz hn]
  refine core_turns [] J (KTurns.ofWalks (LCg.range_walks hh a n) fun i v s Q E st q => (by unfold letOwnedTupleGo; exact wpAny_pure q)) rfl (fun b hb => ?_) (fun p hp => nomatch hp) F N _ ?hst hj
    (fun i v m₁ news₁ h tk own hi hP a' b' c hJ F₁ N₁ => ?_) (fun m₁ news₁ h tk c => done m₁ news₁ h tk)
  · exact .inl (List.mem_singleton.mp hb)
  · show IsRangeIter _ _ _ _ _
    simpa using Heap.get?_push_size _ rfl
  · obtain ⟨tv, rfl⟩ := hP
    exact turn i tv m₁ news₁ h tk own hi a' b' hJ F₁ N₁ _ rfl
end
section
variable {prog : Program} {w : World} {A : Around} {E : Value → Shared → Prop} {s : Shared} {h₀ : Heap} {L : Addr} {m : Str → Option Value} {news : Ledger}
/-- l[:k] of a list of ints -/
theorem cut_ints {value e : Expr} {pos : Pos} {l : Addr} {vs : List Value} {ns : List Int} {k : Int} {t : Nat} {Q : Value → Shared → Prop} (F : Fr h₀ L s.heap m) (N : News h₀ L s.heap news) (hl : s.heap.IsList l vs.toArray) (hi : IntsAre vs ns) (h0 : 0 ≤ k) (hz : vs.length ≤ 1000)
    (h : ∀ D ws h', Fr h₀ L h' m → News h₀ L h' ((D, listOf (List.toArray ws) 0) :: news) → (∀ p ∈ news, @LT.lt Nat _ p.1 D) → IntsAre ws (ns.take k.toNat) → Q (.ref D) { s with heap := h' }) :
    wpAny (model prog w) A (subscriptTail value (.Slice none (some e) none pos) (.ref l) (.ref s.heap.objs.size)) Q E { s with heap := s.heap.push { cls := .type "slice", data := .fields #[.none, .int k t, .none] } } := by
  refine kba_turn (value' := Expr.Name (Str.ofString "_") ⟨0, 0, 0, 0⟩) (fun _ => rfl) ?_
  refine kmk_slice_ints F N hl IsPart.none (IsPart.int _ _) hi (kmk_upto hi h0) rfl (fun D ws h' F' N' l1 h2 _ _ => h D ws h' F' N' l1 h2) ?_ (fun _ => rfl) ?_
  · with_unfolding_all rfl
  · rw [sizeLine_eq, List.size_toArray]; omega
end
section
open PyProof.Rows.LCg PyProof.V PySem.SeqAt
section
variable {prog : Program} {w : World} {A : Around} {E : Value → Shared → Prop} {s : Shared}
/-- lists of texts compared -/
theorem readsAll_of_strs {h : Heap} : ∀ {vs : List Value} {ns : List Str}, StrsAre vs ns → ReadsAll h vs (ns.map PyData.str) []
  | _, _, .nil => .nil
  | _, _, .cons k t r => by
    have := ReadsAll.cons (Reads.str (h := h) k t) (readsAll_of_strs (h := h) r)
    simpa using this
theorem reads_of_strs {h : Heap} {a : Addr} {vs : List Value} {ns : List Str} (hl : h.IsList a vs.toArray) (hi : StrsAre vs ns) : Reads h (.ref a) (.list (ns.map PyData.str)) [a] := by
  obtain ⟨o, ho, hc, n, hd⟩ := hl
  exact Reads.list ho hc hd (by simpa using readsAll_of_strs hi)
theorem canLayAll0_strs : ∀ ns : List Str, (∀ x ∈ ns, PyData.strOk x = true) → PyData.canLayAll0 (ns.map PyData.str) = true
  | [], _ => by simp [PyData.canLayAll0]
  | n :: r, h => by simp [PyData.canLayAll0, PyData.canLay0, h n (.head _), canLayAll0_strs r fun x hx => h x (.tail _ hx)]
theorem depthAll_strs : ∀ ns : List Str, PyData.depthAll (ns.map PyData.str) ≤ 1
  | [] => by simp [PyData.depthAll]
  | n :: r => by
    have := depthAll_strs r
    simp only [List.map_cons, PyData.depthAll, PyData.depth]
    omega
theorem shaped_strs (ns : List Str) (h : ∀ x ∈ ns, PyData.strOk x = true) : shaped (.list (ns.map PyData.str)) = true := by
  have h1 := depthAll_strs ns
  have h2 : PyData.depth (.list (ns.map PyData.str)) ≤ 64 := by simp only [PyData.depth]; omega
  show (PyData.canLay0 (.list (ns.map PyData.str)) && decide (PyData.depth (.list (ns.map PyData.str)) ≤ 64)) = true
  rw [Bool.and_eq_true]
  exact ⟨by simp only [PyData.canLay0]; exact canLayAll0_strs ns h, decide_eq_true h2⟩
theorem noMix_strs : ∀ ns ms : List Str, noMixAll (ns.map PyData.str) (ms.map PyData.str) = true
  | [], [] => by simp [noMixAll]
  | [], _ :: _ => by simp [noMixAll]
  | _ :: _, [] => by simp [noMixAll]
  | _ :: r, _ :: q => by simp [noMixAll, noMix, noMix_strs r q]
theorem same_strs : ∀ ns ms : List Str, PySem.Spec.sameAll (ns.map PyData.str) (ms.map PyData.str) = decide (ns = ms)
  | [], [] => by simp [PySem.Spec.sameAll]
  | [], _ :: _ => by simp [PySem.Spec.sameAll]
  | _ :: _, [] => by simp [PySem.Spec.sameAll]
  | n :: r, k :: q => by
    simp only [List.map_cons, PySem.Spec.sameAll, PySem.Spec.same, same_strs r q]
    by_cases h : n = k <;> simp [h]
theorem eq_strsK {a b : Addr} {vs us : List Value} {ns ms : List Str} {Q : Value → Shared → Prop} (hl : s.heap.IsList a vs.toArray) (hi : StrsAre vs ns) (hl' : s.heap.IsList b us.toArray) (hi' : StrsAre us ms) (ok1 : ∀ x ∈ ns, PyData.strOk x = true) (ok2 : ∀ x ∈ ms, PyData.strOk x = true) (hu : A.units + 64 < cLine)
    (h : Q (.bool (decide (ns = ms))) s) : wpAny (model prog w) A (compareOp .Eq (.ref a) (.ref b)) Q E s :=
  eq_dataH_same (reads_of_strs hl hi) (reads_of_strs hl' hi') (shaped_strs ns ok1) (shaped_strs ms ok2) hu (by simp only [noMix]; exact noMix_strs ns ms) (by simp only [PySem.Spec.same]; rw [same_strs]; exact h)
/-- the list of bad marks -/
noncomputable abbrev badS : Str := Str.ofString "invalid-codepoint"
theorem bads_strs {errs : Array Value} (h : Bads errs) : StrsAre errs.toList (List.replicate errs.size badS) := by
  have : ∀ l : List Value, (∀ v ∈ l, ∃ t, v = .str badS t) → StrsAre l (List.replicate l.length badS) := by
    intro l
    induction l with
    | nil => intro _; exact .nil
    | cons v r ih =>
      intro h
      obtain ⟨t, rfl⟩ := h v (.head _)
      exact .cons _ t (ih fun z hz => h z (.tail _ hz))
  have h2 := this errs.toList h
  simpa using h2
theorem bad_ok (k : Nat) : ∀ x ∈ List.replicate k badS, PyData.strOk x = true := fun x hx => by
  rw [List.eq_of_mem_replicate hx]; decide +kernel
theorem rep_strs (t : Nat) (k : Nat) : StrsAre (List.replicate k [Value.str badS t]).flatten (List.replicate k badS) := by
  induction k with
  | zero => exact .nil
  | succ k ih =>
    rw [List.replicate_succ, List.flatten_cons, List.replicate_succ]
    exact .cons _ t ih
end
end
/-- a new stream -/
structure St0 (st : StS) : Prop where
  C : st.C = Str.ofString ""
  o : st.o = 0
  p : st.p = 0
  pl : st.pl = 0
  pc : st.pc = 0
  b : st.b = []
  errs : st.errs = #[]
  U : st.U = []
  bufV : st.bufV = .none
theorem st0_raw {S : Str} {st : StS} (h : St0 st) : rawOf S st = S.cps.toList := by
  unfold rawOf; rw [h.b, h.p]; rfl
theorem st0_rem {S : Str} {st : StS} (h : St0 st) : remOf S st = norm S.cps.toList := by
  unfold remOf; rw [st0_raw h, h.C, h.o]; rfl
theorem bad_le (l : List Nat) : badCount l ≤ l.length := List.length_filter_le _ _
theorem st0_ok {S : Str} {st : StS} (h : St0 st) (hS : S.length ≤ 10000) : StOk S st := by
  refine ⟨by rw [h.o]; exact Nat.zero_le _, by rw [h.p]; exact Nat.zero_le _, ?_, ?_⟩
  · rw [h.C]; decide +kernel
  · rw [st0_raw h, h.errs]
    have := bad_le S.cps.toList
    have hl : S.cps.toList.length = S.length := rfl
    show 0 + _ ≤ _
    omega
theorem st0_buf {st : StS} (h : St0 st) : BufIs st.bufV st.b := .inl ⟨h.b, h.bufV⟩
theorem st0_bads {st : StS} (h : St0 st) : Bads st.errs := by rw [h.errs]; intro v hv; cases hv
theorem norm_nil {l : List Nat} (h : norm l = []) : l = [] := by
  cases l with
  | nil => rfl
  | cons c r =>
    by_cases hs : starts (c :: r)
    · obtain ⟨r', e⟩ := hs
      rw [e] at h
      unfold norm at h
      rw [crlf_starts] at h
      cases h
    · unfold norm at h
      rw [crlf_cons hs] at h
      cases h
/-- the line for the class called -/
theorem use_ctor (w : World) (text : Str) (t : Nat) {dp un : Nat} {gd : Option (List Code)} {cn : Str} {cs : Scope} {a : Addr} {ccd : Value} {cl : List (Str × Addr)} {outer : List Env} {A₀ : Around} {base h₀ : Heap} {L : Addr} {m : Str → Option Value} {s : Shared} {Q Er : Value → Shared → Prop}
    {loose : List Str} {mean : ExcName → Option Value} {mg mb : Str → Option Value} {rest : Ledger}
    (B : Below A₀ base outer h₀) (F : Fr h₀ L s.heap m) (KX : (hd.heap_39 w.params).In h₀) (N : News h₀ L s.heap rest) (TT : Top hd.view_39 loose mean mg mb h₀) (hk : cs.kind = .function)
    (hroom : dp + 4 * 3 < recursionLimit) (hun : un + 40 * 3 < cLine)
    (hret : ∀ v E' h' tk', Fr h₀ L h' m → News h₀ L h' (E' ++ rest) → ctorPost w text t rest v E' → Q v { s with heap := h', toks := tk' }) :
    wpAny (model PySem.Challenge.rw_te0024_02.row.prog w) (ktrTop dp un gd cn cs L a ccd cl outer) (call (.ref 131) [.str text t]) Q Er s :=
  make_stream w text t dp un gd cn cs a ccd cl outer A₀ base h₀ L m s Q Er loose mean mg mb rest B F KX N TT hk hroom hun hret
theorem list_of {h₀ h : Heap} {L a : Addr} {news : Ledger} {its : Array Value} {n : Nat} (N : News h₀ L h news) (hm : (a, listOf its n) ∈ news) : h.IsList a its := ⟨_, (N _ hm).1, rfl, _, rfl⟩
theorem ints_get : ∀ {vs : List Value} {ns : List Int} {i : Nat} {x : Value}, IntsAre vs ns → vs[i]? = some x → ∃ k t, ns[i]? = some k ∧ x = .int k t
  | _, _, _, _, .nil, h => by simp at h
  | _, _, 0, _, .cons k t _, h => by
    simp at h
    exact ⟨k, t, rfl, h.symm⟩
  | _, _, i + 1, _, .cons _ _ r, h => by
    have := ints_get r (i := i) (by simpa using h)
    simpa using this
theorem ints_len {vs : List Value} {ns : List Int} (h : IntsAre vs ns) : vs.length = ns.length := by
  induction h with
  | nil => rfl
  | cons _ _ _ ih => rw [List.length_cons, List.length_cons, ih]
section
variable {prog : Program} {w : World} {A : Around} {E : Value → Shared → Prop} {s : Shared}
theorem last_item {value slice : Expr} {l : Addr} {vs : List Value} {ns : List Int} {c : Int} {u : Nat} {Q : Value → Shared → Prop} (hl : s.heap.IsList l vs.toArray) (hi : IntsAre vs ns) (hc : ns.getLast? = some c) (h : ∀ t, Q (.int c t) s)
    (hs : subscripted slice false (.ref l) (.int (-1) u) = operate [.ref l, .int (-1) u] (getItem (.ref l) (.int (-1) u))) :
    wpAny (model prog w) A (subscriptTail value slice (.ref l) (.int (-1) u)) Q E s := by
  have e := ints_len hi
  have h1 : ns ≠ [] := by intro h; rw [h] at hc; cases hc
  have h2 : 0 < ns.length := List.length_pos_iff.mpr h1
  have h3 : ns[ns.length - 1]? = some c := by rw [← hc, List.getLast?_eq_getElem?]
  have h4 : vs.length - 1 < vs.length := by omega
  obtain ⟨k, t, h5, h6⟩ := ints_get (i := vs.length - 1) hi (List.getElem?_eq_getElem h4)
  rw [e, h3] at h5
  cases h5
  refine kde_neg hl (by decide) (by decide) (j := vs.length - 1) ?_ (List.getElem?_eq_getElem h4) (h6 ▸ h t) hs
  unfold seqIndex?
  rw [if_pos (by decide : (-1 : Int) < 0)]
  have h7 : (decide (0 ≤ (-1 : Int) + (vs.length : Int)) && decide ((-1 : Int) + (vs.length : Int) < (vs.length : Int))) = true := by
    rw [Bool.and_eq_true]; exact ⟨decide_eq_true (by omega), decide_eq_true (by omega)⟩
  rw [if_pos h7]
  congr 1
  omega
end
section
variable {prog : Program} {w : World} {A : Around} {E : Value → Shared → Prop} {s : Shared} {h₀ : Heap} {L : Addr} {m : Str → Option Value} {news : Ledger}
theorem bads_mul {l : Addr} {t u k n : Nat} {x : Int} {Q : Value → Shared → Prop} (F : Fr h₀ L s.heap m) (N : News h₀ L s.heap news) (hm : (l, listOf #[Value.str badS t] n) ∈ news) (hx : x = (k : Int)) (hk : k ≤ 256)
    (h : ∀ D h' ws, Fr h₀ L h' m → News h₀ L h' ((D, listOf ws.toArray 0) :: news) → StrsAre ws (List.replicate k badS) → (∀ p ∈ news, @LT.lt Nat _ p.1 D) → Q (.ref D) { s with heap := h' }) :
    wpAny (model prog w) A (binaryOp .Mult (.ref l) (.int x u)) Q E s := by
  subst hx
  refine KMa.mul F N (vs := [Value.str badS t]) (list_of N hm) (by omega) (by omega) (by simpa using hk) rfl fun D h' F' N' hl => ?_
  exact h D h' _ F' N' (by simpa using rep_strs t k) hl
theorem eq_bads {er D : Addr} {errs : Array Value} {ws : List Value} {ne n k : Nat} {Q : Value → Shared → Prop} (N : News h₀ L s.heap news) (hm1 : (er, listOf errs ne) ∈ news) (hm2 : (D, listOf ws.toArray n) ∈ news) (hB : Bads errs) (hs : errs.size = k)
    (hw : StrsAre ws (List.replicate k badS)) (hu : A.units + 64 < cLine) (h : Q (.bool true) s) : wpAny (model prog w) A (compareOp .Eq (.ref er) (.ref D)) Q E s := by
  have l1 : s.heap.IsList er errs.toList.toArray := list_of N hm1
  refine eq_strsK l1 (bads_strs hB) (list_of N hm2) hw (bad_ok _) (bad_ok _) hu ?_
  rw [hs, decide_eq_true rfl]; exact h
end
theorem Does.imp {w : World} {lv : Nat} {f : Value} {vs : List Value} {E : Ledger} {post post' : Value → Ledger → Prop} (D : Does w lv f vs E post) (h : ∀ v E', post v E' → post' v E') : Does w lv f vs E post' := by
  intro dp un gd cn cs a ccd cl outer A₀ base h₀ L m s R loose mean mg mb rest B F KX N T hdis hk hr hu k
  exact D dp un gd cn cs a ccd cl outer A₀ base h₀ L m s R loose mean mg mb rest B F KX N T hdis hk hr hu fun v E' h' tk' F' N' hp => k v E' h' tk' F' N' (h v E' hp)
section
variable {prog : Program} {w : World} {A : Around} {E : Value → Shared → Prop} {s : Shared} {h₀ : Heap} {L : Addr} {m : Str → Option Value} {news : Ledger}
theorem item_at {value slice : Expr} {l : Addr} {vs : List Value} {ns : List Int} {k : Int} {u : Nat} {Q : Value → Shared → Prop} (hl : s.heap.IsList l vs.toArray) (hi : IntsAre vs ns) (j : Nat) (hj : k = (j : Int)) (h1 : j < ns.length) (hf : j < 1000) (h : ∀ t, Q (.int (ns.getD j 0) t) s)
    (hs : subscripted slice false (.ref l) (.int k u) = operate [.ref l, .int k u] (getItem (.ref l) (.int k u))) :
    wpAny (model prog w) A (subscriptTail value slice (.ref l) (.int k u)) Q E s := by
  subst hj
  refine item_anyK hl hi (by omega) (by omega) (by omega) (fun t => ?_) hs
  simpa using h t
end
theorem fr_know6' {h₀ h : Heap} {L : Addr} {m : Str → Option Value} {z1 z2 z3 z4 z5 z6 : Str} {b1 b2 b3 b4 b5 b6 : Value} (h1 : m z1 = some b1) (h2 : m z2 = some b2) (h3 : m z3 = some b3) (h4 : m z4 = some b4) (h5 : m z5 = some b5) (h6 : m z6 = some b6) (F : Fr h₀ L h m) :
    Fr h₀ L h (fun y => if y = z1 then some b1 else if y = z2 then some b2 else if y = z3 then some b3 else if y = z4 then some b4 else if y = z5 then some b5 else if y = z6 then some b6 else m y) :=
  fr_list [(z1, b1), (z2, b2), (z3, b3), (z4, b4), (z5, b5), (z6, b6)] (fun p hp => by
    simp only [List.mem_cons, List.not_mem_nil, or_false] at hp
    rcases hp with rfl | rfl | rfl | rfl | rfl | rfl <;> assumption) F
section
set_option maxRecDepth 100000 in
set_option maxHeartbeats 4000000 in
theorem does_place (w : World) (kt : Nat → Nat) (x d q nl td tx er : Nat) (hord : d < x ∧ x < q ∧ q < td ∧ td < tx ∧ tx < er) (S : Str) (st : StS) (hst : StOk S st) (t6 n t1 : Nat) :
    Does w 2 (.ref 91) [.ref x] (LS w kt x d q nl td tx er S t6 (.int (n : Int) t1) st) (fun v E' => ∃ t a b, v = .ref t ∧ E' = (t, tup2 (.int (posL st.C st.pl st.o + 1) a) (.int (posC st.C st.pc st.o) b)) :: LS w kt x d q nl td tx er S t6 (.int (n : Int) t1) st) := by
  unfold Does
  k_fill
  intro dp un gd cn cs a ccd cl outer A₀ base h₀ L m s R loose mean mg mb rest B F KX N T hdis hk hroom hun hret
  refine' enterR (binds := [(Str.ofString "self", .ref x)]) ?k1 ?k2 ?k3 ?k4 ?k5 ?kd ?kA ?kF ?kK ?k6 ?k7 ?k8 ?k9 ?kB ?_ ?c2 ?c3 ?c4 ?c5
  (case kA => exact rfl); (case kF => exact rfl); (case kK => first | exact rfl | assumption); (case k1 => k_asm); (case k2 => k_asm); (case k3 => k_asm); (case k4 => k_asm); (case k5 => k_asm); (case kd => assumption); (case k6 => k_dflt k_is); (case k7 => k_dflt k_is); (case k8 => k_room); (case k9 => first | exact BindsTo.of_eq rfl | exact binds_K (by k_in) rfl (by k_is) rfl rfl rfl); (case c5 => decide); (case kB => exact locs rfl); (case c2 => exact rfl); (case c3 => exact rfl); (case c4 => exact rfl)
  k_whole
  intro g' L' h' FG' F' N' B' X' T' lt'
  clear N F
  refine wpAny_noRaise ?_
  simp only [LS, TL, SX, ent, List.cons_append, List.nil_append] at N'
  have ho1 := hst.o
  have ho2 := hst.C
  w_on
  w_top on
  w_strict ((repeat' (first | with_reducible ((show wpAny _ _ (call (Value.ref _) _) _ _ _); (k_here; (with_reducible show wpAny _ _ (call (Value.ref 106) _) _ _ _); refine stopAt_ ?_)) | with_reducible ((show wpAny _ _ (call (Value.ref _) _) _ _ _); (k_here; (with_reducible show wpAny _ _ (call (Value.ref 84) _) _ _ _); refine stopAt_ ?_)) | with_reducible ((show wpAny _ _ (getMethod (Value.ref _) _ _) _ _ _); (k_here; (with_reducible show wpAny _ _ (getMethod (Value.ref _) (PySem.Str.ofString "reportCharacterErrors") _) _ _ _); k_dflt (refine' kmu_own ?zk1 ?zk2 ?zk3 ?zk4 ?zk5 ?_; (case zk1 => k_asm); (case zk2 => k_asm); (case zk3 => k_inst); (case zk4 => k_is); (case zk5 => k_is); k_whole))) | with_reducible ((show wpAny _ _ (execs (_ :: _) _) _ _ _); (k_here; (with_reducible show wpAny _ _ _ _ _ (Shared.mk _ _ _ (_ + _) _)); k_dflt (refine' gen_toks ?zp ?_; (case zp => ((try dsimp only); exact Nat.succ_pos _)); intro _ _))) | with_reducible ((show wpAny _ _ (isTrue (Expr.Compare _ _ _ _) _ _) _ _ _); (k_here; k_dflt (refine' isTrue_ll ?zF ?zv ?_ ?zk ?zl; (case zF => k_asm); (case zv => rfl); (case zk => rfl); (case zl => rfl); k_whole; intro _; (try dsimp only)))) | with_reducible ((show wpAny _ _ (call (Value.builtin "str.replace") _) _ _ _); k_dflt (first | (refine' call_replace_crlf ?zl ?zu ?zv ?zn ?_; (case zl => (omega)); (case zu => k_ne); (case zv => k_ne); (case zn => k_ne); intro _ _ _ _ _; (try dsimp only)) | (refine' call_replace_cr ?zl ?zu ?zv ?zn ?_; (case zl => (omega)); (case zu => k_ne); (case zv => k_ne); (case zn => k_ne); intro _ _ _ _ _; (try dsimp only)))) | with_reducible ((show wpAny _ _ (call (Value.builtin "str.rfind") _) _ _ _); (refine call_rfind4 ?_; (try dsimp only))) | with_reducible ((show wpAny _ _ (call (Value.builtin "str.count") _) _ _ _); (refine call_count4 ?_; (try dsimp only))) | with_reducible ((show wpAny _ _ (truthy (Value.ref _)) _ _ _); (k_here; (refine' truthy_meth ?zN ?zm ?_; (case zN => k_asm); (case zm => k_mem); k_whole; (try dsimp only)))) | (k_unfold; (try dsimp only)) | walk1 | (dsimp only; walk1) | (dsimp only [List.nil_append, List.cons_append]; walk1) | (k_end; dsimp only; k_unfold; (try dsimp only)) | (leave1; (try dsimp only)) | ((with_reducible show wpAny _ _ (call (Value.builtin "str.count") _) _ _ _); (refine call_count4 ?_; (try dsimp only))) | ((with_reducible show wpAny _ _ (call (Value.builtin "str.replace") _) _ _ _); k_dflt (first | (refine' call_replace_crlf ?zl ?zu ?zv ?zn ?_; (case zl => (omega)); (case zu => k_ne); (case zv => k_ne); (case zn => k_ne); intro _ _ _ _ _; (try dsimp only)) | (refine' call_replace_cr ?zl ?zu ?zv ?zn ?_; (case zl => (omega)); (case zu => k_ne); (case zv => k_ne); (case zn => k_ne); intro _ _ _ _ _; (try dsimp only)))) | ((with_reducible show wpAny _ _ (call (Value.builtin "str.rfind") _) _ _ _); (refine call_rfind4 ?_; (try dsimp only))) | ((with_reducible show wpAny _ _ (getMethod (Value.ref _) _ _) _ _ _); (k_here; (with_reducible show wpAny _ _ (getMethod (Value.ref _) (PySem.Str.ofString "reportCharacterErrors") _) _ _ _); k_dflt (refine' kmu_own ?zk1 ?zk2 ?zk3 ?zk4 ?zk5 ?_; (case zk1 => k_asm); (case zk2 => k_asm); (case zk3 => k_inst); (case zk4 => k_is); (case zk5 => k_is); k_whole))) | ((with_reducible show wpAny _ _ (isTrue (Expr.Compare _ _ _ _) _ _) _ _ _); (k_here; k_dflt (refine' isTrue_ll ?zF ?zv ?_ ?zk ?zl; (case zF => k_asm); (case zv => rfl); (case zk => rfl); (case zl => rfl); k_whole; intro _; (try dsimp only)))) | ((with_reducible show wpAny _ _ (truthy (Value.ref _)) _ _ _); (k_here; (refine' truthy_meth ?zN ?zm ?_; (case zN => k_asm); (case zm => k_mem); k_whole; (try dsimp only)))))))
  unfold StopAt
  (with_reducible rename Fr _ _ _ _ => F5)
  (with_reducible rename News _ _ _ _ => N5)
  k_dflt (refine' Does.useP [] (does__position _ _ _ _ _ _ _ _ ?h1 _ _ _ _ _ _ _ _ _ _ _ _ _ _ ?h2 ?h3) ?k1 ?k2 ?k3 ?k4 ?k5 ?kd ?kK ?kr ?ku ?_)
  case k4 => exact N5
  case k1 => assumption
  case k2 => exact F5
  case k3 => assumption
  case k5 => assumption
  case kK => first | exact rfl | assumption
  case kr => (first | assumption | ((simp only [depth_under_make, depth_under_kw, depth_in1, depth_deeper, depth_caller]); (try dsimp only [ktrTop]); first | exact room0 (by assumption) (by decide) | exact room1 (by assumption) (by decide) | omega | decide) | ((try dsimp only [ktrTop]); omega))
  case ku => (first | assumption | ((simp only [units_in1, units_deeper, Around.mark_units, units_caller]); (try dsimp only [ktrTop]); first | exact room0 (by assumption) (by decide) | exact room1 (by assumption) (by decide)) | ((have zhcL := cLine_is); (simp only [units_in1, units_deeper, Around.mark_units, units_caller]); (try dsimp only [ktrTop]); omega) | ((have zhcL := cLine_is); (try dsimp only [ktrTop]); omega))
  case h1 => omega
  case h2 => omega
  case h3 => omega
  case kd => (first | (exact fun _ _ _ h9 => absurd h9 List.not_mem_nil) | (exact own_dis (by assumption) sx_sub) | ((simp only [List.nil_append, List.cons_append, List.append_nil, List.forall_mem_cons]); (repeat' (first | (refine And.intro ?_ ?_) | k_ne | (exact fun _ h9 => absurd h9 List.not_mem_nil) | assumption)); done))
  k_whole
  intro v9 E9 h9 tk9 F9 N9 p9 T9
  obtain ⟨t9, t8, t7, e9, l9, e8⟩ := p9
  subst e9
  subst e8
  simp only [List.nil_append, List.cons_append, SX, ent] at N9
  clear N5 F5
  w_strict ((repeat' (first | with_reducible ((show wpAny _ _ (call (Value.ref _) _) _ _ _); (k_here; (with_reducible show wpAny _ _ (call (Value.ref 106) _) _ _ _); refine stopAt_ ?_)) | with_reducible ((show wpAny _ _ (call (Value.ref _) _) _ _ _); (k_here; (with_reducible show wpAny _ _ (call (Value.ref 84) _) _ _ _); refine stopAt_ ?_)) | with_reducible ((show wpAny _ _ (getMethod (Value.ref _) _ _) _ _ _); (k_here; (with_reducible show wpAny _ _ (getMethod (Value.ref _) (PySem.Str.ofString "reportCharacterErrors") _) _ _ _); k_dflt (refine' kmu_own ?zk1 ?zk2 ?zk3 ?zk4 ?zk5 ?_; (case zk1 => k_asm); (case zk2 => k_asm); (case zk3 => k_inst); (case zk4 => k_is); (case zk5 => k_is); k_whole))) | with_reducible ((show wpAny _ _ (execs (_ :: _) _) _ _ _); (k_here; (with_reducible show wpAny _ _ _ _ _ (Shared.mk _ _ _ (_ + _) _)); k_dflt (refine' gen_toks ?zp ?_; (case zp => ((try dsimp only); exact Nat.succ_pos _)); intro _ _))) | with_reducible ((show wpAny _ _ (isTrue (Expr.Compare _ _ _ _) _ _) _ _ _); (k_here; k_dflt (refine' isTrue_ll ?zF ?zv ?_ ?zk ?zl; (case zF => k_asm); (case zv => rfl); (case zk => rfl); (case zl => rfl); k_whole; intro _; (try dsimp only)))) | with_reducible ((show wpAny _ _ (call (Value.builtin "str.replace") _) _ _ _); k_dflt (first | (refine' call_replace_crlf ?zl ?zu ?zv ?zn ?_; (case zl => (omega)); (case zu => k_ne); (case zv => k_ne); (case zn => k_ne); intro _ _ _ _ _; (try dsimp only)) | (refine' call_replace_cr ?zl ?zu ?zv ?zn ?_; (case zl => (omega)); (case zu => k_ne); (case zv => k_ne); (case zn => k_ne); intro _ _ _ _ _; (try dsimp only)))) | with_reducible ((show wpAny _ _ (call (Value.builtin "str.rfind") _) _ _ _); (refine call_rfind4 ?_; (try dsimp only))) | with_reducible ((show wpAny _ _ (call (Value.builtin "str.count") _) _ _ _); (refine call_count4 ?_; (try dsimp only))) | with_reducible ((show wpAny _ _ (truthy (Value.ref _)) _ _ _); (k_here; (refine' truthy_meth ?zN ?zm ?_; (case zN => k_asm); (case zm => k_mem); k_whole; (try dsimp only)))) | (k_unfold; (try dsimp only)) | walk1 | (dsimp only; walk1) | (dsimp only [List.nil_append, List.cons_append]; walk1) | (k_end; dsimp only; k_unfold; (try dsimp only)) | (leave1; (try dsimp only)) | ((with_reducible show wpAny _ _ (call (Value.builtin "str.count") _) _ _ _); (refine call_count4 ?_; (try dsimp only))) | ((with_reducible show wpAny _ _ (call (Value.builtin "str.replace") _) _ _ _); k_dflt (first | (refine' call_replace_crlf ?zl ?zu ?zv ?zn ?_; (case zl => (omega)); (case zu => k_ne); (case zv => k_ne); (case zn => k_ne); intro _ _ _ _ _; (try dsimp only)) | (refine' call_replace_cr ?zl ?zu ?zv ?zn ?_; (case zl => (omega)); (case zu => k_ne); (case zv => k_ne); (case zn => k_ne); intro _ _ _ _ _; (try dsimp only)))) | ((with_reducible show wpAny _ _ (call (Value.builtin "str.rfind") _) _ _ _); (refine call_rfind4 ?_; (try dsimp only))) | ((with_reducible show wpAny _ _ (getMethod (Value.ref _) _ _) _ _ _); (k_here; (with_reducible show wpAny _ _ (getMethod (Value.ref _) (PySem.Str.ofString "reportCharacterErrors") _) _ _ _); k_dflt (refine' kmu_own ?zk1 ?zk2 ?zk3 ?zk4 ?zk5 ?_; (case zk1 => k_asm); (case zk2 => k_asm); (case zk3 => k_inst); (case zk4 => k_is); (case zk5 => k_is); k_whole))) | ((with_reducible show wpAny _ _ (isTrue (Expr.Compare _ _ _ _) _ _) _ _ _); (k_here; k_dflt (refine' isTrue_ll ?zF ?zv ?_ ?zk ?zl; (case zF => k_asm); (case zv => rfl); (case zk => rfl); (case zl => rfl); k_whole; intro _; (try dsimp only)))) | ((with_reducible show wpAny _ _ (truthy (Value.ref _)) _ _ _); (k_here; (refine' truthy_meth ?zN ?zm ?_; (case zN => k_asm); (case zm => k_mem); k_whole; (try dsimp only)))))))
  (with_reducible rename News _ _ _ (_ :: _) => kN9)
  exact hret _ (_ :: LS w kt x d q nl td tx er S t6 (.int (n : Int) t1) st) _ _ (by k_asm) (news_app (fun p hp => kN9 p (by
    rcases List.mem_cons.mp hp with h | h
    · exact h ▸ .head _
    · exact .tail _ (.tail _ h))) (by assumption)) ⟨_, _, _, rfl, rfl⟩
/-- char -/
theorem rc_LSD (w : World) (kt : Nat → Nat) (x d q nl td tx er : Nat) (hord : d < x ∧ x < q ∧ q < td ∧ td < tx ∧ tx < er) (S : Str) (hS : S.length ≤ 10000) (hsur : noSur S.cps.toList) (st : StS) (ok : StOk S st) (hb : BufIs st.bufV st.b) (t6 n t1 : Nat) (hn : 1 ≤ n) (hn' : n ≤ 20000) :
    Does w 3 (.ref 106) [.ref x] (LS w kt x d q nl td tx er S t6 (.int (n : Int) t1) st) (fun v E' => ∃ st', E' = LS w kt x d q nl td tx er S t6 (.int (n : Int) t1) st' ∧ RcNext S n st st' ∧ BufIs st'.bufV st'.b ∧
      ((v = .bool true ∧ rcIn st.b S st.p n ≠ []) ∨ (v = .bool false ∧ rcIn st.b S st.p n = []))) := by
  refine Does.imp (does_readChunkD w kt x d q nl td tx er hord st.C S n st.p st.pl st.pc t1 st.ta st.tb st.t4 st.t5 t6 st.t7 (.int (st.o : Int) st.tc) st.bufV st.b st.errs st.ne hn hn' ok.p hS (by have := ok.C; omega) (ok_errs ok) hsur hb) fun v E' h => ?_
  refine' ex_10_6 (rc_either h) ?_; intro R bufV errs ne ta tb tc t4 t5 t7 h1 h2 h3 h4 h5 h6
  exact ⟨nextSt S n st R bufV errs ta tb tc t4 t5 t7 ne, h1, next_rc h2 h4 h5, h3, h6⟩
noncomputable def CharR (S : Str) (st : StS) (v : Value) (st' : StS) : Prop :=
  StOk S st' ∧ BufIs st'.bufV st'.b ∧ ((∃ c t, v = .str ⟨#[c]⟩ t ∧ Took S st [c] st') ∨ (v = .none ∧ remOf S st = [] ∧ Took S st [] st'))
theorem char_yes {S : Str} {st st' : StS} {t tc : Nat} (tk : Took S st [] st') (ok : StOk S st') (hb : BufIs st'.bufV st'.b) (h : st'.o < st'.C.length) : CharR S st (.str (Txt.item st'.C (st'.o : Int)) t) { st' with o := st'.o + 1, tc := tc } := by
  refine ⟨⟨h, ok.p, ok.C, ok.E⟩, hb, .inl ⟨st'.C.cps.toList.getD st'.o 0, t, by rw [item_nat _ h], ?_⟩⟩
  have h1 := tk.trans (took_chunk (S := S) (st := st') (e := st'.o + 1) (tc := tc) (Nat.le_succ _))
  have hl : st'.o < st'.C.cps.toList.length := h
  have e : (st'.C.cps.toList.drop st'.o).take (st'.o + 1 - st'.o) = [st'.C.cps.toList.getD st'.o 0] := by
    rw [List.drop_eq_getElem_cons hl, show st'.o + 1 - st'.o = 1 by omega, List.take_succ_cons, List.take_zero, List.getD_eq_getElem?_getD, List.getElem?_eq_getElem hl]
    rfl
  rw [e] at h1
  exact h1
theorem char_no {S : Str} {n : Nat} {st st' : StS} (tk : Took S st [] st') (ok : StOk S st') (hb : BufIs st'.bufV st'.b) (ho : st.o = st.C.length) (hn : 1 ≤ n) (hD : rcIn st.b S st.p n = []) : CharR S st .none st' := by
  refine ⟨ok, hb, .inr ⟨rfl, ?_, tk⟩⟩
  unfold remOf
  rw [raw_empty hn hD]
  have e0 : st.C.cps.toList.drop st.o = [] := List.drop_of_length_le (by rw [ho]; exact Nat.le_refl _)
  rw [e0]; rfl
set_option maxRecDepth 100000 in
set_option maxHeartbeats 4000000 in
theorem does_char (w : World) (kt : Nat → Nat) (x d q nl td tx er : Nat) (hord : d < x ∧ x < q ∧ q < td ∧ td < tx ∧ tx < er) (S : Str) (hS : S.length ≤ 10000) (hsur : noSur S.cps.toList) (st : StS) (hst : StOk S st) (hb : BufIs st.bufV st.b) (t6 n t1 : Nat) (hn : 2 ≤ n) (hn' : n ≤ 20000) :
    Does w 5 (.ref 98) [.ref x] (LS w kt x d q nl td tx er S t6 (.int (n : Int) t1) st) (fun v E' => ∃ st', E' = LS w kt x d q nl td tx er S t6 (.int (n : Int) t1) st' ∧ CharR S st v st') := by
  unfold Does
  k_fill
  intro dp un gd cn cs a ccd cl outer A₀ base h₀ L m s R loose mean mg mb rest B F KX N T hdis hk hroom hun hret
  refine' enterR (binds := [(Str.ofString "self", .ref x)]) ?k1 ?k2 ?k3 ?k4 ?k5 ?kd ?kA ?kF ?kK ?k6 ?k7 ?k8 ?k9 ?kB ?_ ?c2 ?c3 ?c4 ?c5
  (case kA => exact rfl); (case kF => exact rfl); (case kK => first | exact rfl | assumption); (case k1 => k_asm); (case k2 => k_asm); (case k3 => k_asm); (case k4 => k_asm); (case k5 => k_asm); (case kd => assumption); (case k6 => k_dflt k_is); (case k7 => k_dflt k_is); (case k8 => k_room); (case k9 => first | exact BindsTo.of_eq rfl | exact binds_K (by k_in) rfl (by k_is) rfl rfl rfl); (case c5 => decide); (case kB => exact locs rfl); (case c2 => exact rfl); (case c3 => exact rfl); (case c4 => exact rfl)
  k_whole
  intro g' L' h' FG' F' N' B' X' T' lt'
  clear N F
  refine wpAny_noRaise ?_
  simp only [LS, TL, SX, ent, List.cons_append, List.nil_append] at N'
  have ho1 := hst.o
  have ho2 := hst.C
  w_on
  w_top on
  w_strict ((repeat' (first | with_reducible ((show wpAny _ _ (call (Value.ref _) _) _ _ _); (k_here; (with_reducible show wpAny _ _ (call (Value.ref 106) _) _ _ _); refine stopAt_ ?_)) | with_reducible ((show wpAny _ _ (call (Value.ref _) _) _ _ _); (k_here; (with_reducible show wpAny _ _ (call (Value.ref 84) _) _ _ _); refine stopAt_ ?_)) | with_reducible ((show wpAny _ _ (getMethod (Value.ref _) _ _) _ _ _); (k_here; (with_reducible show wpAny _ _ (getMethod (Value.ref _) (PySem.Str.ofString "reportCharacterErrors") _) _ _ _); k_dflt (refine' kmu_own ?zk1 ?zk2 ?zk3 ?zk4 ?zk5 ?_; (case zk1 => k_asm); (case zk2 => k_asm); (case zk3 => k_inst); (case zk4 => k_is); (case zk5 => k_is); k_whole))) | with_reducible ((show wpAny _ _ (execs (_ :: _) _) _ _ _); (k_here; (with_reducible show wpAny _ _ _ _ _ (Shared.mk _ _ _ (_ + _) _)); k_dflt (refine' gen_toks ?zp ?_; (case zp => ((try dsimp only); exact Nat.succ_pos _)); intro _ _))) | with_reducible ((show wpAny _ _ (isTrue (Expr.Compare _ _ _ _) _ _) _ _ _); (k_here; k_dflt (refine' isTrue_ll ?zF ?zv ?_ ?zk ?zl; (case zF => k_asm); (case zv => rfl); (case zk => rfl); (case zl => rfl); k_whole; intro _; (try dsimp only)))) | with_reducible ((show wpAny _ _ (call (Value.builtin "str.replace") _) _ _ _); k_dflt (first | (refine' call_replace_crlf ?zl ?zu ?zv ?zn ?_; (case zl => (omega)); (case zu => k_ne); (case zv => k_ne); (case zn => k_ne); intro _ _ _ _ _; (try dsimp only)) | (refine' call_replace_cr ?zl ?zu ?zv ?zn ?_; (case zl => (omega)); (case zu => k_ne); (case zv => k_ne); (case zn => k_ne); intro _ _ _ _ _; (try dsimp only)))) | with_reducible ((show wpAny _ _ (call (Value.builtin "str.rfind") _) _ _ _); (refine call_rfind4 ?_; (try dsimp only))) | with_reducible ((show wpAny _ _ (call (Value.builtin "str.count") _) _ _ _); (refine call_count4 ?_; (try dsimp only))) | with_reducible ((show wpAny _ _ (truthy (Value.ref _)) _ _ _); (k_here; (refine' truthy_meth ?zN ?zm ?_; (case zN => k_asm); (case zm => k_mem); k_whole; (try dsimp only)))) | (k_unfold; (try dsimp only)) | walk1 | (dsimp only; walk1) | (dsimp only [List.nil_append, List.cons_append]; walk1) | (k_end; dsimp only; k_unfold; (try dsimp only)) | (leave1; (try dsimp only)) | ((with_reducible show wpAny _ _ (call (Value.builtin "str.count") _) _ _ _); (refine call_count4 ?_; (try dsimp only))) | ((with_reducible show wpAny _ _ (call (Value.builtin "str.replace") _) _ _ _); k_dflt (first | (refine' call_replace_crlf ?zl ?zu ?zv ?zn ?_; (case zl => (omega)); (case zu => k_ne); (case zv => k_ne); (case zn => k_ne); intro _ _ _ _ _; (try dsimp only)) | (refine' call_replace_cr ?zl ?zu ?zv ?zn ?_; (case zl => (omega)); (case zu => k_ne); (case zv => k_ne); (case zn => k_ne); intro _ _ _ _ _; (try dsimp only)))) | ((with_reducible show wpAny _ _ (call (Value.builtin "str.rfind") _) _ _ _); (refine call_rfind4 ?_; (try dsimp only))) | ((with_reducible show wpAny _ _ (getMethod (Value.ref _) _ _) _ _ _); (k_here; (with_reducible show wpAny _ _ (getMethod (Value.ref _) (PySem.Str.ofString "reportCharacterErrors") _) _ _ _); k_dflt (refine' kmu_own ?zk1 ?zk2 ?zk3 ?zk4 ?zk5 ?_; (case zk1 => k_asm); (case zk2 => k_asm); (case zk3 => k_inst); (case zk4 => k_is); (case zk5 => k_is); k_whole))) | ((with_reducible show wpAny _ _ (isTrue (Expr.Compare _ _ _ _) _ _) _ _ _); (k_here; k_dflt (refine' isTrue_ll ?zF ?zv ?_ ?zk ?zl; (case zF => k_asm); (case zv => rfl); (case zk => rfl); (case zl => rfl); k_whole; intro _; (try dsimp only)))) | ((with_reducible show wpAny _ _ (truthy (Value.ref _)) _ _ _); (k_here; (refine' truthy_meth ?zN ?zm ?_; (case zN => k_asm); (case zm => k_mem); k_whole; (try dsimp only)))))))
  · skip
    unfold StopAt
    (with_reducible rename Fr _ _ _ _ => F5)
    (with_reducible rename News _ _ _ _ => N5)
    (try dsimp only [List.append_nil])
    k_dflt (refine' Does.useP [] (rc_LSD _ _ _ _ _ _ _ _ _ ?h1 _ ?h2 ?h3 _ ?h4 ?h5 _ _ _ ?h6 ?h7) ?k1 ?k2 ?k3 ?k4 ?k5 ?kd ?kK ?kr ?ku ?_)
    case k4 => exact N5
    case k1 => assumption
    case k2 => exact F5
    case k3 => assumption
    case k5 => assumption
    case kK => first | exact rfl | assumption
    case kr => (first | assumption | ((simp only [depth_under_make, depth_under_kw, depth_in1, depth_deeper, depth_caller]); (try dsimp only [ktrTop]); first | exact room0 (by assumption) (by decide) | exact room1 (by assumption) (by decide) | omega | decide) | ((try dsimp only [ktrTop]); omega))
    case ku => (first | assumption | ((simp only [units_in1, units_deeper, Around.mark_units, units_caller]); (try dsimp only [ktrTop]); first | exact room0 (by assumption) (by decide) | exact room1 (by assumption) (by decide)) | ((have zhcL := cLine_is); (simp only [units_in1, units_deeper, Around.mark_units, units_caller]); (try dsimp only [ktrTop]); omega) | ((have zhcL := cLine_is); (try dsimp only [ktrTop]); omega))
    (case h1 => assumption); (case h2 => omega); (case h3 => assumption); (case h4 => assumption); (case h5 => assumption); (case h6 => omega); (case h7 => omega)
    case kd => (first | (exact fun _ _ _ h9 => absurd h9 List.not_mem_nil) | (exact own_dis (by assumption) sx_sub) | ((simp only [List.nil_append, List.cons_append, List.append_nil, List.forall_mem_cons]); (repeat' (first | (refine And.intro ?_ ?_) | k_ne | (exact fun _ h9 => absurd h9 List.not_mem_nil) | assumption)); done))
    k_whole
    intro v9 E9 h9 tk9 F9 N9 p9 T9
    obtain ⟨st8, e8, rn8, hb8, hv8⟩ := p9
    subst e8
    simp only [List.nil_append, List.cons_append, LS, SX, TL, ent] at N9
    clear N5 F5
    have hoe : st.o = st.C.length := by omega
    have ok8 := ok_next rn8 hst hS (buf_len hb)
    have tk8 := took_next rn8 hn hst.p hoe
    have ho8 := rn8.o
    rcases hv8 with ⟨e8, hD8⟩ | ⟨e8, hD8⟩
    · subst e8
      have hp8 := pos_next rn8 hD8
      w_strict ((repeat' (first | with_reducible ((show wpAny _ _ (call (Value.ref _) _) _ _ _); (k_here; (with_reducible show wpAny _ _ (call (Value.ref 106) _) _ _ _); refine stopAt_ ?_)) | with_reducible ((show wpAny _ _ (call (Value.ref _) _) _ _ _); (k_here; (with_reducible show wpAny _ _ (call (Value.ref 84) _) _ _ _); refine stopAt_ ?_)) | with_reducible ((show wpAny _ _ (getMethod (Value.ref _) _ _) _ _ _); (k_here; (with_reducible show wpAny _ _ (getMethod (Value.ref _) (PySem.Str.ofString "reportCharacterErrors") _) _ _ _); k_dflt (refine' kmu_own ?zk1 ?zk2 ?zk3 ?zk4 ?zk5 ?_; (case zk1 => k_asm); (case zk2 => k_asm); (case zk3 => k_inst); (case zk4 => k_is); (case zk5 => k_is); k_whole))) | with_reducible ((show wpAny _ _ (execs (_ :: _) _) _ _ _); (k_here; (with_reducible show wpAny _ _ _ _ _ (Shared.mk _ _ _ (_ + _) _)); k_dflt (refine' gen_toks ?zp ?_; (case zp => ((try dsimp only); exact Nat.succ_pos _)); intro _ _))) | with_reducible ((show wpAny _ _ (isTrue (Expr.Compare _ _ _ _) _ _) _ _ _); (k_here; k_dflt (refine' isTrue_ll ?zF ?zv ?_ ?zk ?zl; (case zF => k_asm); (case zv => rfl); (case zk => rfl); (case zl => rfl); k_whole; intro _; (try dsimp only)))) | with_reducible ((show wpAny _ _ (call (Value.builtin "str.replace") _) _ _ _); k_dflt (first | (refine' call_replace_crlf ?zl ?zu ?zv ?zn ?_; (case zl => (omega)); (case zu => k_ne); (case zv => k_ne); (case zn => k_ne); intro _ _ _ _ _; (try dsimp only)) | (refine' call_replace_cr ?zl ?zu ?zv ?zn ?_; (case zl => (omega)); (case zu => k_ne); (case zv => k_ne); (case zn => k_ne); intro _ _ _ _ _; (try dsimp only)))) | with_reducible ((show wpAny _ _ (call (Value.builtin "str.rfind") _) _ _ _); (refine call_rfind4 ?_; (try dsimp only))) | with_reducible ((show wpAny _ _ (call (Value.builtin "str.count") _) _ _ _); (refine call_count4 ?_; (try dsimp only))) | with_reducible ((show wpAny _ _ (truthy (Value.ref _)) _ _ _); (k_here; (refine' truthy_meth ?zN ?zm ?_; (case zN => k_asm); (case zm => k_mem); k_whole; (try dsimp only)))) | (k_unfold; (try dsimp only)) | walk1 | (dsimp only; walk1) | (dsimp only [List.nil_append, List.cons_append]; walk1) | (k_end; dsimp only; k_unfold; (try dsimp only)) | (leave1; (try dsimp only)) | ((with_reducible show wpAny _ _ (call (Value.builtin "str.count") _) _ _ _); (refine call_count4 ?_; (try dsimp only))) | ((with_reducible show wpAny _ _ (call (Value.builtin "str.replace") _) _ _ _); k_dflt (first | (refine' call_replace_crlf ?zl ?zu ?zv ?zn ?_; (case zl => (omega)); (case zu => k_ne); (case zv => k_ne); (case zn => k_ne); intro _ _ _ _ _; (try dsimp only)) | (refine' call_replace_cr ?zl ?zu ?zv ?zn ?_; (case zl => (omega)); (case zu => k_ne); (case zv => k_ne); (case zn => k_ne); intro _ _ _ _ _; (try dsimp only)))) | ((with_reducible show wpAny _ _ (call (Value.builtin "str.rfind") _) _ _ _); (refine call_rfind4 ?_; (try dsimp only))) | ((with_reducible show wpAny _ _ (getMethod (Value.ref _) _ _) _ _ _); (k_here; (with_reducible show wpAny _ _ (getMethod (Value.ref _) (PySem.Str.ofString "reportCharacterErrors") _) _ _ _); k_dflt (refine' kmu_own ?zk1 ?zk2 ?zk3 ?zk4 ?zk5 ?_; (case zk1 => k_asm); (case zk2 => k_asm); (case zk3 => k_inst); (case zk4 => k_is); (case zk5 => k_is); k_whole))) | ((with_reducible show wpAny _ _ (isTrue (Expr.Compare _ _ _ _) _ _) _ _ _); (k_here; k_dflt (refine' isTrue_ll ?zF ?zv ?_ ?zk ?zl; (case zF => k_asm); (case zv => rfl); (case zk => rfl); (case zl => rfl); k_whole; intro _; (try dsimp only)))) | ((with_reducible show wpAny _ _ (truthy (Value.ref _)) _ _ _); (k_here; (refine' truthy_meth ?zN ?zm ?_; (case zN => k_asm); (case zm => k_mem); k_whole; (try dsimp only)))))))
      (with_reducible rename News _ _ _ (_ :: _) => kN9)
      exact hret _ (LS w kt x d q nl td tx er S t6 (.int (n : Int) t1) { st8 with o := st8.o + 1, tc := _ }) _ _ (by k_asm) (news_app kN9 (by assumption)) ⟨_, rfl, char_yes tk8 ok8 hb8 (by omega)⟩
    · subst e8
      w_strict ((repeat' (first | with_reducible ((show wpAny _ _ (call (Value.ref _) _) _ _ _); (k_here; (with_reducible show wpAny _ _ (call (Value.ref 106) _) _ _ _); refine stopAt_ ?_)) | with_reducible ((show wpAny _ _ (call (Value.ref _) _) _ _ _); (k_here; (with_reducible show wpAny _ _ (call (Value.ref 84) _) _ _ _); refine stopAt_ ?_)) | with_reducible ((show wpAny _ _ (getMethod (Value.ref _) _ _) _ _ _); (k_here; (with_reducible show wpAny _ _ (getMethod (Value.ref _) (PySem.Str.ofString "reportCharacterErrors") _) _ _ _); k_dflt (refine' kmu_own ?zk1 ?zk2 ?zk3 ?zk4 ?zk5 ?_; (case zk1 => k_asm); (case zk2 => k_asm); (case zk3 => k_inst); (case zk4 => k_is); (case zk5 => k_is); k_whole))) | with_reducible ((show wpAny _ _ (execs (_ :: _) _) _ _ _); (k_here; (with_reducible show wpAny _ _ _ _ _ (Shared.mk _ _ _ (_ + _) _)); k_dflt (refine' gen_toks ?zp ?_; (case zp => ((try dsimp only); exact Nat.succ_pos _)); intro _ _))) | with_reducible ((show wpAny _ _ (isTrue (Expr.Compare _ _ _ _) _ _) _ _ _); (k_here; k_dflt (refine' isTrue_ll ?zF ?zv ?_ ?zk ?zl; (case zF => k_asm); (case zv => rfl); (case zk => rfl); (case zl => rfl); k_whole; intro _; (try dsimp only)))) | with_reducible ((show wpAny _ _ (call (Value.builtin "str.replace") _) _ _ _); k_dflt (first | (refine' call_replace_crlf ?zl ?zu ?zv ?zn ?_; (case zl => (omega)); (case zu => k_ne); (case zv => k_ne); (case zn => k_ne); intro _ _ _ _ _; (try dsimp only)) | (refine' call_replace_cr ?zl ?zu ?zv ?zn ?_; (case zl => (omega)); (case zu => k_ne); (case zv => k_ne); (case zn => k_ne); intro _ _ _ _ _; (try dsimp only)))) | with_reducible ((show wpAny _ _ (call (Value.builtin "str.rfind") _) _ _ _); (refine call_rfind4 ?_; (try dsimp only))) | with_reducible ((show wpAny _ _ (call (Value.builtin "str.count") _) _ _ _); (refine call_count4 ?_; (try dsimp only))) | with_reducible ((show wpAny _ _ (truthy (Value.ref _)) _ _ _); (k_here; (refine' truthy_meth ?zN ?zm ?_; (case zN => k_asm); (case zm => k_mem); k_whole; (try dsimp only)))) | (k_unfold; (try dsimp only)) | walk1 | (dsimp only; walk1) | (dsimp only [List.nil_append, List.cons_append]; walk1) | (k_end; dsimp only; k_unfold; (try dsimp only)) | (leave1; (try dsimp only)) | ((with_reducible show wpAny _ _ (call (Value.builtin "str.count") _) _ _ _); (refine call_count4 ?_; (try dsimp only))) | ((with_reducible show wpAny _ _ (call (Value.builtin "str.replace") _) _ _ _); k_dflt (first | (refine' call_replace_crlf ?zl ?zu ?zv ?zn ?_; (case zl => (omega)); (case zu => k_ne); (case zv => k_ne); (case zn => k_ne); intro _ _ _ _ _; (try dsimp only)) | (refine' call_replace_cr ?zl ?zu ?zv ?zn ?_; (case zl => (omega)); (case zu => k_ne); (case zv => k_ne); (case zn => k_ne); intro _ _ _ _ _; (try dsimp only)))) | ((with_reducible show wpAny _ _ (call (Value.builtin "str.rfind") _) _ _ _); (refine call_rfind4 ?_; (try dsimp only))) | ((with_reducible show wpAny _ _ (getMethod (Value.ref _) _ _) _ _ _); (k_here; (with_reducible show wpAny _ _ (getMethod (Value.ref _) (PySem.Str.ofString "reportCharacterErrors") _) _ _ _); k_dflt (refine' kmu_own ?zk1 ?zk2 ?zk3 ?zk4 ?zk5 ?_; (case zk1 => k_asm); (case zk2 => k_asm); (case zk3 => k_inst); (case zk4 => k_is); (case zk5 => k_is); k_whole))) | ((with_reducible show wpAny _ _ (isTrue (Expr.Compare _ _ _ _) _ _) _ _ _); (k_here; k_dflt (refine' isTrue_ll ?zF ?zv ?_ ?zk ?zl; (case zF => k_asm); (case zv => rfl); (case zk => rfl); (case zl => rfl); k_whole; intro _; (try dsimp only)))) | ((with_reducible show wpAny _ _ (truthy (Value.ref _)) _ _ _); (k_here; (refine' truthy_meth ?zN ?zm ?_; (case zN => k_asm); (case zm => k_mem); k_whole; (try dsimp only)))))))
      (with_reducible rename News _ _ _ (_ :: _) => kN9)
      exact hret _ (LS w kt x d q nl td tx er S t6 (.int (n : Int) t1) st8) _ _ (by k_asm) (news_app kN9 (by assumption)) ⟨_, rfl, char_no tk8 ok8 hb8 hoe (by omega) hD8⟩
  · (with_reducible rename News _ _ _ (_ :: _) => kN9)
    exact hret _ (LS w kt x d q nl td tx er S t6 (.int (n : Int) t1) { st with o := st.o + 1, tc := _ }) _ _ (by k_asm) (news_app kN9 (by assumption)) ⟨_, rfl, char_yes .refl hst hb (by omega)⟩
end
theorem unget_zero {S X : Str} {st : StS} {c ta tb : Nat} (ok : StOk S st) (hb : BufIs st.bufV st.b) (ho : st.o = 0) (hX : X = ⟨#[c]⟩) (hL : st.C.length ≤ 14000) :
    StOk S { st with C := X ++ st.C, ta := ta, tb := tb } ∧ BufIs st.bufV st.b ∧ remOf S { st with C := X ++ st.C, ta := ta, tb := tb } = c :: remOf S st ∧ rawOf S { st with C := X ++ st.C, ta := ta, tb := tb } = rawOf S st ∧ st.errs = st.errs := by
  have hxl : X.length = 1 := by rw [hX]; rfl
  have hxc : X.cps.toList = [c] := by rw [hX]
  refine ⟨⟨?_, ok.p, ?_, ok.E⟩, hb, ?_, rfl, rfl⟩
  · show st.o ≤ _; rw [ho]; exact Nat.zero_le _
  · show (X ++ st.C).length ≤ 15000
    rw [Str.length_append, hxl]; omega
  · show (X ++ st.C).cps.toList.drop st.o ++ norm (rawOf S st) = c :: (st.C.cps.toList.drop st.o ++ norm (rawOf S st))
    rw [ho, List.drop_zero, List.drop_zero, Str.cps_append, Array.toList_append, hxc]; rfl
theorem unget_back {S : Str} {st : StS} {c tc : Nat} (ok : StOk S st) (hb : BufIs st.bufV st.b) (ho : st.o ≠ 0) (hC : st.C.cps.toList.getD (st.o - 1) 0 = c) :
    StOk S { st with o := st.o - 1, tc := tc } ∧ BufIs st.bufV st.b ∧ remOf S { st with o := st.o - 1, tc := tc } = c :: remOf S st ∧ rawOf S { st with o := st.o - 1, tc := tc } = rawOf S st ∧ st.errs = st.errs := by
  have h1 := ok.o
  have hl : st.C.cps.toList.length = st.C.length := rfl
  refine ⟨⟨by show st.o - 1 ≤ st.C.length; omega, ok.p, ok.C, ok.E⟩, hb, ?_, rfl, rfl⟩
  show st.C.cps.toList.drop (st.o - 1) ++ norm (rawOf S st) = c :: (st.C.cps.toList.drop st.o ++ norm (rawOf S st))
  have h2 : st.o - 1 < st.C.cps.toList.length := by omega
  rw [List.drop_eq_getElem_cons h2]
  rw [List.getD_eq_getElem?_getD, List.getElem?_eq_getElem h2] at hC
  have h3 : st.o - 1 + 1 = st.o := by omega
  rw [h3, ← hC]; rfl
set_option maxRecDepth 100000 in
set_option maxHeartbeats 4000000 in
theorem does_unget (w : World) (kt : Nat → Nat) (x d q nl td tx er : Nat) (hord : d < x ∧ x < q ∧ q < td ∧ td < tx ∧ tx < er) (S : Str) (st : StS) (hst : StOk S st) (hb : BufIs st.bufV st.b) (t6 n t1 t2 : Nat) (X : Str) (c : Nat) (hX : X = ⟨#[c]⟩)
    (hC : st.o ≠ 0 → st.C.cps.toList.getD (st.o - 1) 0 = c) (hL : st.o = 0 → st.C.length ≤ 14000) :
    Does w 2 (.ref 128) [.ref x, .str X t2] (LS w kt x d q nl td tx er S t6 (.int (n : Int) t1) st) (fun v E' => ∃ st', v = .none ∧ E' = LS w kt x d q nl td tx er S t6 (.int (n : Int) t1) st' ∧ StOk S st' ∧ BufIs st'.bufV st'.b ∧ remOf S st' = c :: remOf S st ∧ rawOf S st' = rawOf S st ∧ st'.errs = st.errs) := by
  refine' ex_0_15 (ord6 hord) ?_; intro g1 g2 g3 g4 g5 g6 g7 g8 g9 g10 g11 g12 g13 g14 g15
  unfold Does
  k_fill
  intro dp un gd cn cs a ccd cl outer A₀ base h₀ L m s R loose mean mg mb rest B F KX N T hdis hk hroom hun hret
  refine' enterR (binds := [(Str.ofString "self", .ref x), (Str.ofString "char", .str X t2)]) ?k1 ?k2 ?k3 ?k4 ?k5 ?kd ?kA ?kF ?kK ?k6 ?k7 ?k8 ?k9 ?kB ?_ ?c2 ?c3 ?c4 ?c5
  (case kA => exact rfl); (case kF => exact rfl); (case kK => first | exact rfl | assumption); (case k1 => k_asm); (case k2 => k_asm); (case k3 => k_asm); (case k4 => k_asm); (case k5 => k_asm); (case kd => assumption); (case k6 => k_dflt k_is); (case k7 => k_dflt k_is); (case k8 => k_room); (case k9 => first | exact BindsTo.of_eq rfl | exact binds_K (by k_in) rfl (by k_is) rfl rfl rfl); (case c5 => decide); (case kB => exact locs rfl); (case c2 => exact rfl); (case c3 => exact rfl); (case c4 => exact rfl)
  k_whole
  intro g' L' h' FG' F' N' B' X' T' lt'
  clear N F
  refine wpAny_noRaise ?_
  simp only [LS, TL, SX, ent, List.cons_append, List.nil_append] at N'
  have ho1 := hst.o
  have ho2 := hst.C
  have hxl : X.length = 1 := by rw [hX]; rfl
  w_on
  w_top on
  w_strict ((repeat' (first | with_reducible ((show wpAny _ _ (getMethod (Value.ref _) _ _) _ _ _); (k_here; (with_reducible show wpAny _ _ (getMethod (Value.ref _) (PySem.Str.ofString "reportCharacterErrors") _) _ _ _); k_dflt (refine' kmu_own ?zk1 ?zk2 ?zk3 ?zk4 ?zk5 ?_; (case zk1 => k_asm); (case zk2 => k_asm); (case zk3 => k_inst); (case zk4 => k_is); (case zk5 => k_is); k_whole))) | with_reducible ((show wpAny _ _ (execs (_ :: _) _) _ _ _); (k_here; (with_reducible show wpAny _ _ _ _ _ (Shared.mk _ _ _ (_ + _) _)); k_dflt (refine' gen_toks ?zp ?_; (case zp => ((try dsimp only); exact Nat.succ_pos _)); intro _ _))) | with_reducible ((show wpAny _ _ (isTrue (Expr.Compare _ _ _ _) _ _) _ _ _); (k_here; k_dflt (refine' isTrue_ll ?zF ?zv ?_ ?zk ?zl; (case zF => k_asm); (case zv => rfl); (case zk => rfl); (case zl => rfl); k_whole; intro _; (try dsimp only)))) | with_reducible ((show wpAny _ _ (call (Value.builtin "str.replace") _) _ _ _); k_dflt (first | (refine' call_replace_crlf ?zl ?zu ?zv ?zn ?_; (case zl => (omega)); (case zu => k_ne); (case zv => k_ne); (case zn => k_ne); intro _ _ _ _ _; (try dsimp only)) | (refine' call_replace_cr ?zl ?zu ?zv ?zn ?_; (case zl => (omega)); (case zu => k_ne); (case zv => k_ne); (case zn => k_ne); intro _ _ _ _ _; (try dsimp only)))) | with_reducible ((show wpAny _ _ (call (Value.builtin "str.rfind") _) _ _ _); (refine call_rfind4 ?_; (try dsimp only))) | with_reducible ((show wpAny _ _ (call (Value.builtin "str.count") _) _ _ _); (refine call_count4 ?_; (try dsimp only))) | with_reducible ((show wpAny _ _ (truthy (Value.ref _)) _ _ _); (k_here; (refine' truthy_meth ?zN ?zm ?_; (case zN => k_asm); (case zm => k_mem); k_whole; (try dsimp only)))) | (k_unfold; (try dsimp only)) | walk1 | (dsimp only; walk1) | (dsimp only [List.nil_append, List.cons_append]; walk1) | (k_end; dsimp only; k_unfold; (try dsimp only)) | (leave1; (try dsimp only)) | ((with_reducible show wpAny _ _ (call (Value.builtin "str.count") _) _ _ _); (refine call_count4 ?_; (try dsimp only))) | ((with_reducible show wpAny _ _ (call (Value.builtin "str.replace") _) _ _ _); k_dflt (first | (refine' call_replace_crlf ?zl ?zu ?zv ?zn ?_; (case zl => (omega)); (case zu => k_ne); (case zv => k_ne); (case zn => k_ne); intro _ _ _ _ _; (try dsimp only)) | (refine' call_replace_cr ?zl ?zu ?zv ?zn ?_; (case zl => (omega)); (case zu => k_ne); (case zv => k_ne); (case zn => k_ne); intro _ _ _ _ _; (try dsimp only)))) | ((with_reducible show wpAny _ _ (call (Value.builtin "str.rfind") _) _ _ _); (refine call_rfind4 ?_; (try dsimp only))) | ((with_reducible show wpAny _ _ (getMethod (Value.ref _) _ _) _ _ _); (k_here; (with_reducible show wpAny _ _ (getMethod (Value.ref _) (PySem.Str.ofString "reportCharacterErrors") _) _ _ _); k_dflt (refine' kmu_own ?zk1 ?zk2 ?zk3 ?zk4 ?zk5 ?_; (case zk1 => k_asm); (case zk2 => k_asm); (case zk3 => k_inst); (case zk4 => k_is); (case zk5 => k_is); k_whole))) | ((with_reducible show wpAny _ _ (isTrue (Expr.Compare _ _ _ _) _ _) _ _ _); (k_here; k_dflt (refine' isTrue_ll ?zF ?zv ?_ ?zk ?zl; (case zF => k_asm); (case zv => rfl); (case zk => rfl); (case zl => rfl); k_whole; intro _; (try dsimp only)))) | ((with_reducible show wpAny _ _ (truthy (Value.ref _)) _ _ _); (k_here; (refine' truthy_meth ?zN ?zm ?_; (case zN => k_asm); (case zm => k_mem); k_whole; (try dsimp only)))))))
  · (with_reducible rename News _ _ _ (_ :: _) => kN9)
    have e : (st.C.length : Int) + 1 = ((X ++ st.C).length : Int) := by rw [Str.length_append, hxl]; omega
    rw [e] at kN9
    exact hret _ (LS w kt x d q nl td tx er S t6 (.int (n : Int) t1) { st with C := X ++ st.C, ta := _, tb := _ }) _ _ (by k_asm) (news_app kN9 (by assumption)) ⟨_, rfl, rfl, unget_zero hst hb (by omega) hX (hL (by omega))⟩
  · have hne : st.o ≠ 0 := by omega
    have hit : Txt.item st.C ((st.o : Int) - 1) = X := by
      have e : (st.o : Int) - 1 = ((st.o - 1 : Nat) : Int) := by omega
      rw [e, item_nat _ (by omega), hC hne, hX]
    refine item_str ?f1 ?f2 ?f3 ?_
    case f1 => exact fitsSsize_of (N := 9223372036854775808) (by omega) (by omega) (Int.le_refl _)
    case f2 => omega
    case f3 => omega
    rw [hit]
    intro hlen
    w_strict ((repeat' (first | with_reducible ((show wpAny _ _ (getMethod (Value.ref _) _ _) _ _ _); (k_here; (with_reducible show wpAny _ _ (getMethod (Value.ref _) (PySem.Str.ofString "reportCharacterErrors") _) _ _ _); k_dflt (refine' kmu_own ?zk1 ?zk2 ?zk3 ?zk4 ?zk5 ?_; (case zk1 => k_asm); (case zk2 => k_asm); (case zk3 => k_inst); (case zk4 => k_is); (case zk5 => k_is); k_whole))) | with_reducible ((show wpAny _ _ (execs (_ :: _) _) _ _ _); (k_here; (with_reducible show wpAny _ _ _ _ _ (Shared.mk _ _ _ (_ + _) _)); k_dflt (refine' gen_toks ?zp ?_; (case zp => ((try dsimp only); exact Nat.succ_pos _)); intro _ _))) | with_reducible ((show wpAny _ _ (isTrue (Expr.Compare _ _ _ _) _ _) _ _ _); (k_here; k_dflt (refine' isTrue_ll ?zF ?zv ?_ ?zk ?zl; (case zF => k_asm); (case zv => rfl); (case zk => rfl); (case zl => rfl); k_whole; intro _; (try dsimp only)))) | with_reducible ((show wpAny _ _ (call (Value.builtin "str.replace") _) _ _ _); k_dflt (first | (refine' call_replace_crlf ?zl ?zu ?zv ?zn ?_; (case zl => (omega)); (case zu => k_ne); (case zv => k_ne); (case zn => k_ne); intro _ _ _ _ _; (try dsimp only)) | (refine' call_replace_cr ?zl ?zu ?zv ?zn ?_; (case zl => (omega)); (case zu => k_ne); (case zv => k_ne); (case zn => k_ne); intro _ _ _ _ _; (try dsimp only)))) | with_reducible ((show wpAny _ _ (call (Value.builtin "str.rfind") _) _ _ _); (refine call_rfind4 ?_; (try dsimp only))) | with_reducible ((show wpAny _ _ (call (Value.builtin "str.count") _) _ _ _); (refine call_count4 ?_; (try dsimp only))) | with_reducible ((show wpAny _ _ (truthy (Value.ref _)) _ _ _); (k_here; (refine' truthy_meth ?zN ?zm ?_; (case zN => k_asm); (case zm => k_mem); k_whole; (try dsimp only)))) | (k_unfold; (try dsimp only)) | walk1 | (dsimp only; walk1) | (dsimp only [List.nil_append, List.cons_append]; walk1) | (k_end; dsimp only; k_unfold; (try dsimp only)) | (leave1; (try dsimp only)) | ((with_reducible show wpAny _ _ (call (Value.builtin "str.count") _) _ _ _); (refine call_count4 ?_; (try dsimp only))) | ((with_reducible show wpAny _ _ (call (Value.builtin "str.replace") _) _ _ _); k_dflt (first | (refine' call_replace_crlf ?zl ?zu ?zv ?zn ?_; (case zl => (omega)); (case zu => k_ne); (case zv => k_ne); (case zn => k_ne); intro _ _ _ _ _; (try dsimp only)) | (refine' call_replace_cr ?zl ?zu ?zv ?zn ?_; (case zl => (omega)); (case zu => k_ne); (case zv => k_ne); (case zn => k_ne); intro _ _ _ _ _; (try dsimp only)))) | ((with_reducible show wpAny _ _ (call (Value.builtin "str.rfind") _) _ _ _); (refine call_rfind4 ?_; (try dsimp only))) | ((with_reducible show wpAny _ _ (getMethod (Value.ref _) _ _) _ _ _); (k_here; (with_reducible show wpAny _ _ (getMethod (Value.ref _) (PySem.Str.ofString "reportCharacterErrors") _) _ _ _); k_dflt (refine' kmu_own ?zk1 ?zk2 ?zk3 ?zk4 ?zk5 ?_; (case zk1 => k_asm); (case zk2 => k_asm); (case zk3 => k_inst); (case zk4 => k_is); (case zk5 => k_is); k_whole))) | ((with_reducible show wpAny _ _ (isTrue (Expr.Compare _ _ _ _) _ _) _ _ _); (k_here; k_dflt (refine' isTrue_ll ?zF ?zv ?_ ?zk ?zl; (case zF => k_asm); (case zv => rfl); (case zk => rfl); (case zl => rfl); k_whole; intro _; (try dsimp only)))) | ((with_reducible show wpAny _ _ (truthy (Value.ref _)) _ _ _); (k_here; (refine' truthy_meth ?zN ?zm ?_; (case zN => k_asm); (case zm => k_mem); k_whole; (try dsimp only)))))))
    (with_reducible rename News _ _ _ (_ :: _) => kN9)
    have e : (st.o : Int) - 1 = ((st.o - 1 : Nat) : Int) := by omega
    rw [e] at kN9
    exact hret _ (LS w kt x d q nl td tx er S t6 (.int (n : Int) t1) { st with o := st.o - 1, tc := _ }) _ _ (by k_asm) (news_app kN9 (by assumption)) ⟨_, rfl, rfl, unget_back hst hb hne (hC hne)⟩
local macro_rules | `(tactic| k_lt $h) => `(tactic| (replace $h := allLt_of $h; simp only [AllLt, and_true] at $h:ident; (repeat (have lh9 := And.left $h; replace $h := And.right $h))))
/-- entering a def with cells, with a part of the ledger; the rest is kept -/
theorem enterC {prog : Program} {w : World} {A₀ A : Around} {s : Shared} {base h₀ : Heap} {outer : List Env} {L : Addr} {m : Str → Option Value} {env : Env} {E rest : Ledger} {K : Frag}
    {p : Program} {loose : List Str} {mean : ExcName → Option Value} {mg mb : Str → Option Value}
    {R : Result → Shared → Prop} {name qual : Str} {params : Arguments} {body : List Stmt} {scope : Scope} {dV kV doc pm cdv ct oc : Value} {an od : Option Addr} {osl : Array (Option Value)} {f : Addr} {args : Args} {binds : List (Str × Value)}
    (B : Below A₀ base outer h₀) (F : Fr h₀ L s.heap m) (X₀ : K.In h₀) (N : News h₀ L s.heap (E ++ rest)) (T : Top p loose mean mg mb h₀) (hdis : ∀ q ∈ rest, ∀ r ∈ E, r.1 ≠ q.1)
    (hA : A.frames = some (env :: outer)) (hf : env.frame = some L) (hke : env.scope.kind = .function)
    (ho : K.lookup f = some ⟨oc, od, .func (fnOf name qual params body scope dV kV doc pm an cdv ct), osl⟩) (hcd : codeIn K cdv qual = true) (hroom : A.depth < recursionLimit)
    (hbind : BindsTo s (fnOf name qual params body scope dV kV doc pm an cdv ct) args binds)
    (hkind : (binds.all fun y => scope.names.lookup y.1 == some .local || scope.names.lookup y.1 == some .cell) = true)
    (hnd : ((cellsFrom 0 scope.names []).map (·.1)).Nodup)
    (h : ∀ g L' h₁ tk cells, Fr h₀ L g m → Fr g L' h₁ (bindL (envOfC qual scope L' f cdv).kindOf binds fun _ => none) → News g L' h₁ (cells ++ E) →
      CellsAre (bindC (envOfC qual scope L' f cdv).kindOf binds fun _ => none) (cellsFrom (L' + 1) scope.names []) cells → Below A base (env :: outer) g → K.In g → Top p loose mean mg mb g → (∀ q ∈ E ++ rest, q.1 < L') →
      wpAny (model prog w) (A.deeper (envOfC qual scope L' f cdv)) (execs body (envOfC qual scope L' f cdv))
        (fun fl s' => LeaveK h₀ L m g (fun r s'' => News h₀ L s''.heap rest → R r s'') (match fl with | .ret v => v | _ => .none) s')
        (fun e s' => wpAny (model prog w) (A.deeper (envOfC qual scope L' f cdv)) (leaving (envOfC qual scope L' f cdv) e) (fun _ s'' => R (.error e) s'') (fun e' s'' => R (.error e') s'') s')
        { s with heap := h₁, toks := tk })
    (hco : scope.isCoroutine = false := by rfl) (hgen : scope.isGenerator = false := by rfl) (hk : scope.kind = .function := by rfl) : codeAny (model prog w) A (.call (.ref f) args) R s := by
  have NE : News h₀ L s.heap E := fun q hq => N q (List.mem_append_left _ hq)
  have NR : News h₀ L s.heap rest := fun q hq => N q (List.mem_append_right _ hq)
  obtain ⟨FG, BG, st, lv⟩ := groundX (R := fun r s'' => News h₀ L s''.heap rest → R r s'') B F NE hA hf hke
  refine codeAny_call_function hroom ((X₀.keeps F.keep) _ _ ho) rfl hco hgen rfl (codeRec_of (X₀.keeps F.keep) hcd) (hbind _ _ _ _ ?_)
  refine wpAny_newFunctionEnv_cells hk (kindsX hkind _) fun env' he s' x => ?_
  subst he
  refine ⟨(T.nolimit.keeps F.keep).keeps x.toInCall.keep, codeAny_func ?_⟩
  obtain ⟨h₁, tk, rfl, _⟩ := x.done
  have hk₁ := x.toInCall.keep
  obtain ⟨cells, NC, Y⟩ := Cl.news (h₀ := s.heap) (Nat.le_refl _) fun n c hm => ⟨x.cell n c (lookup_of_mem_nodup (cellsFrom_names scope.names 0 (s.heap.objs.size + 1) [] [] rfl ▸ hnd) hm), x.above n c hm⟩
  refine wpAny_mono (h _ s.heap.objs.size h₁ tk cells FG ⟨x.toInCall.ns, fun b o e => hk₁ b o (of_hideAll _ e), Nat.le_of_eq (hideAll_size _ _)⟩ (fun p hp => ?_) Y BG (X₀.keeps st) (T.keeps st) (fun p hp => Heap.lt_size (N p hp).1)) (fun fl s' hl => ?_) fun _ _ y => y
  · rcases List.mem_append.mp hp with hp | hp
    · refine ⟨(NC p hp).1, (NC p hp).2.1, ?_⟩
      cases q : (hideAll s.heap (E.map (·.1))).get? p.1 with
      | none => rfl
      | some o => have := of_hideAll _ q; rw [(NC p hp).2.2] at this; cases this
    · exact ⟨hk₁ _ _ (NE p hp).1, Nat.ne_of_lt (Heap.lt_size (NE p hp).1), hideAll_none _ (List.mem_map_of_mem hp)⟩
  · refine lv _ _ hl ?_
    obtain ⟨L', m', news', F', N', k⟩ := hl
    intro q hq
    refine ⟨F'.keep _ _ (hideAll_get _ (NR q hq).1 fun hm => ?_), (NR q hq).2⟩
    obtain ⟨r, hr, e⟩ := List.mem_map.mp hm
    exact hdis q hq r hr e
section
local macro_rules | `(tactic| walk_at "CompSrc") => `(tactic| refine stopAt_ ?_)
noncomputable def faulty (c : Int) : Bool := decide (0 < c ∧ c < 9) || decide (64976 ≤ c ∧ c < 65008) || decide (65533 < c.fmod 65536)
set_option maxRecDepth 100000 in
set_option maxHeartbeats 4000000 in
theorem does_faulty (w : World) (c : Int) (t : Nat) : Does w 1 (.ref 149) [.int c t] [] (fun v E' => E' = [] ∧ v = .bool (faulty c)) := by
  unfold Does
  k_fill
  intro dp un gd cn cs a ccd cl outer A₀ base h₀ L m s R loose mean mg mb rest B F KX N T hdis hk hroom hun hret
  refine' enterR (binds := [(Str.ofString "point", .int c t)]) ?k1 ?k2 ?k3 ?k4 ?k5 ?kd ?kA ?kF ?kK ?k6 ?k7 ?k8 ?k9 ?kB ?_ ?c2 ?c3 ?c4 ?c5
  (case kA => exact rfl); (case kF => exact rfl); (case kK => first | exact rfl | assumption); (case k1 => k_asm); (case k2 => k_asm); (case k3 => k_asm); (case k4 => k_asm); (case k5 => k_asm); (case kd => assumption); (case k6 => k_dflt k_is); (case k7 => k_dflt k_is); (case k8 => k_room); (case k9 => first | exact BindsTo.of_eq rfl | exact binds_K (by k_in) rfl (by k_is) rfl rfl rfl); (case c5 => decide); (case kB => exact locs rfl); (case c2 => exact rfl); (case c3 => exact rfl); (case c4 => exact rfl)
  k_whole
  intro g' L' h' FG' F' N' B' X' T' lt'
  clear N F
  refine wpAny_noRaise ?_
  w_on
  w_top on
  w_strict ((repeat' (first | with_reducible ((first | (show wpAny _ _ (call (Value.type "range") _) _ _ _) | (show wpAny _ _ (call (Value.type "zip") _) _ _ _) | (show wpAny _ _ (eval (Expr.ListComp _ _ _ _) _) _ _ _) | (show wpAny _ _ (exec (Stmt.Assign (_ :: _) (Expr.ListComp _ _ _ _) _) _) _ _ _) | (show wpAny _ _ (pyIter (Value.ref _)) _ _ _)); refine stopAt_ ?_) | with_reducible ((show wpAny _ _ (execs (_ :: _) _) _ _ _); (k_here; (with_reducible rename StopList _ => zT9); k_dflt (refine stop_list zT9 ?_))) | with_reducible ((show wpAny _ _ (eval (Expr.Constant (Const.str _) _ _) _) _ _ _); ((try dsimp only); k_dflt (refine' const_str_tk ?_); intro _ _)) | with_reducible ((show wpAny _ _ (eval (Expr.Constant (Const.int _) _ _) _) _ _ _); ((try dsimp only); k_dflt (refine' const_int_tk ?_); intro _ _)) | with_reducible ((show wpAny _ _ (exec (Stmt.For (Expr.Tuple _ _ _) (Expr.Tuple _ _ _) (_ :: _) [] _) _) _ _ _); (k_here; (with_reducible rename Fr _ _ _ _ => zlF); (with_reducible refine' for_t ?zF9 ?_ ?zhs9); (case zF9 => k_dflt (exact zlF)); (case zhs9 => k_dflt (intro _; rfl)))) | with_reducible ((show wpAny _ _ (exec (Stmt.For (Expr.Name _ _) (Expr.Name _ _) (_ :: _) [] _) _) _ _ _); (k_here; (with_reducible rename Fr _ _ _ _ => zlF); (with_reducible refine' for_t ?zF9 ?_ ?zhs9); (case zF9 => k_dflt (exact zlF)); (case zhs9 => k_dflt (intro _; rfl)))) | with_reducible ((show wpAny _ _ (exec (Stmt.For (Expr.Name _ _) (Expr.Call _ _ _ _) (_ :: _) [] _) _) _ _ _); (k_here; (with_reducible rename Fr _ _ _ _ => zlF); (with_reducible refine' for_t ?zF9 ?_ ?zhs9); (case zF9 => k_dflt (exact zlF)); (case zhs9 => k_dflt (intro _; rfl)))) | with_reducible ((show wpAny _ _ (execs (_ :: _) _) _ _ _); (k_here; (with_reducible show wpAny _ _ _ _ _ (Shared.mk _ _ _ (_ + _) _)); k_dflt (refine' gen_toks ?zp ?_; (case zp => ((try dsimp only); exact Nat.succ_pos _)); intro _ _))) | with_reducible ((show wpAny _ _ (isTrue (Expr.Compare _ _ _ _) _ _) _ _ _); (k_here; k_dflt (refine' isTrue_ll ?zF ?zv ?_ ?zk ?zl; (case zF => k_asm); (case zv => rfl); (case zk => rfl); (case zl => rfl); k_whole; intro _; (try dsimp only)))) | (k_unfold; (try dsimp only)) | walk1 | (dsimp only; walk1) | (dsimp only [List.nil_append, List.cons_append]; walk1) | (k_end; dsimp only; k_unfold; (try dsimp only)) | (leave1; (try dsimp only)) | ((with_reducible show wpAny _ _ (isTrue (Expr.Compare _ _ _ _) _ _) _ _ _); (k_here; k_dflt (refine' isTrue_ll ?zF ?zv ?_ ?zk ?zl; (case zF => k_asm); (case zv => rfl); (case zk => rfl); (case zl => rfl); k_whole; intro _; (try dsimp only)))))))
  all_goals (
    (with_reducible rename Fr _ _ _ _ => F9)
    refine hret _ [] _ _ F9 (news_app (fun p hp => nomatch hp) (by assumption)) ⟨rfl, congrArg Value.bool ?_⟩
    unfold faulty
    simp only [Bool.or_eq_true, Bool.and_eq_true, decide_eq_true_eq, Bool.decide_and] at *
    simp [*]
    try omega)
end
/-- a row of signs: a tuple, a text or a list -/
structure RowIs (w : World) (rv : Value) (Ob : Ledger) (cs : List Nat) : Prop where
  pos : 0 < cs.length
  le : cs.length ≤ 5
  len : ∀ (A : Around) (E : Value → Shared → Prop) (s : Shared) (Q : Value → Shared → Prop), (∀ p ∈ Ob, s.heap.get? p.1 = some p.2) → (∀ t tk, Q (.int (cs.length : Int) t) { s with toks := tk }) →
    wpAny (model PySem.Challenge.rw_te0024_02.row.prog w) A (call (.builtin "len") [rv]) Q E s
  item : ∀ (A : Around) (E : Value → Shared → Prop) (s : Shared) (Q : Value → Shared → Prop) (x : Str) (p : Pos) (a : Expr) (o : Operator) (b : Expr) (p2 : Pos) (k u : Nat), (∀ p ∈ Ob, s.heap.get? p.1 = some p.2) → k < cs.length →
    (∀ t tk, Q (.str ⟨#[cs.getD k 0]⟩ t) { s with toks := tk }) →
    wpAny (model PySem.Challenge.rw_te0024_02.row.prog w) A (subscriptTail (.Name x p) (.BinOp a o b p2) rv (.int (k : Int) u)) Q E s
/-- which sign of a row the j-th of a run is -/
noncomputable def pickAt (n : Int) (len j : Nat) : Nat := ((n.fdiv 8 + (j : Int) * ((n.fdiv 40).fmod 3)).fmod (len : Int)).toNat
noncomputable def runLen (n : Int) : Nat := (1 + n.fmod 8).toNat
noncomputable def runOf (cs : List Nat) (n : Int) : List Nat := (List.range (runLen n)).map fun j => cs.getD (pickAt n cs.length j) 0
theorem pick_lt (n : Int) {len : Nat} (j : Nat) (h : 0 < len) : pickAt n len j < len := (Int.toNat_lt (Int.fmod_nonneg_of_pos _ (Int.ofNat_lt.mpr h))).mpr (Int.fmod_lt_of_pos _ (Int.ofNat_lt.mpr h))
theorem pick_int (n : Int) {len : Nat} (j : Nat) (h : 0 < len) : (n.fdiv 8 + (j : Int) * ((n.fdiv 40).fmod 3)).fmod (len : Int) = ((pickAt n len j : Nat) : Int) := (Int.toNat_of_nonneg (Int.fmod_nonneg_of_pos _ (Int.ofNat_lt.mpr h))).symm
theorem runLen_is (n : Int) : 1 + n.fmod 8 = ((runLen n : Nat) : Int) ∧ 1 ≤ runLen n ∧ runLen n ≤ 8 := by
  unfold runLen
  rw [Int.fmod_eq_emod_of_nonneg _ (by decide)]
  omega
theorem runOf_len (cs : List Nat) (n : Int) : (runOf cs n).length = runLen n := by
  unfold runOf; rw [List.length_map, List.length_range]
theorem runOf_mem {cs : List Nat} {n : Int} (h : 0 < cs.length) : ∀ c ∈ runOf cs n, c ∈ cs := by
  intro c hc
  unfold runOf at hc
  obtain ⟨j, _, rfl⟩ := List.mem_map.mp hc
  have hp := pick_lt n j h
  rw [List.getD_eq_getElem?_getD, List.getElem?_eq_getElem hp]
  exact List.getElem_mem hp
theorem pieces_next {ys : List Value} {f : Nat → Nat} {i t : Nat} (h : Pieces ys.toArray ((List.range i).map f)) : Pieces (ys ++ [(Value.str ⟨#[f i]⟩ t)]).toArray ((List.range (i + 1)).map f) := by
  rw [List.range_succ, List.map_append, List.map_singleton, ← List.push_toArray]
  exact h.push rfl
section
variable {w : World} {A : Around} {E : Value → Shared → Prop} {s : Shared} {Q : Value → Shared → Prop}
theorem chars_are {vs : List Value} {cs : List Nat} (h : StrsAre vs (cs.map fun c => ⟨#[c]⟩)) : vs.length = cs.length := by
  have := h.length; rw [List.length_map] at this; exact this
theorem chars_get {cs : List Nat} {k : Nat} (h : k < cs.length) : ((cs.map fun c => (⟨#[c]⟩ : Str)))[k]? = some ⟨#[cs.getD k 0]⟩ := by
  rw [List.getElem?_map, List.getD_eq_getElem?_getD, List.getElem?_eq_getElem h]; rfl
theorem row_tup {a : Addr} {o : Obj} {vs : List Value} {n : Nat} {cs : List Nat} (hc : o.cls = .type "tuple") (hd : o.data = .seq vs.toArray n) (hv : StrsAre vs (cs.map fun c => ⟨#[c]⟩)) (h0 : 0 < cs.length) (h1 : cs.length ≤ 5) : RowIs w (.ref a) [(a, o)] cs := by
  have hl := chars_are hv
  refine ⟨h0, h1, fun A E s Q hO h => ?_, fun A E s Q x p b o2 c p2 k u hO hk h => ?_⟩
  · refine len_tuple (items := vs.toArray) ⟨o, hO _ (.head _), hc, n, hd⟩ (by rw [List.size_toArray]; omega) ?_
    rw [List.size_toArray, hl]; exact h _ _
  · refine item_strsTu (l := vs) ⟨o, hO _ (.head _), hc, n, hd⟩ hv (by omega) (by rw [List.length_map]; omega) (by omega) fun t' => ?_
    have e := chars_get hk
    rw [List.getD_eq_getElem?_getD, Int.toNat_natCast, e]
    exact h t' s.toks
theorem row_list {a : Addr} {vs : List Value} {n : Nat} {cs : List Nat} (hv : StrsAre vs (cs.map fun c => ⟨#[c]⟩)) (h0 : 0 < cs.length) (h1 : cs.length ≤ 5) : RowIs w (.ref a) [(a, listOf vs.toArray n)] cs := by
  have hl := chars_are hv
  refine ⟨h0, h1, fun A E s Q hO h => ?_, fun A E s Q x p b o2 c p2 k u hO hk h => ?_⟩
  · refine len_strsA (l := vs) ⟨_, hO _ (.head _), rfl, n, rfl⟩ hv (by rw [List.length_map]; omega) ?_
    rw [List.length_map]; exact h _ _
  · refine item_strsA (l := vs) ⟨_, hO _ (.head _), rfl, n, rfl⟩ hv (by omega) (by rw [List.length_map]; omega) (by omega) fun t' => ?_
    have e := chars_get hk
    rw [List.getD_eq_getElem?_getD, Int.toNat_natCast, e]
    exact h t' s.toks
theorem row_str {X : Str} {t : Nat} {cs : List Nat} (hX : X.cps.toList = cs) (h0 : 0 < cs.length) (h1 : cs.length ≤ 5) : RowIs w (.str X t) [] cs := by
  have hl : X.length = cs.length := by rw [← hX]; rfl
  refine ⟨h0, h1, fun A E s Q hO h => ?_, fun A E s Q x p b o2 c p2 k u hO hk h => ?_⟩
  · refine len_str (by omega) ?_
    rw [hl]; exact h _ _
  · refine item_str (fitsSsize_of (N := 9223372036854775808) (by omega) (by omega) (Int.le_refl _)) (by omega) (by omega) fun _ => ?_
    rw [item_nat _ (by omega), hX]
    exact h _ _
theorem RowIs.mono {rv : Value} {Ob Ob' : Ledger} {cs : List Nat} (h : RowIs w rv Ob cs) (hs : ∀ p ∈ Ob, p ∈ Ob') : RowIs w rv Ob' cs :=
  ⟨h.pos, h.le, fun A E s Q hO => h.len A E s Q fun p hp => hO p (hs p hp), fun A E s Q x p b o2 c p2 k u hO => h.item A E s Q x p b o2 c p2 k u fun p hp => hO p (hs p hp)⟩
end
section
variable {prog : Program} {w : World} {A : Around} {E : Value → Shared → Prop} {s : Shared} {env : Env} {h₀ : Heap} {target : Expr} {body : List Stmt} {Q : Flow → Shared → Prop}
/-- a turn's end, the ledger may have grown -/
noncomputable def GEnd (h₀ : Heap) (L : Addr) (I : Addr) (oI : Obj) (keep : Ledger) (J : (Str → Option Value) → Ledger → Prop) (s₁ s₂ : Shared) : Prop :=
  ∃ h' tk m' nx, s₂ = { s₁ with heap := h', toks := tk } ∧ Fr h₀ L h' m' ∧ News h₀ L h' ((I, oI) :: nx) ∧ (∀ p ∈ nx, @Ne Nat p.1 I) ∧ (∀ p ∈ keep, p ∈ nx) ∧ J m' nx
noncomputable def GPost (h₀ : Heap) (L : Addr) (I : Addr) (oI : Obj) (keep : Ledger) (J : (Str → Option Value) → Ledger → Prop) (s₁ : Shared) (Q : Flow → Shared → Prop) (f : Flow) (s₂ : Shared) : Prop :=
  match f with
  | .ret v => Q (.ret v) s₂
  | .brk => Q .next s₂
  | _ => GEnd h₀ L I oI keep J s₁ s₂
theorem grow_core {fp : List Addr} {n : Nat} {P Md : Nat → Value → Heap → Prop} {St : Nat → Heap → Prop} {m₀ : Str → Option Value} {news : Ledger} (keep : Ledger) (J : Nat → (Str → Option Value) → Ledger → Prop)
    (W : KTurns prog w A target (s.heap.objs.size) fp [s.heap.objs.size] n P Md St) (_ : s.heap.objs.size = s.heap.objs.size) (hfpI : s.heap.objs.size ∈ fp) (hfp : ∀ b ∈ fp, b = s.heap.objs.size ∨ ∃ o, (b, o) ∈ keep) (hkeep : ∀ p ∈ keep, p ∈ news) (F : Fr h₀ env.locals s.heap m₀) (N : News h₀ env.locals s.heap news) (o : Obj) (hst : St 0 (s.heap.push o))
    (hIo : ∀ i h, St i h → ∃ o, h.get? s.heap.objs.size = some o) (hj : J 0 m₀ news)
    (turn : ∀ i v m₁ news₁ h tk oI, i < n → P i v h → (∀ p ∈ keep, p ∈ news₁) → (∀ p ∈ news₁, @Ne Nat p.1 s.heap.objs.size) → J i m₁ news₁ → Fr h₀ env.locals h m₁ → News h₀ env.locals h ((s.heap.objs.size, oI) :: news₁) → ∀ QQ, QQ = GPost h₀ env.locals (s.heap.objs.size) oI keep (J (i + 1)) { s with heap := h, toks := tk } Q →
      wpAny (model prog w) A (assign target env v) (fun _ s₃ => wpAny (model prog w) A (execs body env) QQ E s₃) E { s with heap := h, toks := tk })
    (done : ∀ m₁ news₁ h tk, (∀ p ∈ keep, p ∈ news₁) → J n m₁ news₁ → Fr h₀ env.locals h m₁ → News h₀ env.locals h news₁ → Q .next { s with heap := h, toks := tk }) :
    TurnsAt prog w A h₀ env target body Q E (.ref s.heap.objs.size) { s with heap := s.heap.push o } := by
  refine ⟨s.heap.objs.size, fp, [s.heap.objs.size], n, P, Md, St, m₀, news, (fun i m nx => (∀ p ∈ keep, p ∈ nx) ∧ J i m nx), rfl, W, ?_, ?_, ?_, hst, F.push _, (fun p hp => ⟨Heap.get?_push_of_some _ (N p hp).1, (N p hp).2⟩), ⟨hkeep, hj⟩, ?_, ?_⟩
  · intro hm
    rcases hfp _ hm with e | ⟨o', ho⟩
    · exact absurd F.ns.lt (e ▸ Nat.lt_irrefl _)
    · exact (N _ (hkeep _ ho)).2.1 rfl
  · intro b hb
    rw [List.mem_singleton.mp hb]
    exact next_is_new F
  · intro p hp hI
    exact absurd (Heap.lt_size (N p hp).1) ((List.mem_singleton.mp hI) ▸ Nat.lt_irrefl _)
  · rintro i v m₁ news₁ h₁ tk₁ own hin hP ⟨hk₁, hJ⟩ hoff hown hget hall hst₁ F₁ N₁
    obtain ⟨oI, hoI⟩ := hIo _ _ hst₁
    have hmI : (s.heap.objs.size, oI) ∈ own := hall _ hfpI (next_is_new F) _ hoI
    have N₂ : News h₀ env.locals h₁ ((s.heap.objs.size, oI) :: news₁) := fun p hp => by
      rcases List.mem_cons.mp hp with rfl | hp
      · exact N₁ _ (List.mem_append_left _ hmI)
      · exact N₁ _ (List.mem_append_right _ hp)
    refine wpAny_mono (turn i v m₁ news₁ h₁ tk₁ oI hin hP hk₁ (fun p hp e => hoff p hp (by rw [e]; exact .head _)) hJ F₁ N₂ _ rfl) (fun _ s₃ h₃ => wpAny_mono h₃ (fun f s₂ p => ?_) fun _ _ e => e) fun _ _ e => e
    have fin : GEnd h₀ env.locals s.heap.objs.size oI keep (J (i + 1)) { s with heap := h₁, toks := tk₁ } s₂ →
        LoopStepU h₀ env.locals [s.heap.objs.size] own (fun m nx => (∀ p ∈ keep, p ∈ nx) ∧ J (i + 1) m nx) { s with heap := h₁, toks := tk₁ } .next s₂ := by
      intro hI9
      refine' ex_4_6 (hI9) ?_; intro h' tk m' nx e F' N' hn hk' hm; (try clear hI9)
      refine ⟨rfl, h', tk, m', nx, e, F', fun p hp => ?_, fun p hp => ?_, hk', hm⟩
      · rcases List.mem_append.mp hp with h | h
        · have h2 : h₁.get? p.1 = some p.2 := hget p h
          rcases hfp _ (hown p h) with hI | ⟨o', ho'⟩
          · rw [hI, hoI] at h2
            have h3 : p = (s.heap.objs.size, oI) := Prod.ext hI (Option.some.inj h2).symm
            rw [h3]; exact N' _ (.head _)
          · have h4 : h₁.get? p.1 = some o' := (N₁ _ (List.mem_append.mpr (.inr (hk₁ _ ho')))).1
            rw [h2] at h4
            have h3 : p = (p.1, o') := Prod.ext rfl (Option.some.inj h4)
            rw [h3]
            exact N' _ (List.mem_cons_of_mem _ (hk' _ ho'))
        · exact N' p (List.mem_cons_of_mem _ h)
      · intro hI
        exact hn p hp (List.mem_singleton.mp hI)
    cases f with
    | ret v => exact .ret p
    | brk => exact .brk p
    | next => exact .next (fin p)
    | cont => exact .cont (fin p)
  · rintro h' tk m' news' F' N' _ ⟨hk', hJ⟩
    exact done m' news' h' tk hk' hJ F' N'
/-- for over a list of the ledger's, the ledger may grow -/
theorem grow_turns {ax : Addr} {items : Array Value} {nr : Nat} {m₀ : Str → Option Value} {news : Ledger} (J : Nat → (Str → Option Value) → Ledger → Prop)
    (hh : A.handled = none) (hm : (ax, listOf items nr) ∈ news) (F : Fr h₀ env.locals s.heap m₀) (N : News h₀ env.locals s.heap news) (hj : J 0 m₀ news)
    (turn : ∀ i v m₁ news₁ h tk (I : Nat) oI, items[i]? = some v → (ax, listOf items nr) ∈ news₁ → (∀ p ∈ news₁, @Ne Nat p.1 I) → J i m₁ news₁ → Fr h₀ env.locals h m₁ → News h₀ env.locals h ((I, oI) :: news₁) → ∀ QQ, QQ = GPost h₀ env.locals I oI [((ax, listOf items nr) : Addr × Obj)] (J (i + 1)) { s with heap := h, toks := tk } Q →
      wpAny (model prog w) A (assign target env v) (fun _ s₃ => wpAny (model prog w) A (execs body env) QQ E s₃) E { s with heap := h, toks := tk })
    (done : ∀ m₁ news₁ h tk, (ax, listOf items nr) ∈ news₁ → J items.size m₁ news₁ → Fr h₀ env.locals h m₁ → News h₀ env.locals h news₁ → Q .next { s with heap := h, toks := tk }) :
    wpAny (model prog w) A (pyIter (.ref ax)) (fun it s₂ => TurnsAt prog w A h₀ env target body Q E it s₂) E s := by
  have hl : s.heap.IsList ax items := ⟨_, (N _ hm).1, rfl, nr, rfl⟩
  have hne : ax ≠ s.heap.objs.size := Nat.ne_of_lt (Heap.lt_size (N _ hm).1)
  refine wpAny_pyIter_list hl ?_
  refine grow_core [((ax, listOf items nr) : Addr × Obj)] J (KTurns.ofWalks (Walks.list hh s.heap.objs.size ax hne items) fun i v s Q E st q => letGo_listiter st.1 q) rfl (.head _) (fun b hb => ?_) (fun p hp => by rw [List.mem_singleton.mp hp]; exact hm) F N _ ⟨⟨_, Heap.get?_push_size _ rfl, rfl, rfl⟩, hl.at fun o e => Heap.get?_push_of_some _ e⟩
    (fun i h st => let ⟨o, e, _⟩ := st.1; ⟨o, e⟩) hj
    (fun i v m₁ news₁ h tk oI _ hP c hne hJ F₁ N₁ QQ hQQ => turn i v m₁ news₁ h tk _ oI hP (c _ (.head _)) hne hJ F₁ N₁ QQ hQQ) (fun m₁ news₁ h tk c => done m₁ news₁ h tk (c _ (.head _)))
  rcases List.mem_cons.mp hb with e | hb
  · exact .inl e
  · exact .inr ⟨_, by rw [List.mem_singleton.mp hb]; exact .head _⟩
end
section
open PyProof.Rows.LCg
local macro_rules | `(tactic| walk_at "CompSrc") => `(tactic| refine stopAt_ ?_)
set_option maxRecDepth 100000 in
set_option maxHeartbeats 4000000 in
theorem does_run (w : World) (rv : Value) (Ob : Ledger) (cs : List Nat) (hrow : RowIs w rv Ob cs) (n : Int) (t : Nat) : Does w 2 (.ref 154) [rv, .int n t] Ob (fun v E' => E' = Ob ∧ ∃ r t', v = .str r t' ∧ r.cps.toList = runOf cs n) := by
  unfold Does
  k_fill
  intro dp un gd cn cs0 a ccd cl outer A₀ base h₀ L m s R loose mean mg mb rest B F KX N T hdis hk hroom hun hret
  refine' enterC (binds := [(Str.ofString "row", rv), (Str.ofString "n", .int n t)]) ?k1 ?k2 ?k3 ?k4 ?k5 ?kd ?kA ?kF ?kK ?k6 ?k7 ?k8 ?k9 ?c1 ?c2 ?_ ?c3 ?c4 ?c5
  case kA => exact rfl
  case kF => exact rfl
  case kK => first | exact rfl | assumption
  case k1 => k_asm
  case k2 => k_asm
  case k3 => k_asm
  case k4 => k_asm
  case k5 => k_asm
  case kd => assumption
  case k6 => k_dflt k_is
  case k7 => k_dflt k_is
  case k8 => k_room
  case k9 => exact BindsTo.of_eq rfl
  case c1 => exact rfl
  case c2 => decide +kernel
  case c3 => exact rfl
  case c4 => exact rfl
  case c5 => exact rfl
  k_whole
  intro g' L' h' tk' cells' FG' F' N' Y' B' X' T' l1
  k_cells Y'
  simp only [List.cons_append, List.nil_append, List.append_nil] at N'
  clear N F
  refine wpAny_noRaise ?_
  w_on
  w_top on
  w_strict ((repeat' (first | with_reducible ((first | (show wpAny _ _ (subscriptTail (Expr.Name _ _) (Expr.BinOp _ _ _ _) _ _) _ _ _) | (show wpAny _ _ (call (Value.builtin "str.join") _) _ _ _) | (show wpAny _ _ (call (Value.builtin "len") _) _ _ _) | (show wpAny _ _ (call (Value.type "range") _) _ _ _) | (show wpAny _ _ (call (Value.type "zip") _) _ _ _) | (show wpAny _ _ (eval (Expr.ListComp _ _ _ _) _) _ _ _) | (show wpAny _ _ (exec (Stmt.Assign (_ :: _) (Expr.ListComp _ _ _ _) _) _) _ _ _) | (show wpAny _ _ (pyIter (Value.ref _)) _ _ _)); refine stopAt_ ?_) | with_reducible ((show wpAny _ _ (execs (_ :: _) _) _ _ _); (k_here; (with_reducible rename StopList _ => zT9); k_dflt (refine stop_list zT9 ?_))) | with_reducible ((show wpAny _ _ (eval (Expr.Constant (Const.str _) _ _) _) _ _ _); ((try dsimp only); k_dflt (refine' const_str_tk ?_); intro _ _)) | with_reducible ((show wpAny _ _ (eval (Expr.Constant (Const.int _) _ _) _) _ _ _); ((try dsimp only); k_dflt (refine' const_int_tk ?_); intro _ _)) | with_reducible ((show wpAny _ _ (exec (Stmt.For (Expr.Tuple _ _ _) (Expr.Tuple _ _ _) (_ :: _) [] _) _) _ _ _); (k_here; (with_reducible rename Fr _ _ _ _ => zlF); (with_reducible refine' for_t ?zF9 ?_ ?zhs9); (case zF9 => k_dflt (exact zlF)); (case zhs9 => k_dflt (intro _; rfl)))) | with_reducible ((show wpAny _ _ (exec (Stmt.For (Expr.Name _ _) (Expr.Name _ _) (_ :: _) [] _) _) _ _ _); (k_here; (with_reducible rename Fr _ _ _ _ => zlF); (with_reducible refine' for_t ?zF9 ?_ ?zhs9); (case zF9 => k_dflt (exact zlF)); (case zhs9 => k_dflt (intro _; rfl)))) | with_reducible ((show wpAny _ _ (exec (Stmt.For (Expr.Name _ _) (Expr.Call _ _ _ _) (_ :: _) [] _) _) _ _ _); (k_here; (with_reducible rename Fr _ _ _ _ => zlF); (with_reducible refine' for_t ?zF9 ?_ ?zhs9); (case zF9 => k_dflt (exact zlF)); (case zhs9 => k_dflt (intro _; rfl)))) | with_reducible ((show wpAny _ _ (execs (_ :: _) _) _ _ _); (k_here; (with_reducible show wpAny _ _ _ _ _ (Shared.mk _ _ _ (_ + _) _)); k_dflt (refine' gen_toks ?zp ?_; (case zp => ((try dsimp only); exact Nat.succ_pos _)); intro _ _))) | with_reducible ((show wpAny _ _ (isTrue (Expr.Compare _ _ _ _) _ _) _ _ _); (k_here; k_dflt (refine' isTrue_ll ?zF ?zv ?_ ?zk ?zl; (case zF => k_asm); (case zv => rfl); (case zk => rfl); (case zl => rfl); k_whole; intro _; (try dsimp only)))) | (k_unfold; (try dsimp only)) | walk1 | (dsimp only; walk1) | (dsimp only [List.nil_append, List.cons_append]; walk1) | (k_end; dsimp only; k_unfold; (try dsimp only)) | (leave1; (try dsimp only)) | ((with_reducible show wpAny _ _ (isTrue (Expr.Compare _ _ _ _) _ _) _ _ _); (k_here; k_dflt (refine' isTrue_ll ?zF ?zv ?_ ?zk ?zl; (case zF => k_asm); (case zv => rfl); (case zk => rfl); (case zl => rfl); k_whole; intro _; (try dsimp only)))))))
  unfold StopAt
  (with_reducible rename Fr _ _ _ _ => F5)
  (with_reducible rename News _ _ _ _ => N5)
  refine' ListComp_U F5 ?hclos ?hcell ?hkind ?hnames ?hx ?_ ?hs
  case hclos => exact rfl
  case hcell => decide
  case hkind => rfl
  case hnames => decide
  case hx => rfl
  case hs => intro _; rfl
  w_strict ((repeat' (first | with_reducible ((first | (show wpAny _ _ (subscriptTail (Expr.Name _ _) (Expr.BinOp _ _ _ _) _ _) _ _ _) | (show wpAny _ _ (call (Value.builtin "str.join") _) _ _ _) | (show wpAny _ _ (call (Value.builtin "len") _) _ _ _) | (show wpAny _ _ (call (Value.type "range") _) _ _ _) | (show wpAny _ _ (call (Value.type "zip") _) _ _ _) | (show wpAny _ _ (eval (Expr.ListComp _ _ _ _) _) _ _ _) | (show wpAny _ _ (exec (Stmt.Assign (_ :: _) (Expr.ListComp _ _ _ _) _) _) _ _ _) | (show wpAny _ _ (pyIter (Value.ref _)) _ _ _)); refine stopAt_ ?_) | with_reducible ((show wpAny _ _ (execs (_ :: _) _) _ _ _); (k_here; (with_reducible rename StopList _ => zT9); k_dflt (refine stop_list zT9 ?_))) | with_reducible ((show wpAny _ _ (eval (Expr.Constant (Const.str _) _ _) _) _ _ _); ((try dsimp only); k_dflt (refine' const_str_tk ?_); intro _ _)) | with_reducible ((show wpAny _ _ (eval (Expr.Constant (Const.int _) _ _) _) _ _ _); ((try dsimp only); k_dflt (refine' const_int_tk ?_); intro _ _)) | with_reducible ((show wpAny _ _ (exec (Stmt.For (Expr.Tuple _ _ _) (Expr.Tuple _ _ _) (_ :: _) [] _) _) _ _ _); (k_here; (with_reducible rename Fr _ _ _ _ => zlF); (with_reducible refine' for_t ?zF9 ?_ ?zhs9); (case zF9 => k_dflt (exact zlF)); (case zhs9 => k_dflt (intro _; rfl)))) | with_reducible ((show wpAny _ _ (exec (Stmt.For (Expr.Name _ _) (Expr.Name _ _) (_ :: _) [] _) _) _ _ _); (k_here; (with_reducible rename Fr _ _ _ _ => zlF); (with_reducible refine' for_t ?zF9 ?_ ?zhs9); (case zF9 => k_dflt (exact zlF)); (case zhs9 => k_dflt (intro _; rfl)))) | with_reducible ((show wpAny _ _ (exec (Stmt.For (Expr.Name _ _) (Expr.Call _ _ _ _) (_ :: _) [] _) _) _ _ _); (k_here; (with_reducible rename Fr _ _ _ _ => zlF); (with_reducible refine' for_t ?zF9 ?_ ?zhs9); (case zF9 => k_dflt (exact zlF)); (case zhs9 => k_dflt (intro _; rfl)))) | with_reducible ((show wpAny _ _ (execs (_ :: _) _) _ _ _); (k_here; (with_reducible show wpAny _ _ _ _ _ (Shared.mk _ _ _ (_ + _) _)); k_dflt (refine' gen_toks ?zp ?_; (case zp => ((try dsimp only); exact Nat.succ_pos _)); intro _ _))) | with_reducible ((show wpAny _ _ (isTrue (Expr.Compare _ _ _ _) _ _) _ _ _); (k_here; k_dflt (refine' isTrue_ll ?zF ?zv ?_ ?zk ?zl; (case zF => k_asm); (case zv => rfl); (case zk => rfl); (case zl => rfl); k_whole; intro _; (try dsimp only)))) | (k_unfold; (try dsimp only)) | walk1 | (dsimp only; walk1) | (dsimp only [List.nil_append, List.cons_append]; walk1) | (k_end; dsimp only; k_unfold; (try dsimp only)) | (leave1; (try dsimp only)) | ((with_reducible show wpAny _ _ (isTrue (Expr.Compare _ _ _ _) _ _) _ _ _); (k_here; k_dflt (refine' isTrue_ll ?zF ?zv ?_ ?zk ?zl; (case zF => k_asm); (case zv => rfl); (case zk => rfl); (case zl => rfl); k_whole; intro _; (try dsimp only)))))))
  unfold StopAt
  (with_reducible rename Fr _ _ _ _ => F6)
  (with_reducible rename News _ _ _ _ => N6)
  obtain ⟨hl1, hl2, hl3⟩ := runLen_is n
  have hpos := hrow.pos
  have hle := hrow.le
  rw [hl1]
  refine' range1_rows F6 N6 ?_
  intro h7 tk7 t7 u7 v7 hr7 F7 N7 up7
  refine' CompSrc.range (n := runLen n) rfl F7 N7 hr7 ?hsm ?hn ?hsz ?_
  case hsm => exact rsmall (n := runLen n) (.inl (by omega)) ⟨by omega, by omega⟩ ⟨by omega, by omega⟩
  case hn => exact rsz (.inl (by omega))
  case hsz => rw [sizeLine_eq]; omega
  intro g
  refine' rest_ind (fun i ys => ys.length = i ∧ Pieces ys.toArray ((List.range i).map fun j => cs.getD (pickAt n cs.length j) 0)) trivial ⟨rfl, .nil⟩ ?turn ?fin
  case turn =>
    intro i v ys I oI C oC D m₂ h tk E' hi hP hJ hC hx F8 N8
    obtain ⟨tv, rfl⟩ := hP
    w_strict ((repeat' (first | with_reducible ((first | (show wpAny _ _ (subscriptTail (Expr.Name _ _) (Expr.BinOp _ _ _ _) _ _) _ _ _) | (show wpAny _ _ (call (Value.builtin "str.join") _) _ _ _) | (show wpAny _ _ (call (Value.builtin "len") _) _ _ _) | (show wpAny _ _ (call (Value.type "range") _) _ _ _) | (show wpAny _ _ (call (Value.type "zip") _) _ _ _) | (show wpAny _ _ (eval (Expr.ListComp _ _ _ _) _) _ _ _) | (show wpAny _ _ (exec (Stmt.Assign (_ :: _) (Expr.ListComp _ _ _ _) _) _) _ _ _) | (show wpAny _ _ (pyIter (Value.ref _)) _ _ _)); refine stopAt_ ?_) | with_reducible ((show wpAny _ _ (execs (_ :: _) _) _ _ _); (k_here; (with_reducible rename StopList _ => zT9); k_dflt (refine stop_list zT9 ?_))) | with_reducible ((show wpAny _ _ (eval (Expr.Constant (Const.str _) _ _) _) _ _ _); ((try dsimp only); k_dflt (refine' const_str_tk ?_); intro _ _)) | with_reducible ((show wpAny _ _ (eval (Expr.Constant (Const.int _) _ _) _) _ _ _); ((try dsimp only); k_dflt (refine' const_int_tk ?_); intro _ _)) | with_reducible ((show wpAny _ _ (exec (Stmt.For (Expr.Tuple _ _ _) (Expr.Tuple _ _ _) (_ :: _) [] _) _) _ _ _); (k_here; (with_reducible rename Fr _ _ _ _ => zlF); (with_reducible refine' for_t ?zF9 ?_ ?zhs9); (case zF9 => k_dflt (exact zlF)); (case zhs9 => k_dflt (intro _; rfl)))) | with_reducible ((show wpAny _ _ (exec (Stmt.For (Expr.Name _ _) (Expr.Name _ _) (_ :: _) [] _) _) _ _ _); (k_here; (with_reducible rename Fr _ _ _ _ => zlF); (with_reducible refine' for_t ?zF9 ?_ ?zhs9); (case zF9 => k_dflt (exact zlF)); (case zhs9 => k_dflt (intro _; rfl)))) | with_reducible ((show wpAny _ _ (exec (Stmt.For (Expr.Name _ _) (Expr.Call _ _ _ _) (_ :: _) [] _) _) _ _ _); (k_here; (with_reducible rename Fr _ _ _ _ => zlF); (with_reducible refine' for_t ?zF9 ?_ ?zhs9); (case zF9 => k_dflt (exact zlF)); (case zhs9 => k_dflt (intro _; rfl)))) | with_reducible ((show wpAny _ _ (execs (_ :: _) _) _ _ _); (k_here; (with_reducible show wpAny _ _ _ _ _ (Shared.mk _ _ _ (_ + _) _)); k_dflt (refine' gen_toks ?zp ?_; (case zp => ((try dsimp only); exact Nat.succ_pos _)); intro _ _))) | with_reducible ((show wpAny _ _ (isTrue (Expr.Compare _ _ _ _) _ _) _ _ _); (k_here; k_dflt (refine' isTrue_ll ?zF ?zv ?_ ?zk ?zl; (case zF => k_asm); (case zv => rfl); (case zk => rfl); (case zl => rfl); k_whole; intro _; (try dsimp only)))) | (k_unfold; (try dsimp only)) | walk1 | (dsimp only; walk1) | (dsimp only [List.nil_append, List.cons_append]; walk1) | (k_end; dsimp only; k_unfold; (try dsimp only)) | (leave1; (try dsimp only)) | ((with_reducible show wpAny _ _ (isTrue (Expr.Compare _ _ _ _) _ _) _ _ _); (k_here; k_dflt (refine' isTrue_ll ?zF ?zv ?_ ?zk ?zl; (case zF => k_asm); (case zv => rfl); (case zk => rfl); (case zl => rfl); k_whole; intro _; (try dsimp only)))))))
    unfold StopAt
    refine' hrow.len _ _ _ _ ?hO ?_
    case hO =>
      intro p hp
      (with_reducible rename News _ _ _ (_ :: _) => N9)
      exact (N9 p (by simp only [List.mem_cons]; exact .inr (.inr (.inr (.inr (.inr hp)))))).1
    intro t9 k9
    have hne : (cs.length : Int) ≠ 0 := by omega
    w_strict ((repeat' (first | with_reducible ((first | (show wpAny _ _ (subscriptTail (Expr.Name _ _) (Expr.BinOp _ _ _ _) _ _) _ _ _) | (show wpAny _ _ (call (Value.builtin "str.join") _) _ _ _) | (show wpAny _ _ (call (Value.builtin "len") _) _ _ _) | (show wpAny _ _ (call (Value.type "range") _) _ _ _) | (show wpAny _ _ (call (Value.type "zip") _) _ _ _) | (show wpAny _ _ (eval (Expr.ListComp _ _ _ _) _) _ _ _) | (show wpAny _ _ (exec (Stmt.Assign (_ :: _) (Expr.ListComp _ _ _ _) _) _) _ _ _) | (show wpAny _ _ (pyIter (Value.ref _)) _ _ _)); refine stopAt_ ?_) | with_reducible ((show wpAny _ _ (execs (_ :: _) _) _ _ _); (k_here; (with_reducible rename StopList _ => zT9); k_dflt (refine stop_list zT9 ?_))) | with_reducible ((show wpAny _ _ (eval (Expr.Constant (Const.str _) _ _) _) _ _ _); ((try dsimp only); k_dflt (refine' const_str_tk ?_); intro _ _)) | with_reducible ((show wpAny _ _ (eval (Expr.Constant (Const.int _) _ _) _) _ _ _); ((try dsimp only); k_dflt (refine' const_int_tk ?_); intro _ _)) | with_reducible ((show wpAny _ _ (exec (Stmt.For (Expr.Tuple _ _ _) (Expr.Tuple _ _ _) (_ :: _) [] _) _) _ _ _); (k_here; (with_reducible rename Fr _ _ _ _ => zlF); (with_reducible refine' for_t ?zF9 ?_ ?zhs9); (case zF9 => k_dflt (exact zlF)); (case zhs9 => k_dflt (intro _; rfl)))) | with_reducible ((show wpAny _ _ (exec (Stmt.For (Expr.Name _ _) (Expr.Name _ _) (_ :: _) [] _) _) _ _ _); (k_here; (with_reducible rename Fr _ _ _ _ => zlF); (with_reducible refine' for_t ?zF9 ?_ ?zhs9); (case zF9 => k_dflt (exact zlF)); (case zhs9 => k_dflt (intro _; rfl)))) | with_reducible ((show wpAny _ _ (exec (Stmt.For (Expr.Name _ _) (Expr.Call _ _ _ _) (_ :: _) [] _) _) _ _ _); (k_here; (with_reducible rename Fr _ _ _ _ => zlF); (with_reducible refine' for_t ?zF9 ?_ ?zhs9); (case zF9 => k_dflt (exact zlF)); (case zhs9 => k_dflt (intro _; rfl)))) | with_reducible ((show wpAny _ _ (execs (_ :: _) _) _ _ _); (k_here; (with_reducible show wpAny _ _ _ _ _ (Shared.mk _ _ _ (_ + _) _)); k_dflt (refine' gen_toks ?zp ?_; (case zp => ((try dsimp only); exact Nat.succ_pos _)); intro _ _))) | with_reducible ((show wpAny _ _ (isTrue (Expr.Compare _ _ _ _) _ _) _ _ _); (k_here; k_dflt (refine' isTrue_ll ?zF ?zv ?_ ?zk ?zl; (case zF => k_asm); (case zv => rfl); (case zk => rfl); (case zl => rfl); k_whole; intro _; (try dsimp only)))) | (k_unfold; (try dsimp only)) | walk1 | (dsimp only; walk1) | (dsimp only [List.nil_append, List.cons_append]; walk1) | (k_end; dsimp only; k_unfold; (try dsimp only)) | (leave1; (try dsimp only)) | ((with_reducible show wpAny _ _ (isTrue (Expr.Compare _ _ _ _) _ _) _ _ _); (k_here; k_dflt (refine' isTrue_ll ?zF ?zv ?_ ?zk ?zl; (case zF => k_asm); (case zv => rfl); (case zk => rfl); (case zl => rfl); k_whole; intro _; (try dsimp only)))))))
    unfold StopAt
    rw [Int.zero_add, pick_int n i hpos]
    refine' hrow.item _ _ _ _ _ _ _ _ _ _ _ _ ?hO ?hk ?_
    case hO =>
      intro p hp
      (with_reducible rename News _ _ _ (_ :: _) => N9)
      exact (N9 p (by simp only [List.mem_cons]; exact .inr (.inr (.inr (.inr (.inr hp)))))).1
    case hk => exact pick_lt n i hpos
    intro t8 k8
    (with_reducible rename Fr _ _ _ _ => F9)
    (with_reducible rename News _ _ _ _ => N9)
    exact cEnd F9 N9 ⟨by rw [List.length_append, hJ.1]; rfl, pieces_next (f := fun j => cs.getD (pickAt n cs.length j) 0) hJ.2⟩
  case fin =>
    intro ys hJ D h8 tk8 F8 N8 o8
    w_strict ((repeat' (first | with_reducible ((first | (show wpAny _ _ (subscriptTail (Expr.Name _ _) (Expr.BinOp _ _ _ _) _ _) _ _ _) | (show wpAny _ _ (call (Value.builtin "str.join") _) _ _ _) | (show wpAny _ _ (call (Value.builtin "len") _) _ _ _) | (show wpAny _ _ (call (Value.type "range") _) _ _ _) | (show wpAny _ _ (call (Value.type "zip") _) _ _ _) | (show wpAny _ _ (eval (Expr.ListComp _ _ _ _) _) _ _ _) | (show wpAny _ _ (exec (Stmt.Assign (_ :: _) (Expr.ListComp _ _ _ _) _) _) _ _ _) | (show wpAny _ _ (pyIter (Value.ref _)) _ _ _)); refine stopAt_ ?_) | with_reducible ((show wpAny _ _ (execs (_ :: _) _) _ _ _); (k_here; (with_reducible rename StopList _ => zT9); k_dflt (refine stop_list zT9 ?_))) | with_reducible ((show wpAny _ _ (eval (Expr.Constant (Const.str _) _ _) _) _ _ _); ((try dsimp only); k_dflt (refine' const_str_tk ?_); intro _ _)) | with_reducible ((show wpAny _ _ (eval (Expr.Constant (Const.int _) _ _) _) _ _ _); ((try dsimp only); k_dflt (refine' const_int_tk ?_); intro _ _)) | with_reducible ((show wpAny _ _ (exec (Stmt.For (Expr.Tuple _ _ _) (Expr.Tuple _ _ _) (_ :: _) [] _) _) _ _ _); (k_here; (with_reducible rename Fr _ _ _ _ => zlF); (with_reducible refine' for_t ?zF9 ?_ ?zhs9); (case zF9 => k_dflt (exact zlF)); (case zhs9 => k_dflt (intro _; rfl)))) | with_reducible ((show wpAny _ _ (exec (Stmt.For (Expr.Name _ _) (Expr.Name _ _) (_ :: _) [] _) _) _ _ _); (k_here; (with_reducible rename Fr _ _ _ _ => zlF); (with_reducible refine' for_t ?zF9 ?_ ?zhs9); (case zF9 => k_dflt (exact zlF)); (case zhs9 => k_dflt (intro _; rfl)))) | with_reducible ((show wpAny _ _ (exec (Stmt.For (Expr.Name _ _) (Expr.Call _ _ _ _) (_ :: _) [] _) _) _ _ _); (k_here; (with_reducible rename Fr _ _ _ _ => zlF); (with_reducible refine' for_t ?zF9 ?_ ?zhs9); (case zF9 => k_dflt (exact zlF)); (case zhs9 => k_dflt (intro _; rfl)))) | with_reducible ((show wpAny _ _ (execs (_ :: _) _) _ _ _); (k_here; (with_reducible show wpAny _ _ _ _ _ (Shared.mk _ _ _ (_ + _) _)); k_dflt (refine' gen_toks ?zp ?_; (case zp => ((try dsimp only); exact Nat.succ_pos _)); intro _ _))) | with_reducible ((show wpAny _ _ (isTrue (Expr.Compare _ _ _ _) _ _) _ _ _); (k_here; k_dflt (refine' isTrue_ll ?zF ?zv ?_ ?zk ?zl; (case zF => k_asm); (case zv => rfl); (case zk => rfl); (case zl => rfl); k_whole; intro _; (try dsimp only)))) | (k_unfold; (try dsimp only)) | walk1 | (dsimp only; walk1) | (dsimp only [List.nil_append, List.cons_append]; walk1) | (k_end; dsimp only; k_unfold; (try dsimp only)) | (leave1; (try dsimp only)) | ((with_reducible show wpAny _ _ (isTrue (Expr.Compare _ _ _ _) _ _) _ _ _); (k_here; k_dflt (refine' isTrue_ll ?zF ?zv ?_ ?zk ?zl; (case zF => k_asm); (case zv => rfl); (case zk => rfl); (case zl => rfl); k_whole; intro _; (try dsimp only)))))))
    unfold StopAt
    have hys : ys.length ≤ 8 := by rw [hJ.1]; exact hl3
    refine' join_pieces (nr := ys.length) ?jN ?jm hJ.2 ?jw ?_
    case jN => exact N8
    case jm => exact List.Mem.head _
    case jw => rw [List.length_map, List.length_range, List.size_toArray]; omega
    intro r9 t9 k9 hr9
    (try dsimp only)
    w_strict ((repeat' (first | with_reducible ((first | (show wpAny _ _ (subscriptTail (Expr.Name _ _) (Expr.BinOp _ _ _ _) _ _) _ _ _) | (show wpAny _ _ (call (Value.builtin "str.join") _) _ _ _) | (show wpAny _ _ (call (Value.builtin "len") _) _ _ _) | (show wpAny _ _ (call (Value.type "range") _) _ _ _) | (show wpAny _ _ (call (Value.type "zip") _) _ _ _) | (show wpAny _ _ (eval (Expr.ListComp _ _ _ _) _) _ _ _) | (show wpAny _ _ (exec (Stmt.Assign (_ :: _) (Expr.ListComp _ _ _ _) _) _) _ _ _) | (show wpAny _ _ (pyIter (Value.ref _)) _ _ _)); refine stopAt_ ?_) | with_reducible ((show wpAny _ _ (execs (_ :: _) _) _ _ _); (k_here; (with_reducible rename StopList _ => zT9); k_dflt (refine stop_list zT9 ?_))) | with_reducible ((show wpAny _ _ (eval (Expr.Constant (Const.str _) _ _) _) _ _ _); ((try dsimp only); k_dflt (refine' const_str_tk ?_); intro _ _)) | with_reducible ((show wpAny _ _ (eval (Expr.Constant (Const.int _) _ _) _) _ _ _); ((try dsimp only); k_dflt (refine' const_int_tk ?_); intro _ _)) | with_reducible ((show wpAny _ _ (exec (Stmt.For (Expr.Tuple _ _ _) (Expr.Tuple _ _ _) (_ :: _) [] _) _) _ _ _); (k_here; (with_reducible rename Fr _ _ _ _ => zlF); (with_reducible refine' for_t ?zF9 ?_ ?zhs9); (case zF9 => k_dflt (exact zlF)); (case zhs9 => k_dflt (intro _; rfl)))) | with_reducible ((show wpAny _ _ (exec (Stmt.For (Expr.Name _ _) (Expr.Name _ _) (_ :: _) [] _) _) _ _ _); (k_here; (with_reducible rename Fr _ _ _ _ => zlF); (with_reducible refine' for_t ?zF9 ?_ ?zhs9); (case zF9 => k_dflt (exact zlF)); (case zhs9 => k_dflt (intro _; rfl)))) | with_reducible ((show wpAny _ _ (exec (Stmt.For (Expr.Name _ _) (Expr.Call _ _ _ _) (_ :: _) [] _) _) _ _ _); (k_here; (with_reducible rename Fr _ _ _ _ => zlF); (with_reducible refine' for_t ?zF9 ?_ ?zhs9); (case zF9 => k_dflt (exact zlF)); (case zhs9 => k_dflt (intro _; rfl)))) | with_reducible ((show wpAny _ _ (execs (_ :: _) _) _ _ _); (k_here; (with_reducible show wpAny _ _ _ _ _ (Shared.mk _ _ _ (_ + _) _)); k_dflt (refine' gen_toks ?zp ?_; (case zp => ((try dsimp only); exact Nat.succ_pos _)); intro _ _))) | with_reducible ((show wpAny _ _ (isTrue (Expr.Compare _ _ _ _) _ _) _ _ _); (k_here; k_dflt (refine' isTrue_ll ?zF ?zv ?_ ?zk ?zl; (case zF => k_asm); (case zv => rfl); (case zk => rfl); (case zl => rfl); k_whole; intro _; (try dsimp only)))) | (k_unfold; (try dsimp only)) | walk1 | (dsimp only; walk1) | (dsimp only [List.nil_append, List.cons_append]; walk1) | (k_end; dsimp only; k_unfold; (try dsimp only)) | (leave1; (try dsimp only)) | ((with_reducible show wpAny _ _ (isTrue (Expr.Compare _ _ _ _) _ _) _ _ _); (k_here; k_dflt (refine' isTrue_ll ?zF ?zv ?_ ?zk ?zl; (case zF => k_asm); (case zv => rfl); (case zk => rfl); (case zl => rfl); k_whole; intro _; (try dsimp only)))))))
    (with_reducible rename Fr _ _ _ _ => F9)
    (with_reducible rename News _ _ _ (_ :: _) => N9)
    exact hret _ Ob _ _ F9 (news_app (fun p hp => N9 p (List.mem_cons_of_mem _ (List.mem_cons_of_mem _ (List.mem_cons_of_mem _ hp)))) (by assumption)) ⟨rfl, r9, t9, rfl, hr9⟩
end
section
variable {prog : Program} {w : World} {A : Around} {E : Value → Shared → Prop} {s : Shared} {env : Env} {h₀ : Heap} {target : Expr} {body : List Stmt} {Q : Flow → Shared → Prop}
/-- turns of an iterator whose objects are all new -/
theorem core_turnsW {I : Addr} {fp wr : List Addr} {n tk₀ : Nat} {P Md : Nat → Value → Heap → Prop} {St : Nat → Heap → Prop} {m₀ : Str → Option Value} {news : Ledger} (J : Nat → (Str → Option Value) → Ledger → Prop)
    (W : KTurns prog w A target I fp wr n P Md St) (h₂ : Heap) (up : ∀ b o, s.heap.get? b = some o → h₂.get? b = some o) (hfp : ∀ b ∈ fp, @LE.le Nat _ s.heap.objs.size b) (F : Fr h₀ env.locals s.heap m₀) (N : News h₀ env.locals s.heap news) (hst : St 0 h₂) (hj : J 0 m₀ news)
    (turn : ∀ i v m₁ news₁ h tk own, i < n → P i v h → news₁.map (·.1) = news.map (·.1) → OwnOff own (news.map (·.1)) → J i m₁ news₁ → Fr h₀ env.locals h m₁ → News h₀ env.locals h (news₁ ++ own) → ∀ QQ, QQ = InvPostN h₀ env.locals (fun m' nx => J (i + 1) m' nx) own (news.map (·.1)) { s with heap := h, toks := tk } Q →
      wpAny (model prog w) A (assign target env v) (fun _ s₃ => wpAny (model prog w) A (execs body env) QQ E s₃) E { s with heap := h, toks := tk })
    (done : ∀ m₁ news₁ h tk, J n m₁ news₁ → Fr h₀ env.locals h m₁ → News h₀ env.locals h news₁ → Q .next { s with heap := h, toks := tk }) :
    TurnsAt prog w A h₀ env target body Q E (.ref I) { s with heap := h₂, toks := tk₀ } := by
  refine ⟨I, fp, wr, n, P, Md, St, m₀, news, (fun i m nx => nx.map (·.1) = news.map (·.1) ∧ J i m nx), rfl, W, ?_, ?_, ?_, hst, F.keeps up, N.grown up, ⟨rfl, hj⟩, ?_, ?_⟩
  · intro hm
    exact absurd F.ns.lt (Nat.not_lt.mpr (hfp _ hm))
  · intro b hb
    exact ktu_new F (hfp _ (W.sub b hb))
  · intro p hp hI
    exact absurd (Heap.lt_size (N p hp).1) (Nat.not_lt.mpr (hfp _ (W.sub _ hI)))
  · rintro i v m₁ news₁ h₁ tk₁ own hin hP ⟨hadr, hJ⟩ hoff hown hget hall hst₁ F₁ N₁
    have hsep : OwnOff own (news.map (·.1)) := by
      intro p hp b hb e
      obtain ⟨q, hq, rfl⟩ := List.mem_map.mp hb
      exact absurd (Heap.lt_size (N q hq).1) (by rw [← e]; exact Nat.not_lt.mpr (hfp _ (hown p hp)))
    have N₂ : News h₀ env.locals h₁ (news₁ ++ own) := fun p hp => N₁ p ((List.mem_append.mp hp).elim (fun h => List.mem_append.mpr (.inr h)) fun h => List.mem_append.mpr (.inl h))
    refine wpAny_mono (turn i v m₁ news₁ h₁ tk₁ own hin hP hadr hsep hJ F₁ N₂ _ rfl) (fun _ s₃ h₃ => wpAny_mono h₃ (fun f s₂ p => ?_) fun _ _ e => e) fun _ _ e => e
    have fin : InvEndN h₀ env.locals (fun m' nx => J (i + 1) m' nx) own (news.map (·.1)) { s with heap := h₁, toks := tk₁ } s₂ →
        LoopStepU h₀ env.locals wr own (fun m nx => nx.map (·.1) = news.map (·.1) ∧ J (i + 1) m nx) { s with heap := h₁, toks := tk₁ } .next s₂ := by
      intro hI9
      refine' ex_5_7 (hI9) ?_; intro h' tk m' news' nx e F' N' hn ho ha hm; (try clear hI9)
      refine ⟨rfl, h', tk, m', nx, e, F', fun p hp => ?_, fun p hp => ?_, ha, hm⟩
      · rcases List.mem_append.mp hp with h | h
        · exact N' p (ho p h)
        · exact N' p (hn p h)
      · have h1 : p.1 ∈ nx.map (·.1) := List.mem_map.mpr ⟨p, hp, rfl⟩
        rw [ha] at h1
        obtain ⟨q, hq, e⟩ := List.mem_map.mp h1
        intro hI
        have e2 : @Eq Nat q.1 p.1 := e
        exact absurd (Heap.lt_size (N q hq).1) (by rw [e2]; exact Nat.not_lt.mpr (hfp _ (W.sub _ hI)))
    cases f with
    | ret v => exact .ret p
    | brk => exact .brk p
    | next => exact .next (fin p)
    | cont => exact .cont (fin p)
  · rintro h' tk m' news' F' N' _ ⟨_, hJ⟩
    exact done m' news' h' tk hJ F' N'
/-- for j, sign in enumerate(a text) -/
theorem enum_turns {elts : List Expr} {k : Nat} {pos : Pos} {X : Str} {t : Nat} {m₀ : Str → Option Value} {news : Ledger} (J : Nat → (Str → Option Value) → Ledger → Prop)
    (hh : A.handled = none) (F : Fr h₀ env.locals s.heap m₀) (N : News h₀ env.locals s.heap news) (hj : J 0 m₀ news)
    (turn : ∀ i T tv v m₁ news₁ h tk own, i < X.length → SignAt X i v → IsTup h T #[.int (i : Int) tv, v] → news₁.map (·.1) = news.map (·.1) → OwnOff own (news.map (·.1)) → J i m₁ news₁ → Fr h₀ env.locals h m₁ → News h₀ env.locals h (news₁ ++ own) → ∀ QQ, QQ = InvPostN h₀ env.locals (fun m' nx => J (i + 1) m' nx) own (news.map (·.1)) { s with heap := h, toks := tk } Q →
      wpAny (model prog w) A (assign (.Tuple elts k pos) env (.ref T)) (fun _ s₃ => wpAny (model prog w) A (execs body env) QQ E s₃) E { s with heap := h, toks := tk })
    (done : ∀ m₁ news₁ h tk, J X.length m₁ news₁ → Fr h₀ env.locals h m₁ → News h₀ env.locals h news₁ → Q .next { s with heap := h, toks := tk }) :
    wpAny (model prog w) A (call (.type "enumerate") [.str X t]) (fun xv s₁ => wpAny (model prog w) A (pyIter xv) (fun it s₂ => TurnsAt prog w A h₀ env (.Tuple elts k pos) body Q E it s₂) E s₁) E s := by
  refine call_enumerate_str fun h' hE hI hsz hk => ?_
  refine wpAny_pyIter_enum hE ?_
  have main : ∀ (St : Nat → Heap → Prop), St 0 h' → Draws prog w A.in1 s.heap.objs.size [s.heap.objs.size] X.cps.size (SignAt X) St →
      TurnsAt prog w A h₀ env (.Tuple elts k pos) body Q E (.ref (s.heap.objs.size + 1)) { s with heap := h' } := fun St hst D => by
    refine core_turnsW (tk₀ := s.toks) J (KTurns.ofWalksU (WalksT.enumerateD D (s.heap.objs.size + 1) (Nat.succ_ne_self _) (by simp) (by simp)).toU) h' hk (fun b hb => ?_) F N ⟨⟨_, hE⟩, hst⟩ hj
      (fun i v m₁ news₁ h tk own hi hP a b hJ F₁ N₁ QQ hQQ => ?_) done
    · have hb' : b = s.heap.objs.size + 1 ∨ b = s.heap.objs.size := by simpa using hb
      rcases hb' with rfl | rfl
      · exact Nat.le_succ _
      · exact Nat.le_refl _
    · obtain ⟨T, vals, rfl, ⟨tv, x, hx, rfl⟩, hT⟩ := hP
      exact turn i T tv x m₁ news₁ h tk own hi hx hT a b hJ F₁ N₁ QQ hQQ
  unfold strIterType at hI
  by_cases ha : X.cps.all (· < 128) = true
  · rw [if_pos ha] at hI
    exact main _ hI (Draws.strAscii (A := A.in1) hh _ X t)
  · rw [if_neg ha] at hI
    exact main _ hI (Draws.strWide (A := A.in1) hh _ X t)
/-- for x in a text -/
theorem text_turns {x : Str} {px : Pos} {X : Str} {t : Nat} {m₀ : Str → Option Value} {news : Ledger} (J : Nat → (Str → Option Value) → Ledger → Prop)
    (hh : A.handled = none) (F : Fr h₀ env.locals s.heap m₀) (N : News h₀ env.locals s.heap news) (hj : J 0 m₀ news)
    (turn : ∀ i v m₁ news₁ h tk own, i < X.length → SignAt X i v → news₁.map (·.1) = news.map (·.1) → OwnOff own (news.map (·.1)) → J i m₁ news₁ → Fr h₀ env.locals h m₁ → News h₀ env.locals h (news₁ ++ own) → ∀ QQ, QQ = InvPostN h₀ env.locals (fun m' nx => J (i + 1) m' nx) own (news.map (·.1)) { s with heap := h, toks := tk } Q →
      wpAny (model prog w) A (assign (.Name x px) env v) (fun _ s₃ => wpAny (model prog w) A (execs body env) QQ E s₃) E { s with heap := h, toks := tk })
    (done : ∀ m₁ news₁ h tk, J X.length m₁ news₁ → Fr h₀ env.locals h m₁ → News h₀ env.locals h news₁ → Q .next { s with heap := h, toks := tk }) :
    wpAny (model prog w) A (pyIter (.str X t)) (fun it s₂ => TurnsAt prog w A h₀ env (.Name x px) body Q E it s₂) E s := by
  refine wpAny_pyIter_strU ?_
  have main : ∀ (o : Obj) (St : Nat → Heap → Prop), St 0 (s.heap.push o) → Walks prog w A s.heap.objs.size [s.heap.objs.size] [s.heap.objs.size] X.cps.size (SignAt X) St →
      TurnsAt prog w A h₀ env (.Name x px) body Q E (.ref s.heap.objs.size) { s with heap := s.heap.push o } := fun o St hst W => by
    refine core_turnsW (tk₀ := s.toks) J (KTurns.ofWalks W fun i v s Q E st q => (by unfold letOwnedTupleGo; exact wpAny_pure q)) _ (fun b o' e => Heap.get?_push_of_some _ e) (fun b hb => ?_) F N hst hj
      (fun i v m₁ news₁ h tk own hi hP a b hJ F₁ N₁ QQ hQQ => turn i v m₁ news₁ h tk own hi hP a b hJ F₁ N₁ QQ hQQ) done
    rw [List.mem_singleton.mp hb]; exact Nat.le_refl _
  unfold strIterType
  by_cases ha : X.cps.all (· < 128) = true
  · rw [if_pos ha]
    exact main _ _ ⟨_, Heap.get?_push_size _ rfl, rfl, rfl⟩ (Walks.strAscii hh _ X t)
  · rw [if_neg ha]
    exact main _ _ ⟨_, Heap.get?_push_size _ rfl, rfl, rfl⟩ (Walks.strWide hh _ X t)
end
section
/-- which of the three ends -/
noncomputable def endAt (n : Int) (j : Nat) : Nat := ((n + (j : Int) * ((n.fdiv 3).fmod 2)).fmod 3).toNat
noncomputable def endsL (k : Nat) : List Nat := if k = 0 then [13, 10] else if k = 1 then [13] else [10]
noncomputable def stepW (n : Int) (j c : Nat) (T : List Nat) : List Nat := if c = 10 then (if endAt n j = 2 ∧ T.getLast? = some 13 then T ++ [13, 10] else T ++ endsL (endAt n j)) else T ++ [c]
noncomputable def wrTo (n : Int) (T0 xs : List Nat) : Nat → List Nat
  | 0 => T0
  | i + 1 => stepW n i (xs.getD i 0) (wrTo n T0 xs i)
theorem endAt_lt (n : Int) (j : Nat) : endAt n j < 3 := by
  unfold endAt
  generalize n + (j : Int) * ((n.fdiv 3).fmod 2) = z
  rw [Int.fmod_eq_emod_of_nonneg _ (by decide)]
  omega
theorem endAt_int (n : Int) (j : Nat) : (n + (j : Int) * ((n.fdiv 3).fmod 2)).fmod 3 = ((endAt n j : Nat) : Int) := by
  unfold endAt
  generalize n + (j : Int) * ((n.fdiv 3).fmod 2) = z
  rw [Int.fmod_eq_emod_of_nonneg _ (by decide)]
  omega
theorem ends_at (k : Nat) (hk : k < 3) : ([Str.ofString "\r\n", Str.ofString "\r", Str.ofString "\n"].getD k Str.empty).cps.toList = endsL k ∧ (([Str.ofString "\r\n", Str.ofString "\r", Str.ofString "\n"].getD k Str.empty) == Str.ofString "\n") = decide (k = 2) ∧ ([Str.ofString "\r\n", Str.ofString "\r", Str.ofString "\n"].getD k Str.empty).length ≤ 2 := by
  rcases k with _ | _ | _ | k
  · exact ⟨by decide +kernel, by decide +kernel, by decide +kernel⟩
  · exact ⟨by decide +kernel, by decide +kernel, by decide +kernel⟩
  · exact ⟨by decide +kernel, by decide +kernel, by decide +kernel⟩
  · omega
theorem slice_last1 (x : Str) : (Txt.slice x (some (-1)) none).cps.toList = x.cps.toList.drop (x.length - 1) := by
  have e := slice_core x (some (-1)) none (x.length - 1) (x.length - (x.length - 1)) (Nat.le_of_eq (Nat.add_sub_cancel' (Nat.sub_le _ _))) (indices_of (some (-1)) none (x.length - 1) x.length x.length (Nat.sub_le _ _) clip_m1 rfl)
  rw [e, List.take_of_length_le (Nat.le_of_eq (drop_is x _))]
theorem last_is (x : Str) {c : Nat} {y : Str} (hy : y = ⟨#[c]⟩) : (Txt.slice x (some (-1)) none == y) = decide (x.cps.toList.getLast? = some c) := by
  subst hy
  have e := slice_last1 x
  rw [Bool.eq_iff_iff, beq_iff_eq, decide_eq_true_iff]
  have hl : x.cps.toList.length = x.length := rfl
  have key : Txt.slice x (some (-1)) none = ⟨#[c]⟩ ↔ x.cps.toList.drop (x.length - 1) = [c] := by
    rw [← e]
    constructor
    · intro h; rw [h]
    · intro h
      cases hs : Txt.slice x (some (-1)) none with
      | mk a =>
        rw [hs] at h
        have h2 : a.toList = [c] := h
        have : a = #[c] := by rw [← Array.toArray_toList (xs := a), h2]
        rw [this]
  rw [key]
  rcases List.eq_nil_or_concat x.cps.toList with h | ⟨l, a, h⟩
  · rw [h]; simp
  · rw [← hl, h]; simp
section
variable {prog : Program} {w : World} {A : Around} {E : Value → Shared → Prop} {s : Shared} {h₀ : Heap} {L : Addr}
theorem ends_item {value slice : Expr} {l : Addr} {t1 t2 t3 n u : Nat} {own : Ledger} {Q : Value → Shared → Prop} {hp : Heap} (N : News h₀ L hp ((l, listOf #[.str (Str.ofString "\r\n") t1, .str (Str.ofString "\r") t2, .str (Str.ofString "\n") t3] n) :: own)) (k : Nat) (hk : k < 3) (he : s.heap = hp)
    (h : ∀ (EE : Str) t, EE.cps.toList = endsL k → (EE == Str.ofString "\n") = decide (k = 2) → EE.length ≤ 2 → Q (.str EE t) s)
    (hs : subscripted slice false (.ref l) (.int (k : Int) u) = operate [.ref l, .int (k : Int) u] (getItem (.ref l) (.int (k : Int) u))) (hg : ∀ r, letTemporaryGo value (.ref l) r = pure ()) :
    wpAny (model prog w) A (subscriptTail value slice (.ref l) (.int (k : Int) u)) Q E s := by
  subst he
  obtain ⟨q1, q2, q3⟩ := ends_at k hk
  refine item_strsA (l := [.str (Str.ofString "\r\n") t1, .str (Str.ofString "\r") t2, .str (Str.ofString "\n") t3]) ⟨_, (N _ (.head _)).1, rfl, n, rfl⟩ (.cons _ _ (.cons _ _ (.cons _ _ .nil))) (Int.natCast_nonneg _) (by show ((k : Nat) : Int) < 3; omega) (by omega) (fun t => ?_) hs hg
  rw [Int.toNat_natCast]
  exact h _ t q1 q2 q3
end
theorem wr_end {n : Int} {T0 X T R : Str} {i c : Nat} (hc : X.cps[i]? = some c) (eT : T.cps.toList = wrTo n T0.cps.toList X.cps.toList i) (hR : R.cps.toList = stepW n i c T.cps.toList) : R.cps.toList = wrTo n T0.cps.toList X.cps.toList (i + 1) := by
  have e : X.cps.toList.getD i 0 = c := by
    rw [List.getD_eq_getElem?_getD, Array.getElem?_toList, hc]; rfl
  rw [hR, wrTo, e, eT]
theorem cat_list (a b : Str) : (a ++ b).cps.toList = a.cps.toList ++ b.cps.toList := by rw [Str.cps_append, Array.toList_append]
theorem wr_A {n : Int} {i : Nat} {T EE : Str} (h2 : (EE == Str.ofString "\n") = decide (endAt n i = 2)) (h3 : (EE == Str.ofString "\n") = true) (h4 : (Txt.slice T (some (-1)) none == Str.ofString "\r") = true) : (T ++ Str.ofString "\r\n").cps.toList = stepW n i 10 T.cps.toList := by
  rw [last_is T (c := 13) (by decide +kernel), decide_eq_true_iff] at h4
  rw [h2, decide_eq_true_iff] at h3
  unfold stepW
  rw [if_pos rfl, if_pos ⟨h3, h4⟩, cat_list]
  congr 1
theorem wr_B {n : Int} {i : Nat} {T EE : Str} (h1 : EE.cps.toList = endsL (endAt n i)) (h2 : (EE == Str.ofString "\n") = decide (endAt n i = 2)) (h4 : (EE == Str.ofString "\n") = false ∨ (Txt.slice T (some (-1)) none == Str.ofString "\r") = false) : (T ++ EE).cps.toList = stepW n i 10 T.cps.toList := by
  unfold stepW
  rw [if_pos rfl, if_neg, cat_list, h1]
  rintro ⟨a, b⟩
  rcases h4 with h4 | h4
  · rw [h2, decide_eq_false_iff_not] at h4; exact h4 a
  · rw [last_is T (c := 13) (by decide +kernel), decide_eq_false_iff_not] at h4; exact h4 b
theorem wr_C {n : Int} {i c : Nat} {T : Str} (h : c ≠ 10) : (T ++ (⟨#[c]⟩ : Str)).cps.toList = stepW n i c T.cps.toList := by
  unfold stepW
  rw [if_neg h, cat_list]
theorem is_nl (c : Nat) : ((⟨#[c]⟩ : Str) == Str.ofString "\n") = decide (c = 10) := by
  have e9 : Str.ofString "\n" = (⟨#[10]⟩ : Str) := by decide +kernel
  rw [e9, Bool.eq_iff_iff, beq_iff_eq, decide_eq_true_iff]
  constructor
  · intro h; injection h with h; injection h with h; injection h
  · rintro rfl; rfl
set_option maxRecDepth 100000 in
set_option maxHeartbeats 4000000 in
theorem does_written (w : World) (T0 X : Str) (t0 t1 : Nat) (n : Int) (t2 : Nat) (hT : T0.length ≤ 1000) (hX : X.length ≤ 8) :
    Does w 2 (.ref 161) [.str T0 t0, .str X t1, .int n t2] [] (fun v E' => E' = [] ∧ ∃ r t', v = .str r t' ∧ r.cps.toList = wrTo n T0.cps.toList X.cps.toList X.length ∧ r.length ≤ T0.length + 2 * X.length) := by
  unfold Does
  k_fill
  intro dp un gd cn cs a ccd cl outer A₀ base h₀ L m s R loose mean mg mb rest B F KX N T hdis hk hroom hun hret
  refine' enterR (binds := [(Str.ofString "text", .str T0 t0), (Str.ofString "run", .str X t1), (Str.ofString "turn", .int n t2)]) ?k1 ?k2 ?k3 ?k4 ?k5 ?kd ?kA ?kF ?kK ?k6 ?k7 ?k8 ?k9 ?kB ?_ ?c2 ?c3 ?c4 ?c5
  (case kA => exact rfl); (case kF => exact rfl); (case kK => first | exact rfl | assumption); (case k1 => k_asm); (case k2 => k_asm); (case k3 => k_asm); (case k4 => k_asm); (case k5 => k_asm); (case kd => assumption); (case k6 => k_dflt k_is); (case k7 => k_dflt k_is); (case k8 => k_room); (case k9 => first | exact BindsTo.of_eq rfl | exact binds_K (by k_in) rfl (by k_is) rfl rfl rfl); (case c5 => decide); (case kB => exact locs rfl); (case c2 => exact rfl); (case c3 => exact rfl); (case c4 => exact rfl)
  k_whole
  intro g' L' h' FG' F' N' B' X' T' lt'
  clear N F
  refine wpAny_noRaise ?_
  w_on
  w_top on
  w_strict ((repeat' (first | with_reducible ((first | (show wpAny _ _ (call (Value.type "enumerate") _) _ _ _) | (show wpAny _ _ (call (Value.type "zip") _) _ _ _) | (show wpAny _ _ (eval (Expr.ListComp _ _ _ _) _) _ _ _) | (show wpAny _ _ (exec (Stmt.Assign (_ :: _) (Expr.ListComp _ _ _ _) _) _) _ _ _) | (show wpAny _ _ (pyIter (Value.ref _)) _ _ _)); refine stopAt_ ?_) | with_reducible ((show wpAny _ _ (exec (Stmt.For (Expr.Tuple _ _ _) (Expr.Call _ _ _ _) (_ :: _) [] _) _) _ _ _); (k_here; (with_reducible rename Fr _ _ _ _ => zlF); (with_reducible refine' for_t ?zF9 ?_ ?zhs9); (case zF9 => k_dflt (exact zlF)); (case zhs9 => k_dflt (intro _; rfl)))) | with_reducible ((show wpAny _ _ (execs (_ :: _) _) _ _ _); (k_here; (with_reducible rename StopList _ => zT9); k_dflt (refine stop_list zT9 ?_))) | with_reducible ((show wpAny _ _ (eval (Expr.Constant (Const.str _) _ _) _) _ _ _); ((try dsimp only); k_dflt (refine' const_str_tk ?_); intro _ _)) | with_reducible ((show wpAny _ _ (eval (Expr.Constant (Const.int _) _ _) _) _ _ _); ((try dsimp only); k_dflt (refine' const_int_tk ?_); intro _ _)) | with_reducible ((show wpAny _ _ (exec (Stmt.For (Expr.Tuple _ _ _) (Expr.Tuple _ _ _) (_ :: _) [] _) _) _ _ _); (k_here; (with_reducible rename Fr _ _ _ _ => zlF); (with_reducible refine' for_t ?zF9 ?_ ?zhs9); (case zF9 => k_dflt (exact zlF)); (case zhs9 => k_dflt (intro _; rfl)))) | with_reducible ((show wpAny _ _ (exec (Stmt.For (Expr.Name _ _) (Expr.Name _ _) (_ :: _) [] _) _) _ _ _); (k_here; (with_reducible rename Fr _ _ _ _ => zlF); (with_reducible refine' for_t ?zF9 ?_ ?zhs9); (case zF9 => k_dflt (exact zlF)); (case zhs9 => k_dflt (intro _; rfl)))) | with_reducible ((show wpAny _ _ (exec (Stmt.For (Expr.Name _ _) (Expr.Call _ _ _ _) (_ :: _) [] _) _) _ _ _); (k_here; (with_reducible rename Fr _ _ _ _ => zlF); (with_reducible refine' for_t ?zF9 ?_ ?zhs9); (case zF9 => k_dflt (exact zlF)); (case zhs9 => k_dflt (intro _; rfl)))) | with_reducible ((show wpAny _ _ (execs (_ :: _) _) _ _ _); (k_here; (with_reducible show wpAny _ _ _ _ _ (Shared.mk _ _ _ (_ + _) _)); k_dflt (refine' gen_toks ?zp ?_; (case zp => ((try dsimp only); exact Nat.succ_pos _)); intro _ _))) | with_reducible ((show wpAny _ _ (isTrue (Expr.Compare _ _ _ _) _ _) _ _ _); (k_here; k_dflt (refine' isTrue_ll ?zF ?zv ?_ ?zk ?zl; (case zF => k_asm); (case zv => rfl); (case zk => rfl); (case zl => rfl); k_whole; intro _; (try dsimp only)))) | (k_unfold; (try dsimp only)) | walk1 | (dsimp only; walk1) | (dsimp only [List.nil_append, List.cons_append]; walk1) | (k_end; dsimp only; k_unfold; (try dsimp only)) | (leave1; (try dsimp only)) | ((with_reducible show wpAny _ _ (isTrue (Expr.Compare _ _ _ _) _ _) _ _ _); (k_here; k_dflt (refine' isTrue_ll ?zF ?zv ?_ ?zk ?zl; (case zF => k_asm); (case zv => rfl); (case zk => rfl); (case zl => rfl); k_whole; intro _; (try dsimp only)))))))
  unfold StopAt
  (with_reducible rename Fr _ _ _ _ => F5)
  (with_reducible rename News _ _ _ _ => N5)
  refine' enum_turns (news := []) (fun i m' nx => nx = [] ∧ ∃ (T : Str) (t : Nat), m' (Str.ofString "text") = some (.str T t) ∧ m' (Str.ofString "turn") = some (.int n t2) ∧ T.cps.toList = wrTo n T0.cps.toList X.cps.toList i ∧ T.length ≤ T0.length + 2 * i) ?hh ?F ?N ?hj ?turn ?done
  case hh => rfl
  case F => exact F5
  case N => exact fun p hp => absurd hp List.not_mem_nil
  case hj => exact ⟨rfl, T0, t0, rfl, rfl, rfl, Nat.le_refl _⟩
  case turn =>
    intro i T tv v m₁ news₁ h tk own hi hv hT hadr hoff hJ F2 N2 QQ hQQ
    refine' ex_0_2 (hJ) ?_; intro r90 e7; (try clear hJ); subst r90
    refine' ex_2_4 (e7) ?_; intro Tx tx e1 e2 eT hTl; (try clear e7)
    obtain ⟨c, u, hc, rfl⟩ := hv
    have F3 := fr_know2 e1 e2 F2
    have F4 : Fr g' L' h _ := F3
    have N4 : News g' L' h _ := N2
    clear F2 F3 F5 N5 N2
    simp only [List.nil_append] at N4
    w_strict ((repeat' (first | with_reducible ((first | (show wpAny _ _ (call (Value.type "enumerate") _) _ _ _) | (show wpAny _ _ (call (Value.type "zip") _) _ _ _) | (show wpAny _ _ (eval (Expr.ListComp _ _ _ _) _) _ _ _) | (show wpAny _ _ (exec (Stmt.Assign (_ :: _) (Expr.ListComp _ _ _ _) _) _) _ _ _) | (show wpAny _ _ (pyIter (Value.ref _)) _ _ _)); refine stopAt_ ?_) | with_reducible ((show wpAny _ _ (exec (Stmt.For (Expr.Tuple _ _ _) (Expr.Call _ _ _ _) (_ :: _) [] _) _) _ _ _); (k_here; (with_reducible rename Fr _ _ _ _ => zlF); (with_reducible refine' for_t ?zF9 ?_ ?zhs9); (case zF9 => k_dflt (exact zlF)); (case zhs9 => k_dflt (intro _; rfl)))) | with_reducible ((show wpAny _ _ (execs (_ :: _) _) _ _ _); (k_here; (with_reducible rename StopList _ => zT9); k_dflt (refine stop_list zT9 ?_))) | with_reducible ((show wpAny _ _ (eval (Expr.Constant (Const.str _) _ _) _) _ _ _); ((try dsimp only); k_dflt (refine' const_str_tk ?_); intro _ _)) | with_reducible ((show wpAny _ _ (eval (Expr.Constant (Const.int _) _ _) _) _ _ _); ((try dsimp only); k_dflt (refine' const_int_tk ?_); intro _ _)) | with_reducible ((show wpAny _ _ (exec (Stmt.For (Expr.Tuple _ _ _) (Expr.Tuple _ _ _) (_ :: _) [] _) _) _ _ _); (k_here; (with_reducible rename Fr _ _ _ _ => zlF); (with_reducible refine' for_t ?zF9 ?_ ?zhs9); (case zF9 => k_dflt (exact zlF)); (case zhs9 => k_dflt (intro _; rfl)))) | with_reducible ((show wpAny _ _ (exec (Stmt.For (Expr.Name _ _) (Expr.Name _ _) (_ :: _) [] _) _) _ _ _); (k_here; (with_reducible rename Fr _ _ _ _ => zlF); (with_reducible refine' for_t ?zF9 ?_ ?zhs9); (case zF9 => k_dflt (exact zlF)); (case zhs9 => k_dflt (intro _; rfl)))) | with_reducible ((show wpAny _ _ (exec (Stmt.For (Expr.Name _ _) (Expr.Call _ _ _ _) (_ :: _) [] _) _) _ _ _); (k_here; (with_reducible rename Fr _ _ _ _ => zlF); (with_reducible refine' for_t ?zF9 ?_ ?zhs9); (case zF9 => k_dflt (exact zlF)); (case zhs9 => k_dflt (intro _; rfl)))) | with_reducible ((show wpAny _ _ (execs (_ :: _) _) _ _ _); (k_here; (with_reducible show wpAny _ _ _ _ _ (Shared.mk _ _ _ (_ + _) _)); k_dflt (refine' gen_toks ?zp ?_; (case zp => ((try dsimp only); exact Nat.succ_pos _)); intro _ _))) | with_reducible ((show wpAny _ _ (isTrue (Expr.Compare _ _ _ _) _ _) _ _ _); (k_here; k_dflt (refine' isTrue_ll ?zF ?zv ?_ ?zk ?zl; (case zF => k_asm); (case zv => rfl); (case zk => rfl); (case zl => rfl); k_whole; intro _; (try dsimp only)))) | (k_unfold; (try dsimp only)) | walk1 | (dsimp only; walk1) | (dsimp only [List.nil_append, List.cons_append]; walk1) | (k_end; dsimp only; k_unfold; (try dsimp only)) | (leave1; (try dsimp only)) | ((with_reducible show wpAny _ _ (isTrue (Expr.Compare _ _ _ _) _ _) _ _ _); (k_here; k_dflt (refine' isTrue_ll ?zF ?zv ?_ ?zk ?zl; (case zF => k_asm); (case zv => rfl); (case zk => rfl); (case zl => rfl); k_whole; intro _; (try dsimp only)))))))
    · (with_reducible rename News _ _ _ (_ :: _) => N5)
      (with_reducible rename (_ == _) = true => hb9)
      have hc10 : c = 10 := by rw [is_nl, decide_eq_true_iff] at hb9; exact hb9
      rw [endAt_int n i]
      k_dflt (refine' ends_item N5 _ (endAt_lt n i) rfl ?_ ?hs ?hg)
      case hs => with_unfolding_all rfl
      case hg => intro _; with_unfolding_all rfl
      intro EE t9 q1 q2 q3
      w_strict ((repeat' (first | with_reducible ((first | (show wpAny _ _ (call (Value.type "enumerate") _) _ _ _) | (show wpAny _ _ (call (Value.type "zip") _) _ _ _) | (show wpAny _ _ (eval (Expr.ListComp _ _ _ _) _) _ _ _) | (show wpAny _ _ (exec (Stmt.Assign (_ :: _) (Expr.ListComp _ _ _ _) _) _) _ _ _) | (show wpAny _ _ (pyIter (Value.ref _)) _ _ _)); refine stopAt_ ?_) | with_reducible ((show wpAny _ _ (exec (Stmt.For (Expr.Tuple _ _ _) (Expr.Call _ _ _ _) (_ :: _) [] _) _) _ _ _); (k_here; (with_reducible rename Fr _ _ _ _ => zlF); (with_reducible refine' for_t ?zF9 ?_ ?zhs9); (case zF9 => k_dflt (exact zlF)); (case zhs9 => k_dflt (intro _; rfl)))) | with_reducible ((show wpAny _ _ (execs (_ :: _) _) _ _ _); (k_here; (with_reducible rename StopList _ => zT9); k_dflt (refine stop_list zT9 ?_))) | with_reducible ((show wpAny _ _ (eval (Expr.Constant (Const.str _) _ _) _) _ _ _); ((try dsimp only); k_dflt (refine' const_str_tk ?_); intro _ _)) | with_reducible ((show wpAny _ _ (eval (Expr.Constant (Const.int _) _ _) _) _ _ _); ((try dsimp only); k_dflt (refine' const_int_tk ?_); intro _ _)) | with_reducible ((show wpAny _ _ (exec (Stmt.For (Expr.Tuple _ _ _) (Expr.Tuple _ _ _) (_ :: _) [] _) _) _ _ _); (k_here; (with_reducible rename Fr _ _ _ _ => zlF); (with_reducible refine' for_t ?zF9 ?_ ?zhs9); (case zF9 => k_dflt (exact zlF)); (case zhs9 => k_dflt (intro _; rfl)))) | with_reducible ((show wpAny _ _ (exec (Stmt.For (Expr.Name _ _) (Expr.Name _ _) (_ :: _) [] _) _) _ _ _); (k_here; (with_reducible rename Fr _ _ _ _ => zlF); (with_reducible refine' for_t ?zF9 ?_ ?zhs9); (case zF9 => k_dflt (exact zlF)); (case zhs9 => k_dflt (intro _; rfl)))) | with_reducible ((show wpAny _ _ (exec (Stmt.For (Expr.Name _ _) (Expr.Call _ _ _ _) (_ :: _) [] _) _) _ _ _); (k_here; (with_reducible rename Fr _ _ _ _ => zlF); (with_reducible refine' for_t ?zF9 ?_ ?zhs9); (case zF9 => k_dflt (exact zlF)); (case zhs9 => k_dflt (intro _; rfl)))) | with_reducible ((show wpAny _ _ (execs (_ :: _) _) _ _ _); (k_here; (with_reducible show wpAny _ _ _ _ _ (Shared.mk _ _ _ (_ + _) _)); k_dflt (refine' gen_toks ?zp ?_; (case zp => ((try dsimp only); exact Nat.succ_pos _)); intro _ _))) | with_reducible ((show wpAny _ _ (isTrue (Expr.Compare _ _ _ _) _ _) _ _ _); (k_here; k_dflt (refine' isTrue_ll ?zF ?zv ?_ ?zk ?zl; (case zF => k_asm); (case zv => rfl); (case zk => rfl); (case zl => rfl); k_whole; intro _; (try dsimp only)))) | (k_unfold; (try dsimp only)) | walk1 | (dsimp only; walk1) | (dsimp only [List.nil_append, List.cons_append]; walk1) | (k_end; dsimp only; k_unfold; (try dsimp only)) | (leave1; (try dsimp only)) | ((with_reducible show wpAny _ _ (isTrue (Expr.Compare _ _ _ _) _ _) _ _ _); (k_here; k_dflt (refine' isTrue_ll ?zF ?zv ?_ ?zk ?zl; (case zF => k_asm); (case zv => rfl); (case zk => rfl); (case zl => rfl); k_whole; intro _; (try dsimp only)))))))
      all_goals (
        subst hQQ
        w_strict ((repeat' (first | with_reducible ((first | (show wpAny _ _ (call (Value.type "enumerate") _) _ _ _) | (show wpAny _ _ (call (Value.type "zip") _) _ _ _) | (show wpAny _ _ (eval (Expr.ListComp _ _ _ _) _) _ _ _) | (show wpAny _ _ (exec (Stmt.Assign (_ :: _) (Expr.ListComp _ _ _ _) _) _) _ _ _) | (show wpAny _ _ (pyIter (Value.ref _)) _ _ _)); refine stopAt_ ?_) | with_reducible ((show wpAny _ _ (exec (Stmt.For (Expr.Tuple _ _ _) (Expr.Call _ _ _ _) (_ :: _) [] _) _) _ _ _); (k_here; (with_reducible rename Fr _ _ _ _ => zlF); (with_reducible refine' for_t ?zF9 ?_ ?zhs9); (case zF9 => k_dflt (exact zlF)); (case zhs9 => k_dflt (intro _; rfl)))) | with_reducible ((show wpAny _ _ (execs (_ :: _) _) _ _ _); (k_here; (with_reducible rename StopList _ => zT9); k_dflt (refine stop_list zT9 ?_))) | with_reducible ((show wpAny _ _ (eval (Expr.Constant (Const.str _) _ _) _) _ _ _); ((try dsimp only); k_dflt (refine' const_str_tk ?_); intro _ _)) | with_reducible ((show wpAny _ _ (eval (Expr.Constant (Const.int _) _ _) _) _ _ _); ((try dsimp only); k_dflt (refine' const_int_tk ?_); intro _ _)) | with_reducible ((show wpAny _ _ (exec (Stmt.For (Expr.Tuple _ _ _) (Expr.Tuple _ _ _) (_ :: _) [] _) _) _ _ _); (k_here; (with_reducible rename Fr _ _ _ _ => zlF); (with_reducible refine' for_t ?zF9 ?_ ?zhs9); (case zF9 => k_dflt (exact zlF)); (case zhs9 => k_dflt (intro _; rfl)))) | with_reducible ((show wpAny _ _ (exec (Stmt.For (Expr.Name _ _) (Expr.Name _ _) (_ :: _) [] _) _) _ _ _); (k_here; (with_reducible rename Fr _ _ _ _ => zlF); (with_reducible refine' for_t ?zF9 ?_ ?zhs9); (case zF9 => k_dflt (exact zlF)); (case zhs9 => k_dflt (intro _; rfl)))) | with_reducible ((show wpAny _ _ (exec (Stmt.For (Expr.Name _ _) (Expr.Call _ _ _ _) (_ :: _) [] _) _) _ _ _); (k_here; (with_reducible rename Fr _ _ _ _ => zlF); (with_reducible refine' for_t ?zF9 ?_ ?zhs9); (case zF9 => k_dflt (exact zlF)); (case zhs9 => k_dflt (intro _; rfl)))) | with_reducible ((show wpAny _ _ (execs (_ :: _) _) _ _ _); (k_here; (with_reducible show wpAny _ _ _ _ _ (Shared.mk _ _ _ (_ + _) _)); k_dflt (refine' gen_toks ?zp ?_; (case zp => ((try dsimp only); exact Nat.succ_pos _)); intro _ _))) | with_reducible ((show wpAny _ _ (isTrue (Expr.Compare _ _ _ _) _ _) _ _ _); (k_here; k_dflt (refine' isTrue_ll ?zF ?zv ?_ ?zk ?zl; (case zF => k_asm); (case zv => rfl); (case zk => rfl); (case zl => rfl); k_whole; intro _; (try dsimp only)))) | (k_unfold; (try dsimp only)) | walk1 | (dsimp only; walk1) | (dsimp only [List.nil_append, List.cons_append]; walk1) | (k_end; dsimp only; k_unfold; (try dsimp only)) | (leave1; (try dsimp only)) | ((with_reducible show wpAny _ _ (isTrue (Expr.Compare _ _ _ _) _ _) _ _ _); (k_here; k_dflt (refine' isTrue_ll ?zF ?zv ?_ ?zk ?zl; (case zF => k_asm); (case zv => rfl); (case zk => rfl); (case zl => rfl); k_whole; intro _; (try dsimp only)))))))
        (with_reducible rename Fr _ _ _ _ => F9)
        (with_reducible rename News _ _ _ _ => N9))
      · refine turn_end F9 ⟨rfl, _, _, rfl, rfl, wr_end hc eT (hc10 ▸ wr_A q2 (by assumption) (by assumption)), ?_⟩ (fun p hp => N9 p (.tail _ hp)) rfl
        have h9 : (Str.ofString "\r\n").length = 2 := by decide +kernel
        rw [Str.length_append, h9]; omega
      · refine turn_end F9 ⟨rfl, _, _, rfl, rfl, wr_end hc eT (hc10 ▸ wr_B q1 q2 (.inr (by assumption))), ?_⟩ (fun p hp => N9 p (.tail _ hp)) rfl
        rw [Str.length_append]; omega
      · refine turn_end F9 ⟨rfl, _, _, rfl, rfl, wr_end hc eT (hc10 ▸ wr_B q1 q2 (.inl (by assumption))), ?_⟩ (fun p hp => N9 p (.tail _ hp)) rfl
        rw [Str.length_append]; omega
    · (with_reducible rename (_ == _) = false => hb9)
      have hc10 : c ≠ 10 := by rw [is_nl, decide_eq_false_iff_not] at hb9; exact hb9
      subst hQQ
      w_strict ((repeat' (first | with_reducible ((first | (show wpAny _ _ (call (Value.type "enumerate") _) _ _ _) | (show wpAny _ _ (call (Value.type "zip") _) _ _ _) | (show wpAny _ _ (eval (Expr.ListComp _ _ _ _) _) _ _ _) | (show wpAny _ _ (exec (Stmt.Assign (_ :: _) (Expr.ListComp _ _ _ _) _) _) _ _ _) | (show wpAny _ _ (pyIter (Value.ref _)) _ _ _)); refine stopAt_ ?_) | with_reducible ((show wpAny _ _ (exec (Stmt.For (Expr.Tuple _ _ _) (Expr.Call _ _ _ _) (_ :: _) [] _) _) _ _ _); (k_here; (with_reducible rename Fr _ _ _ _ => zlF); (with_reducible refine' for_t ?zF9 ?_ ?zhs9); (case zF9 => k_dflt (exact zlF)); (case zhs9 => k_dflt (intro _; rfl)))) | with_reducible ((show wpAny _ _ (execs (_ :: _) _) _ _ _); (k_here; (with_reducible rename StopList _ => zT9); k_dflt (refine stop_list zT9 ?_))) | with_reducible ((show wpAny _ _ (eval (Expr.Constant (Const.str _) _ _) _) _ _ _); ((try dsimp only); k_dflt (refine' const_str_tk ?_); intro _ _)) | with_reducible ((show wpAny _ _ (eval (Expr.Constant (Const.int _) _ _) _) _ _ _); ((try dsimp only); k_dflt (refine' const_int_tk ?_); intro _ _)) | with_reducible ((show wpAny _ _ (exec (Stmt.For (Expr.Tuple _ _ _) (Expr.Tuple _ _ _) (_ :: _) [] _) _) _ _ _); (k_here; (with_reducible rename Fr _ _ _ _ => zlF); (with_reducible refine' for_t ?zF9 ?_ ?zhs9); (case zF9 => k_dflt (exact zlF)); (case zhs9 => k_dflt (intro _; rfl)))) | with_reducible ((show wpAny _ _ (exec (Stmt.For (Expr.Name _ _) (Expr.Name _ _) (_ :: _) [] _) _) _ _ _); (k_here; (with_reducible rename Fr _ _ _ _ => zlF); (with_reducible refine' for_t ?zF9 ?_ ?zhs9); (case zF9 => k_dflt (exact zlF)); (case zhs9 => k_dflt (intro _; rfl)))) | with_reducible ((show wpAny _ _ (exec (Stmt.For (Expr.Name _ _) (Expr.Call _ _ _ _) (_ :: _) [] _) _) _ _ _); (k_here; (with_reducible rename Fr _ _ _ _ => zlF); (with_reducible refine' for_t ?zF9 ?_ ?zhs9); (case zF9 => k_dflt (exact zlF)); (case zhs9 => k_dflt (intro _; rfl)))) | with_reducible ((show wpAny _ _ (execs (_ :: _) _) _ _ _); (k_here; (with_reducible show wpAny _ _ _ _ _ (Shared.mk _ _ _ (_ + _) _)); k_dflt (refine' gen_toks ?zp ?_; (case zp => ((try dsimp only); exact Nat.succ_pos _)); intro _ _))) | with_reducible ((show wpAny _ _ (isTrue (Expr.Compare _ _ _ _) _ _) _ _ _); (k_here; k_dflt (refine' isTrue_ll ?zF ?zv ?_ ?zk ?zl; (case zF => k_asm); (case zv => rfl); (case zk => rfl); (case zl => rfl); k_whole; intro _; (try dsimp only)))) | (k_unfold; (try dsimp only)) | walk1 | (dsimp only; walk1) | (dsimp only [List.nil_append, List.cons_append]; walk1) | (k_end; dsimp only; k_unfold; (try dsimp only)) | (leave1; (try dsimp only)) | ((with_reducible show wpAny _ _ (isTrue (Expr.Compare _ _ _ _) _ _) _ _ _); (k_here; k_dflt (refine' isTrue_ll ?zF ?zv ?_ ?zk ?zl; (case zF => k_asm); (case zv => rfl); (case zk => rfl); (case zl => rfl); k_whole; intro _; (try dsimp only)))))))
      (with_reducible rename Fr _ _ _ _ => F9)
      (with_reducible rename News _ _ _ _ => N9)
      refine turn_end F9 ⟨rfl, _, _, rfl, rfl, wr_end hc eT (wr_C hc10), ?_⟩ N9 rfl
      have h9 : (⟨#[c]⟩ : Str).length = 1 := rfl
      rw [Str.length_append, h9]; omega
  case done =>
    intro m₁ news₁ h tk hJ F2 N2
    refine' ex_0_2 (hJ) ?_; intro r90 e7; (try clear hJ); subst r90
    refine' ex_2_4 (e7) ?_; intro Tx tx e1 e2 eT hTl; (try clear e7)
    have F3 := fr_know2 e1 e2 F2
    clear F2 F5 N5
    w_strict ((repeat' (first | with_reducible ((first | (show wpAny _ _ (call (Value.type "enumerate") _) _ _ _) | (show wpAny _ _ (call (Value.type "zip") _) _ _ _) | (show wpAny _ _ (eval (Expr.ListComp _ _ _ _) _) _ _ _) | (show wpAny _ _ (exec (Stmt.Assign (_ :: _) (Expr.ListComp _ _ _ _) _) _) _ _ _) | (show wpAny _ _ (pyIter (Value.ref _)) _ _ _)); refine stopAt_ ?_) | with_reducible ((show wpAny _ _ (exec (Stmt.For (Expr.Tuple _ _ _) (Expr.Call _ _ _ _) (_ :: _) [] _) _) _ _ _); (k_here; (with_reducible rename Fr _ _ _ _ => zlF); (with_reducible refine' for_t ?zF9 ?_ ?zhs9); (case zF9 => k_dflt (exact zlF)); (case zhs9 => k_dflt (intro _; rfl)))) | with_reducible ((show wpAny _ _ (execs (_ :: _) _) _ _ _); (k_here; (with_reducible rename StopList _ => zT9); k_dflt (refine stop_list zT9 ?_))) | with_reducible ((show wpAny _ _ (eval (Expr.Constant (Const.str _) _ _) _) _ _ _); ((try dsimp only); k_dflt (refine' const_str_tk ?_); intro _ _)) | with_reducible ((show wpAny _ _ (eval (Expr.Constant (Const.int _) _ _) _) _ _ _); ((try dsimp only); k_dflt (refine' const_int_tk ?_); intro _ _)) | with_reducible ((show wpAny _ _ (exec (Stmt.For (Expr.Tuple _ _ _) (Expr.Tuple _ _ _) (_ :: _) [] _) _) _ _ _); (k_here; (with_reducible rename Fr _ _ _ _ => zlF); (with_reducible refine' for_t ?zF9 ?_ ?zhs9); (case zF9 => k_dflt (exact zlF)); (case zhs9 => k_dflt (intro _; rfl)))) | with_reducible ((show wpAny _ _ (exec (Stmt.For (Expr.Name _ _) (Expr.Name _ _) (_ :: _) [] _) _) _ _ _); (k_here; (with_reducible rename Fr _ _ _ _ => zlF); (with_reducible refine' for_t ?zF9 ?_ ?zhs9); (case zF9 => k_dflt (exact zlF)); (case zhs9 => k_dflt (intro _; rfl)))) | with_reducible ((show wpAny _ _ (exec (Stmt.For (Expr.Name _ _) (Expr.Call _ _ _ _) (_ :: _) [] _) _) _ _ _); (k_here; (with_reducible rename Fr _ _ _ _ => zlF); (with_reducible refine' for_t ?zF9 ?_ ?zhs9); (case zF9 => k_dflt (exact zlF)); (case zhs9 => k_dflt (intro _; rfl)))) | with_reducible ((show wpAny _ _ (execs (_ :: _) _) _ _ _); (k_here; (with_reducible show wpAny _ _ _ _ _ (Shared.mk _ _ _ (_ + _) _)); k_dflt (refine' gen_toks ?zp ?_; (case zp => ((try dsimp only); exact Nat.succ_pos _)); intro _ _))) | with_reducible ((show wpAny _ _ (isTrue (Expr.Compare _ _ _ _) _ _) _ _ _); (k_here; k_dflt (refine' isTrue_ll ?zF ?zv ?_ ?zk ?zl; (case zF => k_asm); (case zv => rfl); (case zk => rfl); (case zl => rfl); k_whole; intro _; (try dsimp only)))) | (k_unfold; (try dsimp only)) | walk1 | (dsimp only; walk1) | (dsimp only [List.nil_append, List.cons_append]; walk1) | (k_end; dsimp only; k_unfold; (try dsimp only)) | (leave1; (try dsimp only)) | ((with_reducible show wpAny _ _ (isTrue (Expr.Compare _ _ _ _) _ _) _ _ _); (k_here; k_dflt (refine' isTrue_ll ?zF ?zv ?_ ?zk ?zl; (case zF => k_asm); (case zv => rfl); (case zk => rfl); (case zl => rfl); k_whole; intro _; (try dsimp only)))))))
    (with_reducible rename Fr h₀ _ _ _ => F9)
    exact hret _ [] _ _ F9 (by assumption) ⟨rfl, _, _, rfl, eT, hTl⟩
end
theorem offNil {L : List Addr} : OwnOff [] L := fun _ h => nomatch h
theorem offCons {a : Addr} {o : Obj} {R : Ledger} {L : List Addr} (h : ∀ b ∈ L, a ≠ b) (hR : OwnOff R L) : OwnOff ((a, o) :: R) L := fun p hp b hb => by
  rcases List.mem_cons.mp hp with rfl | hp
  · exact h b hb
  · exact hR p hp b hb
theorem offApp {A B : Ledger} {L : List Addr} (hA : OwnOff A L) (hB : OwnOff B L) : OwnOff (A ++ B) L := fun p hp b hb => by
  rcases List.mem_append.mp hp with hp | hp
  · exact hA p hp b hb
  · exact hB p hp b hb
theorem offSub {R : Ledger} {L L' : List Addr} (h : OwnOff R L) (hs : ∀ b ∈ L', b ∈ L) : OwnOff R L' := fun p hp b hb => h p hp b (hs b hb)
theorem offLt {R : Ledger} {L : List Addr} {d : Nat} (h : ∀ p ∈ R, @LT.lt Nat _ p.1 d) (hs : ∀ b ∈ L, @LE.le Nat _ d b) : OwnOff R L := fun p hp b hb => Nat.ne_of_lt (Nat.lt_of_lt_of_le (h p hp) (hs b hb))
theorem offTwo {R : Ledger} {L1 L2 : List Addr} (h1 : OwnOff R L1) (h2 : OwnOff R L2) : OwnOff R (L1 ++ L2) := fun p hp b hb => by
  rcases List.mem_append.mp hb with hb | hb
  · exact h1 p hp b hb
  · exact h2 p hp b hb
theorem neLt {a d : Nat} {L : List Addr} (h : a < d) (hs : ∀ b ∈ L, @LE.le Nat _ d b) : ∀ b ∈ L, a ≠ b := fun b hb => Nat.ne_of_lt (Nat.lt_of_lt_of_le h (hs b hb))
theorem neGt {a d : Nat} {L : List Addr} (h : d < a) (hs : ∀ b ∈ L, @LE.le Nat _ b d) : ∀ b ∈ L, a ≠ b := fun b hb => Nat.ne_of_gt (Nat.lt_of_le_of_lt (hs b hb) h)
theorem neTwo {a : Nat} {L1 L2 : List Addr} (h1 : ∀ b ∈ L1, a ≠ b) (h2 : ∀ b ∈ L2, a ≠ b) : ∀ b ∈ L1 ++ L2, a ≠ b := fun b hb => (List.mem_append.mp hb).elim (h1 b) (h2 b)
theorem disOf {E pre : Ledger} {adr : List Addr} (hE : ∀ r ∈ E, r.1 ∈ adr) (h : OwnOff pre adr) : ∀ p ∈ pre, ∀ r ∈ E, r.1 ≠ p.1 := fun p hp r hr e => h p hp r.1 (hE r hr) e.symm
theorem fa2 {P : Nat → Prop} {a b : Nat} (h1 : P a) (h2 : P b) : ∀ z ∈ [a, b], P z := List.forall_mem_cons.mpr ⟨h1, List.forall_mem_cons.mpr ⟨h2, List.forall_mem_nil _⟩⟩
theorem fa5 {P : Nat → Prop} {a b c d e : Nat} (h1 : P a) (h2 : P b) (h3 : P c) (h4 : P d) (h5 : P e) : ∀ z ∈ [a, b, c, d, e], P z := List.forall_mem_cons.mpr ⟨h1, List.forall_mem_cons.mpr ⟨h2, List.forall_mem_cons.mpr ⟨h3, fa2 h4 h5⟩⟩⟩
theorem fa6 {P : Nat → Prop} {a b c d e f : Nat} (h1 : P a) (h2 : P b) (h3 : P c) (h4 : P d) (h5 : P e) (h6 : P f) : ∀ z ∈ [a, b, c, d, e, f], P z := List.forall_mem_cons.mpr ⟨h1, fa5 h2 h3 h4 h5 h6⟩
theorem odd_is (z : Int) : 0 ≤ z.fmod 1111808 ∧ z.fmod 1111808 < 1111808 := by
  rw [Int.fmod_eq_emod_of_nonneg _ (by decide)]; omega
theorem odd_a {z : Int} (h : 0 ≤ z ∧ z < 1111808) : 0 ≤ 256 + z ∧ 256 + z ≤ 1114111 := by omega
theorem odd_b {z : Int} (h : 0 ≤ z ∧ z < 1111808) : 0 ≤ 256 + z + 2048 ∧ 256 + z + 2048 ≤ 1114111 := by omega
/-- what the rows are in the heap -/
structure RowsAt (oc9 : Nat) (vsT vsL : List Value) : Prop where
  T : StrsAre vsT (([32, 10, 9] : List Nat).map fun c => ⟨#[c]⟩)
  L : StrsAre vsL (([38, 60, 1, 64976, oc9] : List Nat).map fun c => ⟨#[c]⟩)
  lo : 256 ≤ oc9
  hi : oc9 ≤ 1114111
  sur : ¬ (55296 ≤ oc9 ∧ oc9 ≤ 57343)
noncomputable def rowsL (ta la ra : Nat) (u nt nl nr : Nat) (vsT vsL : List Value) : Ledger := [(ra, listOf #[.ref ta, .str (Str.ofString "abé") u, .ref la] nr), (la, listOf vsL.toArray nl), (ta, { cls := .type "tuple", data := .seq vsT.toArray nt })]
theorem rows_at {z : Int} (h : 256 ≤ z ∧ z ≤ 1114111 ∧ ¬ (55296 ≤ z ∧ z ≤ 57343)) (t1 t2 t3 t4 t5 t6 t7 t8 : Nat) : RowsAt z.toNat [.str (Str.ofString " ") t1, .str (Str.ofString "\n") t2, .str (Str.ofString "\t") t3] [.str (Str.ofString "&") t4, .str (Str.ofString "<") t5, .str (Str.ofString "\x01") t6, .str (Str.ofString "\ufdd0") t7, .str ⟨#[z.toNat]⟩ t8] := by
  have e1 : Str.ofString " " = ⟨#[32]⟩ := by decide +kernel
  have e2 : Str.ofString "\n" = ⟨#[10]⟩ := by decide +kernel
  have e3 : Str.ofString "\t" = ⟨#[9]⟩ := by decide +kernel
  have e4 : Str.ofString "&" = ⟨#[38]⟩ := by decide +kernel
  have e5 : Str.ofString "<" = ⟨#[60]⟩ := by decide +kernel
  have e6 : Str.ofString "\x01" = ⟨#[1]⟩ := by decide +kernel
  have e7 : Str.ofString "\ufdd0" = ⟨#[64976]⟩ := by decide +kernel
  rw [e1, e2, e3, e4, e5, e6, e7]
  exact ⟨.cons _ _ (.cons _ _ (.cons _ _ .nil)), .cons _ _ (.cons _ _ (.cons _ _ (.cons _ _ (.cons _ _ .nil)))), by omega, by omega, by omega⟩
theorem odd_c {z : Int} (h : 0 ≤ z ∧ z < 1111808) (h2 : 256 + z < 55296) : 256 ≤ 256 + z ∧ 256 + z ≤ 1114111 ∧ ¬ (55296 ≤ 256 + z ∧ 256 + z ≤ 57343) := by omega
theorem odd_d {z : Int} (h : 0 ≤ z ∧ z < 1111808) (h2 : ¬ 256 + z < 55296) : 256 ≤ 256 + z + 2048 ∧ 256 + z + 2048 ≤ 1114111 ∧ ¬ (55296 ≤ 256 + z + 2048 ∧ 256 + z + 2048 ≤ 57343) := by omega
/-- the kinds of the rows -/
noncomputable def rowV (ta la u : Nat) (k : Nat) : Value := if k = 0 then .ref ta else if k = 1 then .str (Str.ofString "abé") u else .ref la
noncomputable def rowC (oc9 k : Nat) : List Nat := if k = 0 then [32, 10, 9] else if k = 1 then [97, 98, 233] else [38, 60, 1, 64976, oc9]
noncomputable abbrev RunT := Int × Nat × Str
noncomputable def tup3 (a b c : Value) : Obj := { cls := .type "tuple", data := .seq #[a, b, c] }
/-- the tuples of the runs -/
noncomputable def RunsAre (vs : List Value) (tl : Ledger) (rs : List RunT) : Prop :=
  vs.length = rs.length ∧ ∀ (i : Nat) (n : Int) (k : Nat) (X : Str), rs[i]? = some (n, k, X) → ∃ (T : Nat) (t1 t2 t3 : Nat), vs[i]? = some (.ref T) ∧ ((T, tup3 (.int n t1) (.int (k : Int) t2) (.str X t3)) : Addr × Obj) ∈ tl
theorem runs_nil : RunsAre [] [] [] := ⟨rfl, fun i n k X h => by simp at h⟩
theorem runs_snoc {vs : List Value} {tl : Ledger} {rs : List RunT} {n : Int} {k : Nat} {X : Str} {T t1 t2 t3 : Nat} (h : RunsAre vs tl rs) : RunsAre (vs ++ [.ref T]) ((T, tup3 (.int n t1) (.int (k : Int) t2) (.str X t3)) :: tl) (rs ++ [(n, k, X)]) := by
  refine ⟨by rw [List.length_append, List.length_append, h.1]; rfl, fun i n' k' X' e => ?_⟩
  by_cases hi : i < rs.length
  · rw [List.getElem?_append_left hi] at e
    obtain ⟨T', a, b, c, h1, h2⟩ := h.2 i n' k' X' e
    exact ⟨T', a, b, c, by rw [List.getElem?_append_left (by rw [h.1]; exact hi)]; exact h1, List.mem_cons_of_mem _ h2⟩
  · have hi' : i = rs.length := by
      have := (List.getElem?_eq_some_iff.mp e).1
      rw [List.length_append, List.length_singleton] at this
      omega
    subst hi'
    rw [List.getElem?_append_right (Nat.le_refl _), Nat.sub_self] at e
    injection e with e
    cases e
    refine ⟨T, t1, t2, t3, ?_, List.mem_cons_self⟩
    rw [List.getElem?_append_right (by rw [h.1]; exact Nat.le_refl _), h.1, Nat.sub_self]; rfl
noncomputable def nextK (k : Nat) (n : Int) : Nat := (((k : Int) + 1 + n.fmod 2).fmod 3).toNat
theorem nextK_dec0 : ∀ k : Nat, k < 3 → ((k : Int) + 1 + 0).fmod 3 = ((((k : Int) + 1 + 0).fmod 3).toNat : Int) ∧ (((k : Int) + 1 + 0).fmod 3).toNat < 3 ∧ (((k : Int) + 1 + 0).fmod 3).toNat ≠ k := by decide
theorem nextK_dec1 : ∀ k : Nat, k < 3 → ((k : Int) + 1 + 1).fmod 3 = ((((k : Int) + 1 + 1).fmod 3).toNat : Int) ∧ (((k : Int) + 1 + 1).fmod 3).toNat < 3 ∧ (((k : Int) + 1 + 1).fmod 3).toNat ≠ k := by decide
theorem nextK_is {k : Nat} (n : Int) (h : k < 3) : ((k : Int) + 1 + n.fmod 2).fmod 3 = ((nextK k n : Nat) : Int) ∧ nextK k n < 3 ∧ nextK k n ≠ k := by
  unfold nextK
  rcases Int.emod_two_eq n with e | e
  · rw [Int.fmod_eq_emod_of_nonneg n (by decide), e]; exact nextK_dec0 k h
  · rw [Int.fmod_eq_emod_of_nonneg n (by decide), e]; exact nextK_dec1 k h
/-- what the first loop made so far -/
structure Made (oc9 : Nat) (i kd : Nat) (T : Str) (rs : List RunT) : Prop where
  hlen : rs.length = i
  hlt : kd < 3
  hlast : ∀ r, rs.getLast? = some r → r.2.1 = kd
  hk : ∀ r ∈ rs, r.2.1 < 3
  hX : ∀ r ∈ rs, 1 ≤ r.2.2.length ∧ r.2.2.length ≤ 8 ∧ ∀ c ∈ r.2.2.cps.toList, c ∈ rowC oc9 r.2.1
  hnb : ∀ j r r', rs[j]? = some r → rs[j + 1]? = some r' → r.2.1 ≠ r'.2.1
  hsz : T.length ≤ 16 * i
  hnorm : norm T.cps.toList = rs.flatMap fun r => r.2.2.cps.toList
  hsur : noSur T.cps.toList
  hbad : badCount T.cps.toList = badCount (rs.flatMap fun r => r.2.2.cps.toList)
theorem run_len8 {r : Str} {cs : List Nat} {n : Int} (h : r.cps.toList = runOf cs n) : 1 ≤ r.length ∧ r.length ≤ 8 := by
  have h1 : r.length = (runOf cs n).length := by rw [← h]; rfl
  have h2 := runLen_is n
  rw [runOf_len] at h1
  omega
theorem made_len {oc9 i kd : Nat} {T : Str} {rs : List RunT} {ns : List Int} {k : Int} (M : Made oc9 i kd T rs) (hk : ns[i]? = some k) (h : ns.length ≤ 12) : T.length ≤ 1000 := by
  have := (List.getElem?_eq_some_iff.mp hk).1
  have := M.hsz
  omega
theorem runs_size {oc9 i kd : Nat} {T : Str} {rs : List RunT} {ns : List Int} {k : Int} {vs : List Value} {tl : Ledger} (h : RunsAre vs tl rs) (M : Made oc9 i kd T rs) (hk : ns[i]? = some k) (h12 : ns.length ≤ 12) : vs.toArray.size ≤ sizeLine := by
  have h1 := (List.getElem?_eq_some_iff.mp hk).1
  have h2 := M.hlen
  have h3 := h.1
  rw [List.size_toArray, sizeLine_eq]
  omega
theorem off_cons {tl : Ledger} {D c rsa ra la ta na : Nat} {o : Obj} (h : OwnOff tl [c, rsa, ra, la, ta, na]) (h1 : c < D) (h2 : rsa < D) (h3 : ra < D) (h4 : la < D) (h5 : ta < D) (h6 : na < D) : OwnOff ((D, o) :: tl) [c, rsa, ra, la, ta, na] := by
  intro p hp b hb
  rcases List.mem_cons.mp hp with rfl | hp
  · simp only [List.mem_cons, List.not_mem_nil, or_false] at hb
    rcases hb with rfl | rfl | rfl | rfl | rfl | rfl <;> exact Nat.ne_of_gt (by assumption)
  · exact h p hp b hb
theorem loop1_end {h₀ h' : Heap} {L : Addr} {m' : Str → Option Value} {s : Shared} {tk I D rsa ra la ta na c nrs : Nat} {oI oD o2 o3 o4 o5 o6 : Obj} {vs : List Value} {tl : Ledger} {J : (Str → Option Value) → Ledger → Prop} (F9 : Fr h₀ L h' m')
    (N9 : News h₀ L h' ((D, oD) :: (I, oI) :: (rsa, listOf (vs.toArray.push (.ref D)) nrs) :: (ra, o2) :: (la, o3) :: (ta, o4) :: (c, o5) :: (na, o6) :: tl)) (a1 : I < D) (a2 : rsa < D) (a3 : ra < D) (a4 : la < D) (a5 : ta < D) (a6 : c < D) (a7 : na < D)
    (hn1 : @Ne Nat rsa I) (hn2 : @Ne Nat ra I) (hn3 : @Ne Nat la I) (hn4 : @Ne Nat ta I) (hn5 : @Ne Nat c I) (hn6 : @Ne Nat na I) (htl : ∀ p ∈ tl, @Ne Nat p.1 I)
    (hJ : J m' ((rsa, listOf (vs ++ [Value.ref D]).toArray nrs) :: ([(ra, o2), (la, o3), (ta, o4)] ++ ((c, o5) :: (na, o6) :: (D, oD) :: tl)))) :
    GEnd h₀ L I oI [(na, o6)] J s { s with heap := h', toks := tk } := by
  rw [List.push_toArray] at N9
  have s : ((rsa, listOf (vs ++ [Value.ref D]).toArray nrs) :: ([(ra, o2), (la, o3), (ta, o4)] ++ ((c, o5) :: (na, o6) :: (D, oD) :: tl)) : Ledger) ⊆ (D, oD) :: (I, oI) :: (rsa, listOf (vs ++ [Value.ref D]).toArray nrs) :: (ra, o2) :: (la, o3) :: (ta, o4) :: (c, o5) :: (na, o6) :: tl := List.cons_subset.mpr ⟨.tail _ (.tail _ (.head _)), List.cons_subset.mpr ⟨.tail _ (.tail _ (.tail _ (.head _))), List.cons_subset.mpr ⟨.tail _ (.tail _ (.tail _ (.tail _ (.head _)))), List.cons_subset.mpr ⟨.tail _ (.tail _ (.tail _ (.tail _ (.tail _ (.head _))))), List.cons_subset.mpr ⟨.tail _ (.tail _ (.tail _ (.tail _ (.tail _ (.tail _ (.head _)))))), List.cons_subset.mpr ⟨.tail _ (.tail _ (.tail _ (.tail _ (.tail _ (.tail _ (.tail _ (.head _))))))), List.cons_subset.mpr ⟨.head _, fun q hq => .tail _ (.tail _ (.tail _ (.tail _ (.tail _ (.tail _ (.tail _ (.tail _ (hq))))))))⟩⟩⟩⟩⟩⟩⟩
  refine ⟨h', tk, m', _, rfl, F9, fun p hp => ?_, List.forall_mem_cons.mpr ⟨hn1, List.forall_mem_cons.mpr ⟨hn2, List.forall_mem_cons.mpr ⟨hn3, List.forall_mem_cons.mpr ⟨hn4, List.forall_mem_cons.mpr ⟨hn5, List.forall_mem_cons.mpr ⟨hn6, List.forall_mem_cons.mpr ⟨Nat.ne_of_gt a1, htl⟩⟩⟩⟩⟩⟩⟩, fun p hp => ?_, hJ⟩
  · rcases List.mem_cons.mp hp with h | h
    · exact N9 p (h ▸ .tail _ (.head _))
    · exact N9 p (s h)
  · rw [List.mem_singleton.mp hp]; exact .tail _ (.tail _ (.tail _ (.tail _ (.tail _ (.head _)))))
theorem kd0_is (z : Int) : ((z.fmod 3).toNat : Int) = z.fmod 3 ∧ (z.fmod 3).toNat < 3 := by
  rw [Int.fmod_eq_emod_of_nonneg _ (by decide)]; omega
theorem made_nil (oc9 : Nat) {kd : Nat} (h : kd < 3) : Made oc9 0 kd (Str.ofString "") [] := by
  have e : (Str.ofString "").cps.toList = [] := by decide +kernel
  refine ⟨rfl, h, fun r hr => by simp at hr, fun r hr => by simp at hr, fun r hr => by simp at hr, fun j r r' hj => by simp at hj, by decide +kernel, ?_, ?_, ?_⟩
  · rw [e]; rfl
  · rw [e]; intro c hc; simp at hc
  · rw [e]; rfl
theorem norm_app {X Y : List Nat} (h : ¬ (X.getLast? = some 13 ∧ Y.head? = some 10)) : norm (X ++ Y) = norm X ++ norm Y := by
  unfold norm; rw [crlf_append X Y h, List.map_append]
theorem ends_cases (n : Int) (j : Nat) : endAt n j = 0 ∨ endAt n j = 1 ∨ endAt n j = 2 := by
  have := endAt_lt n j
  omega
theorem step_norm {n : Int} {j c : Nat} {T : List Nat} (hc : c ≠ 13) : norm (stepW n j c T) = norm T ++ [c] := by
  unfold stepW
  by_cases h10 : c = 10
  · subst h10
    rw [if_pos rfl]
    by_cases h : endAt n j = 2 ∧ T.getLast? = some 13
    · rw [if_pos h, norm_app (by simp)]; rfl
    · rw [if_neg h]
      rcases ends_cases n j with e | e | e
      · rw [e, norm_app (by simp [endsL])]; rfl
      · rw [e, norm_app (by simp [endsL])]; rfl
      · rw [norm_app (fun hh => h ⟨e, hh.1⟩), e]; rfl
  · rw [if_neg h10, norm_app (fun hh => h10 (by simpa using hh.2))]
    congr 1
    show [crf c] = [c]
    unfold crf; rw [if_neg hc]
theorem step_sur {n : Int} {j c : Nat} {T : List Nat} (hT : noSur T) (hc : ¬ (55296 ≤ c ∧ c ≤ 57343)) : noSur (stepW n j c T) := by
  have key : ∀ l, noSur l → noSur (T ++ l) := fun l hl x hx => by
    rcases List.mem_append.mp hx with hx | hx
    · exact hT x hx
    · exact hl x hx
  unfold stepW
  by_cases h10 : c = 10
  · rw [if_pos h10]
    split
    · exact key _ (by intro x hx; simp at hx; omega)
    · rcases ends_cases n j with e | e | e <;> (rw [e]; exact key _ (by intro x hx; simp [endsL] at hx; omega))
  · rw [if_neg h10]
    exact key _ (by intro x hx; rw [List.mem_singleton.mp hx]; exact hc)
theorem step_bad {n : Int} {j c : Nat} {T : List Nat} : badCount (stepW n j c T) = badCount T + badCount [c] := by
  have b1 : badCount [13, 10] = 0 := by decide
  have b2 : badCount [13] = 0 := by decide
  have b3 : badCount [10] = 0 := by decide
  unfold stepW
  by_cases h10 : c = 10
  · subst h10
    rw [if_pos rfl]
    split
    · rw [badCount_append, b1, b3]
    · rcases ends_cases n j with e | e | e
      · rw [e, badCount_append]; show _ + badCount [13, 10] = _; rw [b1, b3]
      · rw [e, badCount_append]; show _ + badCount [13] = _; rw [b2, b3]
      · rw [e, badCount_append]; show _ + badCount [10] = _; rfl
  · rw [if_neg h10, badCount_append]
theorem take_next {xs : List Nat} {i : Nat} (h : i < xs.length) : xs.take (i + 1) = xs.take i ++ [xs.getD i 0] := by
  rw [List.take_succ, List.getD_eq_getElem?_getD, List.getElem?_eq_getElem h]; rfl
theorem getD_mem {xs : List Nat} {i : Nat} (h : i < xs.length) : xs.getD i 0 ∈ xs := by
  rw [List.getD_eq_getElem?_getD, List.getElem?_eq_getElem h]; exact List.getElem_mem h
theorem wr_all {n : Int} {T xs : List Nat} (h13 : ∀ c ∈ xs, c ≠ 13) (hsur : noSur xs) (hT : noSur T) : ∀ i, i ≤ xs.length → norm (wrTo n T xs i) = norm T ++ xs.take i ∧ noSur (wrTo n T xs i) ∧ badCount (wrTo n T xs i) = badCount T + badCount (xs.take i)
  | 0, _ => ⟨(List.append_nil _).symm, hT, rfl⟩
  | i + 1, h => by
    have ih := wr_all (n := n) h13 hsur hT i (by omega)
    have hm := getD_mem (xs := xs) (i := i) (by omega)
    rw [wrTo, take_next (by omega)]
    refine ⟨?_, step_sur ih.2.1 (hsur _ hm), ?_⟩
    · rw [step_norm (h13 _ hm), ih.1, List.append_assoc]
    · rw [step_bad, ih.2.2, badCount_append, Nat.add_assoc]
theorem row_mem {oc9 k c : Nat} (hc : c ∈ rowC oc9 k) : c ∈ ([32, 10, 9, 97, 98, 233, 38, 60, 1, 64976] : List Nat) ∨ c = oc9 := by
  unfold rowC at hc
  split at hc
  · exact .inl (List.mem_append_left [97, 98, 233, 38, 60, 1, 64976] hc)
  · split at hc
    · exact .inl (List.mem_append_right [32, 10, 9] (List.mem_append_left [38, 60, 1, 64976] hc))
    · rcases List.mem_append.mp (show c ∈ [38, 60, 1, 64976] ++ [oc9] from hc) with h | h
      · exact .inl (List.mem_append_right [32, 10, 9, 97, 98, 233] h)
      · exact .inr (List.mem_singleton.mp h)
theorem row_ten : ∀ c ∈ ([32, 10, 9, 97, 98, 233, 38, 60, 1, 64976] : List Nat), c ≠ 13 ∧ ¬ (55296 ≤ c ∧ c ≤ 57343) := by decide +kernel
theorem row_facts {oc9 K c : Nat} (lo : 256 ≤ oc9) (hi : ¬ (55296 ≤ oc9 ∧ oc9 ≤ 57343)) (h : c ∈ rowC oc9 K) : c ≠ 13 ∧ ¬ (55296 ≤ c ∧ c ≤ 57343) := by
  rcases row_mem h with h | rfl
  · exact row_ten c h
  · exact ⟨by omega, hi⟩
theorem rowC_pos (oc9 K : Nat) : 0 < (rowC oc9 K).length := by
  unfold rowC; split
  · decide
  · split <;> simp
theorem made_next {oc9 i kd K : Nat} {T X R : Str} {rs : List RunT} {k n2 n3 : Int} {vsT vsL : List Value} (M : Made oc9 i kd T rs) (hR : RowsAt oc9 vsT vsL) (hK : K < 3) (hne : K ≠ kd) (hX : 1 ≤ X.length ∧ X.length ≤ 8) (hr9 : X.cps.toList = runOf (rowC oc9 K) n2)
    (hr7 : R.cps.toList = wrTo n3 T.cps.toList X.cps.toList X.length) (hl : R.length ≤ T.length + 2 * X.length) : Made oc9 (i + 1) K R (rs ++ [(k, K, X)]) := by
  have hmem : ∀ c ∈ X.cps.toList, c ∈ rowC oc9 K := fun c hc => runOf_mem (n := n2) (rowC_pos oc9 K) c (by rw [← hr9]; exact hc)
  have hXl : X.cps.toList.length = X.length := rfl
  obtain ⟨w1, w2, w3⟩ := wr_all (n := n3) (T := T.cps.toList) (xs := X.cps.toList) (fun c hc => (row_facts hR.lo hR.sur (hmem c hc)).1) (fun c hc => (row_facts hR.lo hR.sur (hmem c hc)).2) M.hsur X.length (Nat.le_of_eq hXl.symm)
  rw [← hXl, List.take_length] at w1 w3
  rw [hXl] at w1 w3
  rw [← hr7] at w1 w2 w3
  refine ⟨by rw [List.length_append, M.hlen]; rfl, hK, fun r hr => ?_, fun r hr => ?_, fun r hr => ?_, fun j r r' h1 h2 => ?_, ?_, ?_, w2, ?_⟩
  · rw [List.getLast?_append] at hr
    simp at hr
    rw [← hr]
  · rcases List.mem_append.mp hr with hr | hr
    · exact M.hk r hr
    · rw [List.mem_singleton.mp hr]; exact hK
  · rcases List.mem_append.mp hr with hr | hr
    · exact M.hX r hr
    · rw [List.mem_singleton.mp hr]; exact ⟨hX.1, hX.2, hmem⟩
  · have hj := (List.getElem?_eq_some_iff.mp h2).1
    rw [List.length_append, List.length_singleton] at hj
    have h1' : rs[j]? = some r := by rw [← h1, List.getElem?_append_left (by omega)]
    by_cases hj2 : j + 1 < rs.length
    · exact M.hnb j r r' h1' (by rw [← h2, List.getElem?_append_left hj2])
    · have e : j + 1 = rs.length := by omega
      rw [List.getElem?_append_right (by omega), e, Nat.sub_self] at h2
      simp at h2
      rw [← h2]
      have h3 : rs.getLast? = some r := by rw [List.getLast?_eq_getElem?, ← h1']; congr 1; omega
      rw [M.hlast r h3]
      exact hne.symm
  · have := M.hsz
    omega
  · rw [w1, M.hnorm, List.flatMap_append]; simp
  · rw [w3, M.hbad, List.flatMap_append, badCount_append]; simp
theorem rowV_get {ta la u k : Nat} (h : k < 3) : ([.ref ta, .str (Str.ofString "abé") u, .ref la] : List Value)[k]? = some (rowV ta la u k) := by
  rcases k with _ | _ | _ | k
  · rfl
  · rfl
  · rfl
  · exact absurd h (by omega)
theorem row_at (w : World) {oc9 ta la u nt nl k : Nat} {vsT vsL : List Value} (hR : RowsAt oc9 vsT vsL) (hk : k < 3) : RowIs w (rowV ta la u k) [(la, listOf vsL.toArray nl), (ta, { cls := .type "tuple", data := .seq vsT.toArray nt })] (rowC oc9 k) := by
  rcases k with _ | _ | _ | k
  · exact (row_tup (n := nt) rfl rfl hR.T (by decide) (by decide)).mono fun p hp => List.mem_cons_of_mem _ hp
  · exact (row_str (cs := [97, 98, 233]) (by decide +kernel) (by decide) (by decide)).mono fun p hp => nomatch hp
  · exact (row_list hR.L (by decide : 0 < 5) (by decide : 5 ≤ 5)).mono fun p hp => by rw [List.mem_singleton.mp hp]; exact .head _
  · exact absurd hk (by omega)
theorem rows_dis {I rsa ra la ta na c : Nat} {o1 o2 o3 o4 o5 o6 o7 : Obj} {tl : Ledger} (h : na < ta ∧ ta < la ∧ la < ra) (hc : c < na) (hra : ra < rsa) (h2 : @Ne Nat ra I) (h3 : @Ne Nat la I) (h4 : @Ne Nat ta I) (hoff : OwnOff tl [c, rsa, ra, la, ta, na]) :
    ∀ q ∈ (([(I, o1), (rsa, o2), (ra, o3)] : Ledger) ++ ((c, o4) :: (na, o5) :: tl)), ∀ r ∈ ([(la, o6), (ta, o7)] : Ledger), r.1 ≠ q.1 := by
  have g1 := Nat.lt_trans h.1 h.2.1
  have g2 := Nat.lt_trans h.2.2 hra
  refine disOf (adr := [la, ta]) (fun _ hr => List.mem_map_of_mem (f := fun p : Addr × Obj => p.1) hr) (offCons (fa2 (Ne.symm h3) (Ne.symm h4)) (offCons (fa2 (Nat.ne_of_gt g2) (Nat.ne_of_gt (Nat.lt_trans h.2.1 g2))) (offCons (fa2 (Nat.ne_of_gt h.2.2) (Nat.ne_of_gt (Nat.lt_trans h.2.1 h.2.2))) (offCons (fa2 (Nat.ne_of_lt (Nat.lt_trans hc g1)) (Nat.ne_of_lt (Nat.lt_trans hc h.1))) (offCons (fa2 (Nat.ne_of_lt g1) (Nat.ne_of_lt h.1)) (offSub hoff (fa2 ?_ ?_)))))))
  · exact .tail _ (.tail _ (.tail _ (.head _)))
  · exact .tail _ (.tail _ (.tail _ (.tail _ (.head _))))
theorem loop_ne {I rsa ra la ta na c : Nat} {o1 o2 o3 o4 o5 o6 : Obj} {tl : Ledger} (h : ∀ p ∈ ((rsa, o1) :: ([(ra, o2), (la, o3), (ta, o4)] ++ ((c, o5) :: (na, o6) :: tl)) : Ledger), @Ne Nat p.1 I) : @Ne Nat rsa I ∧ @Ne Nat ra I ∧ @Ne Nat la I ∧ @Ne Nat ta I ∧ @Ne Nat c I ∧ @Ne Nat na I :=
  ⟨h _ (.head _), h _ (.tail _ (.head _)), h _ (.tail _ (.tail _ (.head _))), h _ (.tail _ (.tail _ (.tail _ (.head _)))), h _ (.tail _ (.tail _ (.tail _ (.tail _ (.head _))))), h _ (.tail _ (.tail _ (.tail _ (.tail _ (.tail _ (.head _))))))⟩
section
variable {prog : Program} {w : World} {A : Around} {E : Value → Shared → Prop} {s : Shared}
theorem item_any {value slice : Expr} {l : Addr} {vs : List Value} {u : Nat} {Q : Value → Shared → Prop} (hl : s.heap.IsList l vs.toArray) (k : Nat) (v : Value) (hk : vs[k]? = some v) (hf : k < 1000) (h : Q v s)
    (hs : subscripted slice false (.ref l) (.int (k : Int) u) = operate [.ref l, .int (k : Int) u] (getItem (.ref l) (.int (k : Int) u))) (hg : ∀ r, letTemporaryGo value (.ref l) r = pure ()) :
    wpAny (model prog w) A (subscriptTail value slice (.ref l) (.int (k : Int) u)) Q E s :=
  item_listL hl (Int.natCast_nonneg _) (by omega) (by rw [Int.toNat_natCast]; exact hk) h hs hg
end
/-- the stream's part of the ledger as the constructor leaves it -/
noncomputable abbrev LS0 (w : World) (kt : Nat → Nat) (x d q nl td tx er : Nat) (S : Str) (t6 : Nat) (st : StS) : Ledger :=
  SX0 w kt x d q nl tx er (.str st.C st.ta) (.int st.C.length st.tb) (.int (st.o : Int) st.tc) (.int st.pl st.t4) (.int st.pc st.t5) st.bufV st.errs st.ne ++ TL w kt tx td (.str S t6) (.int ((st.p : Nat) : Int) st.t7)
/-- .. or with a chunk's size of its own -/
noncomputable def LSq (w : World) (kt : Nat → Nat) (x d q nl td tx er : Nat) (S : Str) (t6 : Nat) (o : Option (Nat × Nat)) (st : StS) : Ledger :=
  match o with
  | none => LS0 w kt x d q nl td tx er S t6 st
  | some (n, t) => LS w kt x d q nl td tx er S t6 (.int (n : Int) t) st
theorem ctor_ls2 {w : World} {text : Str} {t : Nat} {rest : Ledger} {v : Value} {E' : Ledger} (h : ctorPost w text t rest v E') : ∃ (kt : Nat → Nat) (x d q nl td tx er : Nat) (st : StS), (d < x ∧ x < q ∧ q < td ∧ td < tx ∧ tx < er) ∧ (∀ p ∈ rest, @LT.lt Nat _ p.1 d) ∧ v = .ref x ∧
    E' = LS0 w kt x d q nl td tx er text t st ∧ St0 st := by
  refine' ex_14_4 (h) ?_; intro kt x d q nl td tx er t1 t2 t3 t4 t5 t6 ho hl hv hE; (try clear h)
  exact ⟨kt, x, d, q, nl, td, tx, er, ⟨Str.ofString "", 0, 0, 0, 0, [], #[], [], .none, t1, t2, t3, t4, t5, t6, 0⟩, ho, hl, hv, hE, ⟨rfl, rfl, rfl, rfl, rfl, rfl, rfl, rfl, rfl⟩⟩
theorem know8_eq {m : Str → Option Value} {z1 z2 z3 z4 z5 z6 z7 z8 : Str} {b1 b2 b3 b4 b5 b6 b7 b8 : Value} (h1 : m z1 = some b1) (h2 : m z2 = some b2) (h3 : m z3 = some b3) (h4 : m z4 = some b4) (h5 : m z5 = some b5) (h6 : m z6 = some b6) (h7 : m z7 = some b7) (h8 : m z8 = some b8) : (fun y => if y = z1 then some b1 else if y = z2 then some b2 else if y = z3 then some b3 else if y = z4 then some b4 else if y = z5 then some b5 else if y = z6 then some b6 else if y = z7 then some b7 else if y = z8 then some b8 else m y) = m := by
  have e : kstB m [(z1, b1), (z2, b2), (z3, b3), (z4, b4), (z5, b5), (z6, b6), (z7, b7), (z8, b8)] = m := funext fun y => kstB_eq (fun p hp => by
    simp only [List.mem_cons, List.not_mem_nil, or_false] at hp
    rcases hp with rfl | rfl | rfl | rfl | rfl | rfl | rfl | rfl <;> assumption) fun _ => rfl
  exact e
theorem fr_eq {h₀ h : Heap} {L : Addr} {m m' : Str → Option Value} (e : m' = m) (F : Fr h₀ L h m) : Fr h₀ L h m' := e ▸ F
theorem fr_qe {h₀ h : Heap} {L : Addr} {m m' : Str → Option Value} (e : m' = m) (F : Fr h₀ L h m') : Fr h₀ L h m := e ▸ F
theorem dcs_is (n : Int) : 2 + (n.fdiv 2).fmod 6 = (((2 + (n.fdiv 2).fmod 6).toNat : Nat) : Int) ∧ 2 ≤ (2 + (n.fdiv 2).fmod 6).toNat ∧ (2 + (n.fdiv 2).fmod 6).toNat ≤ 7 := by
  rw [Int.fmod_eq_emod_of_nonneg _ (by decide)]; omega
theorem dcs_new {w : World} {kt : Nat → Nat} {x d q nl td tx er : Nat} {S : Str} {t6 t12 n2 q2 c : Nat} {oc : Obj} {st : StS} {RR : Ledger} {h₀ h : Heap} {L : Addr}
    (N : News h₀ L h ((c, oc) :: (er, listOf st.errs st.ne) :: (q, methodObj (.ref 113) (.ref x)) :: (x, instObj 131 d) ::
      (d, dictOf [ent w (Str.ofString "reportCharacterErrors") (kt 2) (.ref q), ent w (Str.ofString "newLines") (kt 3) (.ref nl), ent w (Str.ofString "dataStream") (kt 4) (.ref tx),
        ent w (Str.ofString "chunk") (kt 5) (.str st.C st.ta), ent w (Str.ofString "chunkSize") (kt 6) (.int st.C.length st.tb), ent w (Str.ofString "chunkOffset") (kt 7) (.int (st.o : Int) st.tc), ent w (Str.ofString "errors") (kt 8) (.ref er),
        ent w (Str.ofString "prevNumLines") (kt 9) (.int st.pl st.t4), ent w (Str.ofString "prevNumCols") (kt 10) (.int st.pc st.t5), ent w (Str.ofString "_bufferedCharacter") (kt 11) st.bufV, ent w (Str.ofString "_defaultChunkSize") t12 (.int (n2 : Int) q2)] 11) ::
      (TL w kt tx td (.str S t6) (.int ((st.p : Nat) : Int) st.t7) ++ RR))) :
    News h₀ L h ((c, oc) :: (LS w (fun i => if i = 12 then t12 else kt i) x d q nl td tx er S t6 (.int (n2 : Int) q2) st ++ RR)) := N
/-- the stream's addresses lie behind d -/
theorem six_le {d x q td tx er : Nat} (ho : d < x ∧ x < q ∧ q < td ∧ td < tx ∧ tx < er) : ∀ b ∈ [er, q, x, d, tx, td], @LE.le Nat _ d b := by
  obtain ⟨h1, h2, h3, h4, h5⟩ := ho
  have h6 := Nat.lt_trans h1 h2
  have h7 := Nat.lt_trans h6 h3
  have h8 := Nat.lt_trans h7 h4
  exact fa6 (Nat.le_of_lt (Nat.lt_trans h8 h5)) (Nat.le_of_lt h6) (Nat.le_of_lt h1) (Nat.le_refl d) (Nat.le_of_lt h8) (Nat.le_of_lt h7)
theorem lsq_is {w : World} {kt : Nat → Nat} {x d q nl td tx er : Nat} {S : Str} {t6 : Nat} {o : Option (Nat × Nat)} {st : StS} : (LSq w kt x d q nl td tx er S t6 o st).map (·.1) = [er, q, x, d, tx, td] := by
  cases o <;> rfl
theorem lsq_sub {w : World} {kt : Nat → Nat} {x d q nl td tx er : Nat} {S : Str} {t6 : Nat} {o : Option (Nat × Nat)} {st : StS} : ∀ r ∈ LSq w kt x d q nl td tx er S t6 o st, r.1 ∈ [er, q, x, d, tx, td] := fun r hr => by
  rw [← lsq_is (w := w) (kt := kt) (nl := nl) (S := S) (t6 := t6) (o := o) (st := st)]
  exact List.mem_map_of_mem hr
theorem lsq_off {w : World} {kt : Nat → Nat} {x d q nl td tx er c : Nat} {S : Str} {t6 : Nat} {o : Option (Nat × Nat)} {st : StS} (ho : d < x ∧ x < q ∧ q < td ∧ td < tx ∧ tx < er) (hc : c < d) : OwnOff (LSq w kt x d q nl td tx er S t6 o st) [c] := fun r hr b hb => by
  rw [List.mem_singleton.mp hb]
  exact Nat.ne_of_gt (Nat.lt_of_lt_of_le hc (six_le ho _ (lsq_sub r hr)))
/-- the addresses of the big ledger -/
theorem big_adr {w : World} {kt0 : Nat → Nat} {x d q nl td tx er : Nat} {S : Str} {t6 : Nat} {o0 : Option (Nat × Nat)} {st0 : StS} {rsa ra la ta na c nrs' u nt nl2 nr n3 : Nat} {vsT vsL : List Value} {a3 a4 : Array Value} {oc : Obj} {tl own : Ledger}
    (h : OwnOff own ((LSq w kt0 x d q nl td tx er S t6 o0 st0 ++ ((rsa, listOf a3 nrs') :: (rowsL ta la ra u nt nl2 nr vsT vsL ++ ((c, oc) :: (na, listOf a4 n3) :: tl)))).map (·.1))) : OwnOff own ([er, q, x, d, tx, td] ++ [rsa, ra, la, ta, c, na]) := by
  refine offSub h fun b hb => ?_
  rw [List.map_append, lsq_is]
  rcases List.mem_append.mp hb with hb | hb
  · exact List.mem_append_left _ hb
  · exact List.mem_append_right _ (List.mem_append_left (tl.map fun p : Addr × Obj => p.1) hb)
theorem turn_off {w : World} {kt kt0 : Nat → Nat} {x d q nl td tx er : Nat} {S : Str} {t6 : Nat} {o o0 : Option (Nat × Nat)} {st st0 : StS} {rsa ra la ta na c nrs nrs' u nt nl2 nr n3 : Nat} {vsT vsL : List Value} {a1 a2 a3 a4 : Array Value} {oc : Obj} {tl own : Ledger}
    (ho : d < x ∧ x < q ∧ q < td ∧ td < tx ∧ tx < er) (hcd : @LT.lt Nat _ c d) (hlt : na < ta ∧ ta < la ∧ la < ra) (hc : c < na) (hra : ra < rsa) (hoff : OwnOff tl [c, rsa, ra, la, ta, na])
    (hown : OwnOff own ((LSq w kt0 x d q nl td tx er S t6 o0 st0 ++ ((rsa, listOf a3 nrs') :: (rowsL ta la ra u nt nl2 nr vsT vsL ++ ((c, oc) :: (na, listOf a4 n3) :: tl)))).map (·.1))) :
    OwnOff (LSq w kt x d q nl td tx er S t6 o st ++ ((rsa, listOf a1 nrs) :: (rowsL ta la ra u nt nl2 nr vsT vsL ++ ((na, listOf a2 n3) :: (tl ++ own))))) [c] := by
  refine offApp (lsq_off ho hcd) (offCons ?_ (offCons ?_ (offCons ?_ (offCons ?_ (offCons ?_ (offApp (offSub hoff ?_) (offSub (big_adr hown) ?_)))))))
  · exact neGt (d := c) (by omega) fun b hb => by rw [List.mem_singleton.mp hb]; exact Nat.le_refl _
  · exact neGt (d := c) (by omega) fun b hb => by rw [List.mem_singleton.mp hb]; exact Nat.le_refl _
  · exact neGt (d := c) (by omega) fun b hb => by rw [List.mem_singleton.mp hb]; exact Nat.le_refl _
  · exact neGt (d := c) (by omega) fun b hb => by rw [List.mem_singleton.mp hb]; exact Nat.le_refl _
  · exact neGt (d := c) (by omega) fun b hb => by rw [List.mem_singleton.mp hb]; exact Nat.le_refl _
  · intro b hb; rw [List.mem_singleton.mp hb]; exact .head _
  · intro b hb; rw [List.mem_singleton.mp hb]; exact List.mem_append_right _ (.tail _ (.tail _ (.tail _ (.tail _ (.head _)))))
theorem turn_off3 {w : World} {kt0 : Nat → Nat} {x d q nl td tx er : Nat} {S : Str} {t6 : Nat} {o0 : Option (Nat × Nat)} {st0 : StS} {rsa ra la ta na c nrs nrs' u nt nl2 nr n3 : Nat} {vsT vsL : List Value} {a1 a2 a3 a4 a5 : Array Value} {oc oc' : Obj} {tl own : Ledger}
    (hltd : ∀ p ∈ ((rsa, listOf a1 nrs) :: ([(ra, listOf a5 nr), (la, listOf vsL.toArray nl2), (ta, { cls := .type "tuple", data := .seq vsT.toArray nt })] ++ ((c, oc) :: (na, listOf a2 n3) :: tl)) : Ledger), @LT.lt Nat _ p.1 d) (hlt : na < ta ∧ ta < la ∧ la < ra) (hc : c < na) (hra : ra < rsa) (ho : d < x ∧ x < q ∧ q < td ∧ td < tx ∧ tx < er) (hoff : OwnOff tl [c, rsa, ra, la, ta, na])
    (hown : OwnOff own ((LSq w kt0 x d q nl td tx er S t6 o0 st0 ++ ((rsa, listOf a3 nrs') :: (rowsL ta la ra u nt nl2 nr vsT vsL ++ ((c, oc') :: (na, listOf a4 n3) :: tl)))).map (·.1))) :
    OwnOff ((na, listOf a4 n3) :: (tl ++ own)) [c, rsa, ra, la, ta, er, q, x, d, tx, td] := by
  have hnd : na < d := hltd (na, listOf a2 n3) (.tail _ (.tail _ (.tail _ (.tail _ (.tail _ (.head _))))))
  have htl : ∀ p ∈ tl, @LT.lt Nat _ p.1 d := fun p hp => hltd p (.tail _ (.tail _ (.tail _ (.tail _ (.tail _ (.tail _ hp))))))
  have g1 := Nat.lt_trans hlt.1 hlt.2.1
  have g2 := Nat.lt_trans g1 hlt.2.2
  have hw := big_adr hown
  have e5 : ([c, rsa, ra, la, ta, er, q, x, d, tx, td] : List Nat) = [c, rsa, ra, la, ta] ++ [er, q, x, d, tx, td] := rfl
  rw [e5]
  refine offCons (neTwo ?_ (neLt hnd (six_le ho))) (offApp (offTwo (offSub hoff ?_) (offLt htl (six_le ho))) (offTwo (offSub hw ?_) (offSub hw fun b hb => List.mem_append_left _ hb)))
  · exact fa5 (Nat.ne_of_gt hc) (Nat.ne_of_lt (Nat.lt_trans g2 hra)) (Nat.ne_of_lt g2) (Nat.ne_of_lt g1) (Nat.ne_of_lt hlt.1)
  · exact fa5 (.head _) (.tail _ (.head _)) (.tail _ (.tail _ (.head _))) (.tail _ (.tail _ (.tail _ (.head _)))) (.tail _ (.tail _ (.tail _ (.tail _ (.head _)))))
  · exact fun b hb => List.mem_append_right _ (fa5 (P := fun z => z ∈ [rsa, ra, la, ta, c, na]) (.tail _ (.tail _ (.tail _ (.tail _ (.head _))))) (.head _) (.tail _ (.head _)) (.tail _ (.tail _ (.head _))) (.tail _ (.tail _ (.tail _ (.head _)))) b hb)
theorem mem_back {p c n r : Addr × Obj} {A B tl own : Ledger} (h : p ∈ (A ++ (r :: (B ++ (c :: n :: tl)))) ++ own) : p ∈ c :: (A ++ (r :: (B ++ (n :: (tl ++ own))))) := by
  have u : ∀ q, q ∈ B ++ (n :: (tl ++ own)) → q ∈ c :: (A ++ (r :: (B ++ (n :: (tl ++ own))))) := fun q hq => .tail _ (List.mem_append_right A (.tail _ hq))
  have k : (A ++ (r :: (B ++ (c :: n :: tl)))) ++ own ⊆ c :: (A ++ (r :: (B ++ (n :: (tl ++ own))))) := List.append_subset.mpr ⟨List.append_subset.mpr ⟨fun q hq => .tail _ (List.mem_append_left _ hq), List.cons_subset.mpr ⟨.tail _ (List.mem_append_right A (.head _)), List.append_subset.mpr ⟨fun q hq => u q (List.mem_append_left _ hq), List.cons_subset.mpr ⟨.head _, List.cons_subset.mpr ⟨u _ (List.mem_append_right B (.head _)), fun q hq => u q (List.mem_append_right B (.tail _ (List.mem_append_left _ hq)))⟩⟩⟩⟩⟩, fun q hq => u q (List.mem_append_right B (.tail _ (List.mem_append_right _ hq)))⟩
  exact k h
theorem mem_rows {p a b r1 r2 r3 : Addr × Obj} {A R3 : Ledger} (h : p ∈ a :: b :: r1 :: (A ++ (r2 :: r3 :: R3))) : p ∈ a :: (A ++ (b :: ([r1, r2, r3] ++ R3))) := by
  have k : a :: b :: r1 :: (A ++ (r2 :: r3 :: R3)) ⊆ a :: (A ++ (b :: ([r1, r2, r3] ++ R3))) := List.cons_subset.mpr ⟨.head _, List.cons_subset.mpr ⟨.tail _ (List.mem_append_right A (.head _)), List.cons_subset.mpr ⟨.tail _ (List.mem_append_right A (.tail _ (.head _))), List.append_subset.mpr ⟨fun q hq => .tail _ (List.mem_append_left _ hq), List.cons_subset.mpr ⟨.tail _ (List.mem_append_right A (.tail _ (.tail _ (.head _)))), List.cons_subset.mpr ⟨.tail _ (List.mem_append_right A (.tail _ (.tail _ (.tail _ (.head _))))), fun q hq => .tail _ (List.mem_append_right A (.tail _ (.tail _ (.tail _ (.tail _ hq)))))⟩⟩⟩⟩⟩⟩
  exact k h
theorem mem_rows' {p a b r1 r2 r3 : Addr × Obj} {A R3 : Ledger} (h : p ∈ a :: (A ++ (b :: ([r1, r2, r3] ++ R3)))) : p ∈ a :: b :: r1 :: (A ++ (r2 :: r3 :: R3)) := by
  have k : a :: (A ++ (b :: ([r1, r2, r3] ++ R3))) ⊆ a :: b :: r1 :: (A ++ (r2 :: r3 :: R3)) := List.cons_subset.mpr ⟨.head _, List.append_subset.mpr ⟨fun q hq => .tail _ (.tail _ (.tail _ (List.mem_append_left _ hq))), List.cons_subset.mpr ⟨.tail _ (.head _), List.cons_subset.mpr ⟨.tail _ (.tail _ (.head _)), List.cons_subset.mpr ⟨.tail _ (.tail _ (.tail _ (List.mem_append_right A (.head _)))), List.cons_subset.mpr ⟨.tail _ (.tail _ (.tail _ (List.mem_append_right A (.tail _ (.head _))))), fun q hq => .tail _ (.tail _ (.tail _ (List.mem_append_right A (.tail _ (.tail _ hq)))))⟩⟩⟩⟩⟩⟩
  exact k h
theorem made_10000 {oc9 i kd : Nat} {T : Str} {rs : List RunT} (M : Made oc9 i kd T rs) (h : i ≤ 12) : T.length ≤ 10000 := by
  have := M.hsz; omega
theorem turn_ob {d x q td tx er c rsa ra la ta : Nat} {o3 o4 : Obj} (ho : d < x ∧ x < q ∧ q < td ∧ td < tx ∧ tx < er) (_hLt : c < ta) (hlt : ta < la ∧ la < ra) (hrr : ra < rsa) (hrd : rsa < d) : OwnOff ([(la, o3), (ta, o4)] : Ledger) [er, q, x, d, tx, td] := offCons (neLt (Nat.lt_trans hlt.2 (Nat.lt_trans hrr hrd)) (six_le ho)) (offCons (neLt (Nat.lt_trans hlt.1 (Nat.lt_trans hlt.2 (Nat.lt_trans hrr hrd))) (six_le ho)) offNil)
theorem turn_pre {d x q td tx er c rsa ra la ta : Nat} {oc o1 o2 : Obj} {R3 : Ledger} (ho : d < x ∧ x < q ∧ q < td ∧ td < tx ∧ tx < er) (hLt : c < ta) (hlt : ta < la ∧ la < ra) (hrr : ra < rsa) (hrd : rsa < d)
    (hoff : OwnOff R3 [c, rsa, ra, la, ta, er, q, x, d, tx, td]) : OwnOff ([(c, oc), (rsa, o1), (ra, o2)] ++ R3 : Ledger) ([er, q, x, d, tx, td] ++ [la, ta]) := by
  have g1 := Nat.lt_trans hrr hrd
  have g2 := Nat.lt_trans hLt hlt.1
  have g3 := Nat.lt_trans g2 (Nat.lt_trans hlt.2 g1)
  have s := six_le ho
  refine offCons (neTwo (neLt g3 s) (fa2 (Nat.ne_of_lt g2) (Nat.ne_of_lt hLt))) (offCons (neTwo (neLt hrd s) (fa2 (Nat.ne_of_gt (Nat.lt_trans hlt.2 hrr)) (Nat.ne_of_gt (Nat.lt_trans hlt.1 (Nat.lt_trans hlt.2 hrr))))) (offCons (neTwo (neLt g1 s) (fa2 (Nat.ne_of_gt hlt.2) (Nat.ne_of_gt (Nat.lt_trans hlt.1 hlt.2)))) (offTwo (offSub hoff ?_) (offSub hoff ?_))))
  · exact fun b hb => List.mem_append_right [c, rsa, ra, la, ta] hb
  · exact fa2 (.tail _ (.tail _ (.tail _ (.head _)))) (.tail _ (.tail _ (.tail _ (.tail _ (.head _)))))
theorem ls_la {w : World} {kt : Nat → Nat} {nl : Nat} {S : Str} {t6 : Nat} {z : Value} {st : StS} {d x q td tx er la ta : Nat} {o3 o4 : Obj} : ∀ r ∈ LS w kt x d q nl td tx er S t6 z st ++ [(la, o3), (ta, o4)], r.1 ∈ [er, q, x, d, tx, td] ++ [la, ta] := fun _ hr =>
  List.mem_map_of_mem (f := (·.1)) hr
theorem turn_dis {w : World} {kt : Nat → Nat} {nl : Nat} {S : Str} {t6 : Nat} {z : Value} {st : StS} {d x q td tx er c rsa ra la ta : Nat} {oc o1 o2 o3 o4 : Obj} {R3 : Ledger} (ho : d < x ∧ x < q ∧ q < td ∧ td < tx ∧ tx < er) (hLt : c < ta) (hlt : ta < la ∧ la < ra) (hrr : ra < rsa) (hrd : rsa < d)
    (hoff : OwnOff R3 [c, rsa, ra, la, ta, er, q, x, d, tx, td]) : ∀ p ∈ ([(c, oc), (rsa, o1), (ra, o2)] ++ R3 : Ledger), ∀ r ∈ LS w kt x d q nl td tx er S t6 z st ++ [(la, o3), (ta, o4)], r.1 ≠ p.1 := disOf ls_la (turn_pre ho hLt hlt hrr hrd hoff)
theorem turn_dis1 {w : World} {kt : Nat → Nat} {nl : Nat} {S : Str} {t6 : Nat} {z : Value} {st : StS} {d x q td tx er c rsa ra la ta : Nat} {oc o1 o2 o3 o4 : Obj} {R3 : Ledger} (ho : d < x ∧ x < q ∧ q < td ∧ td < tx ∧ tx < er) (hLt : c < ta) (hlt : ta < la ∧ la < ra) (hrr : ra < rsa) (hrd : rsa < d)
    (hoff : OwnOff R3 [c, rsa, ra, la, ta, er, q, x, d, tx, td]) : ∀ p ∈ ([(c, oc), (rsa, o1), (ra, o2)] ++ ((la, o3) :: (ta, o4) :: R3) : Ledger), ∀ r ∈ LS w kt x d q nl td tx er S t6 z st, r.1 ≠ p.1 := by
  refine disOf (adr := [er, q, x, d, tx, td]) (fun _ hr => List.mem_map_of_mem (f := (·.1)) hr) ?_
  have s := six_le ho
  have g1 := Nat.lt_trans hrr hrd
  have g2 := Nat.lt_trans hlt.2 g1
  have g3 := Nat.lt_trans hlt.1 g2
  exact offCons (neLt (Nat.lt_trans hLt g3) s) (offCons (neLt hrd s) (offCons (neLt g1 s) (offCons (neLt g2 s) (offCons (neLt g3 s) (offSub hoff fun b hb => List.mem_append_right [c, rsa, ra, la, ta] hb)))))
theorem lsq_adr {w : World} {kt kt0 : Nat → Nat} {x d q nl td tx er : Nat} {S : Str} {t6 : Nat} {o o0 : Option (Nat × Nat)} {st st0 : StS} {rsa ra la ta na c nrs u nt nl2 nr n3 : Nat} {vsT vsL : List Value} {a1 a2 : Array Value} {oc oc' : Obj} {tl : Ledger} :
    (LSq w kt x d q nl td tx er S t6 o st ++ ((rsa, listOf a1 nrs) :: (rowsL ta la ra u nt nl2 nr vsT vsL ++ ((c, oc) :: (na, listOf a2 n3) :: tl)))).map (·.1) = (LSq w kt0 x d q nl td tx er S t6 o0 st0 ++ ((rsa, listOf a1 nrs) :: (rowsL ta la ra u nt nl2 nr vsT vsL ++ ((c, oc') :: (na, listOf a2 n3) :: tl)))).map (·.1) := by
  cases o <;> cases o0 <;> rfl
/-- the signs of runs laid end to end -/
noncomputable def flat (rs : List RunT) : List Nat := rs.flatMap fun r => r.2.2.cps.toList
theorem flat_drop {rs : List RunT} {i : Nat} {r : RunT} (h : rs[i]? = some r) : flat (rs.drop i) = r.2.2.cps.toList ++ flat (rs.drop (i + 1)) := by
  obtain ⟨hi, e⟩ := List.getElem?_eq_some_iff.mp h
  unfold flat
  rw [List.drop_eq_getElem_cons hi, List.flatMap_cons, e]
theorem flat_take {rs : List RunT} {i : Nat} {r : RunT} (h : rs[i]? = some r) : flat (rs.take (i + 1)) = flat (rs.take i) ++ r.2.2.cps.toList := by
  obtain ⟨hi, e⟩ := List.getElem?_eq_some_iff.mp h
  unfold flat
  rw [List.take_succ, h, List.flatMap_append]
  simp
/-- what holds ahead of the i-th run -/
structure At2 (S : Str) (rs : List RunT) (i : Nat) (st : StS) (calm : Bool) (ln col : Int) : Prop where
  ok : StOk S st
  b : BufIs st.bufV st.b
  rem : remOf S st = flat (rs.drop i)
  E : st.errs.size + badCount (rawOf S st) = badCount (flat rs)
  B : Bads st.errs
  pos : calm = true → PosOk st ∧ consOf st = flat (rs.take i)
  ln : ln = 1 + linesOf (flat (rs.take i))
  col : col = colFrom 0 (flat (rs.take i))
theorem at2_zero {S : Str} {rs : List RunT} {oc9 i kd : Nat} {st : StS} (M : Made oc9 i kd S rs) (hi : i ≤ 12) (z : St0 st) : At2 S rs 0 st true 1 0 := by
  have hS : S.length ≤ 10000 := by have := M.hsz; omega
  refine ⟨st0_ok z hS, st0_buf z, ?_, ?_, st0_bads z, fun _ => ⟨⟨?_, ?_⟩, ?_⟩, rfl, rfl⟩
  · rw [st0_rem z, M.hnorm]; rfl
  · rw [st0_raw z, z.errs, M.hbad]; exact Nat.zero_add _
  · rw [z.pl, z.U]; rfl
  · rw [z.pc, z.U]; rfl
  · unfold consOf; rw [z.U, z.o]; rfl
theorem rem_not_nil {oc9 i kd j k : Nat} {S T : Str} {rs : List RunT} {n : Int} {X : Str} {st : StS} {calm : Bool} {ln col : Int} (M : Made oc9 i kd T rs) (hr : rs[j]? = some (n, k, X)) (A2 : At2 S rs j st calm ln col) (h : remOf S st = []) : False := by
  obtain ⟨p1, _, _⟩ := M.hX _ (List.mem_of_getElem? hr)
  have e := A2.rem
  rw [flat_drop hr, h] at e
  have e2 := (List.append_eq_nil_iff.mp e.symm).1
  have : X.length = 0 := by show X.cps.toList.length = 0; rw [e2]; rfl
  have p1' : 1 ≤ X.length := p1
  omega
noncomputable def kindOf (c : Nat) : Nat := if c < 30 then (if c = 1 then 2 else 0) else if c = 32 then 0 else if c = 97 ∨ c = 98 ∨ c = 233 then 1 else 2
theorem kind_0 : ∀ c ∈ ([32, 10, 9] : List Nat), kindOf c = 0 := by decide
theorem kind_1 : ∀ c ∈ ([97, 98, 233] : List Nat), kindOf c = 1 := by decide
theorem kind_2 : ∀ c ∈ ([38, 60, 1, 64976] : List Nat), kindOf c = 2 := by decide
theorem kind_big {c : Nat} (h : 256 ≤ c) : kindOf c = 2 := by
  unfold kindOf
  rw [if_neg (by omega), if_neg (by omega), if_neg (by omega)]
theorem disjoint_rows {oc9 a b c : Nat} (lo : 256 ≤ oc9) (ha : a < 3) (hb : b < 3) (h1 : c ∈ rowC oc9 a) (h2 : c ∈ rowC oc9 b) : a = b := by
  have key : ∀ k, k < 3 → c ∈ rowC oc9 k → k = kindOf c := fun k hk h => by
    rcases k with _ | _ | _ | k
    · exact (kind_0 c h).symm
    · exact (kind_1 c h).symm
    · rcases List.mem_append.mp (show c ∈ [38, 60, 1, 64976] ++ [oc9] from h) with h | h
      · exact (kind_2 c h).symm
      · exact (kind_big (List.mem_singleton.mp h ▸ lo)).symm
    · exact absurd hk (Nat.not_lt.mpr (Nat.le_add_left 3 k))
  exact (key a ha h1).trans (key b hb h2).symm
/-- reading along the signs of a kind gives the run back -/
theorem run_split {goes : Nat → Bool} {X R : List Nat} (hX : ∀ c ∈ X, goes c = true) (hR : ∀ c r, R = c :: r → goes c = false) : (X ++ R).takeWhile goes = X ∧ (X ++ R).dropWhile goes = R := by
  have := take_split (goes := goes) rfl hX hR
  exact ⟨this.1.symm, this.2.symm⟩
/-- the next run's first sign is of another kind -/
theorem next_head {oc9 i kd j : Nat} {T : Str} {rs : List RunT} {r : RunT} (M : Made oc9 i kd T rs) (lo : 256 ≤ oc9) (h : rs[j]? = some r) : ∀ c l, flat (rs.drop (j + 1)) = c :: l → c ∉ rowC oc9 r.2.1 ∧ ∃ k, k < 3 ∧ k ≠ r.2.1 ∧ c ∈ rowC oc9 k := by
  intro c l e
  cases h2 : rs[j + 1]? with
  | none =>
    rw [List.drop_of_length_le (List.getElem?_eq_none_iff.mp h2)] at e
    cases e
  | some r' =>
    rw [flat_drop h2] at e
    have hm' : r' ∈ rs := List.mem_of_getElem? h2
    have hm : r ∈ rs := List.mem_of_getElem? h
    obtain ⟨p1, p2, p3⟩ := M.hX r' hm'
    cases hx : r'.2.2.cps.toList with
    | nil =>
      have : r'.2.2.length = 0 := by show r'.2.2.cps.toList.length = 0; rw [hx]; rfl
      omega
    | cons a t =>
      rw [hx, List.cons_append] at e
      injection e with e1 e2
      have hc : c ∈ rowC oc9 r'.2.1 := p3 c (by rw [hx, ← e1]; exact .head _)
      have hne := M.hnb j r r' h h2
      exact ⟨fun hh => hne (disjoint_rows lo (M.hk r hm) (M.hk r' hm') hh hc), r'.2.1, M.hk r' hm', Ne.symm hne, hc⟩
theorem any_chars (cs : List Nat) (c : Nat) : ((cs.map fun c => (⟨#[c]⟩ : Str)).any (· == ⟨#[c]⟩)) = decide (c ∈ cs) := by
  induction cs with
  | nil => rfl
  | cons a r ih =>
    rw [List.map_cons, List.any_cons, ih]
    have e : ((⟨#[a]⟩ : Str) == ⟨#[c]⟩) = decide (a = c) := by
      rw [Bool.eq_iff_iff, beq_iff_eq, decide_eq_true_iff]
      constructor
      · intro h; injection h with h; injection h with h; injection h
      · rintro rfl; rfl
    rw [e]
    by_cases h : a = c
    · subst h; simp
    · have h' : ¬ c = a := fun e => h e.symm
      simp [h, h']
/-- «a sign in a row» -/
theorem intest_row (w : World) {oc9 ta la u nt nl k : Nat} {vsT vsL : List Value} (hR : RowsAt oc9 vsT vsL) (hk : k < 3) :
    InTest w (rowV ta la u k) (fun c => decide (c ∈ rowC oc9 k)) [(la, listOf vsL.toArray nl), (ta, { cls := .type "tuple", data := .seq vsT.toArray nt })] := by
  intro A E s X c t Q hX hO h
  subst hX
  rcases k with _ | _ | _ | k
  · have ht : IsTup s.heap ta vsT.toArray := ⟨_, hO _ (List.mem_cons_of_mem _ (.head _)), rfl, nt, rfl⟩
    refine in_tuple_strs (ys := ([32, 10, 9] : List Nat).map fun c => ⟨#[c]⟩) ht hR.T ?_
    rw [any_chars]; exact h s.toks
  · refine in_str ?_
    rw [StrLaws.found_one]
    have e : (Str.ofString "abé").cps.toList = [97, 98, 233] := by decide +kernel
    rw [e]; exact h s.toks
  · have hl : s.heap.IsList la vsL.toArray := ⟨_, hO _ (.head _), rfl, nl, rfl⟩
    refine in_list_strs (ys := ([38, 60, 1, 64976, oc9] : List Nat).map fun c => ⟨#[c]⟩) hl hR.L ?_
    rw [any_chars]; exact h s.toks
  · exact absurd hk (by omega)
/-- the run came -/
structure Got (S : Str) (rs : List RunT) (j : Nat) (st : StS) (X : List Nat) (st' : StS) : Prop where
  ok : StOk S st'
  b : BufIs st'.bufV st'.b
  took : Took S st X st'
  rem : remOf S st' = flat (rs.drop (j + 1))
theorem got_until {oc9 i kd j k : Nat} {S T : Str} {rs : List RunT} {n : Int} {X r : Str} {st st' : StS} {calm : Bool} {ln col : Int} {goes : Nat → Bool} (M : Made oc9 i kd T rs) (lo : 256 ≤ oc9) (hr : rs[j]? = some (n, k, X)) (A2 : At2 S rs j st calm ln col)
    (hg1 : ∀ c, c ∈ rowC oc9 k → goes c = true) (hg2 : ∀ c k', k' < 3 → k' ≠ k → c ∈ rowC oc9 k' → goes c = false) (u : UntilR S st goes r.cps.toList st') : r = X ∧ Got S rs j st X.cps.toList st' := by
  have hm : (n, k, X) ∈ rs := List.mem_of_getElem? hr
  obtain ⟨p1, p2, p3⟩ := M.hX _ hm
  have hs := run_split (goes := goes) (X := X.cps.toList) (R := flat (rs.drop (j + 1))) (fun c hc => hg1 c (p3 c hc)) (fun c l e => by
    obtain ⟨_, k', h1, h2, h3⟩ := next_head M lo hr c l e
    exact hg2 c k' h1 h2 h3)
  have e := A2.rem
  rw [flat_drop hr] at e
  have e1 : r.cps.toList = X.cps.toList := by rw [u.r, e]; exact hs.1
  have e2 : r = X := by
    cases r with
    | mk a => cases X with
      | mk b => exact congrArg Str.mk (Array.toList_inj.mp e1)
  refine ⟨e2, u.ok, u.b, e1 ▸ u.took, ?_⟩
  rw [u.rem, e]; exact hs.2
/-- along the row's own signs -/
theorem got_along {oc9 i kd j k : Nat} {S T : Str} {rs : List RunT} {n : Int} {X r : Str} {st st' : StS} {calm : Bool} {ln col : Int} (M : Made oc9 i kd T rs) (lo : 256 ≤ oc9) (hr : rs[j]? = some (n, k, X)) (A2 : At2 S rs j st calm ln col)
    (u : UntilR S st (fun c => decide (c ∈ rowC oc9 k) == true) r.cps.toList st') : r = X ∧ Got S rs j st X.cps.toList st' := by
  have hk : k < 3 := M.hk _ (List.mem_of_getElem? hr)
  refine got_until M lo hr A2 (fun c hc => by simp [hc]) (fun c k' h1 h2 h3 => ?_) u
  have : c ∉ rowC oc9 k := fun h => h2 (disjoint_rows lo h1 hk h3 h)
  simp [this]
theorem item_zero {oc9 i kd j k c0 : Nat} {S T : Str} {rs : List RunT} {n : Int} {X : Str} {st st1 : StS} {calm : Bool} {ln col : Int} (M : Made oc9 i kd T rs) (hr : rs[j]? = some (n, k, X)) (A2 : At2 S rs j st calm ln col) (t1 : Took S st [c0] st1) :
    Txt.item X 0 = ⟨#[c0]⟩ ∧ -(X.length : Int) ≤ 0 ∧ (0 : Int) < X.length := by
  obtain ⟨p1, _, _⟩ := M.hX _ (List.mem_of_getElem? hr)
  have p1' : 1 ≤ X.length := p1
  have e := A2.rem
  rw [flat_drop hr, t1.rem] at e
  refine ⟨?_, by omega, by omega⟩
  have h := item_nat X (e := 0) (by omega)
  have h2 : Txt.item X 0 = ⟨#[X.cps.toList.getD 0 0]⟩ := h
  rw [h2]
  cases hx : X.cps.toList with
  | nil =>
    have : X.length = 0 := by show X.cps.toList.length = 0; rw [hx]; rfl
    omega
  | cons a l =>
    have e' : [c0] ++ remOf S st1 = (a :: l) ++ flat (rs.drop (j + 1)) := by rw [← hx]; exact e
    injection e' with e1 _
    rw [← e1]; rfl
/-- a sign taken off and the rest of the run -/
theorem got_char {oc9 i kd j k c0 : Nat} {S T : Str} {rs : List RunT} {n : Int} {X r : Str} {st st1 st' : StS} {calm : Bool} {ln col : Int} (M : Made oc9 i kd T rs) (lo : 256 ≤ oc9) (hr : rs[j]? = some (n, k, X)) (A2 : At2 S rs j st calm ln col)
    (ok1 : StOk S st1) (t1 : Took S st [c0] st1) (u : UntilR S st1 (fun c => decide (c ∈ rowC oc9 k) == true) r.cps.toList st') : X.cps.toList.head? = some c0 ∧ (⟨#[c0]⟩ ++ r : Str) = X ∧ Got S rs j st X.cps.toList st' := by
  have hm : (n, k, X) ∈ rs := List.mem_of_getElem? hr
  have hk : k < 3 := M.hk _ hm
  obtain ⟨p1, p2, p3⟩ := M.hX _ hm
  have e := A2.rem
  rw [flat_drop hr, t1.rem] at e
  show _ ∧ _ ∧ _
  cases hx : X.cps.toList with
  | nil =>
    have : X.length = 0 := by show X.cps.toList.length = 0; rw [hx]; rfl
    omega
  | cons a l =>
    have e' : [c0] ++ remOf S st1 = (a :: l) ++ flat (rs.drop (j + 1)) := by rw [← hx]; exact e
    injection e' with e1 e2
    subst e1
    have hs := run_split (goes := fun c => decide (c ∈ rowC oc9 k) == true) (X := l) (R := flat (rs.drop (j + 1))) (fun c hc => by
      have : c ∈ rowC oc9 k := p3 c (by show c ∈ X.cps.toList; rw [hx]; exact List.mem_cons_of_mem _ hc)
      simp [this]) (fun c l' e3 => by
      have := (next_head M lo hr c l' e3).1
      simp [this])
    have e3 : remOf S st1 = l ++ flat (rs.drop (j + 1)) := e2
    have e4 : r.cps.toList = l := by rw [u.r, e3]; exact hs.1
    have e5 : (⟨#[c0]⟩ ++ r : Str).cps.toList = X.cps.toList := by rw [cat_list, e4, hx]; rfl
    have e6 : (⟨#[c0]⟩ ++ r : Str) = X := by
      cases hh : (⟨#[c0]⟩ ++ r : Str) with
      | mk a' => cases X with
        | mk b' =>
          rw [hh] at e5
          exact congrArg Str.mk (Array.toList_inj.mp e5)
    refine ⟨rfl, e6, u.ok, u.b, ?_, by rw [u.rem, e3]; exact hs.2⟩
    have h := t1.trans u.took
    rw [e4] at h
    exact h
theorem cat_short {oc9 i kd j k c0 : Nat} {T : Str} {rs : List RunT} {n : Int} {X r : Str} (M : Made oc9 i kd T rs) (hr : rs[j]? = some (n, k, X)) (e : (⟨#[c0]⟩ ++ r : Str) = X) : r.length ≤ 8 := by
  obtain ⟨_, p2, _⟩ := M.hX _ (List.mem_of_getElem? hr)
  have p2' : X.length ≤ 8 := p2
  have e2 : (⟨#[c0]⟩ ++ r : Str).cps.toList = c0 :: r.cps.toList := by rw [cat_list]; rfl
  have e3 : X.length = r.length + 1 := by
    show X.cps.toList.length = r.cps.toList.length + 1
    rw [← e, e2]; rfl
  omega
section
variable {oc9 i kd j k : Nat} {S T : Str} {rs : List RunT} {n : Int} {X : Str} {st : StS} {calm : Bool} {ln col : Int} {F : StS → Ledger}
theorem got_alongP (M : Made oc9 i kd T rs) (lo : 256 ≤ oc9) (hr : rs[j]? = some (n, k, X)) (A2 : At2 S rs j st calm ln col) :
    ∀ (v : Value) (E' : Ledger), (∃ r t st', v = .str r t ∧ E' = F st' ∧ UntilR S st (fun c => decide (c ∈ rowC oc9 k) == true) r.cps.toList st') → ∃ t st', v = .str X t ∧ E' = F st' ∧ Got S rs j st X.cps.toList st' := fun _ _ ⟨_, t, st', h1, h2, u⟩ => by
  obtain ⟨rfl, G⟩ := got_along M lo hr A2 u
  exact ⟨t, st', h1, h2, G⟩
theorem first_charP (M : Made oc9 i kd T rs) (hr : rs[j]? = some (n, k, X)) (A2 : At2 S rs j st calm ln col) :
    ∀ (v : Value) (E' : Ledger), (∃ st', E' = F st' ∧ CharR S st v st') → ∃ c0 t st1, v = .str ⟨#[c0]⟩ t ∧ E' = F st1 ∧ (StOk S st1 ∧ BufIs st1.bufV st1.b ∧ Took S st [c0] st1) := fun _ _ ⟨st', h1, ok, b, h⟩ => by
  rcases h with ⟨c, t, e, tk⟩ | ⟨_, hnil, _⟩
  · exact ⟨c, t, st', e, h1, ok, b, tk⟩
  · exact (rem_not_nil M hr A2 hnil).elim
theorem got_charP {c0 : Nat} {st1 : StS} (M : Made oc9 i kd T rs) (lo : 256 ≤ oc9) (hr : rs[j]? = some (n, k, X)) (A2 : At2 S rs j st calm ln col) (ok1 : StOk S st1) (t1 : Took S st [c0] st1) :
    ∀ (v : Value) (E' : Ledger), (∃ r t st', v = .str r t ∧ E' = F st' ∧ UntilR S st1 (fun c => decide (c ∈ rowC oc9 k) == true) r.cps.toList st') → ∃ r t st', v = .str r t ∧ E' = F st' ∧ ((⟨#[c0]⟩ ++ r : Str) = X ∧ Got S rs j st X.cps.toList st') := fun _ _ ⟨r, t, st', h1, h2, u⟩ =>
  ⟨r, t, st', h1, h2, (got_char M lo hr A2 ok1 t1 u).2⟩
end
section
open PyProof.Rows.LCg
section
variable {prog : Program} {w : World} {A : Around} {E : Value → Shared → Prop} {s : Shared}
/-- an index counted back from k -/
theorem back_dec : ∀ k ∈ List.range 3, ∀ e ∈ List.range 3, e = 0 ∨ (0 ≤ (k : Int) - (e : Int) ∧ ((k : Int) - (e : Int)).toNat = (k + 3 - e) % 3 ∧ (k : Int) - (e : Int) < 2 ^ 63) ∨ ((k : Int) - (e : Int) < 0 ∧ ((k : Int) - (e : Int) + 3).toNat = (k + 3 - e) % 3 ∧ -(3 : Int) ≤ (k : Int) - (e : Int)) := by decide
theorem item_back {value slice : Expr} {l : Addr} {ta la u0 u : Nat} {Q : Value → Shared → Prop} {z : Int} (hl : s.heap.IsList l ([.ref ta, .str (Str.ofString "abé") u0, .ref la] : List Value).toArray) (k e : Nat) (hk : k < 3) (he : 1 ≤ e ∧ e ≤ 2) (hz : z = (k : Int) - (e : Int)) (h : Q (rowV ta la u0 ((k + 3 - e) % 3)) s)
    (hs : subscripted slice false (.ref l) (.int z u) = operate [.ref l, .int z u] (getItem (.ref l) (.int z u))) (hg : ∀ r, letTemporaryGo value (.ref l) r = pure ()) :
    wpAny (model prog w) A (subscriptTail value slice (.ref l) (.int z u)) Q E s := by
  have hm : (k + 3 - e) % 3 < 3 := Nat.mod_lt _ (by decide)
  subst hz
  rcases back_dec k (List.mem_range.mpr hk) e (List.mem_range.mpr (Nat.lt_succ_of_le he.2)) with d | d | d
  · exact absurd he.1 (by rw [d]; decide)
  · refine item_listL hl d.1 d.2.2 ?_ h hs hg
    rw [d.2.1]; exact rowV_get hm
  · refine subscriptTail_builtin hl.typeIs slot_list_getitem.lookup (wpAny_getItem_list_neg hl d.1 d.2.2 (by omega) ?_ h) hs hg
    show (#[Value.ref ta, .str (Str.ofString "abé") u0, .ref la] : Array Value)[((k : Int) - (e : Int) + 3).toNat]? = _
    rw [d.2.1]; simpa using rowV_get (ta := ta) (la := la) (u := u0) hm
end
/-- pairs of the signs so far -/
noncomputable def PairsIn (ys : List Value) (own : Ledger) (cs : List Nat) : Prop := ys.length = cs.length ∧ ∀ (j : Nat) (c : Nat), cs[j]? = some c → ∃ (T t : Nat) (v : Value), ys[j]? = some (Value.ref T) ∧ ((T, tup2 (.str ⟨#[c]⟩ t) v) : Addr × Obj) ∈ own
theorem pairs_nil : PairsIn [] [] [] := ⟨rfl, fun j c h => by simp at h⟩
theorem pairs_snoc {ys : List Value} {own : Ledger} {cs : List Nat} {T t c : Nat} {v : Value} (h : PairsIn ys own cs) : PairsIn (ys ++ [.ref T]) ([(T, tup2 (.str ⟨#[c]⟩ t) v)] ++ own) (cs ++ [c]) := by
  refine ⟨by rw [List.length_append, List.length_append, h.1]; rfl, fun i c' e => ?_⟩
  by_cases hi : i < cs.length
  · rw [List.getElem?_append_left hi] at e
    obtain ⟨T', a, b, h1, h2⟩ := h.2 i c' e
    exact ⟨T', a, b, by rw [List.getElem?_append_left (by rw [h.1]; exact hi)]; exact h1, List.mem_append_right _ h2⟩
  · have hi' : i = cs.length := by
      have := (List.getElem?_eq_some_iff.mp e).1
      rw [List.length_append, List.length_singleton] at this
      omega
    subst hi'
    rw [List.getElem?_append_right (Nat.le_refl _), Nat.sub_self] at e
    injection e with e
    cases e
    refine ⟨T, t, v, ?_, List.mem_append_left _ List.mem_cons_self⟩
    rw [List.getElem?_append_right (by rw [h.1]; exact Nat.le_refl _), h.1, Nat.sub_self]; rfl
theorem pairs_at {h : Heap} {ys : List Value} {own : Ledger} {cs : List Nat} (p : PairsIn ys own cs) (hown : ∀ p ∈ own, h.get? p.1 = some p.2) : PairsAt h ys (cs.map fun c => ⟨#[c]⟩) := by
  refine ⟨by rw [List.length_map]; exact p.1, fun i x e => ?_⟩
  rw [List.getElem?_map] at e
  cases hc : cs[i]? with
  | none => rw [hc] at e; cases e
  | some c =>
    rw [hc] at e
    cases e
    obtain ⟨T, t, v, h1, h2⟩ := p.2 i c hc
    exact ⟨T, _, t, v, _, h1, hown _ h2, rfl, rfl⟩
/-- the other rows' signs -/
noncomputable def othC (oc9 k : Nat) : List Nat := rowC oc9 ((k + 2) % 3) ++ rowC oc9 ((k + 1) % 3)
theorem oth_three : ∀ k, k < 3 → ∀ k', k' < 3 → k' ≠ k → k' = (k + 2) % 3 ∨ k' = (k + 1) % 3 := by decide
theorem oth_ne : ∀ k, k < 3 → (k + 2) % 3 ≠ k ∧ (k + 1) % 3 ≠ k := by decide
theorem mem_oth {oc9 k c : Nat} (hk : k < 3) : c ∈ othC oc9 k ↔ ∃ k', k' < 3 ∧ k' ≠ k ∧ c ∈ rowC oc9 k' := by
  unfold othC
  rw [List.mem_append]
  constructor
  · rintro (h | h)
    · exact ⟨_, Nat.mod_lt _ (by decide), (oth_ne k hk).1, h⟩
    · exact ⟨_, Nat.mod_lt _ (by decide), (oth_ne k hk).2, h⟩
  · rintro ⟨k', h1, h2, h3⟩
    rcases oth_three k hk k' h1 h2 with h | h
    · exact .inl (h ▸ h3)
    · exact .inr (h ▸ h3)
theorem got_oth {oc9 i kd j k : Nat} {S T : Str} {rs : List RunT} {n : Int} {X r : Str} {st st' : StS} {calm : Bool} {ln col : Int} (M : Made oc9 i kd T rs) (lo : 256 ≤ oc9) (hr : rs[j]? = some (n, k, X)) (A2 : At2 S rs j st calm ln col)
    (u : UntilR S st (fun c => decide (c ∈ othC oc9 k) == false) r.cps.toList st') : r = X ∧ Got S rs j st X.cps.toList st' := by
  have hk : k < 3 := M.hk _ (List.mem_of_getElem? hr)
  refine got_until M lo hr A2 (fun c hc => ?_) (fun c k' h1 h2 h3 => ?_) u
  · have : c ∉ othC oc9 k := fun h => by
      obtain ⟨k', h1, h2, h3⟩ := (mem_oth hk).mp h
      exact h2 (disjoint_rows lo h1 hk h3 hc)
    simp [this]
  · have : c ∈ othC oc9 k := (mem_oth hk).mpr ⟨k', h1, h2, h3⟩
    simp [this]
theorem strs_get {vs : List Value} {cs : List Nat} (h : StrsAre vs (cs.map fun c => ⟨#[c]⟩)) {i : Nat} {v : Value} (e : vs[i]? = some v) : ∃ t, v = .str ⟨#[cs.getD i 0]⟩ t := by
  induction cs generalizing vs i with
  | nil => cases h; simp at e
  | cons c cs ih =>
    cases h with
    | cons x t h =>
      cases i with
      | zero => simp at e; exact ⟨_, e.symm⟩
      | succ i => simp at e; simpa using ih h e
/-- a row as a clause's iterable -/
theorem row_iter {prog : Program} {w : World} {A : Around} {y : Str} {py : Pos} {oc9 ta la u nt nl k : Nat} {vsT vsL : List Value} {R : Ledger} (hh : A.handled = none) (hR : RowsAt oc9 vsT vsL) (hk : k < 3)
    (h1 : ((la, listOf vsL.toArray nl) : Addr × Obj) ∈ R) (h2 : ((ta, { cls := .type "tuple", data := .seq vsT.toArray nt }) : Addr × Obj) ∈ R) :
    ∃ P : Nat → Value → Prop, IterOk prog w A (.Name y py) (rowV ta la u k) R (rowC oc9 k).length P ∧ ∀ i v, i < (rowC oc9 k).length → P i v → ∃ t, v = .str ⟨#[(rowC oc9 k).getD i 0]⟩ t := by
  rcases k with _ | _ | _ | k
  · have hl := chars_are hR.T
    refine ⟨_, (show IterOk prog w A (.Name y py) (.ref ta) R 3 (fun i v => vsT.toArray[i]? = some v) from ?_), fun i v _ e => strs_get hR.T (by simpa using e)⟩
    have := iter_tup (prog := prog) (w := w) (t := .Name y py) hh rfl rfl h2
    rwa [List.size_toArray, hl] at this
  · have e : (Str.ofString "abé").cps.toList = [97, 98, 233] := by decide +kernel
    refine ⟨_, (show IterOk prog w A (.Name y py) (.str (Str.ofString "abé") u) R 3 (SignAt (Str.ofString "abé")) from iter_str hh), fun i v hi p => ?_⟩
    obtain ⟨c, t, hc, rfl⟩ := p
    rw [← Array.getElem?_toList, e] at hc
    have e2 : (rowC oc9 (0 + 1)).getD i 0 = c := by
      rw [List.getD_eq_getElem?_getD]
      show (([97, 98, 233] : List Nat)[i]?).getD 0 = c
      rw [hc]; rfl
    exact ⟨t, by rw [e2]⟩
  · have hl := chars_are hR.L
    refine ⟨_, (show IterOk prog w A (.Name y py) (.ref la) R 5 (fun i v => vsL.toArray[i]? = some v) from ?_), fun i v _ e => strs_get hR.L (by simpa using e)⟩
    have := iter_list (prog := prog) (w := w) (t := .Name y py) hh rfl rfl h1
    rwa [List.size_toArray, hl] at this
  · exact absurd hk (by omega)
noncomputable def othTo (oc9 k : Nat) : Nat → List Nat
  | 0 => []
  | 1 => rowC oc9 ((k + 2) % 3)
  | _ => othC oc9 k
theorem oth_item {oc9 ta la u k i : Nat} {v : Value} (hi : i < 2) (h : (#[rowV ta la u ((k + 3 - 1) % 3), rowV ta la u ((k + 3 - 2) % 3)] : Array Value)[i]? = some v) : ∃ k', k' < 3 ∧ v = rowV ta la u k' ∧ othTo oc9 k (i + 1) = othTo oc9 k i ++ rowC oc9 k' := by
  rcases i with _ | _ | i
  · simp at h; exact ⟨(k + 2) % 3, Nat.mod_lt _ (by decide), h.symm, rfl⟩
  · simp at h; exact ⟨(k + 1) % 3, Nat.mod_lt _ (by decide), h.symm, rfl⟩
  · exact absurd hi (by omega)
theorem rowC_len (oc9 k : Nat) : (rowC oc9 k).length ≤ 5 := by
  unfold rowC; split
  · simp
  · split <;> simp
theorem oth_len (oc9 k i : Nat) : (othTo oc9 k i).length ≤ 10 := by
  have h1 := rowC_len oc9 ((k + 2) % 3)
  have h2 := rowC_len oc9 ((k + 1) % 3)
  rcases i with _ | _ | i
  · exact Nat.zero_le _
  · exact Nat.le_trans h1 (by decide)
  · show (othC oc9 k).length ≤ 10
    unfold othC; rw [List.length_append]; omega
theorem pairs_size {ys : List Value} {own : Ledger} {oc9 k i k' j : Nat} (h : PairsIn ys own (othTo oc9 k i ++ (rowC oc9 k').take j)) : ys.length ≤ sizeLine := by
  have h1 := oth_len oc9 k i
  have h2 := rowC_len oc9 k'
  rw [h.1, List.length_append, List.length_take, sizeLine_eq]
  omega
theorem pairs_step {ys : List Value} {own : Ledger} {as cs : List Nat} {j T t : Nat} {v : Value} (h : PairsIn ys own (as ++ cs.take j)) (hj : j < cs.length) : PairsIn (ys ++ [.ref T]) ([(T, tup2 (.str ⟨#[cs.getD j 0]⟩ t) v)] ++ own) (as ++ cs.take (j + 1)) := by
  rw [take_next hj, ← List.append_assoc]
  exact pairs_snoc h
theorem pairs_end {ys : List Value} {own : Ledger} {oc9 k i k' : Nat} (e : othTo oc9 k (i + 1) = othTo oc9 k i ++ rowC oc9 k') (h : PairsIn ys own (othTo oc9 k i ++ (rowC oc9 k').take (rowC oc9 k').length)) : PairsIn ys own (othTo oc9 k (i + 1)) := by
  rw [e]; rwa [List.take_length] at h
theorem off4 {T I2 I C D : Nat} {o : Obj} (h1 : I2 < T) (h2 : I < T) (h3 : C < T) (h4 : D < T) : OwnOff ([(T, o)] : Ledger) [I2, I, C, D] := by
  intro p hp b hb
  rw [List.mem_singleton.mp hp]
  simp only [List.mem_cons, List.not_mem_nil, or_false] at hb
  rcases hb with rfl | rfl | rfl | rfl <;> exact Nat.ne_of_gt (by assumption)
theorem news_dup {h₀ h : Heap} {L : Addr} {p : Addr × Obj} {A : Ledger} (N : News h₀ L h A) (hp : p ∈ A) : News h₀ L h (p :: A) := fun q hq => by
  rcases List.mem_cons.mp hq with rfl | hq
  · exact N _ hp
  · exact N _ hq
theorem way_inner {prog : Program} {w : World} {A : Around} {h₀ : Heap} {L : Addr} {m : Str → Option Value} {env : Env} {elt : Expr} {y : Str} {py : Pos} {ifs : List Expr} {scope : Scope} {cl : List (Str × Addr)} {s : Shared} {oc9 ta la u nt nl k i k' : Nat} {vsT vsL : List Value} {R : Ledger} (hh : A.handled = none) (hR : RowsAt oc9 vsT vsL) (hk : k' < 3)
    (hstep : othTo oc9 k (i + 1) = othTo oc9 k i ++ rowC oc9 k') (h1 : ((la, listOf vsL.toArray nl) : Addr × Obj) ∈ R) (h2 : ((ta, { cls := .type "tuple", data := .seq vsT.toArray nt }) : Addr × Obj) ∈ R)
    (turns : ∀ P2 : Nat → Value → Prop, (∀ i v, i < (rowC oc9 k').length → P2 i v → ∃ t, v = .str ⟨#[(rowC oc9 k').getD i 0]⟩ t) → InTurns prog w A h₀ L m env elt y ifs scope cl s R (rowC oc9 k').length P2 (fun j ys own => PairsIn ys own (othTo oc9 k i ++ (rowC oc9 k').take j))) :
    ∃ (n2 : Nat) (P2 : Nat → Value → Prop) (J2 : Nat → List Value → Ledger → Prop), IterOk prog w A (.Name y py) (rowV ta la u k') R n2 P2 ∧ (∀ ys own, PairsIn ys own (othTo oc9 k i) → J2 0 ys own) ∧ (∀ j ys own, J2 j ys own → ys.length ≤ sizeLine) ∧
      InTurns prog w A h₀ L m env elt y ifs scope cl s R n2 P2 J2 ∧ ∀ ys own, J2 n2 ys own → PairsIn ys own (othTo oc9 k (i + 1)) := by
  obtain ⟨P2, it2, hv2⟩ := row_iter (prog := prog) (w := w) (y := y) (py := py) hh hR hk h1 h2
  exact ⟨_, P2, _, it2, fun ys own h => by simpa using h, fun _ _ _ h => pairs_size h, turns P2 hv2, fun ys own h => pairs_end hstep h⟩
theorem dict_news {h₀ h h8 : Heap} {L : Addr} {m : Str → Option Value} {A : Ledger} {o8 : Obj} (F : Fr h₀ L h m) (N : News h₀ L h A) (hlow : h₀.NoLimit) (e8 : h8.get? h.objs.size = some o8) (up : ∀ b o, h.get? b = some o → h8.get? b = some o) :
    Fr h₀ L h8 m ∧ News h₀ L h8 ((h.objs.size, o8) :: A) ∧ (h.objs.size == sysModules) = false ∧ ∀ p ∈ A, @LT.lt Nat _ p.1 h.objs.size := by
  refine ⟨F.keeps up, fun p hp => ?_, F.notModules (modules_low hlow), fun p hp => Heap.lt_size (N p hp).1⟩
  rcases List.mem_cons.mp hp with rfl | hp
  · refine ⟨e8, Nat.ne_of_gt F.ns.lt, ?_⟩
    cases e : h₀.get? h.objs.size with
    | none => rfl
    | some o => exact absurd (Heap.lt_size (F.keep _ _ e)) (Nat.lt_irrefl _)
  · exact N.grown up p hp
theorem mem_dict {p a b r1 r2 r3 dd x z : Addr × Obj} {A R3 own : Ledger} (h : p ∈ a :: b :: r1 :: ((A ++ [dd]) ++ (r2 :: r3 :: R3))) : p ∈ dd :: x :: (own ++ (z :: a :: b :: r1 :: (A ++ (r2 :: r3 :: R3)))) := by
  have up : ∀ q, q ∈ a :: b :: r1 :: (A ++ (r2 :: r3 :: R3)) → q ∈ dd :: x :: (own ++ (z :: a :: b :: r1 :: (A ++ (r2 :: r3 :: R3)))) := fun q hq => .tail _ (.tail _ (List.mem_append_right own (.tail _ hq)))
  have hA : ∀ q, q ∈ A ++ (r2 :: r3 :: R3) → q ∈ dd :: x :: (own ++ (z :: a :: b :: r1 :: (A ++ (r2 :: r3 :: R3)))) := fun q hq => up q (.tail _ (.tail _ (.tail _ hq)))
  have k : a :: b :: r1 :: ((A ++ [dd]) ++ (r2 :: r3 :: R3)) ⊆ dd :: x :: (own ++ (z :: a :: b :: r1 :: (A ++ (r2 :: r3 :: R3)))) :=
    List.cons_subset.mpr ⟨up _ (.head _), List.cons_subset.mpr ⟨up _ (.tail _ (.head _)), List.cons_subset.mpr ⟨up _ (.tail _ (.tail _ (.head _))), List.append_subset.mpr ⟨List.append_subset.mpr ⟨fun q hq => hA q (List.mem_append_left _ hq), List.cons_subset.mpr ⟨.head _, List.nil_subset _⟩⟩, fun q hq => hA q (List.mem_append_right _ hq)⟩⟩⟩⟩
  exact k h
theorem mem_dict' {p a b r1 r2 r3 dd : Addr × Obj} {A R3 : Ledger} (h : p ∈ a :: (A ++ (b :: ([r1, r2, r3] ++ R3)))) : p ∈ a :: b :: r1 :: ((A ++ [dd]) ++ (r2 :: r3 :: R3)) := by
  have u : ∀ q, q ∈ (A ++ [dd]) ++ (r2 :: r3 :: R3) → q ∈ a :: b :: r1 :: ((A ++ [dd]) ++ (r2 :: r3 :: R3)) := fun q hq => .tail _ (.tail _ (.tail _ hq))
  have k : a :: (A ++ (b :: ([r1, r2, r3] ++ R3))) ⊆ a :: b :: r1 :: ((A ++ [dd]) ++ (r2 :: r3 :: R3)) := List.cons_subset.mpr ⟨.head _, List.append_subset.mpr ⟨fun q hq => u q (List.mem_append_left _ (List.mem_append_left _ hq)), List.cons_subset.mpr ⟨.tail _ (.head _), List.cons_subset.mpr ⟨.tail _ (.tail _ (.head _)), List.cons_subset.mpr ⟨u _ (List.mem_append_right _ (.head _)), List.cons_subset.mpr ⟨u _ (List.mem_append_right _ (.tail _ (.head _))), fun q hq => u q (List.mem_append_right _ (.tail _ (.tail _ hq)))⟩⟩⟩⟩⟩⟩
  exact k h
theorem dict_ob {d x q td tx er D : Nat} {o : Obj} (h1 : er < D) (h2 : q < D) (h3 : x < D) (h4 : d < D) (h5 : tx < D) (h6 : td < D) : OwnOff ([(D, o)] : Ledger) [er, q, x, d, tx, td] := by
  intro p hp b hb
  rw [List.mem_singleton.mp hp]
  simp only [List.mem_cons, List.not_mem_nil, or_false] at hb
  rcases hb with rfl | rfl | rfl | rfl | rfl | rfl <;> exact Nat.ne_of_gt (by assumption)
theorem turn_disD {w : World} {kt : Nat → Nat} {nl : Nat} {S : Str} {t6 : Nat} {z : Value} {st : StS} {d x q td tx er c rsa ra la ta D : Nat} {oc o1 o2 o3 o4 o5 : Obj} {R3 : Ledger} (ho : d < x ∧ x < q ∧ q < td ∧ td < tx ∧ tx < er) (hLt : c < ta) (hlt : ta < la ∧ la < ra) (hrr : ra < rsa) (hrd : rsa < d)
    (hoff : OwnOff R3 [c, rsa, ra, la, ta, er, q, x, d, tx, td]) (hD : ∀ p ∈ ([(c, oc), (rsa, o1), (ra, o2)] ++ ((la, o3) :: (ta, o4) :: R3) : Ledger), @LT.lt Nat _ p.1 D) : ∀ p ∈ ([(c, oc), (rsa, o1), (ra, o2)] ++ ((la, o3) :: (ta, o4) :: R3) : Ledger), ∀ r ∈ LS w kt x d q nl td tx er S t6 z st ++ [(D, o5)], r.1 ≠ p.1 := by
  intro p hp r hr
  rcases List.mem_append.mp hr with hr | hr
  · exact turn_dis1 ho hLt hlt hrr hrd hoff p hp r hr
  · rw [List.mem_singleton.mp hr]
    exact Nat.ne_of_gt (hD p hp)
theorem mem_dis {p a b r1 r2 r3 x z : Addr × Obj} {A R3 own : Ledger} (h : p ∈ [a, b, r1] ++ (r2 :: r3 :: R3)) : p ∈ x :: (own ++ (z :: a :: b :: r1 :: (A ++ (r2 :: r3 :: R3)))) := by
  have u : ∀ q, q ∈ a :: b :: r1 :: (A ++ (r2 :: r3 :: R3)) → q ∈ x :: (own ++ (z :: a :: b :: r1 :: (A ++ (r2 :: r3 :: R3)))) := fun q hq => .tail _ (List.mem_append_right own (.tail _ hq))
  have k : [a, b, r1] ++ (r2 :: r3 :: R3) ⊆ x :: (own ++ (z :: a :: b :: r1 :: (A ++ (r2 :: r3 :: R3)))) := List.cons_subset.mpr ⟨u _ (.head _), List.cons_subset.mpr ⟨u _ (.tail _ (.head _)), List.cons_subset.mpr ⟨u _ (.tail _ (.tail _ (.head _))), fun q hq => u q (.tail _ (.tail _ (.tail _ (List.mem_append_right A hq))))⟩⟩⟩
  exact k h
theorem oth_1000 {ys : List Value} {own : Ledger} {oc9 k i : Nat} (h : PairsIn ys own (othTo oc9 k i)) : ys.length ≤ 1000 := by
  have := oth_len oc9 k i
  rw [h.1]; omega
theorem ls_lt {w : World} {kt : Nat → Nat} {x d q nl td tx er : Nat} {S : Str} {t6 : Nat} {z : Value} {st : StS} {X a b r1 y : Addr × Obj} {own RR : Ledger} {D : Nat} (h : ∀ p ∈ y :: (own ++ (X :: a :: b :: r1 :: (LS w kt x d q nl td tx er S t6 z st ++ RR))), @LT.lt Nat _ p.1 D) : er < D ∧ q < D ∧ x < D ∧ d < D ∧ tx < D ∧ td < D := by
  have k : ∀ p ∈ LS w kt x d q nl td tx er S t6 z st, @LT.lt Nat _ p.1 D := fun p hp => h p (.tail _ (List.mem_append_right _ (.tail _ (.tail _ (.tail _ (.tail _ (List.mem_append_left _ hp)))))))
  simp only [LS, SX, TL, List.cons_append, List.nil_append] at k
  refine ⟨k _ (.head _), k _ (.tail _ (.head _)), k _ (.tail _ (.tail _ (.head _))), k _ (.tail _ (.tail _ (.tail _ (.head _)))), k _ (.tail _ (.tail _ (.tail _ (.tail _ (.head _))))), k _ (.tail _ (.tail _ (.tail _ (.tail _ (.tail _ (.head _))))))⟩
theorem got_othP {oc9 i kd j k : Nat} {S T : Str} {rs : List RunT} {n : Int} {X : Str} {st : StS} {calm : Bool} {ln col : Int} {F : StS → Ledger} (M : Made oc9 i kd T rs) (lo : 256 ≤ oc9) (hr : rs[j]? = some (n, k, X)) (A2 : At2 S rs j st calm ln col) :
    ∀ (v : Value) (E' : Ledger), (∃ r t st', v = .str r t ∧ E' = F st' ∧ UntilR S st (fun c => decide (c ∈ othC oc9 k) == false) r.cps.toList st') → ∃ t st', v = .str X t ∧ E' = F st' ∧ Got S rs j st X.cps.toList st' := fun _ _ ⟨_, t, st', h1, h2, u⟩ => by
  obtain ⟨rfl, G⟩ := got_oth M lo hr A2 u
  exact ⟨t, st', h1, h2, G⟩
end
/-- what holds behind the j-th run, the last sign perhaps put back and read again -/
structure Aft (S : Str) (rs : List RunT) (j : Nat) (st : StS) (calm : Bool) : Prop where
  ok : StOk S st
  b : BufIs st.bufV st.b
  rem : remOf S st = flat (rs.drop (j + 1))
  E : st.errs.size + badCount (rawOf S st) = badCount (flat rs)
  B : Bads st.errs
  pos : calm = true → PosOk st ∧ consOf st = flat (rs.take (j + 1))
theorem aft_got {S : Str} {rs : List RunT} {j k : Nat} {n : Int} {X : Str} {st st2 : StS} {calm : Bool} {ln col : Int} (hr : rs[j]? = some (n, k, X)) (A2 : At2 S rs j st calm ln col) (G : Got S rs j st X.cps.toList st2) : Aft S rs j st2 calm :=
  ⟨G.ok, G.b, G.rem, G.took.E.trans A2.E, G.took.B A2.B, fun h => ⟨G.took.pos (A2.pos h).1, by rw [G.took.cons, (A2.pos h).2, flat_take hr]⟩⟩
/-- the stream with the last sign put back -/
noncomputable def Back (S : Str) (rs : List RunT) (j c : Nat) (st2 st3 : StS) : Prop := StOk S st3 ∧ BufIs st3.bufV st3.b ∧ remOf S st3 = c :: remOf S st2 ∧ rawOf S st3 = rawOf S st2 ∧ st3.errs = st2.errs
theorem back_took {S : Str} {rs : List RunT} {j c c' : Nat} {st2 st3 st4 : StS} {calm : Bool} (A : Aft S rs j st2 calm) (B : Back S rs j c st2 st3) (ok : StOk S st4) (hb : BufIs st4.bufV st4.b) (t : Took S st3 [c'] st4) : c' = c ∧ Aft S rs j st4 false := by
  obtain ⟨_, _, b3, b4, b5⟩ := B
  have e := t.rem
  rw [b3] at e
  injection e with e1 e2
  refine ⟨e1.symm, ok, hb, by rw [← A.rem]; exact e2.symm, ?_, ?_, fun h => by cases h⟩
  · rw [t.E, b4, b5]; exact A.E
  · exact t.B (by rw [b5]; exact A.B)
theorem back_char {S : Str} {rs : List RunT} {j c : Nat} {v : Value} {st2 st3 st4 : StS} {calm : Bool} (A : Aft S rs j st2 calm) (B : Back S rs j c st2 st3) (h : CharR S st3 v st4) : ∃ t, v = .str ⟨#[c]⟩ t ∧ Aft S rs j st4 false := by
  obtain ⟨ok, hb, h⟩ := h
  rcases h with ⟨c', t, e, tk⟩ | ⟨_, hnil, _⟩
  · obtain ⟨e1, A'⟩ := back_took A B ok hb tk
    exact ⟨t, by rw [e, e1], A'⟩
  · rw [B.2.2.1] at hnil; cases hnil
theorem back_until {oc9 i kd j k c : Nat} {S T : Str} {rs : List RunT} {n : Int} {X r : Str} {st2 st3 st4 : StS} {calm : Bool} (M : Made oc9 i kd T rs) (lo : 256 ≤ oc9) (hr : rs[j]? = some (n, k, X)) (A : Aft S rs j st2 calm) (B : Back S rs j c st2 st3) (hc : c ∈ rowC oc9 k)
    (u : UntilR S st3 (fun c => decide (c ∈ rowC oc9 k) == true) r.cps.toList st4) : r = ⟨#[c]⟩ ∧ Aft S rs j st4 false := by
  have hs := run_split (goes := fun c => decide (c ∈ rowC oc9 k) == true) (X := [c]) (R := flat (rs.drop (j + 1))) (fun c' hc' => by rw [List.mem_singleton.mp hc']; simp [hc]) (fun c' l e => by simp [(next_head M lo hr c' l e).1])
  have e1 : r.cps.toList = [c] := by
    rw [u.r, B.2.2.1, A.rem]; exact hs.1
  have e2 : r = ⟨#[c]⟩ := by
    cases r with
    | mk a => exact congrArg Str.mk (Array.toList_inj.mp e1)
  refine ⟨e2, ?_⟩
  have t := u.took
  rw [e1] at t
  exact (back_took A B u.ok u.b t).2
/-- the last sign -/
theorem last_sign {oc9 i kd j k : Nat} {T : Str} {rs : List RunT} {n : Int} {X : Str} (M : Made oc9 i kd T rs) (hr : rs[j]? = some (n, k, X)) : ∃ c, Txt.item X (-1) = ⟨#[c]⟩ ∧ X.cps.toList.getLast? = some c ∧ c ∈ rowC oc9 k ∧ -(X.length : Int) ≤ -1 ∧ (-1 : Int) < X.length := by
  obtain ⟨p1, _, p3⟩ := M.hX _ (List.mem_of_getElem? hr)
  have p1' : 1 ≤ X.length := p1
  have hl : X.cps.toList.length = X.length := rfl
  have hi : X.length - 1 < X.cps.toList.length := by omega
  refine ⟨X.cps.toList[X.length - 1], ?_, ?_, p3 _ (List.getElem_mem _), by omega, by omega⟩
  · have h2 : X.length - 1 < X.cps.size := by show _ < X.length; omega
    unfold Txt.item Txt.charAt
    rw [StrLaws.at_neg (n := X.cps[X.length - 1]) (by decide) (by omega) (by
      have e : ((-1 : Int) + X.length).toNat = X.length - 1 := by omega
      rw [e]; exact Array.getElem?_eq_getElem h2)]
    simp
  · rw [List.getLast?_eq_getElem?, hl, List.getElem?_eq_getElem hi]
theorem back_c {S : Str} {rs : List RunT} {j c : Nat} {X : Str} {st st2 : StS} (G : Got S rs j st X.cps.toList st2) (hX : X.cps.toList.getLast? = some c) : st2.o ≠ 0 → st2.C.cps.toList.getD (st2.o - 1) 0 = c := by
  intro ho
  have h1 := G.ok.o
  have hl : st2.C.cps.toList.length = st2.C.length := rfl
  have e := congrArg List.getLast? G.took.cons
  unfold consOf at e
  have e1 : (st2.C.cps.toList.take st2.o).getLast? = some (st2.C.cps.toList.getD (st2.o - 1) 0) := by
    rw [List.getLast?_eq_getElem?, List.length_take, hl, Nat.min_eq_left h1, List.getElem?_take, if_pos (by omega), List.getD_eq_getElem?_getD, List.getElem?_eq_getElem (by omega)]
    rfl
  rw [List.getLast?_append, List.getLast?_append, e1, hX] at e
  simpa using e
theorem flat_le {oc9 i kd : Nat} {T : Str} {rs : List RunT} (M : Made oc9 i kd T rs) (hi : i ≤ 12) (j : Nat) : (flat (rs.drop j)).length ≤ 96 := by
  have key : ∀ l : List RunT, (∀ r ∈ l, r.2.2.length ≤ 8) → (flat l).length ≤ 8 * l.length := by
    intro l
    induction l with
    | nil => intro _; exact Nat.le_refl _
    | cons a l ih =>
      intro h
      have h1 := ih fun r hr => h r (List.mem_cons_of_mem _ hr)
      have h2 : a.2.2.cps.toList.length ≤ 8 := h a List.mem_cons_self
      unfold flat at h1 ⊢
      rw [List.flatMap_cons, List.length_append, List.length_cons]
      omega
  have h := key (rs.drop j) fun r hr => (M.hX r (List.mem_of_mem_drop hr)).2.1
  have h2 := M.hlen
  rw [List.length_drop] at h
  omega
theorem back_len {oc9 i kd j : Nat} {S T : Str} {rs : List RunT} {X : List Nat} {st st2 : StS} (M : Made oc9 i kd T rs) (hi : i ≤ 12) (G : Got S rs j st X st2) : st2.o = 0 → st2.C.length ≤ 14000 := by
  intro ho
  have h := flat_le M hi (j + 1)
  rw [← G.rem] at h
  unfold remOf at h
  rw [ho, List.drop_zero, List.length_append] at h
  have hl : st2.C.cps.toList.length = st2.C.length := rfl
  omega
/-- the place counted on -/
theorem aft_at2 {S : Str} {rs : List RunT} {j k : Nat} {n : Int} {X : Str} {st st5 : StS} {calm calm5 : Bool} {ln col : Int} (hr : rs[j]? = some (n, k, X)) (A2 : At2 S rs j st calm ln col) (A : Aft S rs j st5 calm5) : At2 S rs (j + 1) st5 calm5 (ln + linesOf X.cps.toList) (colFrom col X.cps.toList) :=
  ⟨A.ok, A.b, A.rem, A.E, A.B, A.pos, by rw [A2.ln, flat_take hr, linesOf_append, Int.add_assoc], by rw [A2.col, flat_take hr, colFrom_append]⟩
theorem aft_place {S : Str} {rs : List RunT} {j k : Nat} {n : Int} {X : Str} {st st5 : StS} {calm : Bool} {ln col : Int} (hr : rs[j]? = some (n, k, X)) (A2 : At2 S rs j st calm ln col) (A : Aft S rs j st5 true) : posL st5.C st5.pl st5.o + 1 = ln + linesOf X.cps.toList ∧ posC st5.C st5.pc st5.o = colFrom col X.cps.toList := by
  obtain ⟨⟨p1, p2⟩, p3⟩ := A.pos rfl
  have p3' : st5.U ++ st5.C.cps.toList.take st5.o = flat (rs.take (j + 1)) := p3
  rw [posL_eq _ _ _ A.ok.o, posC_eq _ _ _ A.ok.o, p1, p2, ← linesOf_append, ← colFrom_append, p3', A2.ln, A2.col, flat_take hr, linesOf_append, colFrom_append]
  exact ⟨by omega, rfl⟩
section
variable {S : Str} {rs : List RunT} {j c : Nat} {st2 st3 : StS} {calm : Bool} {F : StS → Ledger}
theorem back_charP (A : Aft S rs j st2 calm) (B : Back S rs j c st2 st3) : ∀ (v : Value) (E' : Ledger), (∃ st', E' = F st' ∧ CharR S st3 v st') → ∃ t st', v = .str ⟨#[c]⟩ t ∧ E' = F st' ∧ Aft S rs j st' false := fun _ _ ⟨st', h1, h⟩ => by
  obtain ⟨t, e, A'⟩ := back_char A B h
  exact ⟨t, st', e, h1, A'⟩
theorem back_untilP {oc9 i kd k : Nat} {T : Str} {n : Int} {X : Str} (M : Made oc9 i kd T rs) (lo : 256 ≤ oc9) (hr : rs[j]? = some (n, k, X)) (A : Aft S rs j st2 calm) (B : Back S rs j c st2 st3) (hc : c ∈ rowC oc9 k) :
    ∀ (v : Value) (E' : Ledger), (∃ r t st', v = .str r t ∧ E' = F st' ∧ UntilR S st3 (fun c => decide (c ∈ rowC oc9 k) == true) r.cps.toList st') → ∃ t st', v = .str ⟨#[c]⟩ t ∧ E' = F st' ∧ Aft S rs j st' false := fun _ _ ⟨_, t, st', h1, h2, u⟩ => by
  obtain ⟨rfl, A'⟩ := back_until M lo hr A B hc u
  exact ⟨t, st', h1, h2, A'⟩
theorem placeP {G : Nat → Nat → Nat → Ledger} : ∀ (v : Value) (E' : Ledger), (∃ t a b, v = .ref t ∧ E' = G t a b) → ∃ t a b, v = .ref t ∧ E' = G t a b ∧ True := fun _ _ ⟨t, a, b, h1, h2⟩ => ⟨t, a, b, h1, h2, trivial⟩
end
section
open PyProof.Rows.LCg
theorem fault_ten : ∀ c ∈ ([32, 10, 9, 97, 98, 233, 38, 60, 1, 64976] : List Nat), faulty (c : Int) = bad (c : Int) := by decide +kernel
theorem fault_big {z : Int} (h1 : 256 ≤ z) (h2 : ¬ (55296 ≤ z ∧ z ≤ 57343)) : faulty z = bad z := by
  unfold faulty bad
  rw [decide_eq_false h2, Int.fmod_eq_emod_of_nonneg _ (by decide), Bool.or_false, decide_eq_false (show ¬ (0 < z ∧ z < 9) by omega), decide_eq_false (show ¬ (1 ≤ z ∧ z ≤ 8) by omega), beq_eq_false_iff_ne.mpr (show z ≠ 11 by omega), decide_eq_false (show ¬ (14 ≤ z ∧ z ≤ 31) by omega), decide_eq_false (show ¬ (127 ≤ z ∧ z ≤ 159) by omega)]
  have e : decide (65533 < z % 65536) = (z % 65536 == 65534 || z % 65536 == 65535) := by
    rw [Bool.eq_iff_iff]
    simp only [Bool.or_eq_true, decide_eq_true_eq, beq_iff_eq]
    omega
  have e2 : decide (64976 ≤ z ∧ z < 65008) = decide (64976 ≤ z ∧ z ≤ 65007) := decide_eq_decide.mpr ⟨fun h => ⟨h.1, Int.lt_add_one_iff.mp h.2⟩, fun h => ⟨h.1, Int.lt_add_one_iff.mpr h.2⟩⟩
  rw [e, e2]; rfl
theorem fault_bad {oc9 k c : Nat} {vsT vsL : List Value} (hR : RowsAt oc9 vsT vsL) (hc : c ∈ rowC oc9 k) : faulty (c : Int) = bad (c : Int) := by
  rcases row_mem hc with h | rfl
  · exact fault_ten c h
  · have h1 := hR.lo
    have h2 := hR.sur
    exact fault_big (by omega) (by omega)
theorem bad_snoc (l : List Nat) (c : Nat) : badCount (l ++ [c]) = badCount l + if bad (c : Int) = true then 1 else 0 := by
  rw [badCount_append]
  congr 1
  unfold badCount
  rw [List.filter_cons]
  split <;> simp_all
theorem flat_all (rs : List RunT) (i : Nat) : flat (rs.take i) ++ flat (rs.drop i) = flat rs := by
  unfold flat
  rw [← List.flatMap_append, List.take_append_drop]
theorem bads_size {oc9 i kd j k m : Nat} {T : Str} {rs : List RunT} {n : Int} {X : Str} (M : Made oc9 i kd T rs) (hi : i ≤ 12) (hr : rs[j]? = some (n, k, X)) : badCount (flat (rs.take j) ++ X.cps.toList.take m) ≤ 96 := by
  have h1 := flat_le M hi 0
  rw [List.drop_zero, ← flat_all rs (j + 1), flat_take hr] at h1
  have h2 := bad_le (flat (rs.take j) ++ X.cps.toList.take m)
  rw [List.length_append] at h1 h2
  rw [List.length_append] at h1
  rw [List.length_take] at h2
  omega
/-- the signs' turns of one run -/
theorem run_inner {prog : Program} {w : World} {A : Around} {h₀ h : Heap} {L : Addr} {m : Str → Option Value} {env : Env} {elt : Expr} {y : Str} {py : Pos} {ifs : List Expr} {scope : Scope} {cl : List (Str × Addr)} {s : Shared} {oc9 i9 kd i : Nat} {T : Str} {vs : List Value} {tl R : Ledger} {rs : List RunT} {v x : Value}
    (hh : A.handled = none) (hRuns : RunsAre vs tl rs) (M : Made oc9 i9 kd T rs) (hi12 : i9 ≤ 12) (htl : ∀ p ∈ tl, p ∈ R) (N : News h₀ L h R) (hv : vs.toArray[i]? = some v) (hx : ∃ T o x1 x2 nt, v = .ref T ∧ ((T, o) : Addr × Obj) ∈ R ∧ o.data = .seq #[x1, x2, x] nt)
    (turns : ∀ (n : Int) (k : Nat) (X : Str), rs[i]? = some (n, k, X) → InTurns prog w A h₀ L m env elt y ifs scope cl s R X.length (SignAt X) (fun j ys own => own = [] ∧ ys.length = badCount (flat (rs.take i) ++ X.cps.toList.take j))) :
    ∃ (n2 : Nat) (P2 : Nat → Value → Prop) (J2 : Nat → List Value → Ledger → Prop), IterOk prog w A (.Name y py) x R n2 P2 ∧ (∀ ys own, own = [] ∧ ys.length = badCount (flat (rs.take i)) → J2 0 ys own) ∧ (∀ j ys own, J2 j ys own → ys.length ≤ sizeLine) ∧
      InTurns prog w A h₀ L m env elt y ifs scope cl s R n2 P2 J2 ∧ ∀ ys own, J2 n2 ys own → own = [] ∧ ys.length = badCount (flat (rs.take (i + 1))) := by
  have hvl : vs[i]? = some v := by simpa using hv
  have hj : i < rs.length := by rw [← hRuns.1]; exact (List.getElem?_eq_some_iff.mp hvl).1
  obtain ⟨n, k, X, hr⟩ : ∃ n k X, rs[i]? = some (n, k, X) := ⟨_, _, _, List.getElem?_eq_getElem hj⟩
  obtain ⟨Tt, u1, u2, u3, hT1, hT2⟩ := hRuns.2 i n k X hr
  obtain rfl : v = .ref Tt := Option.some.inj (hvl.symm.trans hT1)
  obtain ⟨T', o, x1, x2, nt, e1, h2, h3⟩ := hx
  cases e1
  have z1 := (N _ (htl _ hT2)).1
  have z2 := (N _ h2).1
  have e2 : some (tup3 (.int n u1) (.int (k : Int) u2) (.str X u3)) = some o := z1.symm.trans z2
  cases e2
  unfold tup3 at h3
  simp only [Data.seq.injEq, Array.mk.injEq, List.cons.injEq] at h3
  obtain ⟨⟨_, _, e3, _⟩, _⟩ := h3
  subst e3
  refine ⟨_, _, _, iter_str hh, fun ys own h => by simpa using h, fun j ys own h => ?_, turns n k X hr, fun ys own h => ?_⟩
  · rw [h.2, sizeLine_eq]
    have := bads_size (m := j) M hi12 hr
    omega
  · refine ⟨h.1, ?_⟩
    have e9 : X.cps.toList.take X.length = X.cps.toList := List.take_of_length_le (Nat.le_refl X.cps.toList.length)
    rw [h.2, flat_take hr, e9]
theorem tup_of {vs : List Value} {tl R : Ledger} {rs : List RunT} {i : Nat} {v : Value} (hRuns : RunsAre vs tl rs) (htl : ∀ p ∈ tl, p ∈ R) (hv : vs.toArray[i]? = some v) : ∃ T o x y z nt, v = .ref T ∧ ((T, o) : Addr × Obj) ∈ R ∧ o.cls = .type "tuple" ∧ o.data = .seq #[x, y, z] nt := by
  have hvl : vs[i]? = some v := by simpa using hv
  have hj : i < rs.length := by rw [← hRuns.1]; exact (List.getElem?_eq_some_iff.mp hvl).1
  obtain ⟨n, k, X, hr⟩ : ∃ n k X, rs[i]? = some (n, k, X) := ⟨_, _, _, List.getElem?_eq_getElem hj⟩
  obtain ⟨Tt, u1, u2, u3, hT1, hT2⟩ := hRuns.2 i n k X hr
  obtain rfl : v = .ref Tt := Option.some.inj (hvl.symm.trans hT1)
  exact ⟨Tt, _, _, _, _, _, rfl, htl _ hT2, rfl, rfl⟩
theorem hX_mem {oc9 i9 kd i j c k : Nat} {T : Str} {rs : List RunT} {n : Int} {X : Str} (M : Made oc9 i9 kd T rs) (hr : rs[i]? = some (n, k, X)) (hc : X.cps[j]? = some c) : c ∈ rowC oc9 k :=
  (M.hX _ (List.mem_of_getElem? hr)).2.2 c (List.mem_of_getElem? (by rw [Array.getElem?_toList]; exact hc))
theorem step_bad2 {rs : List RunT} {i j c : Nat} {X : Str} (hc : X.cps[j]? = some c) : badCount (flat (rs.take i) ++ X.cps.toList.take (j + 1)) = badCount (flat (rs.take i) ++ X.cps.toList.take j) + if bad (c : Int) = true then 1 else 0 := by
  have h : X.cps.toList[j]? = some c := by rw [Array.getElem?_toList]; exact hc
  rw [List.take_add_one, h, ← List.append_assoc]
  exact bad_snoc _ c
theorem bads_all {oc9 i kd : Nat} {T : Str} {rs : List RunT} (M : Made oc9 i kd T rs) (hi : i ≤ 12) : badCount (flat rs) ≤ 96 := by
  have h1 := flat_le M hi 0
  rw [List.drop_zero] at h1
  exact Nat.le_trans (bad_le _) h1
theorem fin_char {S : Str} {rs : List RunT} {st st' : StS} {calm : Bool} {ln col : Int} {v : Value} (A2 : At2 S rs rs.length st calm ln col) (h : CharR S st v st') : v = .none ∧ st'.errs.size = badCount (flat rs) ∧ Bads st'.errs := by
  have hnil : remOf S st = [] := by rw [A2.rem, List.drop_length]; rfl
  obtain ⟨_, _, h⟩ := h
  rcases h with ⟨c, t, rfl, tk⟩ | ⟨rfl, _, tk⟩
  · have e := tk.rem
    rw [hnil] at e; cases e
  · have e := tk.rem
    rw [hnil] at e
    have e2 : remOf S st' = [] := (List.append_eq_nil_iff.mp e.symm).2
    unfold remOf at e2
    have e3 : norm (rawOf S st') = [] := (List.append_eq_nil_iff.mp e2).2
    have e4 : badCount (rawOf S st') = 0 := by
      rw [show rawOf S st' = [] from norm_nil e3]; rfl
    refine ⟨rfl, ?_, tk.B A2.B⟩
    have h1 := tk.E.trans A2.E
    rw [e4] at h1
    exact h1
theorem fin_charP {S : Str} {rs : List RunT} {st : StS} {calm : Bool} {ln col : Int} {F : StS → Ledger} (A2 : At2 S rs rs.length st calm ln col) : ∀ (v : Value) (E' : Ledger), (∃ st', E' = F st' ∧ CharR S st v st') → ∃ st', v = .none ∧ E' = F st' ∧ (st'.errs.size = badCount (flat rs) ∧ Bads st'.errs) := fun _ _ ⟨st', h1, h⟩ =>
  ⟨st', (fin_char A2 h).1, h1, (fin_char A2 h).2⟩

/-- behind the last run -/
noncomputable def Fin2 (w : World) (body : List Stmt) (qual : Str) (scope : Scope) (cdv : Value) : Prop :=
  ∀ (L : Nat) (rsa nrs tT : Nat) (vs : List Value) (tl : Ledger) (rs : List RunT) (oc9 i kd : Nat) (vsT vsL : List Value) (T : Str) (_ : RowsAt oc9 vsT vsL) (_ : RunsAre vs tl rs) (_ : Made oc9 i kd T rs) (_ : i ≤ 12)
    (kt : Nat → Nat) (x d q nl td tx er : Nat) (_ : d < x ∧ x < q ∧ q < td ∧ td < tx ∧ tx < er) (n2 q2 : Nat) (_ : 2 ≤ n2) (_ : n2 ≤ 7) (st : StS) (calm : Bool) (ln col : Int) (_ : At2 T rs rs.length st calm ln col)
    (R : Ledger) (_ : ((rsa, listOf vs.toArray nrs) : Addr × Obj) ∈ R) (_ : ∀ p ∈ tl, p ∈ R) (_ : ∀ p ∈ R, ∀ r ∈ LS w kt x d q nl td tx er T tT (.int (n2 : Int) q2) st, r.1 ≠ p.1)
    (m : Str → Option Value) (_ : m (Str.ofString "runs") = some (.ref rsa)) (_ : m (Str.ofString "stream") = some (.ref x))
    (fa : Addr) (cd : Value) (dp un : Nat) (gd : Option (List Code)) (outer : List Env) (A₀ : Around) (base h₀ : Heap) (s : Shared) (Q : Flow → Shared → Prop) (Er : Value → Shared → Prop)
    (loose : List Str) (mean : ExcName → Option Value) (mg mb : Str → Option Value)
    (_ : Below A₀ base outer h₀) (_ : Fr h₀ L s.heap m) (_ : (hd.heap_39 w.params).In h₀) (_ : News h₀ L s.heap (LS w kt x d q nl td tx er T tT (.int (n2 : Int) q2) st ++ R)) (_ : Top hd.view_39 loose mean mg mb h₀)
    (_ : dp + 4 * 6 < recursionLimit) (_ : un + 40 * 6 < cLine)
    (_ : ∀ (h' : Heap) (tk' : Nat) (m' : Str → Option Value) (N' : Ledger), Fr h₀ L h' m' → News h₀ L h' N' → Q (.ret (.bool true)) { s with heap := h', toks := tk' }),
    wpAny (model PySem.Challenge.rw_te0024_02.row.prog w) (ktrTop dp un gd qual scope L fa cd [(Str.ofString "n", L + 1)] outer) (execs (body.drop 10) (envX qual scope L fa cd [(Str.ofString "n", L + 1)])) Q Er s
set_option maxRecDepth 100000 in
set_option maxHeartbeats 600000 in
theorem fin2 (w : World) {oc od osl} {name qual : Str} {params : Arguments} {body : List Stmt} {scope : Scope} {dV kV doc pm cdv ct : Value} {an : Option Addr} :
    (hd.heap_39 w.params).lookup 166 = some ⟨oc, od, .func (fnOf name qual params body scope dV kV doc pm an cdv ct), osl⟩ → Fin2 w body qual scope cdv := by
  unfold Fin2
  k_fill
  show _ → Fin2 w body qual scope cdv
  intro ho
  obtain ⟨rfl, rfl, rfl, rfl⟩ := fn_parts ho (show (hd.heap_39 w.params).lookup 166 = some _ by k_is)
  unfold Fin2
  intro L rsa nrs tT vs tl rs oc9 i kd vsT vsL T hR hRuns M hi12 kt x d q nl td tx er hord n2 q2 hn2 hn7 st calm ln col A2 R hrs htl hdis m e1 e2 fa cd dp un gd outer A₀ base h₀ s Q Er loose mean mg mb B F KX N TT hroom hun hret
  clear ho
  have F1 := fr_know2 e1 e2 F
  clear F
  have hTl : T.length ≤ 10000 := made_10000 M hi12
  refine' ex_1_1 ((⟨_, rfl⟩ : ∃ RR, RR = (LS w kt x d q nl td tx er T tT (.int (n2 : Int) q2) st ++ R : Ledger))) ?_; intro RR hRR
  rw [← hRR] at N
  have hrs' : ((rsa, listOf vs.toArray nrs) : Addr × Obj) ∈ RR := hRR ▸ List.mem_append_right _ hrs
  have htl' : ∀ p ∈ tl, p ∈ RR := fun p hp => hRR ▸ List.mem_append_right _ (htl p hp)
  refine wpAny_noRaise ?_
  w_on
  w_top on
  w_strict ((repeat' (first | with_reducible ((first | (show wpAny _ _ (binaryOp Operator.Mult (Value.ref _) (Value.int _ _)) _ _ _) | (show wpAny _ _ (compareOp CmpOp.Eq (Value.ref _) (Value.ref _)) _ _ _) | (show wpAny _ _ (call (Value.type "zip") _) _ _ _) | (show wpAny _ _ (eval (Expr.ListComp _ _ _ _) _) _ _ _) | (show wpAny _ _ (exec (Stmt.Assign (_ :: _) (Expr.ListComp _ _ _ _) _) _) _ _ _) | (show wpAny _ _ (pyIter (Value.ref _)) _ _ _)); refine stopAt_ ?_) | with_reducible ((show wpAny _ _ (call (Value.ref _) _) _ _ _); (k_here; (with_reducible show wpAny _ _ (call (Value.ref 149) _) _ _ _); refine stopAt_ ?_)) | with_reducible ((show wpAny _ _ (call (Value.ref _) _) _ _ _); (k_here; (with_reducible show wpAny _ _ (call (Value.ref 98) _) _ _ _); refine stopAt_ ?_)) | with_reducible ((show wpAny _ _ (execs (_ :: _) _) _ _ _); (k_here; (with_reducible rename StopList _ => zT9); k_dflt (refine stop_list zT9 ?_))) | with_reducible ((show wpAny _ _ (eval (Expr.Constant (Const.str _) _ _) _) _ _ _); ((try dsimp only); k_dflt (refine' const_str_tk ?_); intro _ _)) | with_reducible ((show wpAny _ _ (eval (Expr.Constant (Const.int _) _ _) _) _ _ _); ((try dsimp only); k_dflt (refine' const_int_tk ?_); intro _ _)) | with_reducible ((show wpAny _ _ (exec (Stmt.For (Expr.Tuple _ _ _) (Expr.Tuple _ _ _) (_ :: _) [] _) _) _ _ _); (k_here; (with_reducible rename Fr _ _ _ _ => zlF); (with_reducible refine' for_t ?zF9 ?_ ?zhs9); (case zF9 => k_dflt (exact zlF)); (case zhs9 => k_dflt (intro _; rfl)))) | with_reducible ((show wpAny _ _ (exec (Stmt.For (Expr.Name _ _) (Expr.Name _ _) (_ :: _) [] _) _) _ _ _); (k_here; (with_reducible rename Fr _ _ _ _ => zlF); (with_reducible refine' for_t ?zF9 ?_ ?zhs9); (case zF9 => k_dflt (exact zlF)); (case zhs9 => k_dflt (intro _; rfl)))) | with_reducible ((show wpAny _ _ (exec (Stmt.For (Expr.Name _ _) (Expr.Call _ _ _ _) (_ :: _) [] _) _) _ _ _); (k_here; (with_reducible rename Fr _ _ _ _ => zlF); (with_reducible refine' for_t ?zF9 ?_ ?zhs9); (case zF9 => k_dflt (exact zlF)); (case zhs9 => k_dflt (intro _; rfl)))) | with_reducible ((show wpAny _ _ (execs (_ :: _) _) _ _ _); (k_here; (with_reducible show wpAny _ _ _ _ _ (Shared.mk _ _ _ (_ + _) _)); k_dflt (refine' gen_toks ?zp ?_; (case zp => ((try dsimp only); exact Nat.succ_pos _)); intro _ _))) | with_reducible ((show wpAny _ _ (isTrue (Expr.Compare _ _ _ _) _ _) _ _ _); (k_here; k_dflt (refine' isTrue_ll ?zF ?zv ?_ ?zk ?zl; (case zF => k_asm); (case zv => rfl); (case zk => rfl); (case zl => rfl); k_whole; intro _; (try dsimp only)))) | (k_unfold; (try dsimp only)) | walk1 | (dsimp only; walk1) | (dsimp only [List.nil_append, List.cons_append]; walk1) | (k_end; dsimp only; k_unfold; (try dsimp only)) | (leave1; (try dsimp only)) | ((with_reducible show wpAny _ _ (isTrue (Expr.Compare _ _ _ _) _ _) _ _ _); (k_here; k_dflt (refine' isTrue_ll ?zF ?zv ?_ ?zk ?zl; (case zF => k_asm); (case zv => rfl); (case zk => rfl); (case zl => rfl); k_whole; intro _; (try dsimp only)))))))
  (try unfold StopAt)
  (with_reducible rename Fr _ _ _ _ => F5)
  (with_reducible rename News _ _ _ _ => N5)
  refine' comp_two F5 ?hclos ?hcell ?hkind ?hnames ?hy ?hs2 ?_ ?hs
  case hclos => exact rfl
  case hcell => decide
  case hkind => rfl
  case hnames => decide
  case hy => rfl
  case hs2 => intro _ _; rfl
  case hs => intro _; rfl
  w_strict ((repeat' (first | with_reducible ((first | (show wpAny _ _ (binaryOp Operator.Mult (Value.ref _) (Value.int _ _)) _ _ _) | (show wpAny _ _ (compareOp CmpOp.Eq (Value.ref _) (Value.ref _)) _ _ _) | (show wpAny _ _ (call (Value.type "zip") _) _ _ _) | (show wpAny _ _ (eval (Expr.ListComp _ _ _ _) _) _ _ _) | (show wpAny _ _ (exec (Stmt.Assign (_ :: _) (Expr.ListComp _ _ _ _) _) _) _ _ _) | (show wpAny _ _ (pyIter (Value.ref _)) _ _ _)); refine stopAt_ ?_) | with_reducible ((show wpAny _ _ (call (Value.ref _) _) _ _ _); (k_here; (with_reducible show wpAny _ _ (call (Value.ref 149) _) _ _ _); refine stopAt_ ?_)) | with_reducible ((show wpAny _ _ (call (Value.ref _) _) _ _ _); (k_here; (with_reducible show wpAny _ _ (call (Value.ref 98) _) _ _ _); refine stopAt_ ?_)) | with_reducible ((show wpAny _ _ (execs (_ :: _) _) _ _ _); (k_here; (with_reducible rename StopList _ => zT9); k_dflt (refine stop_list zT9 ?_))) | with_reducible ((show wpAny _ _ (eval (Expr.Constant (Const.str _) _ _) _) _ _ _); ((try dsimp only); k_dflt (refine' const_str_tk ?_); intro _ _)) | with_reducible ((show wpAny _ _ (eval (Expr.Constant (Const.int _) _ _) _) _ _ _); ((try dsimp only); k_dflt (refine' const_int_tk ?_); intro _ _)) | with_reducible ((show wpAny _ _ (exec (Stmt.For (Expr.Tuple _ _ _) (Expr.Tuple _ _ _) (_ :: _) [] _) _) _ _ _); (k_here; (with_reducible rename Fr _ _ _ _ => zlF); (with_reducible refine' for_t ?zF9 ?_ ?zhs9); (case zF9 => k_dflt (exact zlF)); (case zhs9 => k_dflt (intro _; rfl)))) | with_reducible ((show wpAny _ _ (exec (Stmt.For (Expr.Name _ _) (Expr.Name _ _) (_ :: _) [] _) _) _ _ _); (k_here; (with_reducible rename Fr _ _ _ _ => zlF); (with_reducible refine' for_t ?zF9 ?_ ?zhs9); (case zF9 => k_dflt (exact zlF)); (case zhs9 => k_dflt (intro _; rfl)))) | with_reducible ((show wpAny _ _ (exec (Stmt.For (Expr.Name _ _) (Expr.Call _ _ _ _) (_ :: _) [] _) _) _ _ _); (k_here; (with_reducible rename Fr _ _ _ _ => zlF); (with_reducible refine' for_t ?zF9 ?_ ?zhs9); (case zF9 => k_dflt (exact zlF)); (case zhs9 => k_dflt (intro _; rfl)))) | with_reducible ((show wpAny _ _ (execs (_ :: _) _) _ _ _); (k_here; (with_reducible show wpAny _ _ _ _ _ (Shared.mk _ _ _ (_ + _) _)); k_dflt (refine' gen_toks ?zp ?_; (case zp => ((try dsimp only); exact Nat.succ_pos _)); intro _ _))) | with_reducible ((show wpAny _ _ (isTrue (Expr.Compare _ _ _ _) _ _) _ _ _); (k_here; k_dflt (refine' isTrue_ll ?zF ?zv ?_ ?zk ?zl; (case zF => k_asm); (case zv => rfl); (case zk => rfl); (case zl => rfl); k_whole; intro _; (try dsimp only)))) | (k_unfold; (try dsimp only)) | walk1 | (dsimp only; walk1) | (dsimp only [List.nil_append, List.cons_append]; walk1) | (k_end; dsimp only; k_unfold; (try dsimp only)) | (leave1; (try dsimp only)) | ((with_reducible show wpAny _ _ (isTrue (Expr.Compare _ _ _ _) _ _) _ _ _); (k_here; k_dflt (refine' isTrue_ll ?zF ?zv ?_ ?zk ?zl; (case zF => k_asm); (case zv => rfl); (case zk => rfl); (case zl => rfl); k_whole; intro _; (try dsimp only)))))))
  (try unfold StopAt)
  (with_reducible rename Fr _ _ _ _ => F6)
  (with_reducible rename News _ _ _ _ => N6)
  refine' ⟨_, _, _, fun i ys own => own = [] ∧ ys.length = badCount (flat (rs.take i)), _, iter_list rfl rfl rfl hrs', F6, N6, ⟨rfl, rfl⟩, bind_tup3 rfl rfl rfl rfl rfl (by decide) (fun _ _ => tup_of hRuns htl'), ?inner, ?fin⟩
  case inner =>
    intro i v x hi hP hxi
    refine' run_inner rfl hRuns M hi12 htl' N6 hP hxi ?turns
    case turns =>
      intro n k X hr j v ys own I oI C oC D I2 oI2 m₂ h tk hj hP2 hJ hC hx F7 N7
      refine' ex_0_2 (hJ) ?_; intro r90 hlen; (try clear hJ); subst r90
      refine' ex_2_2 (hP2) ?_; intro c u9 hc r93; (try clear hP2); subst r93
      (try clear F6); (try clear N6); (try clear F5); (try clear N5)
      refine wpAny_tests_one ?_
      w_strict ((repeat' (first | with_reducible ((first | (show wpAny _ _ (binaryOp Operator.Mult (Value.ref _) (Value.int _ _)) _ _ _) | (show wpAny _ _ (compareOp CmpOp.Eq (Value.ref _) (Value.ref _)) _ _ _) | (show wpAny _ _ (call (Value.type "zip") _) _ _ _) | (show wpAny _ _ (eval (Expr.ListComp _ _ _ _) _) _ _ _) | (show wpAny _ _ (exec (Stmt.Assign (_ :: _) (Expr.ListComp _ _ _ _) _) _) _ _ _) | (show wpAny _ _ (pyIter (Value.ref _)) _ _ _)); refine stopAt_ ?_) | with_reducible ((show wpAny _ _ (call (Value.ref _) _) _ _ _); (k_here; (with_reducible show wpAny _ _ (call (Value.ref 149) _) _ _ _); refine stopAt_ ?_)) | with_reducible ((show wpAny _ _ (call (Value.ref _) _) _ _ _); (k_here; (with_reducible show wpAny _ _ (call (Value.ref 98) _) _ _ _); refine stopAt_ ?_)) | with_reducible ((show wpAny _ _ (execs (_ :: _) _) _ _ _); (k_here; (with_reducible rename StopList _ => zT9); k_dflt (refine stop_list zT9 ?_))) | with_reducible ((show wpAny _ _ (eval (Expr.Constant (Const.str _) _ _) _) _ _ _); ((try dsimp only); k_dflt (refine' const_str_tk ?_); intro _ _)) | with_reducible ((show wpAny _ _ (eval (Expr.Constant (Const.int _) _ _) _) _ _ _); ((try dsimp only); k_dflt (refine' const_int_tk ?_); intro _ _)) | with_reducible ((show wpAny _ _ (exec (Stmt.For (Expr.Tuple _ _ _) (Expr.Tuple _ _ _) (_ :: _) [] _) _) _ _ _); (k_here; (with_reducible rename Fr _ _ _ _ => zlF); (with_reducible refine' for_t ?zF9 ?_ ?zhs9); (case zF9 => k_dflt (exact zlF)); (case zhs9 => k_dflt (intro _; rfl)))) | with_reducible ((show wpAny _ _ (exec (Stmt.For (Expr.Name _ _) (Expr.Name _ _) (_ :: _) [] _) _) _ _ _); (k_here; (with_reducible rename Fr _ _ _ _ => zlF); (with_reducible refine' for_t ?zF9 ?_ ?zhs9); (case zF9 => k_dflt (exact zlF)); (case zhs9 => k_dflt (intro _; rfl)))) | with_reducible ((show wpAny _ _ (exec (Stmt.For (Expr.Name _ _) (Expr.Call _ _ _ _) (_ :: _) [] _) _) _ _ _); (k_here; (with_reducible rename Fr _ _ _ _ => zlF); (with_reducible refine' for_t ?zF9 ?_ ?zhs9); (case zF9 => k_dflt (exact zlF)); (case zhs9 => k_dflt (intro _; rfl)))) | with_reducible ((show wpAny _ _ (execs (_ :: _) _) _ _ _); (k_here; (with_reducible show wpAny _ _ _ _ _ (Shared.mk _ _ _ (_ + _) _)); k_dflt (refine' gen_toks ?zp ?_; (case zp => ((try dsimp only); exact Nat.succ_pos _)); intro _ _))) | with_reducible ((show wpAny _ _ (isTrue (Expr.Compare _ _ _ _) _ _) _ _ _); (k_here; k_dflt (refine' isTrue_ll ?zF ?zv ?_ ?zk ?zl; (case zF => k_asm); (case zv => rfl); (case zk => rfl); (case zl => rfl); k_whole; intro _; (try dsimp only)))) | (k_unfold; (try dsimp only)) | walk1 | (dsimp only; walk1) | (dsimp only [List.nil_append, List.cons_append]; walk1) | (k_end; dsimp only; k_unfold; (try dsimp only)) | (leave1; (try dsimp only)) | ((with_reducible show wpAny _ _ (isTrue (Expr.Compare _ _ _ _) _ _) _ _ _); (k_here; k_dflt (refine' isTrue_ll ?zF ?zv ?_ ?zk ?zl; (case zF => k_asm); (case zv => rfl); (case zk => rfl); (case zl => rfl); k_whole; intro _; (try dsimp only)))))))
      unfold StopAt
      (with_reducible rename Fr _ _ _ _ => F5)
      (with_reducible rename News _ _ _ _ => N5)
      k_dflt (refine' Does.useP [] (does_faulty w _ _) ?k1 ?k2 ?k3 ?k4 ?k5 ?kd ?kK ?kr ?ku ?_)
      case k4 => exact N5
      case k1 => assumption
      case k2 => exact F5
      case k3 => assumption
      case k5 => assumption
      case kK => rfl
      case kr => (first | assumption | ((simp only [depth_under_make, depth_under_kw, depth_in1, depth_deeper, depth_caller]); (try dsimp only [ktrTop]); first | exact room0 (by assumption) (by decide) | exact room1 (by assumption) (by decide) | omega | decide) | ((try dsimp only [ktrTop]); omega))
      case ku => (first | assumption | ((simp only [units_in1, units_deeper, Around.mark_units, units_caller]); (try dsimp only [ktrTop]); first | exact room0 (by assumption) (by decide) | exact room1 (by assumption) (by decide)) | ((have zhcL := cLine_is); (simp only [units_in1, units_deeper, Around.mark_units, units_caller]); (try dsimp only [ktrTop]); omega) | ((have zhcL := cLine_is); (try dsimp only [ktrTop]); omega))
      case kd => exact fun _ _ _ h9 => absurd h9 List.not_mem_nil
      k_whole
      intro v9 E9 h9 tk9 F9 N9 p9 T9
      clear N5 F5
      refine' ex_0_2 (p9) ?_; intro r90 r91; (try clear p9); subst r90; subst r91
      have hfb := fault_bad hR (hX_mem M hr hc)
      rw [hfb]
      have hst := step_bad2 (rs := rs) (i := i) hc
      w_strict ((repeat' (first | with_reducible ((first | (show wpAny _ _ (binaryOp Operator.Mult (Value.ref _) (Value.int _ _)) _ _ _) | (show wpAny _ _ (compareOp CmpOp.Eq (Value.ref _) (Value.ref _)) _ _ _) | (show wpAny _ _ (call (Value.type "zip") _) _ _ _) | (show wpAny _ _ (eval (Expr.ListComp _ _ _ _) _) _ _ _) | (show wpAny _ _ (exec (Stmt.Assign (_ :: _) (Expr.ListComp _ _ _ _) _) _) _ _ _) | (show wpAny _ _ (pyIter (Value.ref _)) _ _ _)); refine stopAt_ ?_) | with_reducible ((show wpAny _ _ (call (Value.ref _) _) _ _ _); (k_here; (with_reducible show wpAny _ _ (call (Value.ref 149) _) _ _ _); refine stopAt_ ?_)) | with_reducible ((show wpAny _ _ (call (Value.ref _) _) _ _ _); (k_here; (with_reducible show wpAny _ _ (call (Value.ref 98) _) _ _ _); refine stopAt_ ?_)) | with_reducible ((show wpAny _ _ (execs (_ :: _) _) _ _ _); (k_here; (with_reducible rename StopList _ => zT9); k_dflt (refine stop_list zT9 ?_))) | with_reducible ((show wpAny _ _ (eval (Expr.Constant (Const.str _) _ _) _) _ _ _); ((try dsimp only); k_dflt (refine' const_str_tk ?_); intro _ _)) | with_reducible ((show wpAny _ _ (eval (Expr.Constant (Const.int _) _ _) _) _ _ _); ((try dsimp only); k_dflt (refine' const_int_tk ?_); intro _ _)) | with_reducible ((show wpAny _ _ (exec (Stmt.For (Expr.Tuple _ _ _) (Expr.Tuple _ _ _) (_ :: _) [] _) _) _ _ _); (k_here; (with_reducible rename Fr _ _ _ _ => zlF); (with_reducible refine' for_t ?zF9 ?_ ?zhs9); (case zF9 => k_dflt (exact zlF)); (case zhs9 => k_dflt (intro _; rfl)))) | with_reducible ((show wpAny _ _ (exec (Stmt.For (Expr.Name _ _) (Expr.Name _ _) (_ :: _) [] _) _) _ _ _); (k_here; (with_reducible rename Fr _ _ _ _ => zlF); (with_reducible refine' for_t ?zF9 ?_ ?zhs9); (case zF9 => k_dflt (exact zlF)); (case zhs9 => k_dflt (intro _; rfl)))) | with_reducible ((show wpAny _ _ (exec (Stmt.For (Expr.Name _ _) (Expr.Call _ _ _ _) (_ :: _) [] _) _) _ _ _); (k_here; (with_reducible rename Fr _ _ _ _ => zlF); (with_reducible refine' for_t ?zF9 ?_ ?zhs9); (case zF9 => k_dflt (exact zlF)); (case zhs9 => k_dflt (intro _; rfl)))) | with_reducible ((show wpAny _ _ (execs (_ :: _) _) _ _ _); (k_here; (with_reducible show wpAny _ _ _ _ _ (Shared.mk _ _ _ (_ + _) _)); k_dflt (refine' gen_toks ?zp ?_; (case zp => ((try dsimp only); exact Nat.succ_pos _)); intro _ _))) | with_reducible ((show wpAny _ _ (isTrue (Expr.Compare _ _ _ _) _ _) _ _ _); (k_here; k_dflt (refine' isTrue_ll ?zF ?zv ?_ ?zk ?zl; (case zF => k_asm); (case zv => rfl); (case zk => rfl); (case zl => rfl); k_whole; intro _; (try dsimp only)))) | (k_unfold; (try dsimp only)) | walk1 | (dsimp only; walk1) | (dsimp only [List.nil_append, List.cons_append]; walk1) | (k_end; dsimp only; k_unfold; (try dsimp only)) | (leave1; (try dsimp only)) | ((with_reducible show wpAny _ _ (isTrue (Expr.Compare _ _ _ _) _ _) _ _ _); (k_here; k_dflt (refine' isTrue_ll ?zF ?zv ?_ ?zk ?zl; (case zF => k_asm); (case zv => rfl); (case zk => rfl); (case zl => rfl); k_whole; intro _; (try dsimp only)))))))
      · refine' grEnd [] F9 (fun p hp => N9 p hp) (fun p hp => nomatch hp) ⟨rfl, ?e1⟩
        case e1 => rw [hst, if_pos (by assumption), List.length_append, hlen]; rfl
      · refine' grEnd [] F9 (fun p hp => N9 p hp) (fun p hp => nomatch hp) ⟨rfl, ?e2⟩
        case e2 => rw [hst, if_neg (by simp [*]), hlen]; rfl
  case fin =>
    intro D h' tk ys own hJ F7 N7
    refine' ex_0_2 (hJ) ?_; intro r90 hlen; (try clear hJ); subst r90
    (try clear F6); (try clear N6); (try clear F5); (try clear N5)
    have e9 : rs.take vs.toArray.size = rs := List.take_of_length_le (by rw [List.size_toArray, hRuns.1]; exact Nat.le_refl _)
    rw [e9] at hlen
    have N8 : News h₀ L h' ((D, listOf ys.toArray ys.length) :: RR) := N7
    clear N7
    w_strict ((repeat' (first | with_reducible ((first | (show wpAny _ _ (binaryOp Operator.Mult (Value.ref _) (Value.int _ _)) _ _ _) | (show wpAny _ _ (compareOp CmpOp.Eq (Value.ref _) (Value.ref _)) _ _ _) | (show wpAny _ _ (call (Value.type "zip") _) _ _ _) | (show wpAny _ _ (eval (Expr.ListComp _ _ _ _) _) _ _ _) | (show wpAny _ _ (exec (Stmt.Assign (_ :: _) (Expr.ListComp _ _ _ _) _) _) _ _ _) | (show wpAny _ _ (pyIter (Value.ref _)) _ _ _)); refine stopAt_ ?_) | with_reducible ((show wpAny _ _ (call (Value.ref _) _) _ _ _); (k_here; (with_reducible show wpAny _ _ (call (Value.ref 149) _) _ _ _); refine stopAt_ ?_)) | with_reducible ((show wpAny _ _ (call (Value.ref _) _) _ _ _); (k_here; (with_reducible show wpAny _ _ (call (Value.ref 98) _) _ _ _); refine stopAt_ ?_)) | with_reducible ((show wpAny _ _ (execs (_ :: _) _) _ _ _); (k_here; (with_reducible rename StopList _ => zT9); k_dflt (refine stop_list zT9 ?_))) | with_reducible ((show wpAny _ _ (eval (Expr.Constant (Const.str _) _ _) _) _ _ _); ((try dsimp only); k_dflt (refine' const_str_tk ?_); intro _ _)) | with_reducible ((show wpAny _ _ (eval (Expr.Constant (Const.int _) _ _) _) _ _ _); ((try dsimp only); k_dflt (refine' const_int_tk ?_); intro _ _)) | with_reducible ((show wpAny _ _ (exec (Stmt.For (Expr.Tuple _ _ _) (Expr.Tuple _ _ _) (_ :: _) [] _) _) _ _ _); (k_here; (with_reducible rename Fr _ _ _ _ => zlF); (with_reducible refine' for_t ?zF9 ?_ ?zhs9); (case zF9 => k_dflt (exact zlF)); (case zhs9 => k_dflt (intro _; rfl)))) | with_reducible ((show wpAny _ _ (exec (Stmt.For (Expr.Name _ _) (Expr.Name _ _) (_ :: _) [] _) _) _ _ _); (k_here; (with_reducible rename Fr _ _ _ _ => zlF); (with_reducible refine' for_t ?zF9 ?_ ?zhs9); (case zF9 => k_dflt (exact zlF)); (case zhs9 => k_dflt (intro _; rfl)))) | with_reducible ((show wpAny _ _ (exec (Stmt.For (Expr.Name _ _) (Expr.Call _ _ _ _) (_ :: _) [] _) _) _ _ _); (k_here; (with_reducible rename Fr _ _ _ _ => zlF); (with_reducible refine' for_t ?zF9 ?_ ?zhs9); (case zF9 => k_dflt (exact zlF)); (case zhs9 => k_dflt (intro _; rfl)))) | with_reducible ((show wpAny _ _ (execs (_ :: _) _) _ _ _); (k_here; (with_reducible show wpAny _ _ _ _ _ (Shared.mk _ _ _ (_ + _) _)); k_dflt (refine' gen_toks ?zp ?_; (case zp => ((try dsimp only); exact Nat.succ_pos _)); intro _ _))) | with_reducible ((show wpAny _ _ (isTrue (Expr.Compare _ _ _ _) _ _) _ _ _); (k_here; k_dflt (refine' isTrue_ll ?zF ?zv ?_ ?zk ?zl; (case zF => k_asm); (case zv => rfl); (case zk => rfl); (case zl => rfl); k_whole; intro _; (try dsimp only)))) | (k_unfold; (try dsimp only)) | walk1 | (dsimp only; walk1) | (dsimp only [List.nil_append, List.cons_append]; walk1) | (k_end; dsimp only; k_unfold; (try dsimp only)) | (leave1; (try dsimp only)) | ((with_reducible show wpAny _ _ (isTrue (Expr.Compare _ _ _ _) _ _) _ _ _); (k_here; k_dflt (refine' isTrue_ll ?zF ?zv ?_ ?zk ?zl; (case zF => k_asm); (case zv => rfl); (case zk => rfl); (case zl => rfl); k_whole; intro _; (try dsimp only)))))))
    have hl9 := bads_all M hi12
    refine' Calls.call_len_list (list_of N8 (.head _)) ?fit ?_
    case fit => rw [List.size_toArray, hlen]; omega
    rw [List.size_toArray, hlen]
    k_whole
    have N9 : News h₀ L h' RR := fun p hp => N8 p (.tail _ hp)
    clear N8
    subst hRR
    simp only [LS, SX, TL, ent, List.cons_append, List.nil_append] at N9
    w_strict ((repeat' (first | with_reducible ((first | (show wpAny _ _ (binaryOp Operator.Mult (Value.ref _) (Value.int _ _)) _ _ _) | (show wpAny _ _ (compareOp CmpOp.Eq (Value.ref _) (Value.ref _)) _ _ _) | (show wpAny _ _ (call (Value.type "zip") _) _ _ _) | (show wpAny _ _ (eval (Expr.ListComp _ _ _ _) _) _ _ _) | (show wpAny _ _ (exec (Stmt.Assign (_ :: _) (Expr.ListComp _ _ _ _) _) _) _ _ _) | (show wpAny _ _ (pyIter (Value.ref _)) _ _ _)); refine stopAt_ ?_) | with_reducible ((show wpAny _ _ (call (Value.ref _) _) _ _ _); (k_here; (with_reducible show wpAny _ _ (call (Value.ref 149) _) _ _ _); refine stopAt_ ?_)) | with_reducible ((show wpAny _ _ (call (Value.ref _) _) _ _ _); (k_here; (with_reducible show wpAny _ _ (call (Value.ref 98) _) _ _ _); refine stopAt_ ?_)) | with_reducible ((show wpAny _ _ (execs (_ :: _) _) _ _ _); (k_here; (with_reducible rename StopList _ => zT9); k_dflt (refine stop_list zT9 ?_))) | with_reducible ((show wpAny _ _ (eval (Expr.Constant (Const.str _) _ _) _) _ _ _); ((try dsimp only); k_dflt (refine' const_str_tk ?_); intro _ _)) | with_reducible ((show wpAny _ _ (eval (Expr.Constant (Const.int _) _ _) _) _ _ _); ((try dsimp only); k_dflt (refine' const_int_tk ?_); intro _ _)) | with_reducible ((show wpAny _ _ (exec (Stmt.For (Expr.Tuple _ _ _) (Expr.Tuple _ _ _) (_ :: _) [] _) _) _ _ _); (k_here; (with_reducible rename Fr _ _ _ _ => zlF); (with_reducible refine' for_t ?zF9 ?_ ?zhs9); (case zF9 => k_dflt (exact zlF)); (case zhs9 => k_dflt (intro _; rfl)))) | with_reducible ((show wpAny _ _ (exec (Stmt.For (Expr.Name _ _) (Expr.Name _ _) (_ :: _) [] _) _) _ _ _); (k_here; (with_reducible rename Fr _ _ _ _ => zlF); (with_reducible refine' for_t ?zF9 ?_ ?zhs9); (case zF9 => k_dflt (exact zlF)); (case zhs9 => k_dflt (intro _; rfl)))) | with_reducible ((show wpAny _ _ (exec (Stmt.For (Expr.Name _ _) (Expr.Call _ _ _ _) (_ :: _) [] _) _) _ _ _); (k_here; (with_reducible rename Fr _ _ _ _ => zlF); (with_reducible refine' for_t ?zF9 ?_ ?zhs9); (case zF9 => k_dflt (exact zlF)); (case zhs9 => k_dflt (intro _; rfl)))) | with_reducible ((show wpAny _ _ (execs (_ :: _) _) _ _ _); (k_here; (with_reducible show wpAny _ _ _ _ _ (Shared.mk _ _ _ (_ + _) _)); k_dflt (refine' gen_toks ?zp ?_; (case zp => ((try dsimp only); exact Nat.succ_pos _)); intro _ _))) | with_reducible ((show wpAny _ _ (isTrue (Expr.Compare _ _ _ _) _ _) _ _ _); (k_here; k_dflt (refine' isTrue_ll ?zF ?zv ?_ ?zk ?zl; (case zF => k_asm); (case zv => rfl); (case zk => rfl); (case zl => rfl); k_whole; intro _; (try dsimp only)))) | (k_unfold; (try dsimp only)) | walk1 | (dsimp only; walk1) | (dsimp only [List.nil_append, List.cons_append]; walk1) | (k_end; dsimp only; k_unfold; (try dsimp only)) | (leave1; (try dsimp only)) | ((with_reducible show wpAny _ _ (isTrue (Expr.Compare _ _ _ _) _ _) _ _ _); (k_here; k_dflt (refine' isTrue_ll ?zF ?zv ?_ ?zk ?zl; (case zF => k_asm); (case zv => rfl); (case zk => rfl); (case zl => rfl); k_whole; intro _; (try dsimp only)))))))
    unfold StopAt
    (with_reducible rename Fr _ _ _ _ => F5)
    (with_reducible rename News _ _ _ _ => N5)
    (try dsimp only [List.append_nil])
    k_dflt (refine' Does.useG1 [] (does_char w kt x d q nl td tx er hord T hTl M.hsur st A2.ok A2.b tT n2 q2 hn2 (Nat.le_trans hn7 (by decide))) (fin_charP A2) ?k1 ?k2 ?k3 ?k4 ?k5 ?kd ?kK ?kr ?ku ?_)
    case k4 => exact N5
    case k1 => k_asm
    case k2 => exact F5
    case k3 => k_asm
    case k5 => k_asm
    case kK => first | exact rfl | assumption
    case kr => (first | assumption | ((simp only [depth_under_make, depth_under_kw, depth_in1, depth_deeper, depth_caller]); (try dsimp only [ktrTop]); first | exact room0 (by assumption) (by decide) | exact room1 (by assumption) (by decide) | omega | decide) | ((try dsimp only [ktrTop]); omega))
    case ku => (first | assumption | ((simp only [units_in1, units_deeper, Around.mark_units, units_caller]); (try dsimp only [ktrTop]); first | exact room0 (by assumption) (by decide) | exact room1 (by assumption) (by decide)) | ((have zhcL := cLine_is); (simp only [units_in1, units_deeper, Around.mark_units, units_caller]); (try dsimp only [ktrTop]); omega) | ((have zhcL := cLine_is); (try dsimp only [ktrTop]); omega))
    skip
    case kd => exact fun p hp => hdis p hp
    k_whole
    intro st1 h9 tk9 F9 N9 p9 T9
    (try dsimp only at T9)
    (try simp only [List.nil_append, List.cons_append] at N9)
    clear N5 F5
    have z2 := p9.1
    have z3 := p9.2
    simp only [LS, SX, TL, ent, List.cons_append, List.nil_append] at N9
    w_strict ((repeat' (first | with_reducible ((first | (show wpAny _ _ (binaryOp Operator.Mult (Value.ref _) (Value.int _ _)) _ _ _) | (show wpAny _ _ (compareOp CmpOp.Eq (Value.ref _) (Value.ref _)) _ _ _) | (show wpAny _ _ (call (Value.type "zip") _) _ _ _) | (show wpAny _ _ (eval (Expr.ListComp _ _ _ _) _) _ _ _) | (show wpAny _ _ (exec (Stmt.Assign (_ :: _) (Expr.ListComp _ _ _ _) _) _) _ _ _) | (show wpAny _ _ (pyIter (Value.ref _)) _ _ _)); refine stopAt_ ?_) | with_reducible ((show wpAny _ _ (call (Value.ref _) _) _ _ _); (k_here; (with_reducible show wpAny _ _ (call (Value.ref 149) _) _ _ _); refine stopAt_ ?_)) | with_reducible ((show wpAny _ _ (call (Value.ref _) _) _ _ _); (k_here; (with_reducible show wpAny _ _ (call (Value.ref 98) _) _ _ _); refine stopAt_ ?_)) | with_reducible ((show wpAny _ _ (execs (_ :: _) _) _ _ _); (k_here; (with_reducible rename StopList _ => zT9); k_dflt (refine stop_list zT9 ?_))) | with_reducible ((show wpAny _ _ (eval (Expr.Constant (Const.str _) _ _) _) _ _ _); ((try dsimp only); k_dflt (refine' const_str_tk ?_); intro _ _)) | with_reducible ((show wpAny _ _ (eval (Expr.Constant (Const.int _) _ _) _) _ _ _); ((try dsimp only); k_dflt (refine' const_int_tk ?_); intro _ _)) | with_reducible ((show wpAny _ _ (exec (Stmt.For (Expr.Tuple _ _ _) (Expr.Tuple _ _ _) (_ :: _) [] _) _) _ _ _); (k_here; (with_reducible rename Fr _ _ _ _ => zlF); (with_reducible refine' for_t ?zF9 ?_ ?zhs9); (case zF9 => k_dflt (exact zlF)); (case zhs9 => k_dflt (intro _; rfl)))) | with_reducible ((show wpAny _ _ (exec (Stmt.For (Expr.Name _ _) (Expr.Name _ _) (_ :: _) [] _) _) _ _ _); (k_here; (with_reducible rename Fr _ _ _ _ => zlF); (with_reducible refine' for_t ?zF9 ?_ ?zhs9); (case zF9 => k_dflt (exact zlF)); (case zhs9 => k_dflt (intro _; rfl)))) | with_reducible ((show wpAny _ _ (exec (Stmt.For (Expr.Name _ _) (Expr.Call _ _ _ _) (_ :: _) [] _) _) _ _ _); (k_here; (with_reducible rename Fr _ _ _ _ => zlF); (with_reducible refine' for_t ?zF9 ?_ ?zhs9); (case zF9 => k_dflt (exact zlF)); (case zhs9 => k_dflt (intro _; rfl)))) | with_reducible ((show wpAny _ _ (execs (_ :: _) _) _ _ _); (k_here; (with_reducible show wpAny _ _ _ _ _ (Shared.mk _ _ _ (_ + _) _)); k_dflt (refine' gen_toks ?zp ?_; (case zp => ((try dsimp only); exact Nat.succ_pos _)); intro _ _))) | with_reducible ((show wpAny _ _ (isTrue (Expr.Compare _ _ _ _) _ _) _ _ _); (k_here; k_dflt (refine' isTrue_ll ?zF ?zv ?_ ?zk ?zl; (case zF => k_asm); (case zv => rfl); (case zk => rfl); (case zl => rfl); k_whole; intro _; (try dsimp only)))) | (k_unfold; (try dsimp only)) | walk1 | (dsimp only; walk1) | (dsimp only [List.nil_append, List.cons_append]; walk1) | (k_end; dsimp only; k_unfold; (try dsimp only)) | (leave1; (try dsimp only)) | ((with_reducible show wpAny _ _ (isTrue (Expr.Compare _ _ _ _) _ _) _ _ _); (k_here; k_dflt (refine' isTrue_ll ?zF ?zv ?_ ?zk ?zl; (case zF => k_asm); (case zv => rfl); (case zk => rfl); (case zl => rfl); k_whole; intro _; (try dsimp only)))))))
    (try unfold StopAt)
    (with_reducible rename Fr _ _ _ _ => F8)
    (with_reducible rename News _ _ _ (_ :: _) => N8)
    refine' bads_mul F8 N8 (k := badCount (flat rs)) ?hm ?hx ?hk ?_
    case hm => k_mem
    case hx => rfl
    case hk => omega
    k_whole
    intro D3 h8 ws8 F10 N10 hw8 hl8
    clear F8 N8
    w_strict ((repeat' (first | with_reducible ((first | (show wpAny _ _ (binaryOp Operator.Mult (Value.ref _) (Value.int _ _)) _ _ _) | (show wpAny _ _ (compareOp CmpOp.Eq (Value.ref _) (Value.ref _)) _ _ _) | (show wpAny _ _ (call (Value.type "zip") _) _ _ _) | (show wpAny _ _ (eval (Expr.ListComp _ _ _ _) _) _ _ _) | (show wpAny _ _ (exec (Stmt.Assign (_ :: _) (Expr.ListComp _ _ _ _) _) _) _ _ _) | (show wpAny _ _ (pyIter (Value.ref _)) _ _ _)); refine stopAt_ ?_) | with_reducible ((show wpAny _ _ (call (Value.ref _) _) _ _ _); (k_here; (with_reducible show wpAny _ _ (call (Value.ref 149) _) _ _ _); refine stopAt_ ?_)) | with_reducible ((show wpAny _ _ (call (Value.ref _) _) _ _ _); (k_here; (with_reducible show wpAny _ _ (call (Value.ref 98) _) _ _ _); refine stopAt_ ?_)) | with_reducible ((show wpAny _ _ (execs (_ :: _) _) _ _ _); (k_here; (with_reducible rename StopList _ => zT9); k_dflt (refine stop_list zT9 ?_))) | with_reducible ((show wpAny _ _ (eval (Expr.Constant (Const.str _) _ _) _) _ _ _); ((try dsimp only); k_dflt (refine' const_str_tk ?_); intro _ _)) | with_reducible ((show wpAny _ _ (eval (Expr.Constant (Const.int _) _ _) _) _ _ _); ((try dsimp only); k_dflt (refine' const_int_tk ?_); intro _ _)) | with_reducible ((show wpAny _ _ (exec (Stmt.For (Expr.Tuple _ _ _) (Expr.Tuple _ _ _) (_ :: _) [] _) _) _ _ _); (k_here; (with_reducible rename Fr _ _ _ _ => zlF); (with_reducible refine' for_t ?zF9 ?_ ?zhs9); (case zF9 => k_dflt (exact zlF)); (case zhs9 => k_dflt (intro _; rfl)))) | with_reducible ((show wpAny _ _ (exec (Stmt.For (Expr.Name _ _) (Expr.Name _ _) (_ :: _) [] _) _) _ _ _); (k_here; (with_reducible rename Fr _ _ _ _ => zlF); (with_reducible refine' for_t ?zF9 ?_ ?zhs9); (case zF9 => k_dflt (exact zlF)); (case zhs9 => k_dflt (intro _; rfl)))) | with_reducible ((show wpAny _ _ (exec (Stmt.For (Expr.Name _ _) (Expr.Call _ _ _ _) (_ :: _) [] _) _) _ _ _); (k_here; (with_reducible rename Fr _ _ _ _ => zlF); (with_reducible refine' for_t ?zF9 ?_ ?zhs9); (case zF9 => k_dflt (exact zlF)); (case zhs9 => k_dflt (intro _; rfl)))) | with_reducible ((show wpAny _ _ (execs (_ :: _) _) _ _ _); (k_here; (with_reducible show wpAny _ _ _ _ _ (Shared.mk _ _ _ (_ + _) _)); k_dflt (refine' gen_toks ?zp ?_; (case zp => ((try dsimp only); exact Nat.succ_pos _)); intro _ _))) | with_reducible ((show wpAny _ _ (isTrue (Expr.Compare _ _ _ _) _ _) _ _ _); (k_here; k_dflt (refine' isTrue_ll ?zF ?zv ?_ ?zk ?zl; (case zF => k_asm); (case zv => rfl); (case zk => rfl); (case zl => rfl); k_whole; intro _; (try dsimp only)))) | (k_unfold; (try dsimp only)) | walk1 | (dsimp only; walk1) | (dsimp only [List.nil_append, List.cons_append]; walk1) | (k_end; dsimp only; k_unfold; (try dsimp only)) | (leave1; (try dsimp only)) | ((with_reducible show wpAny _ _ (isTrue (Expr.Compare _ _ _ _) _ _) _ _ _); (k_here; k_dflt (refine' isTrue_ll ?zF ?zv ?_ ?zk ?zl; (case zF => k_asm); (case zv => rfl); (case zk => rfl); (case zl => rfl); k_whole; intro _; (try dsimp only)))))))
    (try unfold StopAt)
    refine' eq_bads N10 ?m1 ?m2 z3 z2 hw8 ?u ?_
    case m1 => k_mem
    case m2 => k_mem
    case u => (first | assumption | ((simp only [units_in1, units_deeper, Around.mark_units, units_caller]); (try dsimp only [ktrTop]); first | exact room0 (by assumption) (by decide) | exact room1 (by assumption) (by decide)) | ((have zhcL := cLine_is); (simp only [units_in1, units_deeper, Around.mark_units, units_caller]); (try dsimp only [ktrTop]); omega) | ((have zhcL := cLine_is); (try dsimp only [ktrTop]); omega))
    w_strict ((repeat' (first | with_reducible ((first | (show wpAny _ _ (binaryOp Operator.Mult (Value.ref _) (Value.int _ _)) _ _ _) | (show wpAny _ _ (compareOp CmpOp.Eq (Value.ref _) (Value.ref _)) _ _ _) | (show wpAny _ _ (call (Value.type "zip") _) _ _ _) | (show wpAny _ _ (eval (Expr.ListComp _ _ _ _) _) _ _ _) | (show wpAny _ _ (exec (Stmt.Assign (_ :: _) (Expr.ListComp _ _ _ _) _) _) _ _ _) | (show wpAny _ _ (pyIter (Value.ref _)) _ _ _)); refine stopAt_ ?_) | with_reducible ((show wpAny _ _ (call (Value.ref _) _) _ _ _); (k_here; (with_reducible show wpAny _ _ (call (Value.ref 149) _) _ _ _); refine stopAt_ ?_)) | with_reducible ((show wpAny _ _ (call (Value.ref _) _) _ _ _); (k_here; (with_reducible show wpAny _ _ (call (Value.ref 98) _) _ _ _); refine stopAt_ ?_)) | with_reducible ((show wpAny _ _ (execs (_ :: _) _) _ _ _); (k_here; (with_reducible rename StopList _ => zT9); k_dflt (refine stop_list zT9 ?_))) | with_reducible ((show wpAny _ _ (eval (Expr.Constant (Const.str _) _ _) _) _ _ _); ((try dsimp only); k_dflt (refine' const_str_tk ?_); intro _ _)) | with_reducible ((show wpAny _ _ (eval (Expr.Constant (Const.int _) _ _) _) _ _ _); ((try dsimp only); k_dflt (refine' const_int_tk ?_); intro _ _)) | with_reducible ((show wpAny _ _ (exec (Stmt.For (Expr.Tuple _ _ _) (Expr.Tuple _ _ _) (_ :: _) [] _) _) _ _ _); (k_here; (with_reducible rename Fr _ _ _ _ => zlF); (with_reducible refine' for_t ?zF9 ?_ ?zhs9); (case zF9 => k_dflt (exact zlF)); (case zhs9 => k_dflt (intro _; rfl)))) | with_reducible ((show wpAny _ _ (exec (Stmt.For (Expr.Name _ _) (Expr.Name _ _) (_ :: _) [] _) _) _ _ _); (k_here; (with_reducible rename Fr _ _ _ _ => zlF); (with_reducible refine' for_t ?zF9 ?_ ?zhs9); (case zF9 => k_dflt (exact zlF)); (case zhs9 => k_dflt (intro _; rfl)))) | with_reducible ((show wpAny _ _ (exec (Stmt.For (Expr.Name _ _) (Expr.Call _ _ _ _) (_ :: _) [] _) _) _ _ _); (k_here; (with_reducible rename Fr _ _ _ _ => zlF); (with_reducible refine' for_t ?zF9 ?_ ?zhs9); (case zF9 => k_dflt (exact zlF)); (case zhs9 => k_dflt (intro _; rfl)))) | with_reducible ((show wpAny _ _ (execs (_ :: _) _) _ _ _); (k_here; (with_reducible show wpAny _ _ _ _ _ (Shared.mk _ _ _ (_ + _) _)); k_dflt (refine' gen_toks ?zp ?_; (case zp => ((try dsimp only); exact Nat.succ_pos _)); intro _ _))) | with_reducible ((show wpAny _ _ (isTrue (Expr.Compare _ _ _ _) _ _) _ _ _); (k_here; k_dflt (refine' isTrue_ll ?zF ?zv ?_ ?zk ?zl; (case zF => k_asm); (case zv => rfl); (case zk => rfl); (case zl => rfl); k_whole; intro _; (try dsimp only)))) | (k_unfold; (try dsimp only)) | walk1 | (dsimp only; walk1) | (dsimp only [List.nil_append, List.cons_append]; walk1) | (k_end; dsimp only; k_unfold; (try dsimp only)) | (leave1; (try dsimp only)) | ((with_reducible show wpAny _ _ (isTrue (Expr.Compare _ _ _ _) _ _) _ _ _); (k_here; k_dflt (refine' isTrue_ll ?zF ?zv ?_ ?zk ?zl; (case zF => k_asm); (case zv => rfl); (case zk => rfl); (case zl => rfl); k_whole; intro _; (try dsimp only)))))))
    (with_reducible rename Fr _ _ _ _ => F11)
    (with_reducible rename News _ _ _ (_ :: _) => N11)
    exact hret _ _ _ _ F11 N11
end
section
noncomputable def loopBody : List Stmt → List Stmt
  | .For _ _ b _ _ :: _ => b
  | _ => []
/-- the turn from the run got on -/
noncomputable def Turn3 (w : World) (body : List Stmt) (qual : Str) (scope : Scope) (cdv : Value) : Prop :=
  ∀ (L : Nat) (oc : Obj) (n : Int) (un1 : Nat) (_ : oc.data = .cell (some (.int n un1))) (rsa ra la ta u nt nll nr nrs tT : Nat) (vsT vsL vs : List Value) (rs : List RunT) (oc9 i kd : Nat) (T : Str) (_ : RowsAt oc9 vsT vsL) (_ : Made oc9 i kd T rs) (_ : i ≤ 12)
    (kt : Nat → Nat) (x d q nl td tx er : Nat) (_ : d < x ∧ x < q ∧ q < td ∧ td < tx ∧ tx < er) (_ : L + 1 < ta) (_ : ta < la ∧ la < ra) (_ : ra < rsa) (_ : rsa < d) (R3 : Ledger) (_ : OwnOff R3 [L + 1, rsa, ra, la, ta, er, q, x, d, tx, td])
    (n2 q2 : Nat) (_ : 2 ≤ n2) (_ : n2 ≤ 7) (st st2 : StS) (calm : Bool) (ln col : Int) (j k : Nat) (X : Str) (u2 u3 t1 t2 : Nat) (_ : rs[j]? = some (n, k, X)) (_ : At2 T rs j st calm ln col) (_ : Got T rs j st X.cps.toList st2) (tg : Nat)
    (m : Str → Option Value) (_ : m (Str.ofString "rows") = some (.ref ra)) (_ : m (Str.ofString "runs") = some (.ref rsa)) (_ : m (Str.ofString "stream") = some (.ref x)) (_ : m (Str.ofString "line") = some (.int ln t1)) (_ : m (Str.ofString "column") = some (.int col t2)) (_ : m (Str.ofString "calm") = some (.bool calm))
    (_ : m (Str.ofString "kind") = some (.int (k : Int) u2)) (_ : m (Str.ofString "run") = some (.str X u3)) (_ : m (Str.ofString "got") = some (.str X tg))
    (fa : Addr) (cd : Value) (dp un : Nat) (gd : Option (List Code)) (outer : List Env) (A₀ : Around) (base h₀ : Heap) (s : Shared) (QQ : Flow → Shared → Prop) (Er : Value → Shared → Prop)
    (loose : List Str) (mean : ExcName → Option Value) (mg mb : Str → Option Value)
    (_ : Below A₀ base outer h₀) (_ : Fr h₀ L s.heap m) (_ : (hd.heap_39 w.params).In h₀) (_ : News h₀ L s.heap ((L + 1, oc) :: (LS w kt x d q nl td tx er T tT (.int (n2 : Int) q2) st2 ++ ((rsa, listOf vs.toArray nrs) :: (rowsL ta la ra u nt nll nr vsT vsL ++ R3))))) (_ : Top hd.view_39 loose mean mg mb h₀)
    (_ : dp + 4 * 6 < recursionLimit) (_ : un + 40 * 6 < cLine)
    (_ : ∀ (h' : Heap) (tk' : Nat) (m' : Str → Option Value) (kt' : Nat → Nat) (n2 q2 : Nat) (st' : StS) (calm' : Bool) (ln' col' : Int) (t3 t4 : Nat), Fr h₀ L h' m' → News h₀ L h' ((L + 1, oc) :: (LS w kt' x d q nl td tx er T tT (.int (n2 : Int) q2) st' ++ ((rsa, listOf vs.toArray nrs) :: (rowsL ta la ra u nt nll nr vsT vsL ++ R3)))) → 2 ≤ n2 → n2 ≤ 7 →
      m' (Str.ofString "rows") = some (.ref ra) → m' (Str.ofString "runs") = some (.ref rsa) → m' (Str.ofString "stream") = some (.ref x) → m' (Str.ofString "line") = some (.int ln' t3) → m' (Str.ofString "column") = some (.int col' t4) → m' (Str.ofString "calm") = some (.bool calm') → At2 T rs (j + 1) st' calm' ln' col' → QQ .next { s with heap := h', toks := tk' }),
    wpAny (model PySem.Challenge.rw_te0024_02.row.prog w) (ktrTop dp un gd qual scope L fa cd [(Str.ofString "n", L + 1)] outer) (execs ((loopBody (body.drop 9)).drop 2) (envX qual scope L fa cd [(Str.ofString "n", L + 1)])) QQ Er s
theorem lines_nil : linesOf [] = 0 := rfl
theorem place_step {X : Str} {i c : Nat} (hc : X.cps[i]? = some c) (ln col : Int) : ln + linesOf (X.cps.toList.take (i + 1)) = (if c = 10 then ln + linesOf (X.cps.toList.take i) + 1 else ln + linesOf (X.cps.toList.take i)) ∧ colFrom col (X.cps.toList.take (i + 1)) = (if c = 10 then 0 else colFrom col (X.cps.toList.take i) + 1) := by
  have h : X.cps.toList[i]? = some c := by rw [Array.getElem?_toList]; exact hc
  rw [List.take_add_one, h, linesOf_append, colFrom_append]
  refine ⟨?_, rfl⟩
  show ln + (linesOf (X.cps.toList.take i) + linesOf [c]) = _
  unfold linesOf
  rw [List.filter_cons]
  by_cases h : c = 10
  · subst h; simp; omega
  · simp [h]
theorem mem_place {p a b r1 y t : Addr × Obj} {A : Ledger} (h : p ∈ a :: b :: r1 :: A) : p ∈ y :: a :: b :: r1 :: t :: A := by
  have k : a :: b :: r1 :: A ⊆ y :: a :: b :: r1 :: t :: A := List.cons_subset.mpr ⟨.tail _ (.head _), List.cons_subset.mpr ⟨.tail _ (.tail _ (.head _)), List.cons_subset.mpr ⟨.tail _ (.tail _ (.tail _ (.head _))), fun q hq => .tail _ (.tail _ (.tail _ (.tail _ (.tail _ (hq)))))⟩⟩⟩
  exact k h
theorem know7_eq {m : Str → Option Value} {z1 z2 z3 z4 z5 z6 z7 : Str} {b1 b2 b3 b4 b5 b6 b7 : Value} (h1 : m z1 = some b1) (h2 : m z2 = some b2) (h3 : m z3 = some b3) (h4 : m z4 = some b4) (h5 : m z5 = some b5) (h6 : m z6 = some b6) (h7 : m z7 = some b7) : (fun y => if y = z1 then some b1 else if y = z2 then some b2 else if y = z3 then some b3 else if y = z4 then some b4 else if y = z5 then some b5 else if y = z6 then some b6 else if y = z7 then some b7 else m y) = m := by
  have e : kstB m [(z1, b1), (z2, b2), (z3, b3), (z4, b4), (z5, b5), (z6, b6), (z7, b7)] = m := funext fun y => kstB_eq (fun p hp => by
    simp only [List.mem_cons, List.not_mem_nil, or_false] at hp
    rcases hp with rfl | rfl | rfl | rfl | rfl | rfl | rfl <;> assumption) fun _ => rfl
  exact e
theorem know9_eq {m : Str → Option Value} {z1 z2 z3 z4 z5 z6 z7 z8 z9 : Str} {b1 b2 b3 b4 b5 b6 b7 b8 b9 : Value} (h1 : m z1 = some b1) (h2 : m z2 = some b2) (h3 : m z3 = some b3) (h4 : m z4 = some b4) (h5 : m z5 = some b5) (h6 : m z6 = some b6) (h7 : m z7 = some b7) (h8 : m z8 = some b8) (h9 : m z9 = some b9) : (fun y => if y = z1 then some b1 else if y = z2 then some b2 else if y = z3 then some b3 else if y = z4 then some b4 else if y = z5 then some b5 else if y = z6 then some b6 else if y = z7 then some b7 else if y = z8 then some b8 else if y = z9 then some b9 else m y) = m := by
  have e : kstB m [(z1, b1), (z2, b2), (z3, b3), (z4, b4), (z5, b5), (z6, b6), (z7, b7), (z8, b8), (z9, b9)] = m := funext fun y => kstB_eq (fun p hp => by
    simp only [List.mem_cons, List.not_mem_nil, or_false] at hp
    rcases hp with rfl | rfl | rfl | rfl | rfl | rfl | rfl | rfl | rfl <;> assumption) fun _ => rfl
  exact e
set_option maxRecDepth 100000 in
set_option maxHeartbeats 1500000 in
theorem turn3 (w : World) {oc od osl} {name qual : Str} {params : Arguments} {body : List Stmt} {scope : Scope} {dV kV doc pm cdv ct : Value} {an : Option Addr} :
    (hd.heap_39 w.params).lookup 166 = some ⟨oc, od, .func (fnOf name qual params body scope dV kV doc pm an cdv ct), osl⟩ → Turn3 w body qual scope cdv := by
  unfold Turn3
  k_fill
  show _ → Turn3 w body qual scope cdv
  intro ho
  obtain ⟨rfl, rfl, rfl, rfl⟩ := fn_parts ho (show (hd.heap_39 w.params).lookup 166 = some _ by k_is)
  unfold Turn3
  intro L oc n un1 hcd rsa ra la ta u nt nll nr nrs tT vsT vsL vs rs oc9 i kd T hR M hi12 kt x d q nl td tx er hord hLt hlt hrr hrd R3 hoff n2 q2 hn2 hn7 st st2 calm ln col j k X u2 u3 t1 t2 hr A2 G tg m e1 e2 e3 e4 e5 e6 e7 e8 e9 fa cd dp un gd outer A₀ base h₀ s QQ Er loose mean mg mb B F KX N TT hroom hun hcont
  clear ho
  have hk9 := know9_eq e1 e2 e3 e4 e5 e6 e7 e8 e9
  have F1 := fr_eq hk9 F
  clear F
  have hk3 : k < 3 := M.hk _ (List.mem_of_getElem? hr)
  have hTl : T.length ≤ 10000 := made_10000 M hi12
  have N1 : News h₀ L s.heap ((L + 1, oc) :: (rsa, listOf vs.toArray nrs) :: (ra, listOf #[.ref ta, .str (Str.ofString "abé") u, .ref la] nr) :: (LS w kt x d q nl td tx er T tT (.int (n2 : Int) q2) st2 ++ ((la, listOf vsL.toArray nll) :: (ta, { cls := .type "tuple", data := .seq vsT.toArray nt }) :: R3))) := fun p hp => N p (mem_rows hp)
  simp only [LS, SX, TL, ent, List.cons_append, List.nil_append] at N1
  clear N
  refine wpAny_noRaise ?_
  w_on
  w_top on
  w_strict ((repeat' (first | with_reducible ((first | (show wpAny _ _ (subscriptTail (Expr.Name _ _) (Expr.BinOp _ _ _ _) (Value.ref _) (Value.int _ _)) _ _ _) | (show wpAny _ _ (subscriptTail (Expr.Name _ _) (Expr.Name _ _) (Value.ref _) (Value.int _ _)) _ _ _) | (show wpAny _ _ (pyIter (Value.str _ _)) _ _ _) | (show wpAny _ _ (call (Value.type "zip") _) _ _ _) | (show wpAny _ _ (eval (Expr.ListComp _ _ _ _) _) _ _ _) | (show wpAny _ _ (exec (Stmt.Assign (_ :: _) (Expr.ListComp _ _ _ _) _) _) _ _ _) | (show wpAny _ _ (pyIter (Value.ref _)) _ _ _)); refine stopAt_ ?_) | with_reducible ((show wpAny _ _ (call (Value.ref _) _) _ _ _); (k_here; (with_reducible show wpAny _ _ (call (Value.ref 91) _) _ _ _); refine stopAt_ ?_)) | with_reducible ((show wpAny _ _ (call (Value.ref _) _) _ _ _); (k_here; (with_reducible show wpAny _ _ (call (Value.ref 128) _) _ _ _); refine stopAt_ ?_)) | with_reducible ((show wpAny _ _ (call (Value.ref _) _) _ _ _); (k_here; (with_reducible show wpAny _ _ (call (Value.ref 98) _) _ _ _); refine stopAt_ ?_)) | with_reducible ((show wpAny _ _ (call (Value.ref _) _) _ _ _); (k_here; (with_reducible show wpAny _ _ (call (Value.ref 121) _) _ _ _); refine stopAt_ ?_)) | with_reducible ((show wpAny _ _ (execs (_ :: _) _) _ _ _); ((with_reducible show wpAny _ _ (execs [Stmt.If _ _ _ _, _, _] _) _ _ _); refine stopAt_ ?_)) | with_reducible ((show wpAny _ _ (execs (_ :: _) _) _ _ _); (k_here; (with_reducible rename StopList _ => zT9); k_dflt (refine stop_list zT9 ?_))) | with_reducible ((show wpAny _ _ (eval (Expr.Constant (Const.str _) _ _) _) _ _ _); ((try dsimp only); k_dflt (refine' const_str_tk ?_); intro _ _)) | with_reducible ((show wpAny _ _ (eval (Expr.Constant (Const.int _) _ _) _) _ _ _); ((try dsimp only); k_dflt (refine' const_int_tk ?_); intro _ _)) | with_reducible ((show wpAny _ _ (exec (Stmt.For (Expr.Tuple _ _ _) (Expr.Tuple _ _ _) (_ :: _) [] _) _) _ _ _); (k_here; (with_reducible rename Fr _ _ _ _ => zlF); (with_reducible refine' for_t ?zF9 ?_ ?zhs9); (case zF9 => k_dflt (exact zlF)); (case zhs9 => k_dflt (intro _; rfl)))) | with_reducible ((show wpAny _ _ (exec (Stmt.For (Expr.Name _ _) (Expr.Name _ _) (_ :: _) [] _) _) _ _ _); (k_here; (with_reducible rename Fr _ _ _ _ => zlF); (with_reducible refine' for_t ?zF9 ?_ ?zhs9); (case zF9 => k_dflt (exact zlF)); (case zhs9 => k_dflt (intro _; rfl)))) | with_reducible ((show wpAny _ _ (exec (Stmt.For (Expr.Name _ _) (Expr.Call _ _ _ _) (_ :: _) [] _) _) _ _ _); (k_here; (with_reducible rename Fr _ _ _ _ => zlF); (with_reducible refine' for_t ?zF9 ?_ ?zhs9); (case zF9 => k_dflt (exact zlF)); (case zhs9 => k_dflt (intro _; rfl)))) | with_reducible ((show wpAny _ _ (execs (_ :: _) _) _ _ _); (k_here; (with_reducible show wpAny _ _ _ _ _ (Shared.mk _ _ _ (_ + _) _)); k_dflt (refine' gen_toks ?zp ?_; (case zp => ((try dsimp only); exact Nat.succ_pos _)); intro _ _))) | with_reducible ((show wpAny _ _ (isTrue (Expr.Compare _ _ _ _) _ _) _ _ _); (k_here; k_dflt (refine' isTrue_ll ?zF ?zv ?_ ?zk ?zl; (case zF => k_asm); (case zv => rfl); (case zk => rfl); (case zl => rfl); k_whole; intro _; (try dsimp only)))) | (k_unfold; (try dsimp only)) | walk1 | (dsimp only; walk1) | (dsimp only [List.nil_append, List.cons_append]; walk1) | (k_end; dsimp only; k_unfold; (try dsimp only)) | (leave1; (try dsimp only)) | ((with_reducible show wpAny _ _ (isTrue (Expr.Compare _ _ _ _) _ _) _ _ _); (k_here; k_dflt (refine' isTrue_ll ?zF ?zv ?_ ?zk ?zl; (case zF => k_asm); (case zv => rfl); (case zk => rfl); (case zl => rfl); k_whole; intro _; (try dsimp only)))))))
  (try unfold StopAt)
  (with_reducible rename Fr _ _ _ _ => F5)
  (with_reducible rename News _ _ _ _ => N5)
  (try clear F1); (try clear N1)
  show wpAny _ _ (execs (_ :: _) _) _ _ _
  with_reducible refine' execs_join (fun s' => ∃ (h' : Heap) (tk : Nat) (m3 : Str → Option Value) (st5 : StS) (calm5 : Bool), s' = ⟨h', s.gens, s.drawn, tk, s.os⟩ ∧ Fr h₀ L h' m3 ∧ m3 (Str.ofString "rows") = some (.ref ra) ∧ m3 (Str.ofString "runs") = some (.ref rsa) ∧ m3 (Str.ofString "stream") = some (.ref x) ∧ m3 (Str.ofString "line") = some (.int ln t1) ∧ m3 (Str.ofString "column") = some (.int col t2) ∧ m3 (Str.ofString "calm") = some (.bool calm5) ∧
      m3 (Str.ofString "run") = some (.str X u3) ∧ News h₀ L h' ((L + 1, oc) :: (rsa, listOf vs.toArray nrs) :: (ra, listOf #[.ref ta, .str (Str.ofString "abé") u, .ref la] nr) :: (LS w kt x d q nl td tx er T tT (.int (n2 : Int) q2) st5 ++ ((la, listOf vsL.toArray nll) :: (ta, { cls := .type "tuple", data := .seq vsT.toArray nt }) :: R3))) ∧ Aft T rs j st5 calm5 ∧ True) ?rest ?again
  case again =>
    intro JJ hJJ
    w_strict ((repeat' (first | with_reducible ((first | (show wpAny _ _ (subscriptTail (Expr.Name _ _) (Expr.BinOp _ _ _ _) (Value.ref _) (Value.int _ _)) _ _ _) | (show wpAny _ _ (subscriptTail (Expr.Name _ _) (Expr.Name _ _) (Value.ref _) (Value.int _ _)) _ _ _) | (show wpAny _ _ (pyIter (Value.str _ _)) _ _ _) | (show wpAny _ _ (call (Value.type "zip") _) _ _ _) | (show wpAny _ _ (eval (Expr.ListComp _ _ _ _) _) _ _ _) | (show wpAny _ _ (exec (Stmt.Assign (_ :: _) (Expr.ListComp _ _ _ _) _) _) _ _ _) | (show wpAny _ _ (pyIter (Value.ref _)) _ _ _)); refine stopAt_ ?_) | with_reducible ((show wpAny _ _ (call (Value.ref _) _) _ _ _); (k_here; (with_reducible show wpAny _ _ (call (Value.ref 91) _) _ _ _); refine stopAt_ ?_)) | with_reducible ((show wpAny _ _ (call (Value.ref _) _) _ _ _); (k_here; (with_reducible show wpAny _ _ (call (Value.ref 128) _) _ _ _); refine stopAt_ ?_)) | with_reducible ((show wpAny _ _ (call (Value.ref _) _) _ _ _); (k_here; (with_reducible show wpAny _ _ (call (Value.ref 98) _) _ _ _); refine stopAt_ ?_)) | with_reducible ((show wpAny _ _ (call (Value.ref _) _) _ _ _); (k_here; (with_reducible show wpAny _ _ (call (Value.ref 121) _) _ _ _); refine stopAt_ ?_)) | with_reducible ((show wpAny _ _ (execs (_ :: _) _) _ _ _); ((with_reducible show wpAny _ _ (execs [Stmt.If _ _ _ _, _, _] _) _ _ _); refine stopAt_ ?_)) | with_reducible ((show wpAny _ _ (execs (_ :: _) _) _ _ _); (k_here; (with_reducible rename StopList _ => zT9); k_dflt (refine stop_list zT9 ?_))) | with_reducible ((show wpAny _ _ (eval (Expr.Constant (Const.str _) _ _) _) _ _ _); ((try dsimp only); k_dflt (refine' const_str_tk ?_); intro _ _)) | with_reducible ((show wpAny _ _ (eval (Expr.Constant (Const.int _) _ _) _) _ _ _); ((try dsimp only); k_dflt (refine' const_int_tk ?_); intro _ _)) | with_reducible ((show wpAny _ _ (exec (Stmt.For (Expr.Tuple _ _ _) (Expr.Tuple _ _ _) (_ :: _) [] _) _) _ _ _); (k_here; (with_reducible rename Fr _ _ _ _ => zlF); (with_reducible refine' for_t ?zF9 ?_ ?zhs9); (case zF9 => k_dflt (exact zlF)); (case zhs9 => k_dflt (intro _; rfl)))) | with_reducible ((show wpAny _ _ (exec (Stmt.For (Expr.Name _ _) (Expr.Name _ _) (_ :: _) [] _) _) _ _ _); (k_here; (with_reducible rename Fr _ _ _ _ => zlF); (with_reducible refine' for_t ?zF9 ?_ ?zhs9); (case zF9 => k_dflt (exact zlF)); (case zhs9 => k_dflt (intro _; rfl)))) | with_reducible ((show wpAny _ _ (exec (Stmt.For (Expr.Name _ _) (Expr.Call _ _ _ _) (_ :: _) [] _) _) _ _ _); (k_here; (with_reducible rename Fr _ _ _ _ => zlF); (with_reducible refine' for_t ?zF9 ?_ ?zhs9); (case zF9 => k_dflt (exact zlF)); (case zhs9 => k_dflt (intro _; rfl)))) | with_reducible ((show wpAny _ _ (execs (_ :: _) _) _ _ _); (k_here; (with_reducible show wpAny _ _ _ _ _ (Shared.mk _ _ _ (_ + _) _)); k_dflt (refine' gen_toks ?zp ?_; (case zp => ((try dsimp only); exact Nat.succ_pos _)); intro _ _))) | with_reducible ((show wpAny _ _ (isTrue (Expr.Compare _ _ _ _) _ _) _ _ _); (k_here; k_dflt (refine' isTrue_ll ?zF ?zv ?_ ?zk ?zl; (case zF => k_asm); (case zv => rfl); (case zk => rfl); (case zl => rfl); k_whole; intro _; (try dsimp only)))) | (k_unfold; (try dsimp only)) | walk1 | (dsimp only; walk1) | (dsimp only [List.nil_append, List.cons_append]; walk1) | (k_end; dsimp only; k_unfold; (try dsimp only)) | (leave1; (try dsimp only)) | ((with_reducible show wpAny _ _ (isTrue (Expr.Compare _ _ _ _) _ _) _ _ _); (k_here; k_dflt (refine' isTrue_ll ?zF ?zv ?_ ?zk ?zl; (case zF => k_asm); (case zv => rfl); (case zk => rfl); (case zl => rfl); k_whole; intro _; (try dsimp only)))))))
    · (try unfold StopAt)
      have A3 := aft_got hr A2 G
      refine' ex_1_1 (last_sign M hr) ?_; intro c9 hls
      have l1 := hls.1
      have l2 := hls.2.1
      have l3 := hls.2.2.1
      have l4 := hls.2.2.2.1
      have l5 := hls.2.2.2.2
      clear hls
      refine' item_str ?f1 ?f2 ?f3 ?_
      case f1 => decide
      case f2 => exact l4
      case f3 => exact l5
      rw [l1]
      intro _
      w_strict ((repeat' (first | with_reducible ((first | (show wpAny _ _ (subscriptTail (Expr.Name _ _) (Expr.BinOp _ _ _ _) (Value.ref _) (Value.int _ _)) _ _ _) | (show wpAny _ _ (subscriptTail (Expr.Name _ _) (Expr.Name _ _) (Value.ref _) (Value.int _ _)) _ _ _) | (show wpAny _ _ (pyIter (Value.str _ _)) _ _ _) | (show wpAny _ _ (call (Value.type "zip") _) _ _ _) | (show wpAny _ _ (eval (Expr.ListComp _ _ _ _) _) _ _ _) | (show wpAny _ _ (exec (Stmt.Assign (_ :: _) (Expr.ListComp _ _ _ _) _) _) _ _ _) | (show wpAny _ _ (pyIter (Value.ref _)) _ _ _)); refine stopAt_ ?_) | with_reducible ((show wpAny _ _ (call (Value.ref _) _) _ _ _); (k_here; (with_reducible show wpAny _ _ (call (Value.ref 91) _) _ _ _); refine stopAt_ ?_)) | with_reducible ((show wpAny _ _ (call (Value.ref _) _) _ _ _); (k_here; (with_reducible show wpAny _ _ (call (Value.ref 128) _) _ _ _); refine stopAt_ ?_)) | with_reducible ((show wpAny _ _ (call (Value.ref _) _) _ _ _); (k_here; (with_reducible show wpAny _ _ (call (Value.ref 98) _) _ _ _); refine stopAt_ ?_)) | with_reducible ((show wpAny _ _ (call (Value.ref _) _) _ _ _); (k_here; (with_reducible show wpAny _ _ (call (Value.ref 121) _) _ _ _); refine stopAt_ ?_)) | with_reducible ((show wpAny _ _ (execs (_ :: _) _) _ _ _); ((with_reducible show wpAny _ _ (execs [Stmt.If _ _ _ _, _, _] _) _ _ _); refine stopAt_ ?_)) | with_reducible ((show wpAny _ _ (execs (_ :: _) _) _ _ _); (k_here; (with_reducible rename StopList _ => zT9); k_dflt (refine stop_list zT9 ?_))) | with_reducible ((show wpAny _ _ (eval (Expr.Constant (Const.str _) _ _) _) _ _ _); ((try dsimp only); k_dflt (refine' const_str_tk ?_); intro _ _)) | with_reducible ((show wpAny _ _ (eval (Expr.Constant (Const.int _) _ _) _) _ _ _); ((try dsimp only); k_dflt (refine' const_int_tk ?_); intro _ _)) | with_reducible ((show wpAny _ _ (exec (Stmt.For (Expr.Tuple _ _ _) (Expr.Tuple _ _ _) (_ :: _) [] _) _) _ _ _); (k_here; (with_reducible rename Fr _ _ _ _ => zlF); (with_reducible refine' for_t ?zF9 ?_ ?zhs9); (case zF9 => k_dflt (exact zlF)); (case zhs9 => k_dflt (intro _; rfl)))) | with_reducible ((show wpAny _ _ (exec (Stmt.For (Expr.Name _ _) (Expr.Name _ _) (_ :: _) [] _) _) _ _ _); (k_here; (with_reducible rename Fr _ _ _ _ => zlF); (with_reducible refine' for_t ?zF9 ?_ ?zhs9); (case zF9 => k_dflt (exact zlF)); (case zhs9 => k_dflt (intro _; rfl)))) | with_reducible ((show wpAny _ _ (exec (Stmt.For (Expr.Name _ _) (Expr.Call _ _ _ _) (_ :: _) [] _) _) _ _ _); (k_here; (with_reducible rename Fr _ _ _ _ => zlF); (with_reducible refine' for_t ?zF9 ?_ ?zhs9); (case zF9 => k_dflt (exact zlF)); (case zhs9 => k_dflt (intro _; rfl)))) | with_reducible ((show wpAny _ _ (execs (_ :: _) _) _ _ _); (k_here; (with_reducible show wpAny _ _ _ _ _ (Shared.mk _ _ _ (_ + _) _)); k_dflt (refine' gen_toks ?zp ?_; (case zp => ((try dsimp only); exact Nat.succ_pos _)); intro _ _))) | with_reducible ((show wpAny _ _ (isTrue (Expr.Compare _ _ _ _) _ _) _ _ _); (k_here; k_dflt (refine' isTrue_ll ?zF ?zv ?_ ?zk ?zl; (case zF => k_asm); (case zv => rfl); (case zk => rfl); (case zl => rfl); k_whole; intro _; (try dsimp only)))) | (k_unfold; (try dsimp only)) | walk1 | (dsimp only; walk1) | (dsimp only [List.nil_append, List.cons_append]; walk1) | (k_end; dsimp only; k_unfold; (try dsimp only)) | (leave1; (try dsimp only)) | ((with_reducible show wpAny _ _ (isTrue (Expr.Compare _ _ _ _) _ _) _ _ _); (k_here; k_dflt (refine' isTrue_ll ?zF ?zv ?_ ?zk ?zl; (case zF => k_asm); (case zv => rfl); (case zk => rfl); (case zl => rfl); k_whole; intro _; (try dsimp only)))))))
      unfold StopAt
      (with_reducible rename Fr _ _ _ _ => F5)
      (with_reducible rename News _ _ _ _ => N5)
      (try dsimp only [List.append_nil])
      k_dflt (refine' Does.useG1 [_, _, _] (does_unget w kt x d q nl td tx er hord T st2 G.ok G.b tT n2 q2 _ _ c9 rfl (back_c G l2) (back_len M hi12 G)) ((fun _ _ h => h)) ?k1 ?k2 ?k3 ?k4 ?k5 ?kd ?kK ?kr ?ku ?_)
      case k4 => exact N5
      case k1 => k_asm
      case k2 => exact F5
      case k3 => k_asm
      case k5 => k_asm
      case kK => first | exact rfl | assumption
      case kr => (first | assumption | ((simp only [depth_under_make, depth_under_kw, depth_in1, depth_deeper, depth_caller]); (try dsimp only [ktrTop]); first | exact room0 (by assumption) (by decide) | exact room1 (by assumption) (by decide) | omega | decide) | ((try dsimp only [ktrTop]); omega))
      case ku => (first | assumption | ((simp only [units_in1, units_deeper, Around.mark_units, units_caller]); (try dsimp only [ktrTop]); first | exact room0 (by assumption) (by decide) | exact room1 (by assumption) (by decide)) | ((have zhcL := cLine_is); (simp only [units_in1, units_deeper, Around.mark_units, units_caller]); (try dsimp only [ktrTop]); omega) | ((have zhcL := cLine_is); (try dsimp only [ktrTop]); omega))
      skip
      case kd => exact turn_dis1 hord hLt hlt hrr hrd hoff
      k_whole
      intro st3 h9 tk9 F9 N9 p9 T9
      (try dsimp only at T9)
      (try simp only [List.nil_append, List.cons_append] at N9)
      clear N5 F5
      have hB3 : Back T rs j c9 st2 st3 := p9
      have ok3 := p9.1
      have b3 := p9.2.1
      simp only [LS, SX, TL, ent, List.cons_append, List.nil_append] at N9
      w_strict ((repeat' (first | with_reducible ((first | (show wpAny _ _ (subscriptTail (Expr.Name _ _) (Expr.BinOp _ _ _ _) (Value.ref _) (Value.int _ _)) _ _ _) | (show wpAny _ _ (subscriptTail (Expr.Name _ _) (Expr.Name _ _) (Value.ref _) (Value.int _ _)) _ _ _) | (show wpAny _ _ (pyIter (Value.str _ _)) _ _ _) | (show wpAny _ _ (call (Value.type "zip") _) _ _ _) | (show wpAny _ _ (eval (Expr.ListComp _ _ _ _) _) _ _ _) | (show wpAny _ _ (exec (Stmt.Assign (_ :: _) (Expr.ListComp _ _ _ _) _) _) _ _ _) | (show wpAny _ _ (pyIter (Value.ref _)) _ _ _)); refine stopAt_ ?_) | with_reducible ((show wpAny _ _ (call (Value.ref _) _) _ _ _); (k_here; (with_reducible show wpAny _ _ (call (Value.ref 91) _) _ _ _); refine stopAt_ ?_)) | with_reducible ((show wpAny _ _ (call (Value.ref _) _) _ _ _); (k_here; (with_reducible show wpAny _ _ (call (Value.ref 128) _) _ _ _); refine stopAt_ ?_)) | with_reducible ((show wpAny _ _ (call (Value.ref _) _) _ _ _); (k_here; (with_reducible show wpAny _ _ (call (Value.ref 98) _) _ _ _); refine stopAt_ ?_)) | with_reducible ((show wpAny _ _ (call (Value.ref _) _) _ _ _); (k_here; (with_reducible show wpAny _ _ (call (Value.ref 121) _) _ _ _); refine stopAt_ ?_)) | with_reducible ((show wpAny _ _ (execs (_ :: _) _) _ _ _); ((with_reducible show wpAny _ _ (execs [Stmt.If _ _ _ _, _, _] _) _ _ _); refine stopAt_ ?_)) | with_reducible ((show wpAny _ _ (execs (_ :: _) _) _ _ _); (k_here; (with_reducible rename StopList _ => zT9); k_dflt (refine stop_list zT9 ?_))) | with_reducible ((show wpAny _ _ (eval (Expr.Constant (Const.str _) _ _) _) _ _ _); ((try dsimp only); k_dflt (refine' const_str_tk ?_); intro _ _)) | with_reducible ((show wpAny _ _ (eval (Expr.Constant (Const.int _) _ _) _) _ _ _); ((try dsimp only); k_dflt (refine' const_int_tk ?_); intro _ _)) | with_reducible ((show wpAny _ _ (exec (Stmt.For (Expr.Tuple _ _ _) (Expr.Tuple _ _ _) (_ :: _) [] _) _) _ _ _); (k_here; (with_reducible rename Fr _ _ _ _ => zlF); (with_reducible refine' for_t ?zF9 ?_ ?zhs9); (case zF9 => k_dflt (exact zlF)); (case zhs9 => k_dflt (intro _; rfl)))) | with_reducible ((show wpAny _ _ (exec (Stmt.For (Expr.Name _ _) (Expr.Name _ _) (_ :: _) [] _) _) _ _ _); (k_here; (with_reducible rename Fr _ _ _ _ => zlF); (with_reducible refine' for_t ?zF9 ?_ ?zhs9); (case zF9 => k_dflt (exact zlF)); (case zhs9 => k_dflt (intro _; rfl)))) | with_reducible ((show wpAny _ _ (exec (Stmt.For (Expr.Name _ _) (Expr.Call _ _ _ _) (_ :: _) [] _) _) _ _ _); (k_here; (with_reducible rename Fr _ _ _ _ => zlF); (with_reducible refine' for_t ?zF9 ?_ ?zhs9); (case zF9 => k_dflt (exact zlF)); (case zhs9 => k_dflt (intro _; rfl)))) | with_reducible ((show wpAny _ _ (execs (_ :: _) _) _ _ _); (k_here; (with_reducible show wpAny _ _ _ _ _ (Shared.mk _ _ _ (_ + _) _)); k_dflt (refine' gen_toks ?zp ?_; (case zp => ((try dsimp only); exact Nat.succ_pos _)); intro _ _))) | with_reducible ((show wpAny _ _ (isTrue (Expr.Compare _ _ _ _) _ _) _ _ _); (k_here; k_dflt (refine' isTrue_ll ?zF ?zv ?_ ?zk ?zl; (case zF => k_asm); (case zv => rfl); (case zk => rfl); (case zl => rfl); k_whole; intro _; (try dsimp only)))) | (k_unfold; (try dsimp only)) | walk1 | (dsimp only; walk1) | (dsimp only [List.nil_append, List.cons_append]; walk1) | (k_end; dsimp only; k_unfold; (try dsimp only)) | (leave1; (try dsimp only)) | ((with_reducible show wpAny _ _ (isTrue (Expr.Compare _ _ _ _) _ _) _ _ _); (k_here; k_dflt (refine' isTrue_ll ?zF ?zv ?_ ?zk ?zl; (case zF => k_asm); (case zv => rfl); (case zk => rfl); (case zl => rfl); k_whole; intro _; (try dsimp only)))))))
      · skip
        unfold StopAt
        (with_reducible rename Fr _ _ _ _ => F5)
        (with_reducible rename News _ _ _ _ => N5)
        (try dsimp only [List.append_nil])
        k_dflt (refine' Does.useG2 [_, _, _] (does_char w kt x d q nl td tx er hord T hTl M.hsur st3 ok3 b3 tT n2 q2 hn2 (Nat.le_trans hn7 (by decide))) (back_charP A3 hB3) ?k1 ?k2 ?k3 ?k4 ?k5 ?kd ?kK ?kr ?ku ?_)
        case k4 => exact N5
        case k1 => k_asm
        case k2 => exact F5
        case k3 => k_asm
        case k5 => k_asm
        case kK => first | exact rfl | assumption
        case kr => (first | assumption | ((simp only [depth_under_make, depth_under_kw, depth_in1, depth_deeper, depth_caller]); (try dsimp only [ktrTop]); first | exact room0 (by assumption) (by decide) | exact room1 (by assumption) (by decide) | omega | decide) | ((try dsimp only [ktrTop]); omega))
        case ku => (first | assumption | ((simp only [units_in1, units_deeper, Around.mark_units, units_caller]); (try dsimp only [ktrTop]); first | exact room0 (by assumption) (by decide) | exact room1 (by assumption) (by decide)) | ((have zhcL := cLine_is); (simp only [units_in1, units_deeper, Around.mark_units, units_caller]); (try dsimp only [ktrTop]); omega) | ((have zhcL := cLine_is); (try dsimp only [ktrTop]); omega))
        skip
        case kd => exact turn_dis1 hord hLt hlt hrr hrd hoff
        k_whole
        intro t9 st4 h9 tk9 F9 N9 p9 T9
        (try dsimp only at T9)
        (try simp only [List.nil_append, List.cons_append] at N9)
        clear N5 F5
        have A5 := p9
        w_strict ((repeat' (first | with_reducible ((first | (show wpAny _ _ (subscriptTail (Expr.Name _ _) (Expr.BinOp _ _ _ _) (Value.ref _) (Value.int _ _)) _ _ _) | (show wpAny _ _ (subscriptTail (Expr.Name _ _) (Expr.Name _ _) (Value.ref _) (Value.int _ _)) _ _ _) | (show wpAny _ _ (pyIter (Value.str _ _)) _ _ _) | (show wpAny _ _ (call (Value.type "zip") _) _ _ _) | (show wpAny _ _ (eval (Expr.ListComp _ _ _ _) _) _ _ _) | (show wpAny _ _ (exec (Stmt.Assign (_ :: _) (Expr.ListComp _ _ _ _) _) _) _ _ _) | (show wpAny _ _ (pyIter (Value.ref _)) _ _ _)); refine stopAt_ ?_) | with_reducible ((show wpAny _ _ (call (Value.ref _) _) _ _ _); (k_here; (with_reducible show wpAny _ _ (call (Value.ref 91) _) _ _ _); refine stopAt_ ?_)) | with_reducible ((show wpAny _ _ (call (Value.ref _) _) _ _ _); (k_here; (with_reducible show wpAny _ _ (call (Value.ref 128) _) _ _ _); refine stopAt_ ?_)) | with_reducible ((show wpAny _ _ (call (Value.ref _) _) _ _ _); (k_here; (with_reducible show wpAny _ _ (call (Value.ref 98) _) _ _ _); refine stopAt_ ?_)) | with_reducible ((show wpAny _ _ (call (Value.ref _) _) _ _ _); (k_here; (with_reducible show wpAny _ _ (call (Value.ref 121) _) _ _ _); refine stopAt_ ?_)) | with_reducible ((show wpAny _ _ (execs (_ :: _) _) _ _ _); ((with_reducible show wpAny _ _ (execs [Stmt.If _ _ _ _, _, _] _) _ _ _); refine stopAt_ ?_)) | with_reducible ((show wpAny _ _ (execs (_ :: _) _) _ _ _); (k_here; (with_reducible rename StopList _ => zT9); k_dflt (refine stop_list zT9 ?_))) | with_reducible ((show wpAny _ _ (eval (Expr.Constant (Const.str _) _ _) _) _ _ _); ((try dsimp only); k_dflt (refine' const_str_tk ?_); intro _ _)) | with_reducible ((show wpAny _ _ (eval (Expr.Constant (Const.int _) _ _) _) _ _ _); ((try dsimp only); k_dflt (refine' const_int_tk ?_); intro _ _)) | with_reducible ((show wpAny _ _ (exec (Stmt.For (Expr.Tuple _ _ _) (Expr.Tuple _ _ _) (_ :: _) [] _) _) _ _ _); (k_here; (with_reducible rename Fr _ _ _ _ => zlF); (with_reducible refine' for_t ?zF9 ?_ ?zhs9); (case zF9 => k_dflt (exact zlF)); (case zhs9 => k_dflt (intro _; rfl)))) | with_reducible ((show wpAny _ _ (exec (Stmt.For (Expr.Name _ _) (Expr.Name _ _) (_ :: _) [] _) _) _ _ _); (k_here; (with_reducible rename Fr _ _ _ _ => zlF); (with_reducible refine' for_t ?zF9 ?_ ?zhs9); (case zF9 => k_dflt (exact zlF)); (case zhs9 => k_dflt (intro _; rfl)))) | with_reducible ((show wpAny _ _ (exec (Stmt.For (Expr.Name _ _) (Expr.Call _ _ _ _) (_ :: _) [] _) _) _ _ _); (k_here; (with_reducible rename Fr _ _ _ _ => zlF); (with_reducible refine' for_t ?zF9 ?_ ?zhs9); (case zF9 => k_dflt (exact zlF)); (case zhs9 => k_dflt (intro _; rfl)))) | with_reducible ((show wpAny _ _ (execs (_ :: _) _) _ _ _); (k_here; (with_reducible show wpAny _ _ _ _ _ (Shared.mk _ _ _ (_ + _) _)); k_dflt (refine' gen_toks ?zp ?_; (case zp => ((try dsimp only); exact Nat.succ_pos _)); intro _ _))) | with_reducible ((show wpAny _ _ (isTrue (Expr.Compare _ _ _ _) _ _) _ _ _); (k_here; k_dflt (refine' isTrue_ll ?zF ?zv ?_ ?zk ?zl; (case zF => k_asm); (case zv => rfl); (case zk => rfl); (case zl => rfl); k_whole; intro _; (try dsimp only)))) | (k_unfold; (try dsimp only)) | walk1 | (dsimp only; walk1) | (dsimp only [List.nil_append, List.cons_append]; walk1) | (k_end; dsimp only; k_unfold; (try dsimp only)) | (leave1; (try dsimp only)) | ((with_reducible show wpAny _ _ (isTrue (Expr.Compare _ _ _ _) _ _) _ _ _); (k_here; k_dflt (refine' isTrue_ll ?zF ?zv ?_ ?zk ?zl; (case zF => k_asm); (case zv => rfl); (case zk => rfl); (case zl => rfl); k_whole; intro _; (try dsimp only)))))))
        subst hJJ
        (with_reducible rename Fr _ _ _ _ => F9)
        (with_reducible rename News _ _ _ _ => N9)
        exact ⟨_, _, _, st4, false, rfl, F9, rfl, rfl, rfl, rfl, rfl, rfl, rfl, N9, A5, trivial⟩
      · (try unfold StopAt)
        (with_reducible rename Fr _ _ _ _ => F5)
        (with_reducible rename News _ _ _ _ => N5)
        have hrow := intest_row w (ta := ta) (la := la) (u := u) (nt := nt) (nl := nll) hR hk3
        have hOb := turn_ob hord hLt hlt hrr hrd (o3 := listOf vsL.toArray nll) (o4 := { cls := .type "tuple", data := .seq vsT.toArray nt })
        refine' item_any (vs := [.ref ta, .str (Str.ofString "abé") u, .ref la]) ?hl k (rowV ta la u k) (rowV_get hk3) ?hf ?_ ?hs ?hg
        case hl => exact list_of N5 (by k_mem)
        case hf => exact Nat.lt_of_lt_of_le hk3 (by decide)
        case hs => with_unfolding_all rfl
        case hg => intro _; with_unfolding_all rfl
        w_strict ((repeat' (first | with_reducible ((first | (show wpAny _ _ (subscriptTail (Expr.Name _ _) (Expr.BinOp _ _ _ _) (Value.ref _) (Value.int _ _)) _ _ _) | (show wpAny _ _ (subscriptTail (Expr.Name _ _) (Expr.Name _ _) (Value.ref _) (Value.int _ _)) _ _ _) | (show wpAny _ _ (pyIter (Value.str _ _)) _ _ _) | (show wpAny _ _ (call (Value.type "zip") _) _ _ _) | (show wpAny _ _ (eval (Expr.ListComp _ _ _ _) _) _ _ _) | (show wpAny _ _ (exec (Stmt.Assign (_ :: _) (Expr.ListComp _ _ _ _) _) _) _ _ _) | (show wpAny _ _ (pyIter (Value.ref _)) _ _ _)); refine stopAt_ ?_) | with_reducible ((show wpAny _ _ (call (Value.ref _) _) _ _ _); (k_here; (with_reducible show wpAny _ _ (call (Value.ref 91) _) _ _ _); refine stopAt_ ?_)) | with_reducible ((show wpAny _ _ (call (Value.ref _) _) _ _ _); (k_here; (with_reducible show wpAny _ _ (call (Value.ref 128) _) _ _ _); refine stopAt_ ?_)) | with_reducible ((show wpAny _ _ (call (Value.ref _) _) _ _ _); (k_here; (with_reducible show wpAny _ _ (call (Value.ref 98) _) _ _ _); refine stopAt_ ?_)) | with_reducible ((show wpAny _ _ (call (Value.ref _) _) _ _ _); (k_here; (with_reducible show wpAny _ _ (call (Value.ref 121) _) _ _ _); refine stopAt_ ?_)) | with_reducible ((show wpAny _ _ (execs (_ :: _) _) _ _ _); ((with_reducible show wpAny _ _ (execs [Stmt.If _ _ _ _, _, _] _) _ _ _); refine stopAt_ ?_)) | with_reducible ((show wpAny _ _ (execs (_ :: _) _) _ _ _); (k_here; (with_reducible rename StopList _ => zT9); k_dflt (refine stop_list zT9 ?_))) | with_reducible ((show wpAny _ _ (eval (Expr.Constant (Const.str _) _ _) _) _ _ _); ((try dsimp only); k_dflt (refine' const_str_tk ?_); intro _ _)) | with_reducible ((show wpAny _ _ (eval (Expr.Constant (Const.int _) _ _) _) _ _ _); ((try dsimp only); k_dflt (refine' const_int_tk ?_); intro _ _)) | with_reducible ((show wpAny _ _ (exec (Stmt.For (Expr.Tuple _ _ _) (Expr.Tuple _ _ _) (_ :: _) [] _) _) _ _ _); (k_here; (with_reducible rename Fr _ _ _ _ => zlF); (with_reducible refine' for_t ?zF9 ?_ ?zhs9); (case zF9 => k_dflt (exact zlF)); (case zhs9 => k_dflt (intro _; rfl)))) | with_reducible ((show wpAny _ _ (exec (Stmt.For (Expr.Name _ _) (Expr.Name _ _) (_ :: _) [] _) _) _ _ _); (k_here; (with_reducible rename Fr _ _ _ _ => zlF); (with_reducible refine' for_t ?zF9 ?_ ?zhs9); (case zF9 => k_dflt (exact zlF)); (case zhs9 => k_dflt (intro _; rfl)))) | with_reducible ((show wpAny _ _ (exec (Stmt.For (Expr.Name _ _) (Expr.Call _ _ _ _) (_ :: _) [] _) _) _ _ _); (k_here; (with_reducible rename Fr _ _ _ _ => zlF); (with_reducible refine' for_t ?zF9 ?_ ?zhs9); (case zF9 => k_dflt (exact zlF)); (case zhs9 => k_dflt (intro _; rfl)))) | with_reducible ((show wpAny _ _ (execs (_ :: _) _) _ _ _); (k_here; (with_reducible show wpAny _ _ _ _ _ (Shared.mk _ _ _ (_ + _) _)); k_dflt (refine' gen_toks ?zp ?_; (case zp => ((try dsimp only); exact Nat.succ_pos _)); intro _ _))) | with_reducible ((show wpAny _ _ (isTrue (Expr.Compare _ _ _ _) _ _) _ _ _); (k_here; k_dflt (refine' isTrue_ll ?zF ?zv ?_ ?zk ?zl; (case zF => k_asm); (case zv => rfl); (case zk => rfl); (case zl => rfl); k_whole; intro _; (try dsimp only)))) | (k_unfold; (try dsimp only)) | walk1 | (dsimp only; walk1) | (dsimp only [List.nil_append, List.cons_append]; walk1) | (k_end; dsimp only; k_unfold; (try dsimp only)) | (leave1; (try dsimp only)) | ((with_reducible show wpAny _ _ (isTrue (Expr.Compare _ _ _ _) _ _) _ _ _); (k_here; k_dflt (refine' isTrue_ll ?zF ?zv ?_ ?zk ?zl; (case zF => k_asm); (case zv => rfl); (case zk => rfl); (case zl => rfl); k_whole; intro _; (try dsimp only)))))))
        unfold StopAt
        (with_reducible rename Fr _ _ _ _ => F5)
        (with_reducible rename News _ _ _ _ => N5)
        (try dsimp only [List.append_nil])
        k_dflt (refine' Does.useG2 [_, _, _] (does_untilT w kt x d q nl td tx er hord T hTl M.hsur _ _ _ hrow hOb st3 ok3 b3 tT n2 q2 hn2 (Nat.le_trans hn7 (by decide))) (back_untilP M hR.lo hr A3 hB3 l3) ?k1 ?k2 ?k3 ?k4 ?k5 ?kd ?kK ?kr ?ku ?_)
        case k4 => exact N5
        case k1 => k_asm
        case k2 => exact F5
        case k3 => k_asm
        case k5 => k_asm
        case kK => first | exact rfl | assumption
        case kr => (first | assumption | ((simp only [depth_under_make, depth_under_kw, depth_in1, depth_deeper, depth_caller]); (try dsimp only [ktrTop]); first | exact room0 (by assumption) (by decide) | exact room1 (by assumption) (by decide) | omega | decide) | ((try dsimp only [ktrTop]); omega))
        case ku => (first | assumption | ((simp only [units_in1, units_deeper, Around.mark_units, units_caller]); (try dsimp only [ktrTop]); first | exact room0 (by assumption) (by decide) | exact room1 (by assumption) (by decide)) | ((have zhcL := cLine_is); (simp only [units_in1, units_deeper, Around.mark_units, units_caller]); (try dsimp only [ktrTop]); omega) | ((have zhcL := cLine_is); (try dsimp only [ktrTop]); omega))
        skip
        case kd => exact turn_dis hord hLt hlt hrr hrd hoff
        k_whole
        intro t9 st9 h9 tk9 F9 N9 p9 T9
        (try dsimp only at T9)
        (try simp only [List.nil_append, List.cons_append] at N9)
        clear N5 F5
        have A5 := p9
        w_strict ((repeat' (first | with_reducible ((first | (show wpAny _ _ (subscriptTail (Expr.Name _ _) (Expr.BinOp _ _ _ _) (Value.ref _) (Value.int _ _)) _ _ _) | (show wpAny _ _ (subscriptTail (Expr.Name _ _) (Expr.Name _ _) (Value.ref _) (Value.int _ _)) _ _ _) | (show wpAny _ _ (pyIter (Value.str _ _)) _ _ _) | (show wpAny _ _ (call (Value.type "zip") _) _ _ _) | (show wpAny _ _ (eval (Expr.ListComp _ _ _ _) _) _ _ _) | (show wpAny _ _ (exec (Stmt.Assign (_ :: _) (Expr.ListComp _ _ _ _) _) _) _ _ _) | (show wpAny _ _ (pyIter (Value.ref _)) _ _ _)); refine stopAt_ ?_) | with_reducible ((show wpAny _ _ (call (Value.ref _) _) _ _ _); (k_here; (with_reducible show wpAny _ _ (call (Value.ref 91) _) _ _ _); refine stopAt_ ?_)) | with_reducible ((show wpAny _ _ (call (Value.ref _) _) _ _ _); (k_here; (with_reducible show wpAny _ _ (call (Value.ref 128) _) _ _ _); refine stopAt_ ?_)) | with_reducible ((show wpAny _ _ (call (Value.ref _) _) _ _ _); (k_here; (with_reducible show wpAny _ _ (call (Value.ref 98) _) _ _ _); refine stopAt_ ?_)) | with_reducible ((show wpAny _ _ (call (Value.ref _) _) _ _ _); (k_here; (with_reducible show wpAny _ _ (call (Value.ref 121) _) _ _ _); refine stopAt_ ?_)) | with_reducible ((show wpAny _ _ (execs (_ :: _) _) _ _ _); ((with_reducible show wpAny _ _ (execs [Stmt.If _ _ _ _, _, _] _) _ _ _); refine stopAt_ ?_)) | with_reducible ((show wpAny _ _ (execs (_ :: _) _) _ _ _); (k_here; (with_reducible rename StopList _ => zT9); k_dflt (refine stop_list zT9 ?_))) | with_reducible ((show wpAny _ _ (eval (Expr.Constant (Const.str _) _ _) _) _ _ _); ((try dsimp only); k_dflt (refine' const_str_tk ?_); intro _ _)) | with_reducible ((show wpAny _ _ (eval (Expr.Constant (Const.int _) _ _) _) _ _ _); ((try dsimp only); k_dflt (refine' const_int_tk ?_); intro _ _)) | with_reducible ((show wpAny _ _ (exec (Stmt.For (Expr.Tuple _ _ _) (Expr.Tuple _ _ _) (_ :: _) [] _) _) _ _ _); (k_here; (with_reducible rename Fr _ _ _ _ => zlF); (with_reducible refine' for_t ?zF9 ?_ ?zhs9); (case zF9 => k_dflt (exact zlF)); (case zhs9 => k_dflt (intro _; rfl)))) | with_reducible ((show wpAny _ _ (exec (Stmt.For (Expr.Name _ _) (Expr.Name _ _) (_ :: _) [] _) _) _ _ _); (k_here; (with_reducible rename Fr _ _ _ _ => zlF); (with_reducible refine' for_t ?zF9 ?_ ?zhs9); (case zF9 => k_dflt (exact zlF)); (case zhs9 => k_dflt (intro _; rfl)))) | with_reducible ((show wpAny _ _ (exec (Stmt.For (Expr.Name _ _) (Expr.Call _ _ _ _) (_ :: _) [] _) _) _ _ _); (k_here; (with_reducible rename Fr _ _ _ _ => zlF); (with_reducible refine' for_t ?zF9 ?_ ?zhs9); (case zF9 => k_dflt (exact zlF)); (case zhs9 => k_dflt (intro _; rfl)))) | with_reducible ((show wpAny _ _ (execs (_ :: _) _) _ _ _); (k_here; (with_reducible show wpAny _ _ _ _ _ (Shared.mk _ _ _ (_ + _) _)); k_dflt (refine' gen_toks ?zp ?_; (case zp => ((try dsimp only); exact Nat.succ_pos _)); intro _ _))) | with_reducible ((show wpAny _ _ (isTrue (Expr.Compare _ _ _ _) _ _) _ _ _); (k_here; k_dflt (refine' isTrue_ll ?zF ?zv ?_ ?zk ?zl; (case zF => k_asm); (case zv => rfl); (case zk => rfl); (case zl => rfl); k_whole; intro _; (try dsimp only)))) | (k_unfold; (try dsimp only)) | walk1 | (dsimp only; walk1) | (dsimp only [List.nil_append, List.cons_append]; walk1) | (k_end; dsimp only; k_unfold; (try dsimp only)) | (leave1; (try dsimp only)) | ((with_reducible show wpAny _ _ (isTrue (Expr.Compare _ _ _ _) _ _) _ _ _); (k_here; k_dflt (refine' isTrue_ll ?zF ?zv ?_ ?zk ?zl; (case zF => k_asm); (case zv => rfl); (case zk => rfl); (case zl => rfl); k_whole; intro _; (try dsimp only)))))))
        subst hJJ
        (with_reducible rename Fr _ _ _ _ => F9)
        (with_reducible rename News _ _ _ _ => N9)
        exact ⟨_, _, _, st9, false, rfl, F9, rfl, rfl, rfl, rfl, rfl, rfl, rfl, N9, A5, trivial⟩
    · subst hJJ
      (with_reducible rename Fr _ _ _ _ => F9)
      (with_reducible rename News _ _ _ _ => N9)
      exact ⟨_, _, _, st2, calm, rfl, F9, rfl, rfl, rfl, rfl, rfl, rfl, rfl, N9, aft_got hr A2 G, trivial⟩
  case rest =>
    intro s' hJ
    refine' ex_5_12 (hJ) ?_; intro h' tk m3 st5 calm5 r95 F2 f1 f2 f3 f4 f5 f6 f7 N20 A5 _tr; (try clear hJ); subst r95
    have hk7 := know7_eq f1 f2 f3 f4 f5 f6 f7
    have F3 := fr_eq hk7 F2
    refine' ex_1_1 ((⟨_, rfl⟩ : ∃ NX, NX = ((L + 1, oc) :: (rsa, listOf vs.toArray nrs) :: (ra, listOf #[.ref ta, .str (Str.ofString "abé") u, .ref la] nr) :: (LS w kt x d q nl td tx er T tT (.int (n2 : Int) q2) st5 ++ ((la, listOf vsL.toArray nll) :: (ta, { cls := .type "tuple", data := .seq vsT.toArray nt }) :: R3)) : Ledger))) ?_; intro NX hNX
    rw [← hNX] at N20
    (try clear F2)
    (try clear N5)
    (try clear F5)
    w_strict ((repeat' (first | with_reducible ((first | (show wpAny _ _ (subscriptTail (Expr.Name _ _) (Expr.BinOp _ _ _ _) (Value.ref _) (Value.int _ _)) _ _ _) | (show wpAny _ _ (subscriptTail (Expr.Name _ _) (Expr.Name _ _) (Value.ref _) (Value.int _ _)) _ _ _) | (show wpAny _ _ (pyIter (Value.str _ _)) _ _ _) | (show wpAny _ _ (call (Value.type "zip") _) _ _ _) | (show wpAny _ _ (eval (Expr.ListComp _ _ _ _) _) _ _ _) | (show wpAny _ _ (exec (Stmt.Assign (_ :: _) (Expr.ListComp _ _ _ _) _) _) _ _ _) | (show wpAny _ _ (pyIter (Value.ref _)) _ _ _)); refine stopAt_ ?_) | with_reducible ((show wpAny _ _ (call (Value.ref _) _) _ _ _); (k_here; (with_reducible show wpAny _ _ (call (Value.ref 91) _) _ _ _); refine stopAt_ ?_)) | with_reducible ((show wpAny _ _ (call (Value.ref _) _) _ _ _); (k_here; (with_reducible show wpAny _ _ (call (Value.ref 128) _) _ _ _); refine stopAt_ ?_)) | with_reducible ((show wpAny _ _ (call (Value.ref _) _) _ _ _); (k_here; (with_reducible show wpAny _ _ (call (Value.ref 98) _) _ _ _); refine stopAt_ ?_)) | with_reducible ((show wpAny _ _ (call (Value.ref _) _) _ _ _); (k_here; (with_reducible show wpAny _ _ (call (Value.ref 121) _) _ _ _); refine stopAt_ ?_)) | with_reducible ((show wpAny _ _ (execs (_ :: _) _) _ _ _); ((with_reducible show wpAny _ _ (execs [Stmt.If _ _ _ _, _, _] _) _ _ _); refine stopAt_ ?_)) | with_reducible ((show wpAny _ _ (execs (_ :: _) _) _ _ _); (k_here; (with_reducible rename StopList _ => zT9); k_dflt (refine stop_list zT9 ?_))) | with_reducible ((show wpAny _ _ (eval (Expr.Constant (Const.str _) _ _) _) _ _ _); ((try dsimp only); k_dflt (refine' const_str_tk ?_); intro _ _)) | with_reducible ((show wpAny _ _ (eval (Expr.Constant (Const.int _) _ _) _) _ _ _); ((try dsimp only); k_dflt (refine' const_int_tk ?_); intro _ _)) | with_reducible ((show wpAny _ _ (exec (Stmt.For (Expr.Tuple _ _ _) (Expr.Tuple _ _ _) (_ :: _) [] _) _) _ _ _); (k_here; (with_reducible rename Fr _ _ _ _ => zlF); (with_reducible refine' for_t ?zF9 ?_ ?zhs9); (case zF9 => k_dflt (exact zlF)); (case zhs9 => k_dflt (intro _; rfl)))) | with_reducible ((show wpAny _ _ (exec (Stmt.For (Expr.Name _ _) (Expr.Name _ _) (_ :: _) [] _) _) _ _ _); (k_here; (with_reducible rename Fr _ _ _ _ => zlF); (with_reducible refine' for_t ?zF9 ?_ ?zhs9); (case zF9 => k_dflt (exact zlF)); (case zhs9 => k_dflt (intro _; rfl)))) | with_reducible ((show wpAny _ _ (exec (Stmt.For (Expr.Name _ _) (Expr.Call _ _ _ _) (_ :: _) [] _) _) _ _ _); (k_here; (with_reducible rename Fr _ _ _ _ => zlF); (with_reducible refine' for_t ?zF9 ?_ ?zhs9); (case zF9 => k_dflt (exact zlF)); (case zhs9 => k_dflt (intro _; rfl)))) | with_reducible ((show wpAny _ _ (execs (_ :: _) _) _ _ _); (k_here; (with_reducible show wpAny _ _ _ _ _ (Shared.mk _ _ _ (_ + _) _)); k_dflt (refine' gen_toks ?zp ?_; (case zp => ((try dsimp only); exact Nat.succ_pos _)); intro _ _))) | with_reducible ((show wpAny _ _ (isTrue (Expr.Compare _ _ _ _) _ _) _ _ _); (k_here; k_dflt (refine' isTrue_ll ?zF ?zv ?_ ?zk ?zl; (case zF => k_asm); (case zv => rfl); (case zk => rfl); (case zl => rfl); k_whole; intro _; (try dsimp only)))) | (k_unfold; (try dsimp only)) | walk1 | (dsimp only; walk1) | (dsimp only [List.nil_append, List.cons_append]; walk1) | (k_end; dsimp only; k_unfold; (try dsimp only)) | (leave1; (try dsimp only)) | ((with_reducible show wpAny _ _ (isTrue (Expr.Compare _ _ _ _) _ _) _ _ _); (k_here; k_dflt (refine' isTrue_ll ?zF ?zv ?_ ?zk ?zl; (case zF => k_asm); (case zv => rfl); (case zk => rfl); (case zl => rfl); k_whole; intro _; (try dsimp only)))))))
    (try unfold StopAt)
    (with_reducible rename Fr _ _ _ _ => F5)
    refine' text_turns (news := NX) (fun i m' nx => nx = NX ∧ m' (Str.ofString "rows") = some (.ref ra) ∧ m' (Str.ofString "runs") = some (.ref rsa) ∧ m' (Str.ofString "stream") = some (.ref x) ∧ m' (Str.ofString "calm") = some (.bool calm5) ∧
      ∃ (t3 t4 : Nat), m' (Str.ofString "line") = some (.int (ln + linesOf (X.cps.toList.take i)) t3) ∧ m' (Str.ofString "column") = some (.int (colFrom col (X.cps.toList.take i)) t4)) ?hh ?F ?N ?hj ?turn ?done
    case hh => rfl
    case F => exact F5
    case N => exact N20
    case hj => exact ⟨rfl, rfl, rfl, rfl, rfl, t1, t2, by rw [List.take_zero, lines_nil, Int.add_zero]; rfl, rfl⟩
    case turn =>
      intro i v m₁ news₁ h tk own hi hv hadr hoff2 hJ F2 N2 QQ hQQ
      refine' ex_0_6 (hJ) ?_; intro r90 g1 g2 g3 g4 hJ9; (try clear hJ); subst r90
      refine' ex_2_2 (hJ9) ?_; intro t3 t4 g5 g6; (try clear hJ9)
      obtain ⟨c, u9, hc, rfl⟩ := hv
      have F4 := fr_know6' g1 g2 g3 g4 g5 g6 F2
      clear F2 F5 N20
      w_strict ((repeat' (first | with_reducible ((first | (show wpAny _ _ (subscriptTail (Expr.Name _ _) (Expr.BinOp _ _ _ _) (Value.ref _) (Value.int _ _)) _ _ _) | (show wpAny _ _ (subscriptTail (Expr.Name _ _) (Expr.Name _ _) (Value.ref _) (Value.int _ _)) _ _ _) | (show wpAny _ _ (pyIter (Value.str _ _)) _ _ _) | (show wpAny _ _ (call (Value.type "zip") _) _ _ _) | (show wpAny _ _ (eval (Expr.ListComp _ _ _ _) _) _ _ _) | (show wpAny _ _ (exec (Stmt.Assign (_ :: _) (Expr.ListComp _ _ _ _) _) _) _ _ _) | (show wpAny _ _ (pyIter (Value.ref _)) _ _ _)); refine stopAt_ ?_) | with_reducible ((show wpAny _ _ (call (Value.ref _) _) _ _ _); (k_here; (with_reducible show wpAny _ _ (call (Value.ref 91) _) _ _ _); refine stopAt_ ?_)) | with_reducible ((show wpAny _ _ (call (Value.ref _) _) _ _ _); (k_here; (with_reducible show wpAny _ _ (call (Value.ref 128) _) _ _ _); refine stopAt_ ?_)) | with_reducible ((show wpAny _ _ (call (Value.ref _) _) _ _ _); (k_here; (with_reducible show wpAny _ _ (call (Value.ref 98) _) _ _ _); refine stopAt_ ?_)) | with_reducible ((show wpAny _ _ (call (Value.ref _) _) _ _ _); (k_here; (with_reducible show wpAny _ _ (call (Value.ref 121) _) _ _ _); refine stopAt_ ?_)) | with_reducible ((show wpAny _ _ (execs (_ :: _) _) _ _ _); ((with_reducible show wpAny _ _ (execs [Stmt.If _ _ _ _, _, _] _) _ _ _); refine stopAt_ ?_)) | with_reducible ((show wpAny _ _ (execs (_ :: _) _) _ _ _); (k_here; (with_reducible rename StopList _ => zT9); k_dflt (refine stop_list zT9 ?_))) | with_reducible ((show wpAny _ _ (eval (Expr.Constant (Const.str _) _ _) _) _ _ _); ((try dsimp only); k_dflt (refine' const_str_tk ?_); intro _ _)) | with_reducible ((show wpAny _ _ (eval (Expr.Constant (Const.int _) _ _) _) _ _ _); ((try dsimp only); k_dflt (refine' const_int_tk ?_); intro _ _)) | with_reducible ((show wpAny _ _ (exec (Stmt.For (Expr.Tuple _ _ _) (Expr.Tuple _ _ _) (_ :: _) [] _) _) _ _ _); (k_here; (with_reducible rename Fr _ _ _ _ => zlF); (with_reducible refine' for_t ?zF9 ?_ ?zhs9); (case zF9 => k_dflt (exact zlF)); (case zhs9 => k_dflt (intro _; rfl)))) | with_reducible ((show wpAny _ _ (exec (Stmt.For (Expr.Name _ _) (Expr.Name _ _) (_ :: _) [] _) _) _ _ _); (k_here; (with_reducible rename Fr _ _ _ _ => zlF); (with_reducible refine' for_t ?zF9 ?_ ?zhs9); (case zF9 => k_dflt (exact zlF)); (case zhs9 => k_dflt (intro _; rfl)))) | with_reducible ((show wpAny _ _ (exec (Stmt.For (Expr.Name _ _) (Expr.Call _ _ _ _) (_ :: _) [] _) _) _ _ _); (k_here; (with_reducible rename Fr _ _ _ _ => zlF); (with_reducible refine' for_t ?zF9 ?_ ?zhs9); (case zF9 => k_dflt (exact zlF)); (case zhs9 => k_dflt (intro _; rfl)))) | with_reducible ((show wpAny _ _ (execs (_ :: _) _) _ _ _); (k_here; (with_reducible show wpAny _ _ _ _ _ (Shared.mk _ _ _ (_ + _) _)); k_dflt (refine' gen_toks ?zp ?_; (case zp => ((try dsimp only); exact Nat.succ_pos _)); intro _ _))) | with_reducible ((show wpAny _ _ (isTrue (Expr.Compare _ _ _ _) _ _) _ _ _); (k_here; k_dflt (refine' isTrue_ll ?zF ?zv ?_ ?zk ?zl; (case zF => k_asm); (case zv => rfl); (case zk => rfl); (case zl => rfl); k_whole; intro _; (try dsimp only)))) | (k_unfold; (try dsimp only)) | walk1 | (dsimp only; walk1) | (dsimp only [List.nil_append, List.cons_append]; walk1) | (k_end; dsimp only; k_unfold; (try dsimp only)) | (leave1; (try dsimp only)) | ((with_reducible show wpAny _ _ (isTrue (Expr.Compare _ _ _ _) _ _) _ _ _); (k_here; k_dflt (refine' isTrue_ll ?zF ?zv ?_ ?zk ?zl; (case zF => k_asm); (case zv => rfl); (case zk => rfl); (case zl => rfl); k_whole; intro _; (try dsimp only)))))))
      · subst hQQ
        (with_reducible rename Fr _ _ _ _ => F9)
        (with_reducible rename News _ _ _ _ => N9)
        (with_reducible rename (_ == _) = true => hb9)
        have hc10 : c = 10 := by rw [is_nl, decide_eq_true_iff] at hb9; exact hb9
        have q := place_step hc ln col
        rw [if_pos hc10, if_pos hc10] at q
        refine' turn_end F9 ⟨rfl, rfl, rfl, rfl, rfl, _, _, ?l1, ?l2⟩ (fun p hp => N9 p (.tail _ hp)) hadr
        case l1 => rw [q.1]; rfl
        case l2 => rw [q.2]; rfl
      · subst hQQ
        (with_reducible rename Fr _ _ _ _ => F9)
        (with_reducible rename News _ _ _ _ => N9)
        (with_reducible rename (_ == _) = false => hb9)
        have hc10 : c ≠ 10 := by rw [is_nl, decide_eq_false_iff_not] at hb9; exact hb9
        have q := place_step hc ln col
        rw [if_neg hc10, if_neg hc10] at q
        refine' turn_end F9 ⟨rfl, rfl, rfl, rfl, rfl, _, _, ?l3, ?l4⟩ (fun p hp => N9 p (.tail _ hp)) hadr
        case l3 => rw [q.1]; rfl
        case l4 => rw [q.2]; rfl
    case done =>
      intro m₁ news₁ h tk hJ F2 N2
      refine' ex_0_6 (hJ) ?_; intro r90 g1 g2 g3 g4 hJ9; (try clear hJ); subst r90
      refine' ex_2_2 (hJ9) ?_; intro t3 t4 g5 g6; (try clear hJ9)
      have e9 : X.cps.toList.take X.length = X.cps.toList := List.take_of_length_le (Nat.le_refl X.cps.toList.length)
      rw [e9] at g5 g6
      have F4 := fr_know6' g1 g2 g3 g4 g5 g6 F2
      clear N20 F5
      subst hNX
      have N3 := N2
      simp only [LS, SX, TL, ent, List.cons_append, List.nil_append] at N3
      clear F2
      cases calm5 with
      | false =>
        w_strict ((repeat' (first | with_reducible ((first | (show wpAny _ _ (subscriptTail (Expr.Name _ _) (Expr.BinOp _ _ _ _) (Value.ref _) (Value.int _ _)) _ _ _) | (show wpAny _ _ (subscriptTail (Expr.Name _ _) (Expr.Name _ _) (Value.ref _) (Value.int _ _)) _ _ _) | (show wpAny _ _ (pyIter (Value.str _ _)) _ _ _) | (show wpAny _ _ (call (Value.type "zip") _) _ _ _) | (show wpAny _ _ (eval (Expr.ListComp _ _ _ _) _) _ _ _) | (show wpAny _ _ (exec (Stmt.Assign (_ :: _) (Expr.ListComp _ _ _ _) _) _) _ _ _) | (show wpAny _ _ (pyIter (Value.ref _)) _ _ _)); refine stopAt_ ?_) | with_reducible ((show wpAny _ _ (call (Value.ref _) _) _ _ _); (k_here; (with_reducible show wpAny _ _ (call (Value.ref 91) _) _ _ _); refine stopAt_ ?_)) | with_reducible ((show wpAny _ _ (call (Value.ref _) _) _ _ _); (k_here; (with_reducible show wpAny _ _ (call (Value.ref 128) _) _ _ _); refine stopAt_ ?_)) | with_reducible ((show wpAny _ _ (call (Value.ref _) _) _ _ _); (k_here; (with_reducible show wpAny _ _ (call (Value.ref 98) _) _ _ _); refine stopAt_ ?_)) | with_reducible ((show wpAny _ _ (call (Value.ref _) _) _ _ _); (k_here; (with_reducible show wpAny _ _ (call (Value.ref 121) _) _ _ _); refine stopAt_ ?_)) | with_reducible ((show wpAny _ _ (execs (_ :: _) _) _ _ _); ((with_reducible show wpAny _ _ (execs [Stmt.If _ _ _ _, _, _] _) _ _ _); refine stopAt_ ?_)) | with_reducible ((show wpAny _ _ (execs (_ :: _) _) _ _ _); (k_here; (with_reducible rename StopList _ => zT9); k_dflt (refine stop_list zT9 ?_))) | with_reducible ((show wpAny _ _ (eval (Expr.Constant (Const.str _) _ _) _) _ _ _); ((try dsimp only); k_dflt (refine' const_str_tk ?_); intro _ _)) | with_reducible ((show wpAny _ _ (eval (Expr.Constant (Const.int _) _ _) _) _ _ _); ((try dsimp only); k_dflt (refine' const_int_tk ?_); intro _ _)) | with_reducible ((show wpAny _ _ (exec (Stmt.For (Expr.Tuple _ _ _) (Expr.Tuple _ _ _) (_ :: _) [] _) _) _ _ _); (k_here; (with_reducible rename Fr _ _ _ _ => zlF); (with_reducible refine' for_t ?zF9 ?_ ?zhs9); (case zF9 => k_dflt (exact zlF)); (case zhs9 => k_dflt (intro _; rfl)))) | with_reducible ((show wpAny _ _ (exec (Stmt.For (Expr.Name _ _) (Expr.Name _ _) (_ :: _) [] _) _) _ _ _); (k_here; (with_reducible rename Fr _ _ _ _ => zlF); (with_reducible refine' for_t ?zF9 ?_ ?zhs9); (case zF9 => k_dflt (exact zlF)); (case zhs9 => k_dflt (intro _; rfl)))) | with_reducible ((show wpAny _ _ (exec (Stmt.For (Expr.Name _ _) (Expr.Call _ _ _ _) (_ :: _) [] _) _) _ _ _); (k_here; (with_reducible rename Fr _ _ _ _ => zlF); (with_reducible refine' for_t ?zF9 ?_ ?zhs9); (case zF9 => k_dflt (exact zlF)); (case zhs9 => k_dflt (intro _; rfl)))) | with_reducible ((show wpAny _ _ (execs (_ :: _) _) _ _ _); (k_here; (with_reducible show wpAny _ _ _ _ _ (Shared.mk _ _ _ (_ + _) _)); k_dflt (refine' gen_toks ?zp ?_; (case zp => ((try dsimp only); exact Nat.succ_pos _)); intro _ _))) | with_reducible ((show wpAny _ _ (isTrue (Expr.Compare _ _ _ _) _ _) _ _ _); (k_here; k_dflt (refine' isTrue_ll ?zF ?zv ?_ ?zk ?zl; (case zF => k_asm); (case zv => rfl); (case zk => rfl); (case zl => rfl); k_whole; intro _; (try dsimp only)))) | (k_unfold; (try dsimp only)) | walk1 | (dsimp only; walk1) | (dsimp only [List.nil_append, List.cons_append]; walk1) | (k_end; dsimp only; k_unfold; (try dsimp only)) | (leave1; (try dsimp only)) | ((with_reducible show wpAny _ _ (isTrue (Expr.Compare _ _ _ _) _ _) _ _ _); (k_here; k_dflt (refine' isTrue_ll ?zF ?zv ?_ ?zk ?zl; (case zF => k_asm); (case zv => rfl); (case zk => rfl); (case zl => rfl); k_whole; intro _; (try dsimp only)))))))
        (with_reducible rename Fr _ _ _ _ => F9)
        exact hcont _ _ _ kt n2 q2 st5 false _ _ _ _ F9 (fun p hp => N2 p (mem_rows' hp)) hn2 hn7 rfl rfl rfl rfl rfl rfl (aft_at2 hr A2 A5)
      | true =>
        w_strict ((repeat' (first | with_reducible ((first | (show wpAny _ _ (subscriptTail (Expr.Name _ _) (Expr.BinOp _ _ _ _) (Value.ref _) (Value.int _ _)) _ _ _) | (show wpAny _ _ (subscriptTail (Expr.Name _ _) (Expr.Name _ _) (Value.ref _) (Value.int _ _)) _ _ _) | (show wpAny _ _ (pyIter (Value.str _ _)) _ _ _) | (show wpAny _ _ (call (Value.type "zip") _) _ _ _) | (show wpAny _ _ (eval (Expr.ListComp _ _ _ _) _) _ _ _) | (show wpAny _ _ (exec (Stmt.Assign (_ :: _) (Expr.ListComp _ _ _ _) _) _) _ _ _) | (show wpAny _ _ (pyIter (Value.ref _)) _ _ _)); refine stopAt_ ?_) | with_reducible ((show wpAny _ _ (call (Value.ref _) _) _ _ _); (k_here; (with_reducible show wpAny _ _ (call (Value.ref 91) _) _ _ _); refine stopAt_ ?_)) | with_reducible ((show wpAny _ _ (call (Value.ref _) _) _ _ _); (k_here; (with_reducible show wpAny _ _ (call (Value.ref 128) _) _ _ _); refine stopAt_ ?_)) | with_reducible ((show wpAny _ _ (call (Value.ref _) _) _ _ _); (k_here; (with_reducible show wpAny _ _ (call (Value.ref 98) _) _ _ _); refine stopAt_ ?_)) | with_reducible ((show wpAny _ _ (call (Value.ref _) _) _ _ _); (k_here; (with_reducible show wpAny _ _ (call (Value.ref 121) _) _ _ _); refine stopAt_ ?_)) | with_reducible ((show wpAny _ _ (execs (_ :: _) _) _ _ _); ((with_reducible show wpAny _ _ (execs [Stmt.If _ _ _ _, _, _] _) _ _ _); refine stopAt_ ?_)) | with_reducible ((show wpAny _ _ (execs (_ :: _) _) _ _ _); (k_here; (with_reducible rename StopList _ => zT9); k_dflt (refine stop_list zT9 ?_))) | with_reducible ((show wpAny _ _ (eval (Expr.Constant (Const.str _) _ _) _) _ _ _); ((try dsimp only); k_dflt (refine' const_str_tk ?_); intro _ _)) | with_reducible ((show wpAny _ _ (eval (Expr.Constant (Const.int _) _ _) _) _ _ _); ((try dsimp only); k_dflt (refine' const_int_tk ?_); intro _ _)) | with_reducible ((show wpAny _ _ (exec (Stmt.For (Expr.Tuple _ _ _) (Expr.Tuple _ _ _) (_ :: _) [] _) _) _ _ _); (k_here; (with_reducible rename Fr _ _ _ _ => zlF); (with_reducible refine' for_t ?zF9 ?_ ?zhs9); (case zF9 => k_dflt (exact zlF)); (case zhs9 => k_dflt (intro _; rfl)))) | with_reducible ((show wpAny _ _ (exec (Stmt.For (Expr.Name _ _) (Expr.Name _ _) (_ :: _) [] _) _) _ _ _); (k_here; (with_reducible rename Fr _ _ _ _ => zlF); (with_reducible refine' for_t ?zF9 ?_ ?zhs9); (case zF9 => k_dflt (exact zlF)); (case zhs9 => k_dflt (intro _; rfl)))) | with_reducible ((show wpAny _ _ (exec (Stmt.For (Expr.Name _ _) (Expr.Call _ _ _ _) (_ :: _) [] _) _) _ _ _); (k_here; (with_reducible rename Fr _ _ _ _ => zlF); (with_reducible refine' for_t ?zF9 ?_ ?zhs9); (case zF9 => k_dflt (exact zlF)); (case zhs9 => k_dflt (intro _; rfl)))) | with_reducible ((show wpAny _ _ (execs (_ :: _) _) _ _ _); (k_here; (with_reducible show wpAny _ _ _ _ _ (Shared.mk _ _ _ (_ + _) _)); k_dflt (refine' gen_toks ?zp ?_; (case zp => ((try dsimp only); exact Nat.succ_pos _)); intro _ _))) | with_reducible ((show wpAny _ _ (isTrue (Expr.Compare _ _ _ _) _ _) _ _ _); (k_here; k_dflt (refine' isTrue_ll ?zF ?zv ?_ ?zk ?zl; (case zF => k_asm); (case zv => rfl); (case zk => rfl); (case zl => rfl); k_whole; intro _; (try dsimp only)))) | (k_unfold; (try dsimp only)) | walk1 | (dsimp only; walk1) | (dsimp only [List.nil_append, List.cons_append]; walk1) | (k_end; dsimp only; k_unfold; (try dsimp only)) | (leave1; (try dsimp only)) | ((with_reducible show wpAny _ _ (isTrue (Expr.Compare _ _ _ _) _ _) _ _ _); (k_here; k_dflt (refine' isTrue_ll ?zF ?zv ?_ ?zk ?zl; (case zF => k_asm); (case zv => rfl); (case zk => rfl); (case zl => rfl); k_whole; intro _; (try dsimp only)))))))
        unfold StopAt
        (with_reducible rename Fr _ _ _ _ => F5)
        (with_reducible rename News _ _ _ _ => N5)
        (try dsimp only [List.append_nil])
        k_dflt (refine' Does.useG3 [_, _, _] (does_place w kt x d q nl td tx er hord T st5 A5.ok tT n2 q2) (placeP) ?k1 ?k2 ?k3 ?k4 ?k5 ?kd ?kK ?kr ?ku ?_)
        case k4 => exact N5
        case k1 => k_asm
        case k2 => exact F5
        case k3 => k_asm
        case k5 => k_asm
        case kK => first | exact rfl | assumption
        case kr => (first | assumption | ((simp only [depth_under_make, depth_under_kw, depth_in1, depth_deeper, depth_caller]); (try dsimp only [ktrTop]); first | exact room0 (by assumption) (by decide) | exact room1 (by assumption) (by decide) | omega | decide) | ((try dsimp only [ktrTop]); omega))
        case ku => (first | assumption | ((simp only [units_in1, units_deeper, Around.mark_units, units_caller]); (try dsimp only [ktrTop]); first | exact room0 (by assumption) (by decide) | exact room1 (by assumption) (by decide)) | ((have zhcL := cLine_is); (simp only [units_in1, units_deeper, Around.mark_units, units_caller]); (try dsimp only [ktrTop]); omega) | ((have zhcL := cLine_is); (try dsimp only [ktrTop]); omega))
        skip
        case kd => exact turn_dis1 hord hLt hlt hrr hrd hoff
        k_whole
        intro tp t8 t9 h9 tk9 F9 N9 p9 T9
        (try dsimp only at T9)
        (try simp only [List.nil_append, List.cons_append] at N9)
        clear N5 F5
        w_strict ((repeat' (first | with_reducible ((first | (show wpAny _ _ (subscriptTail (Expr.Name _ _) (Expr.BinOp _ _ _ _) (Value.ref _) (Value.int _ _)) _ _ _) | (show wpAny _ _ (subscriptTail (Expr.Name _ _) (Expr.Name _ _) (Value.ref _) (Value.int _ _)) _ _ _) | (show wpAny _ _ (pyIter (Value.str _ _)) _ _ _) | (show wpAny _ _ (call (Value.type "zip") _) _ _ _) | (show wpAny _ _ (eval (Expr.ListComp _ _ _ _) _) _ _ _) | (show wpAny _ _ (exec (Stmt.Assign (_ :: _) (Expr.ListComp _ _ _ _) _) _) _ _ _) | (show wpAny _ _ (pyIter (Value.ref _)) _ _ _)); refine stopAt_ ?_) | with_reducible ((show wpAny _ _ (call (Value.ref _) _) _ _ _); (k_here; (with_reducible show wpAny _ _ (call (Value.ref 91) _) _ _ _); refine stopAt_ ?_)) | with_reducible ((show wpAny _ _ (call (Value.ref _) _) _ _ _); (k_here; (with_reducible show wpAny _ _ (call (Value.ref 128) _) _ _ _); refine stopAt_ ?_)) | with_reducible ((show wpAny _ _ (call (Value.ref _) _) _ _ _); (k_here; (with_reducible show wpAny _ _ (call (Value.ref 98) _) _ _ _); refine stopAt_ ?_)) | with_reducible ((show wpAny _ _ (call (Value.ref _) _) _ _ _); (k_here; (with_reducible show wpAny _ _ (call (Value.ref 121) _) _ _ _); refine stopAt_ ?_)) | with_reducible ((show wpAny _ _ (execs (_ :: _) _) _ _ _); ((with_reducible show wpAny _ _ (execs [Stmt.If _ _ _ _, _, _] _) _ _ _); refine stopAt_ ?_)) | with_reducible ((show wpAny _ _ (execs (_ :: _) _) _ _ _); (k_here; (with_reducible rename StopList _ => zT9); k_dflt (refine stop_list zT9 ?_))) | with_reducible ((show wpAny _ _ (eval (Expr.Constant (Const.str _) _ _) _) _ _ _); ((try dsimp only); k_dflt (refine' const_str_tk ?_); intro _ _)) | with_reducible ((show wpAny _ _ (eval (Expr.Constant (Const.int _) _ _) _) _ _ _); ((try dsimp only); k_dflt (refine' const_int_tk ?_); intro _ _)) | with_reducible ((show wpAny _ _ (exec (Stmt.For (Expr.Tuple _ _ _) (Expr.Tuple _ _ _) (_ :: _) [] _) _) _ _ _); (k_here; (with_reducible rename Fr _ _ _ _ => zlF); (with_reducible refine' for_t ?zF9 ?_ ?zhs9); (case zF9 => k_dflt (exact zlF)); (case zhs9 => k_dflt (intro _; rfl)))) | with_reducible ((show wpAny _ _ (exec (Stmt.For (Expr.Name _ _) (Expr.Name _ _) (_ :: _) [] _) _) _ _ _); (k_here; (with_reducible rename Fr _ _ _ _ => zlF); (with_reducible refine' for_t ?zF9 ?_ ?zhs9); (case zF9 => k_dflt (exact zlF)); (case zhs9 => k_dflt (intro _; rfl)))) | with_reducible ((show wpAny _ _ (exec (Stmt.For (Expr.Name _ _) (Expr.Call _ _ _ _) (_ :: _) [] _) _) _ _ _); (k_here; (with_reducible rename Fr _ _ _ _ => zlF); (with_reducible refine' for_t ?zF9 ?_ ?zhs9); (case zF9 => k_dflt (exact zlF)); (case zhs9 => k_dflt (intro _; rfl)))) | with_reducible ((show wpAny _ _ (execs (_ :: _) _) _ _ _); (k_here; (with_reducible show wpAny _ _ _ _ _ (Shared.mk _ _ _ (_ + _) _)); k_dflt (refine' gen_toks ?zp ?_; (case zp => ((try dsimp only); exact Nat.succ_pos _)); intro _ _))) | with_reducible ((show wpAny _ _ (isTrue (Expr.Compare _ _ _ _) _ _) _ _ _); (k_here; k_dflt (refine' isTrue_ll ?zF ?zv ?_ ?zk ?zl; (case zF => k_asm); (case zv => rfl); (case zk => rfl); (case zl => rfl); k_whole; intro _; (try dsimp only)))) | (k_unfold; (try dsimp only)) | walk1 | (dsimp only; walk1) | (dsimp only [List.nil_append, List.cons_append]; walk1) | (k_end; dsimp only; k_unfold; (try dsimp only)) | (leave1; (try dsimp only)) | ((with_reducible show wpAny _ _ (isTrue (Expr.Compare _ _ _ _) _ _) _ _ _); (k_here; k_dflt (refine' isTrue_ll ?zF ?zv ?_ ?zk ?zl; (case zF => k_asm); (case zv => rfl); (case zk => rfl); (case zl => rfl); k_whole; intro _; (try dsimp only)))))))
        · (with_reducible rename Fr _ _ _ _ => F9)
          (with_reducible rename News _ _ _ (_ :: _) => N8)
          exact hcont _ _ _ kt n2 q2 st5 true _ _ _ _ F9 (fun p hp => N8 p (mem_place (mem_rows' hp))) hn2 hn7 rfl rfl rfl rfl rfl rfl (aft_at2 hr A2 A5)
        · have hpl := aft_place hr A2 A5
          (with_reducible rename (_ && _) = false => hb9)
          rw [hpl.1, hpl.2] at hb9
          simp at hb9
end
section
/-- one turn of the second loop, its targets set -/
noncomputable def Turn2 (w : World) (body : List Stmt) (qual : Str) (scope : Scope) (cdv : Value) : Prop :=
  ∀ (L : Nat) (oc : Obj) (n : Int) (un1 : Nat) (_ : oc.data = .cell (some (.int n un1))) (rsa ra la ta u nt nll nr nrs tT : Nat) (vsT vsL vs : List Value) (rs : List RunT) (oc9 i kd : Nat) (T : Str) (_ : RowsAt oc9 vsT vsL) (_ : Made oc9 i kd T rs) (_ : i ≤ 12)
    (kt : Nat → Nat) (x d q nl td tx er : Nat) (_ : d < x ∧ x < q ∧ q < td ∧ td < tx ∧ tx < er) (_ : L + 1 < ta) (_ : ta < la ∧ la < ra) (_ : ra < rsa) (_ : rsa < d) (R3 : Ledger) (_ : OwnOff R3 [L + 1, rsa, ra, la, ta, er, q, x, d, tx, td])
    (o : Option (Nat × Nat)) (st : StS) (calm : Bool) (ln col : Int) (j k : Nat) (X : Str) (u2 u3 t1 t2 : Nat) (_ : rs[j]? = some (n, k, X)) (_ : At2 T rs j st calm ln col)
    (m : Str → Option Value) (_ : m (Str.ofString "rows") = some (.ref ra)) (_ : m (Str.ofString "runs") = some (.ref rsa)) (_ : m (Str.ofString "stream") = some (.ref x)) (_ : m (Str.ofString "line") = some (.int ln t1)) (_ : m (Str.ofString "column") = some (.int col t2)) (_ : m (Str.ofString "calm") = some (.bool calm))
    (_ : m (Str.ofString "kind") = some (.int (k : Int) u2)) (_ : m (Str.ofString "run") = some (.str X u3))
    (fa : Addr) (cd : Value) (dp un : Nat) (gd : Option (List Code)) (outer : List Env) (A₀ : Around) (base h₀ : Heap) (s : Shared) (QQ : Flow → Shared → Prop) (Er : Value → Shared → Prop)
    (loose : List Str) (mean : ExcName → Option Value) (mg mb : Str → Option Value)
    (_ : Below A₀ base outer h₀) (_ : Fr h₀ L s.heap m) (_ : (hd.heap_39 w.params).In h₀) (_ : News h₀ L s.heap ((L + 1, oc) :: (LSq w kt x d q nl td tx er T tT o st ++ ((rsa, listOf vs.toArray nrs) :: (rowsL ta la ra u nt nll nr vsT vsL ++ R3))))) (_ : Top hd.view_39 loose mean mg mb h₀)
    (_ : dp + 4 * 6 < recursionLimit) (_ : un + 40 * 6 < cLine)
    (_ : ∀ (h' : Heap) (tk' : Nat) (m' : Str → Option Value) (kt' : Nat → Nat) (n2 q2 : Nat) (st' : StS) (calm' : Bool) (ln' col' : Int) (t3 t4 : Nat), Fr h₀ L h' m' → News h₀ L h' ((L + 1, oc) :: (LS w kt' x d q nl td tx er T tT (.int (n2 : Int) q2) st' ++ ((rsa, listOf vs.toArray nrs) :: (rowsL ta la ra u nt nll nr vsT vsL ++ R3)))) → 2 ≤ n2 → n2 ≤ 7 →
      m' (Str.ofString "rows") = some (.ref ra) → m' (Str.ofString "runs") = some (.ref rsa) → m' (Str.ofString "stream") = some (.ref x) → m' (Str.ofString "line") = some (.int ln' t3) → m' (Str.ofString "column") = some (.int col' t4) → m' (Str.ofString "calm") = some (.bool calm') → At2 T rs (j + 1) st' calm' ln' col' → QQ .next { s with heap := h', toks := tk' }),
    wpAny (model PySem.Challenge.rw_te0024_02.row.prog w) (ktrTop dp un gd qual scope L fa cd [(Str.ofString "n", L + 1)] outer) (execs (loopBody (body.drop 9)) (envX qual scope L fa cd [(Str.ofString "n", L + 1)])) QQ Er s
set_option maxRecDepth 100000 in
set_option maxHeartbeats 1500000 in
theorem turn2 (w : World) {oc od osl} {name qual : Str} {params : Arguments} {body : List Stmt} {scope : Scope} {dV kV doc pm cdv ct : Value} {an : Option Addr} :
    (hd.heap_39 w.params).lookup 166 = some ⟨oc, od, .func (fnOf name qual params body scope dV kV doc pm an cdv ct), osl⟩ → Turn2 w body qual scope cdv := by
  unfold Turn2
  k_fill
  show _ → Turn2 w body qual scope cdv
  intro ho
  obtain ⟨rfl, rfl, rfl, rfl⟩ := fn_parts ho (show (hd.heap_39 w.params).lookup 166 = some _ by k_is)
  unfold Turn2
  intro L oc n un1 hcd rsa ra la ta u nt nll nr nrs tT vsT vsL vs rs oc9 i kd T hR M hi12 kt x d q nl td tx er hord hLt hlt hrr hrd R3 hoff o st calm ln col j k X u2 u3 t1 t2 hr A2 m e1 e2 e3 e4 e5 e6 e7 e8 fa cd dp un gd outer A₀ base h₀ s QQ Er loose mean mg mb B F KX N TT hroom hun hcont
  have T3 := turn3 w (show (hd.heap_39 w.params).lookup 166 = some _ by k_is)
  clear ho
  have hk8 := know8_eq e1 e2 e3 e4 e5 e6 e7 e8
  have F1 := fr_eq hk8 F
  clear F
  refine wpAny_noRaise ?_
  w_on
  w_top on
  show wpAny _ _ (execs (_ :: _) _) _ _ _
  with_reducible refine' execs_join (fun s' => ∃ (h' : Heap) (tk : Nat) (kt' : Nat → Nat) (n2 q2 : Nat), s' = ⟨h', s.gens, s.drawn, tk, s.os⟩ ∧ Fr h₀ L h' m ∧ News h₀ L h' ((L + 1, oc) :: (LS w kt' x d q nl td tx er T tT (.int (n2 : Int) q2) st ++ ((rsa, listOf vs.toArray nrs) :: (rowsL ta la ra u nt nll nr vsT vsL ++ R3)))) ∧ 2 ≤ n2 ∧ n2 ≤ 7) ?rest ?size
  case size =>
    intro JJ hJJ
    obtain ⟨hd1, hd2, hd3⟩ := dcs_is n
    cases o with
    | none =>
      simp only [LSq, LS0, SX0, TL, ent, rowsL, List.cons_append, List.nil_append] at N
      w_strict ((repeat' (first | with_reducible ((first | (show wpAny _ _ (call (Value.type "dict") _) _ _ _) | (show wpAny _ _ (subscriptTail (Expr.Name _ _) (Expr.BinOp _ _ _ _) (Value.ref _) (Value.int _ _)) _ _ _) | (show wpAny _ _ (subscriptTail (Expr.Name _ _) (Expr.Name _ _) (Value.ref _) (Value.int _ _)) _ _ _) | (show wpAny _ _ (eval (Expr.ListComp _ _ _ _) _) _ _ _) | (show wpAny _ _ (call (Value.type "zip") _) _ _ _) | (show wpAny _ _ (exec (Stmt.Assign (_ :: _) (Expr.ListComp _ _ _ _) _) _) _ _ _) | (show wpAny _ _ (pyIter (Value.ref _)) _ _ _)); refine stopAt_ ?_) | with_reducible ((show wpAny _ _ (call (Value.ref _) _) _ _ _); (k_here; (with_reducible show wpAny _ _ (call (Value.ref 98) _) _ _ _); refine stopAt_ ?_)) | with_reducible ((show wpAny _ _ (call (Value.ref _) _) _ _ _); (k_here; (with_reducible show wpAny _ _ (call (Value.ref 121) _) _ _ _); refine stopAt_ ?_)) | with_reducible ((show wpAny _ _ (execs (_ :: _) _) _ _ _); ((with_reducible show wpAny _ _ (execs (Stmt.If _ _ _ _ :: _ :: _ :: _) _) _ _ _); refine stopAt_ ?_)) | with_reducible ((show wpAny _ _ (execs (_ :: _) _) _ _ _); (k_here; (with_reducible rename StopList _ => zT9); k_dflt (refine stop_list zT9 ?_))) | with_reducible ((show wpAny _ _ (eval (Expr.Constant (Const.str _) _ _) _) _ _ _); ((try dsimp only); k_dflt (refine' const_str_tk ?_); intro _ _)) | with_reducible ((show wpAny _ _ (eval (Expr.Constant (Const.int _) _ _) _) _ _ _); ((try dsimp only); k_dflt (refine' const_int_tk ?_); intro _ _)) | with_reducible ((show wpAny _ _ (exec (Stmt.For (Expr.Tuple _ _ _) (Expr.Tuple _ _ _) (_ :: _) [] _) _) _ _ _); (k_here; (with_reducible rename Fr _ _ _ _ => zlF); (with_reducible refine' for_t ?zF9 ?_ ?zhs9); (case zF9 => k_dflt (exact zlF)); (case zhs9 => k_dflt (intro _; rfl)))) | with_reducible ((show wpAny _ _ (exec (Stmt.For (Expr.Name _ _) (Expr.Name _ _) (_ :: _) [] _) _) _ _ _); (k_here; (with_reducible rename Fr _ _ _ _ => zlF); (with_reducible refine' for_t ?zF9 ?_ ?zhs9); (case zF9 => k_dflt (exact zlF)); (case zhs9 => k_dflt (intro _; rfl)))) | with_reducible ((show wpAny _ _ (exec (Stmt.For (Expr.Name _ _) (Expr.Call _ _ _ _) (_ :: _) [] _) _) _ _ _); (k_here; (with_reducible rename Fr _ _ _ _ => zlF); (with_reducible refine' for_t ?zF9 ?_ ?zhs9); (case zF9 => k_dflt (exact zlF)); (case zhs9 => k_dflt (intro _; rfl)))) | with_reducible ((show wpAny _ _ (execs (_ :: _) _) _ _ _); (k_here; (with_reducible show wpAny _ _ _ _ _ (Shared.mk _ _ _ (_ + _) _)); k_dflt (refine' gen_toks ?zp ?_; (case zp => ((try dsimp only); exact Nat.succ_pos _)); intro _ _))) | with_reducible ((show wpAny _ _ (isTrue (Expr.Compare _ _ _ _) _ _) _ _ _); (k_here; k_dflt (refine' isTrue_ll ?zF ?zv ?_ ?zk ?zl; (case zF => k_asm); (case zv => rfl); (case zk => rfl); (case zl => rfl); k_whole; intro _; (try dsimp only)))) | (k_unfold; (try dsimp only)) | walk1 | (dsimp only; walk1) | (dsimp only [List.nil_append, List.cons_append]; walk1) | (k_end; dsimp only; k_unfold; (try dsimp only)) | (leave1; (try dsimp only)) | ((with_reducible show wpAny _ _ (isTrue (Expr.Compare _ _ _ _) _ _) _ _ _); (k_here; k_dflt (refine' isTrue_ll ?zF ?zv ?_ ?zk ?zl; (case zF => k_asm); (case zv => rfl); (case zk => rfl); (case zl => rfl); k_whole; intro _; (try dsimp only)))))))
      (with_reducible rename Fr _ _ _ _ => F9)
      (with_reducible rename News _ _ _ _ => N9)
      subst hJJ
      rw [hd1] at N9
      exact ⟨_, _, _, _, _, rfl, fr_qe hk8 F9, dcs_new N9, hd2, hd3⟩
    | some o =>
      obtain ⟨n0, q0⟩ := o
      simp only [LSq, LS, SX, TL, ent, rowsL, List.cons_append, List.nil_append] at N
      w_strict ((repeat' (first | with_reducible ((first | (show wpAny _ _ (call (Value.type "dict") _) _ _ _) | (show wpAny _ _ (subscriptTail (Expr.Name _ _) (Expr.BinOp _ _ _ _) (Value.ref _) (Value.int _ _)) _ _ _) | (show wpAny _ _ (subscriptTail (Expr.Name _ _) (Expr.Name _ _) (Value.ref _) (Value.int _ _)) _ _ _) | (show wpAny _ _ (eval (Expr.ListComp _ _ _ _) _) _ _ _) | (show wpAny _ _ (call (Value.type "zip") _) _ _ _) | (show wpAny _ _ (exec (Stmt.Assign (_ :: _) (Expr.ListComp _ _ _ _) _) _) _ _ _) | (show wpAny _ _ (pyIter (Value.ref _)) _ _ _)); refine stopAt_ ?_) | with_reducible ((show wpAny _ _ (call (Value.ref _) _) _ _ _); (k_here; (with_reducible show wpAny _ _ (call (Value.ref 98) _) _ _ _); refine stopAt_ ?_)) | with_reducible ((show wpAny _ _ (call (Value.ref _) _) _ _ _); (k_here; (with_reducible show wpAny _ _ (call (Value.ref 121) _) _ _ _); refine stopAt_ ?_)) | with_reducible ((show wpAny _ _ (execs (_ :: _) _) _ _ _); ((with_reducible show wpAny _ _ (execs (Stmt.If _ _ _ _ :: _ :: _ :: _) _) _ _ _); refine stopAt_ ?_)) | with_reducible ((show wpAny _ _ (execs (_ :: _) _) _ _ _); (k_here; (with_reducible rename StopList _ => zT9); k_dflt (refine stop_list zT9 ?_))) | with_reducible ((show wpAny _ _ (eval (Expr.Constant (Const.str _) _ _) _) _ _ _); ((try dsimp only); k_dflt (refine' const_str_tk ?_); intro _ _)) | with_reducible ((show wpAny _ _ (eval (Expr.Constant (Const.int _) _ _) _) _ _ _); ((try dsimp only); k_dflt (refine' const_int_tk ?_); intro _ _)) | with_reducible ((show wpAny _ _ (exec (Stmt.For (Expr.Tuple _ _ _) (Expr.Tuple _ _ _) (_ :: _) [] _) _) _ _ _); (k_here; (with_reducible rename Fr _ _ _ _ => zlF); (with_reducible refine' for_t ?zF9 ?_ ?zhs9); (case zF9 => k_dflt (exact zlF)); (case zhs9 => k_dflt (intro _; rfl)))) | with_reducible ((show wpAny _ _ (exec (Stmt.For (Expr.Name _ _) (Expr.Name _ _) (_ :: _) [] _) _) _ _ _); (k_here; (with_reducible rename Fr _ _ _ _ => zlF); (with_reducible refine' for_t ?zF9 ?_ ?zhs9); (case zF9 => k_dflt (exact zlF)); (case zhs9 => k_dflt (intro _; rfl)))) | with_reducible ((show wpAny _ _ (exec (Stmt.For (Expr.Name _ _) (Expr.Call _ _ _ _) (_ :: _) [] _) _) _ _ _); (k_here; (with_reducible rename Fr _ _ _ _ => zlF); (with_reducible refine' for_t ?zF9 ?_ ?zhs9); (case zF9 => k_dflt (exact zlF)); (case zhs9 => k_dflt (intro _; rfl)))) | with_reducible ((show wpAny _ _ (execs (_ :: _) _) _ _ _); (k_here; (with_reducible show wpAny _ _ _ _ _ (Shared.mk _ _ _ (_ + _) _)); k_dflt (refine' gen_toks ?zp ?_; (case zp => ((try dsimp only); exact Nat.succ_pos _)); intro _ _))) | with_reducible ((show wpAny _ _ (isTrue (Expr.Compare _ _ _ _) _ _) _ _ _); (k_here; k_dflt (refine' isTrue_ll ?zF ?zv ?_ ?zk ?zl; (case zF => k_asm); (case zv => rfl); (case zk => rfl); (case zl => rfl); k_whole; intro _; (try dsimp only)))) | (k_unfold; (try dsimp only)) | walk1 | (dsimp only; walk1) | (dsimp only [List.nil_append, List.cons_append]; walk1) | (k_end; dsimp only; k_unfold; (try dsimp only)) | (leave1; (try dsimp only)) | ((with_reducible show wpAny _ _ (isTrue (Expr.Compare _ _ _ _) _ _) _ _ _); (k_here; k_dflt (refine' isTrue_ll ?zF ?zv ?_ ?zk ?zl; (case zF => k_asm); (case zv => rfl); (case zk => rfl); (case zl => rfl); k_whole; intro _; (try dsimp only)))))))
      (with_reducible rename Fr _ _ _ _ => F9)
      (with_reducible rename News _ _ _ _ => N9)
      subst hJJ
      rw [hd1] at N9
      exact ⟨_, _, kt, _, _, rfl, fr_qe hk8 F9, N9, hd2, hd3⟩
  case rest =>
    intro s' hJ
    refine' ex_5_5 (hJ) ?_; intro h' tk kt' n2 q2 r95 F2 N2 hn2 hn7; (try clear hJ); subst r95
    (try clear F1)
    (try clear N)
    show wpAny _ _ (execs (_ :: _) _) _ _ _
    with_reducible refine' execs_join (fun s' => ∃ (h' : Heap) (tk : Nat) (m2 : Str → Option Value) (st2 : StS) (tg : Nat), s' = ⟨h', s.gens, s.drawn, tk, s.os⟩ ∧ Fr h₀ L h' m2 ∧ m2 (Str.ofString "rows") = some (.ref ra) ∧ m2 (Str.ofString "runs") = some (.ref rsa) ∧ m2 (Str.ofString "stream") = some (.ref x) ∧ m2 (Str.ofString "line") = some (.int ln t1) ∧ m2 (Str.ofString "column") = some (.int col t2) ∧ m2 (Str.ofString "calm") = some (.bool calm) ∧
      m2 (Str.ofString "kind") = some (.int (k : Int) u2) ∧ m2 (Str.ofString "run") = some (.str X u3) ∧ m2 (Str.ofString "got") = some (.str X tg) ∧ News h₀ L h' ((L + 1, oc) :: (LS w kt' x d q nl td tx er T tT (.int (n2 : Int) q2) st2 ++ ((rsa, listOf vs.toArray nrs) :: (rowsL ta la ra u nt nll nr vsT vsL ++ R3)))) ∧ Got T rs j st X.cps.toList st2) ?rest2 ?got
    case got =>
      intro JJ hJJ
      have F3 := fr_eq hk8 F2
      have N3 : News h₀ L h' ((L + 1, oc) :: (rsa, listOf vs.toArray nrs) :: (ra, listOf #[.ref ta, .str (Str.ofString "abé") u, .ref la] nr) :: (LS w kt' x d q nl td tx er T tT (.int (n2 : Int) q2) st ++ ((la, listOf vsL.toArray nll) :: (ta, { cls := .type "tuple", data := .seq vsT.toArray nt }) :: R3))) := fun p hp => N2 p (mem_rows hp)
      simp only [LS, SX, TL, ent, List.cons_append, List.nil_append] at N3
      clear F2 N2
      have hk3 : k < 3 := M.hk _ (List.mem_of_getElem? hr)
      have hTl : T.length ≤ 10000 := made_10000 M hi12
      have hrow := intest_row w (ta := ta) (la := la) (u := u) (nt := nt) (nl := nll) hR hk3
      have hOb := turn_ob hord hLt hlt hrr hrd (o3 := listOf vsL.toArray nll) (o4 := { cls := .type "tuple", data := .seq vsT.toArray nt })
      w_strict ((repeat' (first | with_reducible ((first | (show wpAny _ _ (call (Value.type "dict") _) _ _ _) | (show wpAny _ _ (subscriptTail (Expr.Name _ _) (Expr.BinOp _ _ _ _) (Value.ref _) (Value.int _ _)) _ _ _) | (show wpAny _ _ (subscriptTail (Expr.Name _ _) (Expr.Name _ _) (Value.ref _) (Value.int _ _)) _ _ _) | (show wpAny _ _ (eval (Expr.ListComp _ _ _ _) _) _ _ _) | (show wpAny _ _ (call (Value.type "zip") _) _ _ _) | (show wpAny _ _ (exec (Stmt.Assign (_ :: _) (Expr.ListComp _ _ _ _) _) _) _ _ _) | (show wpAny _ _ (pyIter (Value.ref _)) _ _ _)); refine stopAt_ ?_) | with_reducible ((show wpAny _ _ (call (Value.ref _) _) _ _ _); (k_here; (with_reducible show wpAny _ _ (call (Value.ref 98) _) _ _ _); refine stopAt_ ?_)) | with_reducible ((show wpAny _ _ (call (Value.ref _) _) _ _ _); (k_here; (with_reducible show wpAny _ _ (call (Value.ref 121) _) _ _ _); refine stopAt_ ?_)) | with_reducible ((show wpAny _ _ (execs (_ :: _) _) _ _ _); ((with_reducible show wpAny _ _ (execs (Stmt.If _ _ _ _ :: _ :: _ :: _) _) _ _ _); refine stopAt_ ?_)) | with_reducible ((show wpAny _ _ (execs (_ :: _) _) _ _ _); (k_here; (with_reducible rename StopList _ => zT9); k_dflt (refine stop_list zT9 ?_))) | with_reducible ((show wpAny _ _ (eval (Expr.Constant (Const.str _) _ _) _) _ _ _); ((try dsimp only); k_dflt (refine' const_str_tk ?_); intro _ _)) | with_reducible ((show wpAny _ _ (eval (Expr.Constant (Const.int _) _ _) _) _ _ _); ((try dsimp only); k_dflt (refine' const_int_tk ?_); intro _ _)) | with_reducible ((show wpAny _ _ (exec (Stmt.For (Expr.Tuple _ _ _) (Expr.Tuple _ _ _) (_ :: _) [] _) _) _ _ _); (k_here; (with_reducible rename Fr _ _ _ _ => zlF); (with_reducible refine' for_t ?zF9 ?_ ?zhs9); (case zF9 => k_dflt (exact zlF)); (case zhs9 => k_dflt (intro _; rfl)))) | with_reducible ((show wpAny _ _ (exec (Stmt.For (Expr.Name _ _) (Expr.Name _ _) (_ :: _) [] _) _) _ _ _); (k_here; (with_reducible rename Fr _ _ _ _ => zlF); (with_reducible refine' for_t ?zF9 ?_ ?zhs9); (case zF9 => k_dflt (exact zlF)); (case zhs9 => k_dflt (intro _; rfl)))) | with_reducible ((show wpAny _ _ (exec (Stmt.For (Expr.Name _ _) (Expr.Call _ _ _ _) (_ :: _) [] _) _) _ _ _); (k_here; (with_reducible rename Fr _ _ _ _ => zlF); (with_reducible refine' for_t ?zF9 ?_ ?zhs9); (case zF9 => k_dflt (exact zlF)); (case zhs9 => k_dflt (intro _; rfl)))) | with_reducible ((show wpAny _ _ (execs (_ :: _) _) _ _ _); (k_here; (with_reducible show wpAny _ _ _ _ _ (Shared.mk _ _ _ (_ + _) _)); k_dflt (refine' gen_toks ?zp ?_; (case zp => ((try dsimp only); exact Nat.succ_pos _)); intro _ _))) | with_reducible ((show wpAny _ _ (isTrue (Expr.Compare _ _ _ _) _ _) _ _ _); (k_here; k_dflt (refine' isTrue_ll ?zF ?zv ?_ ?zk ?zl; (case zF => k_asm); (case zv => rfl); (case zk => rfl); (case zl => rfl); k_whole; intro _; (try dsimp only)))) | (k_unfold; (try dsimp only)) | walk1 | (dsimp only; walk1) | (dsimp only [List.nil_append, List.cons_append]; walk1) | (k_end; dsimp only; k_unfold; (try dsimp only)) | (leave1; (try dsimp only)) | ((with_reducible show wpAny _ _ (isTrue (Expr.Compare _ _ _ _) _ _) _ _ _); (k_here; k_dflt (refine' isTrue_ll ?zF ?zv ?_ ?zk ?zl; (case zF => k_asm); (case zv => rfl); (case zk => rfl); (case zl => rfl); k_whole; intro _; (try dsimp only)))))))
      · (try unfold StopAt)
        (with_reducible rename Fr _ _ _ _ => F5)
        (with_reducible rename News _ _ _ _ => N5)
        refine' item_any (vs := [.ref ta, .str (Str.ofString "abé") u, .ref la]) ?hl k (rowV ta la u k) (rowV_get hk3) ?hf ?_ ?hs ?hg
        case hl => exact list_of N5 (by k_mem)
        case hf => exact Nat.lt_of_lt_of_le hk3 (by decide)
        case hs => with_unfolding_all rfl
        case hg => intro _; with_unfolding_all rfl
        w_strict ((repeat' (first | with_reducible ((first | (show wpAny _ _ (call (Value.type "dict") _) _ _ _) | (show wpAny _ _ (subscriptTail (Expr.Name _ _) (Expr.BinOp _ _ _ _) (Value.ref _) (Value.int _ _)) _ _ _) | (show wpAny _ _ (subscriptTail (Expr.Name _ _) (Expr.Name _ _) (Value.ref _) (Value.int _ _)) _ _ _) | (show wpAny _ _ (eval (Expr.ListComp _ _ _ _) _) _ _ _) | (show wpAny _ _ (call (Value.type "zip") _) _ _ _) | (show wpAny _ _ (exec (Stmt.Assign (_ :: _) (Expr.ListComp _ _ _ _) _) _) _ _ _) | (show wpAny _ _ (pyIter (Value.ref _)) _ _ _)); refine stopAt_ ?_) | with_reducible ((show wpAny _ _ (call (Value.ref _) _) _ _ _); (k_here; (with_reducible show wpAny _ _ (call (Value.ref 98) _) _ _ _); refine stopAt_ ?_)) | with_reducible ((show wpAny _ _ (call (Value.ref _) _) _ _ _); (k_here; (with_reducible show wpAny _ _ (call (Value.ref 121) _) _ _ _); refine stopAt_ ?_)) | with_reducible ((show wpAny _ _ (execs (_ :: _) _) _ _ _); ((with_reducible show wpAny _ _ (execs (Stmt.If _ _ _ _ :: _ :: _ :: _) _) _ _ _); refine stopAt_ ?_)) | with_reducible ((show wpAny _ _ (execs (_ :: _) _) _ _ _); (k_here; (with_reducible rename StopList _ => zT9); k_dflt (refine stop_list zT9 ?_))) | with_reducible ((show wpAny _ _ (eval (Expr.Constant (Const.str _) _ _) _) _ _ _); ((try dsimp only); k_dflt (refine' const_str_tk ?_); intro _ _)) | with_reducible ((show wpAny _ _ (eval (Expr.Constant (Const.int _) _ _) _) _ _ _); ((try dsimp only); k_dflt (refine' const_int_tk ?_); intro _ _)) | with_reducible ((show wpAny _ _ (exec (Stmt.For (Expr.Tuple _ _ _) (Expr.Tuple _ _ _) (_ :: _) [] _) _) _ _ _); (k_here; (with_reducible rename Fr _ _ _ _ => zlF); (with_reducible refine' for_t ?zF9 ?_ ?zhs9); (case zF9 => k_dflt (exact zlF)); (case zhs9 => k_dflt (intro _; rfl)))) | with_reducible ((show wpAny _ _ (exec (Stmt.For (Expr.Name _ _) (Expr.Name _ _) (_ :: _) [] _) _) _ _ _); (k_here; (with_reducible rename Fr _ _ _ _ => zlF); (with_reducible refine' for_t ?zF9 ?_ ?zhs9); (case zF9 => k_dflt (exact zlF)); (case zhs9 => k_dflt (intro _; rfl)))) | with_reducible ((show wpAny _ _ (exec (Stmt.For (Expr.Name _ _) (Expr.Call _ _ _ _) (_ :: _) [] _) _) _ _ _); (k_here; (with_reducible rename Fr _ _ _ _ => zlF); (with_reducible refine' for_t ?zF9 ?_ ?zhs9); (case zF9 => k_dflt (exact zlF)); (case zhs9 => k_dflt (intro _; rfl)))) | with_reducible ((show wpAny _ _ (execs (_ :: _) _) _ _ _); (k_here; (with_reducible show wpAny _ _ _ _ _ (Shared.mk _ _ _ (_ + _) _)); k_dflt (refine' gen_toks ?zp ?_; (case zp => ((try dsimp only); exact Nat.succ_pos _)); intro _ _))) | with_reducible ((show wpAny _ _ (isTrue (Expr.Compare _ _ _ _) _ _) _ _ _); (k_here; k_dflt (refine' isTrue_ll ?zF ?zv ?_ ?zk ?zl; (case zF => k_asm); (case zv => rfl); (case zk => rfl); (case zl => rfl); k_whole; intro _; (try dsimp only)))) | (k_unfold; (try dsimp only)) | walk1 | (dsimp only; walk1) | (dsimp only [List.nil_append, List.cons_append]; walk1) | (k_end; dsimp only; k_unfold; (try dsimp only)) | (leave1; (try dsimp only)) | ((with_reducible show wpAny _ _ (isTrue (Expr.Compare _ _ _ _) _ _) _ _ _); (k_here; k_dflt (refine' isTrue_ll ?zF ?zv ?_ ?zk ?zl; (case zF => k_asm); (case zv => rfl); (case zk => rfl); (case zl => rfl); k_whole; intro _; (try dsimp only)))))))
        unfold StopAt
        (with_reducible rename Fr _ _ _ _ => F5)
        (with_reducible rename News _ _ _ _ => N5)
        (try dsimp only [List.append_nil])
        k_dflt (refine' Does.useG2 [_, _, _] (does_untilT w kt' x d q nl td tx er hord T hTl M.hsur _ _ _ hrow hOb st A2.ok A2.b tT n2 q2 hn2 (Nat.le_trans hn7 (by decide))) (got_alongP M hR.lo hr A2) ?k1 ?k2 ?k3 ?k4 ?k5 ?kd ?kK ?kr ?ku ?_)
        case k4 => exact N5
        case k1 => k_asm
        case k2 => exact F5
        case k3 => k_asm
        case k5 => k_asm
        case kK => first | exact rfl | assumption
        case kr => (first | assumption | ((simp only [depth_under_make, depth_under_kw, depth_in1, depth_deeper, depth_caller]); (try dsimp only [ktrTop]); first | exact room0 (by assumption) (by decide) | exact room1 (by assumption) (by decide) | omega | decide) | ((try dsimp only [ktrTop]); omega))
        case ku => (first | assumption | ((simp only [units_in1, units_deeper, Around.mark_units, units_caller]); (try dsimp only [ktrTop]); first | exact room0 (by assumption) (by decide) | exact room1 (by assumption) (by decide)) | ((have zhcL := cLine_is); (simp only [units_in1, units_deeper, Around.mark_units, units_caller]); (try dsimp only [ktrTop]); omega) | ((have zhcL := cLine_is); (try dsimp only [ktrTop]); omega))
        skip
        case kd => exact turn_dis hord hLt hlt hrr hrd hoff
        k_whole
        intro t9 st9 h9 tk9 F9 N9 p9 T9
        (try dsimp only at T9)
        (try simp only [List.nil_append, List.cons_append] at N9)
        clear N5 F5
        have hG := p9
        w_strict ((repeat' (first | with_reducible ((first | (show wpAny _ _ (call (Value.type "dict") _) _ _ _) | (show wpAny _ _ (subscriptTail (Expr.Name _ _) (Expr.BinOp _ _ _ _) (Value.ref _) (Value.int _ _)) _ _ _) | (show wpAny _ _ (subscriptTail (Expr.Name _ _) (Expr.Name _ _) (Value.ref _) (Value.int _ _)) _ _ _) | (show wpAny _ _ (eval (Expr.ListComp _ _ _ _) _) _ _ _) | (show wpAny _ _ (call (Value.type "zip") _) _ _ _) | (show wpAny _ _ (exec (Stmt.Assign (_ :: _) (Expr.ListComp _ _ _ _) _) _) _ _ _) | (show wpAny _ _ (pyIter (Value.ref _)) _ _ _)); refine stopAt_ ?_) | with_reducible ((show wpAny _ _ (call (Value.ref _) _) _ _ _); (k_here; (with_reducible show wpAny _ _ (call (Value.ref 98) _) _ _ _); refine stopAt_ ?_)) | with_reducible ((show wpAny _ _ (call (Value.ref _) _) _ _ _); (k_here; (with_reducible show wpAny _ _ (call (Value.ref 121) _) _ _ _); refine stopAt_ ?_)) | with_reducible ((show wpAny _ _ (execs (_ :: _) _) _ _ _); ((with_reducible show wpAny _ _ (execs (Stmt.If _ _ _ _ :: _ :: _ :: _) _) _ _ _); refine stopAt_ ?_)) | with_reducible ((show wpAny _ _ (execs (_ :: _) _) _ _ _); (k_here; (with_reducible rename StopList _ => zT9); k_dflt (refine stop_list zT9 ?_))) | with_reducible ((show wpAny _ _ (eval (Expr.Constant (Const.str _) _ _) _) _ _ _); ((try dsimp only); k_dflt (refine' const_str_tk ?_); intro _ _)) | with_reducible ((show wpAny _ _ (eval (Expr.Constant (Const.int _) _ _) _) _ _ _); ((try dsimp only); k_dflt (refine' const_int_tk ?_); intro _ _)) | with_reducible ((show wpAny _ _ (exec (Stmt.For (Expr.Tuple _ _ _) (Expr.Tuple _ _ _) (_ :: _) [] _) _) _ _ _); (k_here; (with_reducible rename Fr _ _ _ _ => zlF); (with_reducible refine' for_t ?zF9 ?_ ?zhs9); (case zF9 => k_dflt (exact zlF)); (case zhs9 => k_dflt (intro _; rfl)))) | with_reducible ((show wpAny _ _ (exec (Stmt.For (Expr.Name _ _) (Expr.Name _ _) (_ :: _) [] _) _) _ _ _); (k_here; (with_reducible rename Fr _ _ _ _ => zlF); (with_reducible refine' for_t ?zF9 ?_ ?zhs9); (case zF9 => k_dflt (exact zlF)); (case zhs9 => k_dflt (intro _; rfl)))) | with_reducible ((show wpAny _ _ (exec (Stmt.For (Expr.Name _ _) (Expr.Call _ _ _ _) (_ :: _) [] _) _) _ _ _); (k_here; (with_reducible rename Fr _ _ _ _ => zlF); (with_reducible refine' for_t ?zF9 ?_ ?zhs9); (case zF9 => k_dflt (exact zlF)); (case zhs9 => k_dflt (intro _; rfl)))) | with_reducible ((show wpAny _ _ (execs (_ :: _) _) _ _ _); (k_here; (with_reducible show wpAny _ _ _ _ _ (Shared.mk _ _ _ (_ + _) _)); k_dflt (refine' gen_toks ?zp ?_; (case zp => ((try dsimp only); exact Nat.succ_pos _)); intro _ _))) | with_reducible ((show wpAny _ _ (isTrue (Expr.Compare _ _ _ _) _ _) _ _ _); (k_here; k_dflt (refine' isTrue_ll ?zF ?zv ?_ ?zk ?zl; (case zF => k_asm); (case zv => rfl); (case zk => rfl); (case zl => rfl); k_whole; intro _; (try dsimp only)))) | (k_unfold; (try dsimp only)) | walk1 | (dsimp only; walk1) | (dsimp only [List.nil_append, List.cons_append]; walk1) | (k_end; dsimp only; k_unfold; (try dsimp only)) | (leave1; (try dsimp only)) | ((with_reducible show wpAny _ _ (isTrue (Expr.Compare _ _ _ _) _ _) _ _ _); (k_here; k_dflt (refine' isTrue_ll ?zF ?zv ?_ ?zk ?zl; (case zF => k_asm); (case zv => rfl); (case zk => rfl); (case zl => rfl); k_whole; intro _; (try dsimp only)))))))
        subst hJJ
        (with_reducible rename Fr _ _ _ _ => F9)
        (with_reducible rename News _ _ _ _ => N9)
        exact ⟨_, _, _, st9, t9, rfl, F9, rfl, rfl, rfl, rfl, rfl, rfl, rfl, rfl, rfl, fun p hp => N9 p (mem_rows' hp), hG⟩
      · skip
        (try unfold StopAt)
        (with_reducible rename Fr _ _ _ _ => F5)
        (with_reducible rename News _ _ _ _ => N5)
        refine' comp_two F5 ?hclos ?hcell ?hkind ?hnames ?hy ?hs2 ?_ ?hs
        case hclos => exact rfl
        case hcell => decide
        case hkind => rfl
        case hnames => decide
        case hy => rfl
        case hs2 => intro _ _; rfl
        case hs => intro _; rfl
        have N6' : News h₀ L h' ((L + 1, oc) :: (rsa, listOf vs.toArray nrs) :: (ra, listOf #[.ref ta, .str (Str.ofString "abé") u, .ref la] nr) :: (LS w kt' x d q nl td tx er T tT (.int (n2 : Int) q2) st ++ ((la, listOf vsL.toArray nll) :: (ta, { cls := .type "tuple", data := .seq vsT.toArray nt }) :: R3))) := N5
        clear N5
        (try clear N3)
        generalize hRR : (LS w kt' x d q nl td tx er T tT (.int (n2 : Int) q2) st ++ ((la, listOf vsL.toArray nll) :: (ta, { cls := .type "tuple", data := .seq vsT.toArray nt }) :: R3) : Ledger) = RR at N6'
        have hmla : ((la, listOf vsL.toArray nll) : Addr × Obj) ∈ RR := hRR ▸ List.mem_append_right _ (.head _)
        have hmta : ((ta, { cls := .type "tuple", data := .seq vsT.toArray nt }) : Addr × Obj) ∈ RR := hRR ▸ List.mem_append_right _ (.tail _ (.head _))
        w_strict ((repeat' (first | with_reducible ((first | (show wpAny _ _ (call (Value.type "dict") _) _ _ _) | (show wpAny _ _ (subscriptTail (Expr.Name _ _) (Expr.BinOp _ _ _ _) (Value.ref _) (Value.int _ _)) _ _ _) | (show wpAny _ _ (subscriptTail (Expr.Name _ _) (Expr.Name _ _) (Value.ref _) (Value.int _ _)) _ _ _) | (show wpAny _ _ (eval (Expr.ListComp _ _ _ _) _) _ _ _) | (show wpAny _ _ (call (Value.type "zip") _) _ _ _) | (show wpAny _ _ (exec (Stmt.Assign (_ :: _) (Expr.ListComp _ _ _ _) _) _) _ _ _) | (show wpAny _ _ (pyIter (Value.ref _)) _ _ _)); refine stopAt_ ?_) | with_reducible ((show wpAny _ _ (call (Value.ref _) _) _ _ _); (k_here; (with_reducible show wpAny _ _ (call (Value.ref 98) _) _ _ _); refine stopAt_ ?_)) | with_reducible ((show wpAny _ _ (call (Value.ref _) _) _ _ _); (k_here; (with_reducible show wpAny _ _ (call (Value.ref 121) _) _ _ _); refine stopAt_ ?_)) | with_reducible ((show wpAny _ _ (execs (_ :: _) _) _ _ _); ((with_reducible show wpAny _ _ (execs (Stmt.If _ _ _ _ :: _ :: _ :: _) _) _ _ _); refine stopAt_ ?_)) | with_reducible ((show wpAny _ _ (execs (_ :: _) _) _ _ _); (k_here; (with_reducible rename StopList _ => zT9); k_dflt (refine stop_list zT9 ?_))) | with_reducible ((show wpAny _ _ (eval (Expr.Constant (Const.str _) _ _) _) _ _ _); ((try dsimp only); k_dflt (refine' const_str_tk ?_); intro _ _)) | with_reducible ((show wpAny _ _ (eval (Expr.Constant (Const.int _) _ _) _) _ _ _); ((try dsimp only); k_dflt (refine' const_int_tk ?_); intro _ _)) | with_reducible ((show wpAny _ _ (exec (Stmt.For (Expr.Tuple _ _ _) (Expr.Tuple _ _ _) (_ :: _) [] _) _) _ _ _); (k_here; (with_reducible rename Fr _ _ _ _ => zlF); (with_reducible refine' for_t ?zF9 ?_ ?zhs9); (case zF9 => k_dflt (exact zlF)); (case zhs9 => k_dflt (intro _; rfl)))) | with_reducible ((show wpAny _ _ (exec (Stmt.For (Expr.Name _ _) (Expr.Name _ _) (_ :: _) [] _) _) _ _ _); (k_here; (with_reducible rename Fr _ _ _ _ => zlF); (with_reducible refine' for_t ?zF9 ?_ ?zhs9); (case zF9 => k_dflt (exact zlF)); (case zhs9 => k_dflt (intro _; rfl)))) | with_reducible ((show wpAny _ _ (exec (Stmt.For (Expr.Name _ _) (Expr.Call _ _ _ _) (_ :: _) [] _) _) _ _ _); (k_here; (with_reducible rename Fr _ _ _ _ => zlF); (with_reducible refine' for_t ?zF9 ?_ ?zhs9); (case zF9 => k_dflt (exact zlF)); (case zhs9 => k_dflt (intro _; rfl)))) | with_reducible ((show wpAny _ _ (execs (_ :: _) _) _ _ _); (k_here; (with_reducible show wpAny _ _ _ _ _ (Shared.mk _ _ _ (_ + _) _)); k_dflt (refine' gen_toks ?zp ?_; (case zp => ((try dsimp only); exact Nat.succ_pos _)); intro _ _))) | with_reducible ((show wpAny _ _ (isTrue (Expr.Compare _ _ _ _) _ _) _ _ _); (k_here; k_dflt (refine' isTrue_ll ?zF ?zv ?_ ?zk ?zl; (case zF => k_asm); (case zv => rfl); (case zk => rfl); (case zl => rfl); k_whole; intro _; (try dsimp only)))) | (k_unfold; (try dsimp only)) | walk1 | (dsimp only; walk1) | (dsimp only [List.nil_append, List.cons_append]; walk1) | (k_end; dsimp only; k_unfold; (try dsimp only)) | (leave1; (try dsimp only)) | ((with_reducible show wpAny _ _ (isTrue (Expr.Compare _ _ _ _) _ _) _ _ _); (k_here; k_dflt (refine' isTrue_ll ?zF ?zv ?_ ?zk ?zl; (case zF => k_asm); (case zv => rfl); (case zk => rfl); (case zl => rfl); k_whole; intro _; (try dsimp only)))))))
        (try unfold StopAt)
        (with_reducible rename Fr _ _ _ _ => F6)
        (with_reducible rename News _ _ _ _ => N6)
        refine' item_back (ta := ta) (la := la) (u0 := u) ?hl k 1 hk3 (by decide) rfl ?_ ?hs ?hg
        case hl => exact list_of N6 (by k_mem)
        case hs => with_unfolding_all rfl
        case hg => intro _; with_unfolding_all rfl
        w_strict ((repeat' (first | with_reducible ((first | (show wpAny _ _ (call (Value.type "dict") _) _ _ _) | (show wpAny _ _ (subscriptTail (Expr.Name _ _) (Expr.BinOp _ _ _ _) (Value.ref _) (Value.int _ _)) _ _ _) | (show wpAny _ _ (subscriptTail (Expr.Name _ _) (Expr.Name _ _) (Value.ref _) (Value.int _ _)) _ _ _) | (show wpAny _ _ (eval (Expr.ListComp _ _ _ _) _) _ _ _) | (show wpAny _ _ (call (Value.type "zip") _) _ _ _) | (show wpAny _ _ (exec (Stmt.Assign (_ :: _) (Expr.ListComp _ _ _ _) _) _) _ _ _) | (show wpAny _ _ (pyIter (Value.ref _)) _ _ _)); refine stopAt_ ?_) | with_reducible ((show wpAny _ _ (call (Value.ref _) _) _ _ _); (k_here; (with_reducible show wpAny _ _ (call (Value.ref 98) _) _ _ _); refine stopAt_ ?_)) | with_reducible ((show wpAny _ _ (call (Value.ref _) _) _ _ _); (k_here; (with_reducible show wpAny _ _ (call (Value.ref 121) _) _ _ _); refine stopAt_ ?_)) | with_reducible ((show wpAny _ _ (execs (_ :: _) _) _ _ _); ((with_reducible show wpAny _ _ (execs (Stmt.If _ _ _ _ :: _ :: _ :: _) _) _ _ _); refine stopAt_ ?_)) | with_reducible ((show wpAny _ _ (execs (_ :: _) _) _ _ _); (k_here; (with_reducible rename StopList _ => zT9); k_dflt (refine stop_list zT9 ?_))) | with_reducible ((show wpAny _ _ (eval (Expr.Constant (Const.str _) _ _) _) _ _ _); ((try dsimp only); k_dflt (refine' const_str_tk ?_); intro _ _)) | with_reducible ((show wpAny _ _ (eval (Expr.Constant (Const.int _) _ _) _) _ _ _); ((try dsimp only); k_dflt (refine' const_int_tk ?_); intro _ _)) | with_reducible ((show wpAny _ _ (exec (Stmt.For (Expr.Tuple _ _ _) (Expr.Tuple _ _ _) (_ :: _) [] _) _) _ _ _); (k_here; (with_reducible rename Fr _ _ _ _ => zlF); (with_reducible refine' for_t ?zF9 ?_ ?zhs9); (case zF9 => k_dflt (exact zlF)); (case zhs9 => k_dflt (intro _; rfl)))) | with_reducible ((show wpAny _ _ (exec (Stmt.For (Expr.Name _ _) (Expr.Name _ _) (_ :: _) [] _) _) _ _ _); (k_here; (with_reducible rename Fr _ _ _ _ => zlF); (with_reducible refine' for_t ?zF9 ?_ ?zhs9); (case zF9 => k_dflt (exact zlF)); (case zhs9 => k_dflt (intro _; rfl)))) | with_reducible ((show wpAny _ _ (exec (Stmt.For (Expr.Name _ _) (Expr.Call _ _ _ _) (_ :: _) [] _) _) _ _ _); (k_here; (with_reducible rename Fr _ _ _ _ => zlF); (with_reducible refine' for_t ?zF9 ?_ ?zhs9); (case zF9 => k_dflt (exact zlF)); (case zhs9 => k_dflt (intro _; rfl)))) | with_reducible ((show wpAny _ _ (execs (_ :: _) _) _ _ _); (k_here; (with_reducible show wpAny _ _ _ _ _ (Shared.mk _ _ _ (_ + _) _)); k_dflt (refine' gen_toks ?zp ?_; (case zp => ((try dsimp only); exact Nat.succ_pos _)); intro _ _))) | with_reducible ((show wpAny _ _ (isTrue (Expr.Compare _ _ _ _) _ _) _ _ _); (k_here; k_dflt (refine' isTrue_ll ?zF ?zv ?_ ?zk ?zl; (case zF => k_asm); (case zv => rfl); (case zk => rfl); (case zl => rfl); k_whole; intro _; (try dsimp only)))) | (k_unfold; (try dsimp only)) | walk1 | (dsimp only; walk1) | (dsimp only [List.nil_append, List.cons_append]; walk1) | (k_end; dsimp only; k_unfold; (try dsimp only)) | (leave1; (try dsimp only)) | ((with_reducible show wpAny _ _ (isTrue (Expr.Compare _ _ _ _) _ _) _ _ _); (k_here; k_dflt (refine' isTrue_ll ?zF ?zv ?_ ?zk ?zl; (case zF => k_asm); (case zv => rfl); (case zk => rfl); (case zl => rfl); k_whole; intro _; (try dsimp only)))))))
        (try unfold StopAt)
        (with_reducible rename Fr _ _ _ _ => F6)
        (with_reducible rename News _ _ _ _ => N6)
        refine' item_back (ta := ta) (la := la) (u0 := u) ?hl k 2 hk3 (by decide) rfl ?_ ?hs ?hg
        case hl => exact list_of N6 (by k_mem)
        case hs => with_unfolding_all rfl
        case hg => intro _; with_unfolding_all rfl
        w_strict ((repeat' (first | with_reducible ((first | (show wpAny _ _ (call (Value.type "dict") _) _ _ _) | (show wpAny _ _ (subscriptTail (Expr.Name _ _) (Expr.BinOp _ _ _ _) (Value.ref _) (Value.int _ _)) _ _ _) | (show wpAny _ _ (subscriptTail (Expr.Name _ _) (Expr.Name _ _) (Value.ref _) (Value.int _ _)) _ _ _) | (show wpAny _ _ (eval (Expr.ListComp _ _ _ _) _) _ _ _) | (show wpAny _ _ (call (Value.type "zip") _) _ _ _) | (show wpAny _ _ (exec (Stmt.Assign (_ :: _) (Expr.ListComp _ _ _ _) _) _) _ _ _) | (show wpAny _ _ (pyIter (Value.ref _)) _ _ _)); refine stopAt_ ?_) | with_reducible ((show wpAny _ _ (call (Value.ref _) _) _ _ _); (k_here; (with_reducible show wpAny _ _ (call (Value.ref 98) _) _ _ _); refine stopAt_ ?_)) | with_reducible ((show wpAny _ _ (call (Value.ref _) _) _ _ _); (k_here; (with_reducible show wpAny _ _ (call (Value.ref 121) _) _ _ _); refine stopAt_ ?_)) | with_reducible ((show wpAny _ _ (execs (_ :: _) _) _ _ _); ((with_reducible show wpAny _ _ (execs (Stmt.If _ _ _ _ :: _ :: _ :: _) _) _ _ _); refine stopAt_ ?_)) | with_reducible ((show wpAny _ _ (execs (_ :: _) _) _ _ _); (k_here; (with_reducible rename StopList _ => zT9); k_dflt (refine stop_list zT9 ?_))) | with_reducible ((show wpAny _ _ (eval (Expr.Constant (Const.str _) _ _) _) _ _ _); ((try dsimp only); k_dflt (refine' const_str_tk ?_); intro _ _)) | with_reducible ((show wpAny _ _ (eval (Expr.Constant (Const.int _) _ _) _) _ _ _); ((try dsimp only); k_dflt (refine' const_int_tk ?_); intro _ _)) | with_reducible ((show wpAny _ _ (exec (Stmt.For (Expr.Tuple _ _ _) (Expr.Tuple _ _ _) (_ :: _) [] _) _) _ _ _); (k_here; (with_reducible rename Fr _ _ _ _ => zlF); (with_reducible refine' for_t ?zF9 ?_ ?zhs9); (case zF9 => k_dflt (exact zlF)); (case zhs9 => k_dflt (intro _; rfl)))) | with_reducible ((show wpAny _ _ (exec (Stmt.For (Expr.Name _ _) (Expr.Name _ _) (_ :: _) [] _) _) _ _ _); (k_here; (with_reducible rename Fr _ _ _ _ => zlF); (with_reducible refine' for_t ?zF9 ?_ ?zhs9); (case zF9 => k_dflt (exact zlF)); (case zhs9 => k_dflt (intro _; rfl)))) | with_reducible ((show wpAny _ _ (exec (Stmt.For (Expr.Name _ _) (Expr.Call _ _ _ _) (_ :: _) [] _) _) _ _ _); (k_here; (with_reducible rename Fr _ _ _ _ => zlF); (with_reducible refine' for_t ?zF9 ?_ ?zhs9); (case zF9 => k_dflt (exact zlF)); (case zhs9 => k_dflt (intro _; rfl)))) | with_reducible ((show wpAny _ _ (execs (_ :: _) _) _ _ _); (k_here; (with_reducible show wpAny _ _ _ _ _ (Shared.mk _ _ _ (_ + _) _)); k_dflt (refine' gen_toks ?zp ?_; (case zp => ((try dsimp only); exact Nat.succ_pos _)); intro _ _))) | with_reducible ((show wpAny _ _ (isTrue (Expr.Compare _ _ _ _) _ _) _ _ _); (k_here; k_dflt (refine' isTrue_ll ?zF ?zv ?_ ?zk ?zl; (case zF => k_asm); (case zv => rfl); (case zk => rfl); (case zl => rfl); k_whole; intro _; (try dsimp only)))) | (k_unfold; (try dsimp only)) | walk1 | (dsimp only; walk1) | (dsimp only [List.nil_append, List.cons_append]; walk1) | (k_end; dsimp only; k_unfold; (try dsimp only)) | (leave1; (try dsimp only)) | ((with_reducible show wpAny _ _ (isTrue (Expr.Compare _ _ _ _) _ _) _ _ _); (k_here; k_dflt (refine' isTrue_ll ?zF ?zv ?_ ?zk ?zl; (case zF => k_asm); (case zv => rfl); (case zk => rfl); (case zl => rfl); k_whole; intro _; (try dsimp only)))))))
        (with_reducible rename Fr _ _ _ _ => F6)
        (with_reducible rename News _ _ _ _ => N6)
        refine' ⟨_, 2, _, fun i ys own => PairsIn ys own (othTo oc9 k i), fun v x => x = v, iter_tup (items := #[rowV ta la u ((k + 3 - 1) % 3), rowV ta la u ((k + 3 - 2) % 3)]) rfl rfl rfl (.head _), F6, N6, pairs_nil, bind_name rfl rfl (by decide), ?inner, ?fin⟩
        case inner =>
          intro i v x hi hP hxi
          subst hxi
          refine' ex_1_1 (oth_item (oc9 := oc9) hi hP) ?_; intro k' h9
          refine' ex_0_3 (h9) ?_; intro hk' e9 hstep; (try clear h9)
          subst e9
          refine' way_inner rfl hR hk' hstep ?m1 ?m2 ?turns
          case m1 => exact .tail _ (.tail _ (.tail _ (.tail _ hmla)))
          case m2 => exact .tail _ (.tail _ (.tail _ (.tail _ hmta)))
          case turns =>
            intro P2 hv2 j v ys own I oI C oC D I2 oI2 m₂ h tk hj hP2 hJ hC hx F7 N7
            refine' ex_1_1 (hv2 j v hj hP2) ?_; intro t7 e7
            subst e7
            refine wpAny_tests_nil ?_
            simp only [if_true]
            have N8 := news_dup (p := (L + 1, oc)) N7 (by simp)
            clear N7 F6 N6
            w_strict ((repeat' (first | with_reducible ((first | (show wpAny _ _ (call (Value.type "dict") _) _ _ _) | (show wpAny _ _ (subscriptTail (Expr.Name _ _) (Expr.BinOp _ _ _ _) (Value.ref _) (Value.int _ _)) _ _ _) | (show wpAny _ _ (subscriptTail (Expr.Name _ _) (Expr.Name _ _) (Value.ref _) (Value.int _ _)) _ _ _) | (show wpAny _ _ (eval (Expr.ListComp _ _ _ _) _) _ _ _) | (show wpAny _ _ (call (Value.type "zip") _) _ _ _) | (show wpAny _ _ (exec (Stmt.Assign (_ :: _) (Expr.ListComp _ _ _ _) _) _) _ _ _) | (show wpAny _ _ (pyIter (Value.ref _)) _ _ _)); refine stopAt_ ?_) | with_reducible ((show wpAny _ _ (call (Value.ref _) _) _ _ _); (k_here; (with_reducible show wpAny _ _ (call (Value.ref 98) _) _ _ _); refine stopAt_ ?_)) | with_reducible ((show wpAny _ _ (call (Value.ref _) _) _ _ _); (k_here; (with_reducible show wpAny _ _ (call (Value.ref 121) _) _ _ _); refine stopAt_ ?_)) | with_reducible ((show wpAny _ _ (execs (_ :: _) _) _ _ _); ((with_reducible show wpAny _ _ (execs (Stmt.If _ _ _ _ :: _ :: _ :: _) _) _ _ _); refine stopAt_ ?_)) | with_reducible ((show wpAny _ _ (execs (_ :: _) _) _ _ _); (k_here; (with_reducible rename StopList _ => zT9); k_dflt (refine stop_list zT9 ?_))) | with_reducible ((show wpAny _ _ (eval (Expr.Constant (Const.str _) _ _) _) _ _ _); ((try dsimp only); k_dflt (refine' const_str_tk ?_); intro _ _)) | with_reducible ((show wpAny _ _ (eval (Expr.Constant (Const.int _) _ _) _) _ _ _); ((try dsimp only); k_dflt (refine' const_int_tk ?_); intro _ _)) | with_reducible ((show wpAny _ _ (exec (Stmt.For (Expr.Tuple _ _ _) (Expr.Tuple _ _ _) (_ :: _) [] _) _) _ _ _); (k_here; (with_reducible rename Fr _ _ _ _ => zlF); (with_reducible refine' for_t ?zF9 ?_ ?zhs9); (case zF9 => k_dflt (exact zlF)); (case zhs9 => k_dflt (intro _; rfl)))) | with_reducible ((show wpAny _ _ (exec (Stmt.For (Expr.Name _ _) (Expr.Name _ _) (_ :: _) [] _) _) _ _ _); (k_here; (with_reducible rename Fr _ _ _ _ => zlF); (with_reducible refine' for_t ?zF9 ?_ ?zhs9); (case zF9 => k_dflt (exact zlF)); (case zhs9 => k_dflt (intro _; rfl)))) | with_reducible ((show wpAny _ _ (exec (Stmt.For (Expr.Name _ _) (Expr.Call _ _ _ _) (_ :: _) [] _) _) _ _ _); (k_here; (with_reducible rename Fr _ _ _ _ => zlF); (with_reducible refine' for_t ?zF9 ?_ ?zhs9); (case zF9 => k_dflt (exact zlF)); (case zhs9 => k_dflt (intro _; rfl)))) | with_reducible ((show wpAny _ _ (execs (_ :: _) _) _ _ _); (k_here; (with_reducible show wpAny _ _ _ _ _ (Shared.mk _ _ _ (_ + _) _)); k_dflt (refine' gen_toks ?zp ?_; (case zp => ((try dsimp only); exact Nat.succ_pos _)); intro _ _))) | with_reducible ((show wpAny _ _ (isTrue (Expr.Compare _ _ _ _) _ _) _ _ _); (k_here; k_dflt (refine' isTrue_ll ?zF ?zv ?_ ?zk ?zl; (case zF => k_asm); (case zv => rfl); (case zk => rfl); (case zl => rfl); k_whole; intro _; (try dsimp only)))) | (k_unfold; (try dsimp only)) | walk1 | (dsimp only; walk1) | (dsimp only [List.nil_append, List.cons_append]; walk1) | (k_end; dsimp only; k_unfold; (try dsimp only)) | (leave1; (try dsimp only)) | ((with_reducible show wpAny _ _ (isTrue (Expr.Compare _ _ _ _) _ _) _ _ _); (k_here; k_dflt (refine' isTrue_ll ?zF ?zv ?_ ?zk ?zl; (case zF => k_asm); (case zv => rfl); (case zk => rfl); (case zl => rfl); k_whole; intro _; (try dsimp only)))))))
            (with_reducible rename Fr _ _ _ _ => F9)
            (with_reducible rename News _ _ _ _ => N9)
            refine' grEnd [(_, _)] F9 (fun p hp => N9 p ?mem) (off4 ?o1 ?o2 ?o3 ?o4) (pairs_step hJ hj)
            case mem =>
              rcases List.mem_cons.mp hp with h | h
              · exact h ▸ .head _
              · exact .tail _ (.tail _ h)
            case o1 => assumption
            case o2 => assumption
            case o3 => assumption
            case o4 => assumption
        case fin =>
          intro D h' tk ys own hJ F7 N7
          clear F6 N6
          subst hRR
          w_strict ((repeat' (first | with_reducible ((first | (show wpAny _ _ (call (Value.type "dict") _) _ _ _) | (show wpAny _ _ (subscriptTail (Expr.Name _ _) (Expr.BinOp _ _ _ _) (Value.ref _) (Value.int _ _)) _ _ _) | (show wpAny _ _ (subscriptTail (Expr.Name _ _) (Expr.Name _ _) (Value.ref _) (Value.int _ _)) _ _ _) | (show wpAny _ _ (eval (Expr.ListComp _ _ _ _) _) _ _ _) | (show wpAny _ _ (call (Value.type "zip") _) _ _ _) | (show wpAny _ _ (exec (Stmt.Assign (_ :: _) (Expr.ListComp _ _ _ _) _) _) _ _ _) | (show wpAny _ _ (pyIter (Value.ref _)) _ _ _)); refine stopAt_ ?_) | with_reducible ((show wpAny _ _ (call (Value.ref _) _) _ _ _); (k_here; (with_reducible show wpAny _ _ (call (Value.ref 98) _) _ _ _); refine stopAt_ ?_)) | with_reducible ((show wpAny _ _ (call (Value.ref _) _) _ _ _); (k_here; (with_reducible show wpAny _ _ (call (Value.ref 121) _) _ _ _); refine stopAt_ ?_)) | with_reducible ((show wpAny _ _ (execs (_ :: _) _) _ _ _); ((with_reducible show wpAny _ _ (execs (Stmt.If _ _ _ _ :: _ :: _ :: _) _) _ _ _); refine stopAt_ ?_)) | with_reducible ((show wpAny _ _ (execs (_ :: _) _) _ _ _); (k_here; (with_reducible rename StopList _ => zT9); k_dflt (refine stop_list zT9 ?_))) | with_reducible ((show wpAny _ _ (eval (Expr.Constant (Const.str _) _ _) _) _ _ _); ((try dsimp only); k_dflt (refine' const_str_tk ?_); intro _ _)) | with_reducible ((show wpAny _ _ (eval (Expr.Constant (Const.int _) _ _) _) _ _ _); ((try dsimp only); k_dflt (refine' const_int_tk ?_); intro _ _)) | with_reducible ((show wpAny _ _ (exec (Stmt.For (Expr.Tuple _ _ _) (Expr.Tuple _ _ _) (_ :: _) [] _) _) _ _ _); (k_here; (with_reducible rename Fr _ _ _ _ => zlF); (with_reducible refine' for_t ?zF9 ?_ ?zhs9); (case zF9 => k_dflt (exact zlF)); (case zhs9 => k_dflt (intro _; rfl)))) | with_reducible ((show wpAny _ _ (exec (Stmt.For (Expr.Name _ _) (Expr.Name _ _) (_ :: _) [] _) _) _ _ _); (k_here; (with_reducible rename Fr _ _ _ _ => zlF); (with_reducible refine' for_t ?zF9 ?_ ?zhs9); (case zF9 => k_dflt (exact zlF)); (case zhs9 => k_dflt (intro _; rfl)))) | with_reducible ((show wpAny _ _ (exec (Stmt.For (Expr.Name _ _) (Expr.Call _ _ _ _) (_ :: _) [] _) _) _ _ _); (k_here; (with_reducible rename Fr _ _ _ _ => zlF); (with_reducible refine' for_t ?zF9 ?_ ?zhs9); (case zF9 => k_dflt (exact zlF)); (case zhs9 => k_dflt (intro _; rfl)))) | with_reducible ((show wpAny _ _ (execs (_ :: _) _) _ _ _); (k_here; (with_reducible show wpAny _ _ _ _ _ (Shared.mk _ _ _ (_ + _) _)); k_dflt (refine' gen_toks ?zp ?_; (case zp => ((try dsimp only); exact Nat.succ_pos _)); intro _ _))) | with_reducible ((show wpAny _ _ (isTrue (Expr.Compare _ _ _ _) _ _) _ _ _); (k_here; k_dflt (refine' isTrue_ll ?zF ?zv ?_ ?zk ?zl; (case zF => k_asm); (case zv => rfl); (case zk => rfl); (case zl => rfl); k_whole; intro _; (try dsimp only)))) | (k_unfold; (try dsimp only)) | walk1 | (dsimp only; walk1) | (dsimp only [List.nil_append, List.cons_append]; walk1) | (k_end; dsimp only; k_unfold; (try dsimp only)) | (leave1; (try dsimp only)) | ((with_reducible show wpAny _ _ (isTrue (Expr.Compare _ _ _ _) _ _) _ _ _); (k_here; k_dflt (refine' isTrue_ll ?zF ?zv ?_ ?zk ?zl; (case zF => k_asm); (case zv => rfl); (case zk => rfl); (case zl => rfl); k_whole; intro _; (try dsimp only)))))))
          (try unfold StopAt)
          (with_reducible rename Fr _ _ _ _ => F5)
          have N5 : News h₀ L h' ((D, LCg.lst ys) :: (own ++ ((_, _) :: (L + 1, oc) :: (rsa, listOf vs.toArray nrs) :: (ra, listOf #[.ref ta, .str (Str.ofString "abé") u, .ref la] nr) :: (LS w kt' x d q nl td tx er T tT (.int (n2 : Int) q2) st ++ ((la, listOf vsL.toArray nll) :: (ta, { cls := .type "tuple", data := .seq vsT.toArray nt }) :: R3))))) := N7
          clear N7
          refine' call_dict_pairs (xs := (othC oc9 k).map fun c => ⟨#[c]⟩) rfl ?hD (pairs_at hJ ?hown) (oth_1000 hJ) ?_
          case hD => exact (N5 _ (.head _)).1
          case hown => exact fun p hp => (N5 p (.tail _ (List.mem_append_left _ hp))).1
          intro h8 tk8 o8 kvs8 e8 hd8 hks8 up8
          have H8 := dict_news F5 N5 TT.nolimit e8 up8
          have F8 := H8.1
          have N8 := H8.2.1
          have hlo8 := H8.2.2.1
          have hlt8 := H8.2.2.2
          clear F5 N5 H8
          refine' ex_0_6 (ls_lt hlt8) ?_; intro b1 b2 b3 b4 b5 b6
          have hOb8 := dict_ob (o := o8) b1 b2 b3 b4 b5 b6
          have hin8 := intest_dict w hlo8 hd8 hks8
          have hdis8 := fun p hp => hlt8 p (mem_dis hp)
          have N7 : News h₀ L h8 ((L + 1, oc) :: (rsa, listOf vs.toArray nrs) :: (ra, listOf #[.ref ta, .str (Str.ofString "abé") u, .ref la] nr) :: ((LS w kt' x d q nl td tx er T tT (.int (n2 : Int) q2) st ++ [(h'.objs.size, o8)]) ++ ((la, listOf vsL.toArray nll) :: (ta, { cls := .type "tuple", data := .seq vsT.toArray nt }) :: R3))) := fun p hp => N8 p (mem_dict hp)
          clear N8 hlt8 up8 e8 hks8
          k_whole
          (try dsimp only at hin8 hOb8 hdis8 N7)
          generalize h'.objs.size = D8 at N7 hin8 hOb8 hdis8 b1 b2 b3 b4 b5 b6 hlo8 ⊢
          simp only [LS, SX, TL, ent, List.cons_append, List.nil_append] at N7
          w_strict ((repeat' (first | with_reducible ((first | (show wpAny _ _ (call (Value.type "dict") _) _ _ _) | (show wpAny _ _ (subscriptTail (Expr.Name _ _) (Expr.BinOp _ _ _ _) (Value.ref _) (Value.int _ _)) _ _ _) | (show wpAny _ _ (subscriptTail (Expr.Name _ _) (Expr.Name _ _) (Value.ref _) (Value.int _ _)) _ _ _) | (show wpAny _ _ (eval (Expr.ListComp _ _ _ _) _) _ _ _) | (show wpAny _ _ (call (Value.type "zip") _) _ _ _) | (show wpAny _ _ (exec (Stmt.Assign (_ :: _) (Expr.ListComp _ _ _ _) _) _) _ _ _) | (show wpAny _ _ (pyIter (Value.ref _)) _ _ _)); refine stopAt_ ?_) | with_reducible ((show wpAny _ _ (call (Value.ref _) _) _ _ _); (k_here; (with_reducible show wpAny _ _ (call (Value.ref 98) _) _ _ _); refine stopAt_ ?_)) | with_reducible ((show wpAny _ _ (call (Value.ref _) _) _ _ _); (k_here; (with_reducible show wpAny _ _ (call (Value.ref 121) _) _ _ _); refine stopAt_ ?_)) | with_reducible ((show wpAny _ _ (execs (_ :: _) _) _ _ _); ((with_reducible show wpAny _ _ (execs (Stmt.If _ _ _ _ :: _ :: _ :: _) _) _ _ _); refine stopAt_ ?_)) | with_reducible ((show wpAny _ _ (execs (_ :: _) _) _ _ _); (k_here; (with_reducible rename StopList _ => zT9); k_dflt (refine stop_list zT9 ?_))) | with_reducible ((show wpAny _ _ (eval (Expr.Constant (Const.str _) _ _) _) _ _ _); ((try dsimp only); k_dflt (refine' const_str_tk ?_); intro _ _)) | with_reducible ((show wpAny _ _ (eval (Expr.Constant (Const.int _) _ _) _) _ _ _); ((try dsimp only); k_dflt (refine' const_int_tk ?_); intro _ _)) | with_reducible ((show wpAny _ _ (exec (Stmt.For (Expr.Tuple _ _ _) (Expr.Tuple _ _ _) (_ :: _) [] _) _) _ _ _); (k_here; (with_reducible rename Fr _ _ _ _ => zlF); (with_reducible refine' for_t ?zF9 ?_ ?zhs9); (case zF9 => k_dflt (exact zlF)); (case zhs9 => k_dflt (intro _; rfl)))) | with_reducible ((show wpAny _ _ (exec (Stmt.For (Expr.Name _ _) (Expr.Name _ _) (_ :: _) [] _) _) _ _ _); (k_here; (with_reducible rename Fr _ _ _ _ => zlF); (with_reducible refine' for_t ?zF9 ?_ ?zhs9); (case zF9 => k_dflt (exact zlF)); (case zhs9 => k_dflt (intro _; rfl)))) | with_reducible ((show wpAny _ _ (exec (Stmt.For (Expr.Name _ _) (Expr.Call _ _ _ _) (_ :: _) [] _) _) _ _ _); (k_here; (with_reducible rename Fr _ _ _ _ => zlF); (with_reducible refine' for_t ?zF9 ?_ ?zhs9); (case zF9 => k_dflt (exact zlF)); (case zhs9 => k_dflt (intro _; rfl)))) | with_reducible ((show wpAny _ _ (execs (_ :: _) _) _ _ _); (k_here; (with_reducible show wpAny _ _ _ _ _ (Shared.mk _ _ _ (_ + _) _)); k_dflt (refine' gen_toks ?zp ?_; (case zp => ((try dsimp only); exact Nat.succ_pos _)); intro _ _))) | with_reducible ((show wpAny _ _ (isTrue (Expr.Compare _ _ _ _) _ _) _ _ _); (k_here; k_dflt (refine' isTrue_ll ?zF ?zv ?_ ?zk ?zl; (case zF => k_asm); (case zv => rfl); (case zk => rfl); (case zl => rfl); k_whole; intro _; (try dsimp only)))) | (k_unfold; (try dsimp only)) | walk1 | (dsimp only; walk1) | (dsimp only [List.nil_append, List.cons_append]; walk1) | (k_end; dsimp only; k_unfold; (try dsimp only)) | (leave1; (try dsimp only)) | ((with_reducible show wpAny _ _ (isTrue (Expr.Compare _ _ _ _) _ _) _ _ _); (k_here; k_dflt (refine' isTrue_ll ?zF ?zv ?_ ?zk ?zl; (case zF => k_asm); (case zv => rfl); (case zk => rfl); (case zl => rfl); k_whole; intro _; (try dsimp only)))))))
          unfold StopAt
          (with_reducible rename Fr _ _ _ _ => F5)
          (with_reducible rename News _ _ _ _ => N5)
          (try dsimp only [List.append_nil])
          k_dflt (refine' Does.useG2 [_, _, _] (does_until w kt' x d q nl td tx er hord T hTl M.hsur _ _ _ hin8 hOb8 st A2.ok A2.b tT n2 q2 hn2 (Nat.le_trans hn7 (by decide))) (got_othP M hR.lo hr A2) ?k1 ?k2 ?k3 ?k4 ?k5 ?kd ?kK ?kr ?ku ?_)
          case k4 => exact N5
          case k1 => k_asm
          case k2 => exact F5
          case k3 => k_asm
          case k5 => k_asm
          case kK => first | exact rfl | assumption
          case kr => (first | assumption | ((simp only [depth_under_make, depth_under_kw, depth_in1, depth_deeper, depth_caller]); (try dsimp only [ktrTop]); first | exact room0 (by assumption) (by decide) | exact room1 (by assumption) (by decide) | omega | decide) | ((try dsimp only [ktrTop]); omega))
          case ku => (first | assumption | ((simp only [units_in1, units_deeper, Around.mark_units, units_caller]); (try dsimp only [ktrTop]); first | exact room0 (by assumption) (by decide) | exact room1 (by assumption) (by decide)) | ((have zhcL := cLine_is); (simp only [units_in1, units_deeper, Around.mark_units, units_caller]); (try dsimp only [ktrTop]); omega) | ((have zhcL := cLine_is); (try dsimp only [ktrTop]); omega))
          skip
          case kd => exact turn_disD hord hLt hlt hrr hrd hoff hdis8
          k_whole
          intro t9 st9 h9 tk9 F9 N9 p9 T9
          (try dsimp only at T9)
          (try simp only [List.nil_append, List.cons_append] at N9)
          clear N5 F5
          have hG := p9
          w_strict ((repeat' (first | with_reducible ((first | (show wpAny _ _ (call (Value.type "dict") _) _ _ _) | (show wpAny _ _ (subscriptTail (Expr.Name _ _) (Expr.BinOp _ _ _ _) (Value.ref _) (Value.int _ _)) _ _ _) | (show wpAny _ _ (subscriptTail (Expr.Name _ _) (Expr.Name _ _) (Value.ref _) (Value.int _ _)) _ _ _) | (show wpAny _ _ (eval (Expr.ListComp _ _ _ _) _) _ _ _) | (show wpAny _ _ (call (Value.type "zip") _) _ _ _) | (show wpAny _ _ (exec (Stmt.Assign (_ :: _) (Expr.ListComp _ _ _ _) _) _) _ _ _) | (show wpAny _ _ (pyIter (Value.ref _)) _ _ _)); refine stopAt_ ?_) | with_reducible ((show wpAny _ _ (call (Value.ref _) _) _ _ _); (k_here; (with_reducible show wpAny _ _ (call (Value.ref 98) _) _ _ _); refine stopAt_ ?_)) | with_reducible ((show wpAny _ _ (call (Value.ref _) _) _ _ _); (k_here; (with_reducible show wpAny _ _ (call (Value.ref 121) _) _ _ _); refine stopAt_ ?_)) | with_reducible ((show wpAny _ _ (execs (_ :: _) _) _ _ _); ((with_reducible show wpAny _ _ (execs (Stmt.If _ _ _ _ :: _ :: _ :: _) _) _ _ _); refine stopAt_ ?_)) | with_reducible ((show wpAny _ _ (execs (_ :: _) _) _ _ _); (k_here; (with_reducible rename StopList _ => zT9); k_dflt (refine stop_list zT9 ?_))) | with_reducible ((show wpAny _ _ (eval (Expr.Constant (Const.str _) _ _) _) _ _ _); ((try dsimp only); k_dflt (refine' const_str_tk ?_); intro _ _)) | with_reducible ((show wpAny _ _ (eval (Expr.Constant (Const.int _) _ _) _) _ _ _); ((try dsimp only); k_dflt (refine' const_int_tk ?_); intro _ _)) | with_reducible ((show wpAny _ _ (exec (Stmt.For (Expr.Tuple _ _ _) (Expr.Tuple _ _ _) (_ :: _) [] _) _) _ _ _); (k_here; (with_reducible rename Fr _ _ _ _ => zlF); (with_reducible refine' for_t ?zF9 ?_ ?zhs9); (case zF9 => k_dflt (exact zlF)); (case zhs9 => k_dflt (intro _; rfl)))) | with_reducible ((show wpAny _ _ (exec (Stmt.For (Expr.Name _ _) (Expr.Name _ _) (_ :: _) [] _) _) _ _ _); (k_here; (with_reducible rename Fr _ _ _ _ => zlF); (with_reducible refine' for_t ?zF9 ?_ ?zhs9); (case zF9 => k_dflt (exact zlF)); (case zhs9 => k_dflt (intro _; rfl)))) | with_reducible ((show wpAny _ _ (exec (Stmt.For (Expr.Name _ _) (Expr.Call _ _ _ _) (_ :: _) [] _) _) _ _ _); (k_here; (with_reducible rename Fr _ _ _ _ => zlF); (with_reducible refine' for_t ?zF9 ?_ ?zhs9); (case zF9 => k_dflt (exact zlF)); (case zhs9 => k_dflt (intro _; rfl)))) | with_reducible ((show wpAny _ _ (execs (_ :: _) _) _ _ _); (k_here; (with_reducible show wpAny _ _ _ _ _ (Shared.mk _ _ _ (_ + _) _)); k_dflt (refine' gen_toks ?zp ?_; (case zp => ((try dsimp only); exact Nat.succ_pos _)); intro _ _))) | with_reducible ((show wpAny _ _ (isTrue (Expr.Compare _ _ _ _) _ _) _ _ _); (k_here; k_dflt (refine' isTrue_ll ?zF ?zv ?_ ?zk ?zl; (case zF => k_asm); (case zv => rfl); (case zk => rfl); (case zl => rfl); k_whole; intro _; (try dsimp only)))) | (k_unfold; (try dsimp only)) | walk1 | (dsimp only; walk1) | (dsimp only [List.nil_append, List.cons_append]; walk1) | (k_end; dsimp only; k_unfold; (try dsimp only)) | (leave1; (try dsimp only)) | ((with_reducible show wpAny _ _ (isTrue (Expr.Compare _ _ _ _) _ _) _ _ _); (k_here; k_dflt (refine' isTrue_ll ?zF ?zv ?_ ?zk ?zl; (case zF => k_asm); (case zv => rfl); (case zk => rfl); (case zl => rfl); k_whole; intro _; (try dsimp only)))))))
          subst hJJ
          (with_reducible rename Fr _ _ _ _ => F9)
          (with_reducible rename News _ _ _ _ => N9)
          exact ⟨_, _, _, st9, t9, rfl, F9, rfl, rfl, rfl, rfl, rfl, rfl, rfl, rfl, rfl, fun p hp => N9 p (mem_dict' hp), hG⟩
      · skip
        unfold StopAt
        (with_reducible rename Fr _ _ _ _ => F5)
        (with_reducible rename News _ _ _ _ => N5)
        (try dsimp only [List.append_nil])
        k_dflt (refine' Does.useG3 [_, _, _] (does_char w kt' x d q nl td tx er hord T hTl M.hsur st A2.ok A2.b tT n2 q2 hn2 (Nat.le_trans hn7 (by decide))) (first_charP M hr A2) ?k1 ?k2 ?k3 ?k4 ?k5 ?kd ?kK ?kr ?ku ?_)
        case k4 => exact N5
        case k1 => k_asm
        case k2 => exact F5
        case k3 => k_asm
        case k5 => k_asm
        case kK => first | exact rfl | assumption
        case kr => (first | assumption | ((simp only [depth_under_make, depth_under_kw, depth_in1, depth_deeper, depth_caller]); (try dsimp only [ktrTop]); first | exact room0 (by assumption) (by decide) | exact room1 (by assumption) (by decide) | omega | decide) | ((try dsimp only [ktrTop]); omega))
        case ku => (first | assumption | ((simp only [units_in1, units_deeper, Around.mark_units, units_caller]); (try dsimp only [ktrTop]); first | exact room0 (by assumption) (by decide) | exact room1 (by assumption) (by decide)) | ((have zhcL := cLine_is); (simp only [units_in1, units_deeper, Around.mark_units, units_caller]); (try dsimp only [ktrTop]); omega) | ((have zhcL := cLine_is); (try dsimp only [ktrTop]); omega))
        skip
        case kd => exact turn_dis1 hord hLt hlt hrr hrd hoff
        k_whole
        intro c0 t0 st1 h9 tk9 F9 N9 p9 T9
        (try dsimp only at T9)
        (try simp only [List.nil_append, List.cons_append] at N9)
        clear N5 F5
        have ok1 := p9.1
        have b1 := p9.2.1
        have tk1 := p9.2.2
        simp only [LS, SX, TL, ent, List.cons_append, List.nil_append] at N9
        w_strict ((repeat' (first | with_reducible ((first | (show wpAny _ _ (call (Value.type "dict") _) _ _ _) | (show wpAny _ _ (subscriptTail (Expr.Name _ _) (Expr.BinOp _ _ _ _) (Value.ref _) (Value.int _ _)) _ _ _) | (show wpAny _ _ (subscriptTail (Expr.Name _ _) (Expr.Name _ _) (Value.ref _) (Value.int _ _)) _ _ _) | (show wpAny _ _ (eval (Expr.ListComp _ _ _ _) _) _ _ _) | (show wpAny _ _ (call (Value.type "zip") _) _ _ _) | (show wpAny _ _ (exec (Stmt.Assign (_ :: _) (Expr.ListComp _ _ _ _) _) _) _ _ _) | (show wpAny _ _ (pyIter (Value.ref _)) _ _ _)); refine stopAt_ ?_) | with_reducible ((show wpAny _ _ (call (Value.ref _) _) _ _ _); (k_here; (with_reducible show wpAny _ _ (call (Value.ref 98) _) _ _ _); refine stopAt_ ?_)) | with_reducible ((show wpAny _ _ (call (Value.ref _) _) _ _ _); (k_here; (with_reducible show wpAny _ _ (call (Value.ref 121) _) _ _ _); refine stopAt_ ?_)) | with_reducible ((show wpAny _ _ (execs (_ :: _) _) _ _ _); ((with_reducible show wpAny _ _ (execs (Stmt.If _ _ _ _ :: _ :: _ :: _) _) _ _ _); refine stopAt_ ?_)) | with_reducible ((show wpAny _ _ (execs (_ :: _) _) _ _ _); (k_here; (with_reducible rename StopList _ => zT9); k_dflt (refine stop_list zT9 ?_))) | with_reducible ((show wpAny _ _ (eval (Expr.Constant (Const.str _) _ _) _) _ _ _); ((try dsimp only); k_dflt (refine' const_str_tk ?_); intro _ _)) | with_reducible ((show wpAny _ _ (eval (Expr.Constant (Const.int _) _ _) _) _ _ _); ((try dsimp only); k_dflt (refine' const_int_tk ?_); intro _ _)) | with_reducible ((show wpAny _ _ (exec (Stmt.For (Expr.Tuple _ _ _) (Expr.Tuple _ _ _) (_ :: _) [] _) _) _ _ _); (k_here; (with_reducible rename Fr _ _ _ _ => zlF); (with_reducible refine' for_t ?zF9 ?_ ?zhs9); (case zF9 => k_dflt (exact zlF)); (case zhs9 => k_dflt (intro _; rfl)))) | with_reducible ((show wpAny _ _ (exec (Stmt.For (Expr.Name _ _) (Expr.Name _ _) (_ :: _) [] _) _) _ _ _); (k_here; (with_reducible rename Fr _ _ _ _ => zlF); (with_reducible refine' for_t ?zF9 ?_ ?zhs9); (case zF9 => k_dflt (exact zlF)); (case zhs9 => k_dflt (intro _; rfl)))) | with_reducible ((show wpAny _ _ (exec (Stmt.For (Expr.Name _ _) (Expr.Call _ _ _ _) (_ :: _) [] _) _) _ _ _); (k_here; (with_reducible rename Fr _ _ _ _ => zlF); (with_reducible refine' for_t ?zF9 ?_ ?zhs9); (case zF9 => k_dflt (exact zlF)); (case zhs9 => k_dflt (intro _; rfl)))) | with_reducible ((show wpAny _ _ (execs (_ :: _) _) _ _ _); (k_here; (with_reducible show wpAny _ _ _ _ _ (Shared.mk _ _ _ (_ + _) _)); k_dflt (refine' gen_toks ?zp ?_; (case zp => ((try dsimp only); exact Nat.succ_pos _)); intro _ _))) | with_reducible ((show wpAny _ _ (isTrue (Expr.Compare _ _ _ _) _ _) _ _ _); (k_here; k_dflt (refine' isTrue_ll ?zF ?zv ?_ ?zk ?zl; (case zF => k_asm); (case zv => rfl); (case zk => rfl); (case zl => rfl); k_whole; intro _; (try dsimp only)))) | (k_unfold; (try dsimp only)) | walk1 | (dsimp only; walk1) | (dsimp only [List.nil_append, List.cons_append]; walk1) | (k_end; dsimp only; k_unfold; (try dsimp only)) | (leave1; (try dsimp only)) | ((with_reducible show wpAny _ _ (isTrue (Expr.Compare _ _ _ _) _ _) _ _ _); (k_here; k_dflt (refine' isTrue_ll ?zF ?zv ?_ ?zk ?zl; (case zF => k_asm); (case zv => rfl); (case zk => rfl); (case zl => rfl); k_whole; intro _; (try dsimp only)))))))
        (try unfold StopAt)
        refine' ex_0_2 (item_zero M hr A2 tk1) ?_; intro hx1 hx2
        refine' item_str ?f1 ?f2 ?f3 ?_
        case f1 => decide
        case f2 => exact hx2.1
        case f3 => exact hx2.2
        rw [hx1]
        intro _
        w_strict ((repeat' (first | with_reducible ((first | (show wpAny _ _ (call (Value.type "dict") _) _ _ _) | (show wpAny _ _ (subscriptTail (Expr.Name _ _) (Expr.BinOp _ _ _ _) (Value.ref _) (Value.int _ _)) _ _ _) | (show wpAny _ _ (subscriptTail (Expr.Name _ _) (Expr.Name _ _) (Value.ref _) (Value.int _ _)) _ _ _) | (show wpAny _ _ (eval (Expr.ListComp _ _ _ _) _) _ _ _) | (show wpAny _ _ (call (Value.type "zip") _) _ _ _) | (show wpAny _ _ (exec (Stmt.Assign (_ :: _) (Expr.ListComp _ _ _ _) _) _) _ _ _) | (show wpAny _ _ (pyIter (Value.ref _)) _ _ _)); refine stopAt_ ?_) | with_reducible ((show wpAny _ _ (call (Value.ref _) _) _ _ _); (k_here; (with_reducible show wpAny _ _ (call (Value.ref 98) _) _ _ _); refine stopAt_ ?_)) | with_reducible ((show wpAny _ _ (call (Value.ref _) _) _ _ _); (k_here; (with_reducible show wpAny _ _ (call (Value.ref 121) _) _ _ _); refine stopAt_ ?_)) | with_reducible ((show wpAny _ _ (execs (_ :: _) _) _ _ _); ((with_reducible show wpAny _ _ (execs (Stmt.If _ _ _ _ :: _ :: _ :: _) _) _ _ _); refine stopAt_ ?_)) | with_reducible ((show wpAny _ _ (execs (_ :: _) _) _ _ _); (k_here; (with_reducible rename StopList _ => zT9); k_dflt (refine stop_list zT9 ?_))) | with_reducible ((show wpAny _ _ (eval (Expr.Constant (Const.str _) _ _) _) _ _ _); ((try dsimp only); k_dflt (refine' const_str_tk ?_); intro _ _)) | with_reducible ((show wpAny _ _ (eval (Expr.Constant (Const.int _) _ _) _) _ _ _); ((try dsimp only); k_dflt (refine' const_int_tk ?_); intro _ _)) | with_reducible ((show wpAny _ _ (exec (Stmt.For (Expr.Tuple _ _ _) (Expr.Tuple _ _ _) (_ :: _) [] _) _) _ _ _); (k_here; (with_reducible rename Fr _ _ _ _ => zlF); (with_reducible refine' for_t ?zF9 ?_ ?zhs9); (case zF9 => k_dflt (exact zlF)); (case zhs9 => k_dflt (intro _; rfl)))) | with_reducible ((show wpAny _ _ (exec (Stmt.For (Expr.Name _ _) (Expr.Name _ _) (_ :: _) [] _) _) _ _ _); (k_here; (with_reducible rename Fr _ _ _ _ => zlF); (with_reducible refine' for_t ?zF9 ?_ ?zhs9); (case zF9 => k_dflt (exact zlF)); (case zhs9 => k_dflt (intro _; rfl)))) | with_reducible ((show wpAny _ _ (exec (Stmt.For (Expr.Name _ _) (Expr.Call _ _ _ _) (_ :: _) [] _) _) _ _ _); (k_here; (with_reducible rename Fr _ _ _ _ => zlF); (with_reducible refine' for_t ?zF9 ?_ ?zhs9); (case zF9 => k_dflt (exact zlF)); (case zhs9 => k_dflt (intro _; rfl)))) | with_reducible ((show wpAny _ _ (execs (_ :: _) _) _ _ _); (k_here; (with_reducible show wpAny _ _ _ _ _ (Shared.mk _ _ _ (_ + _) _)); k_dflt (refine' gen_toks ?zp ?_; (case zp => ((try dsimp only); exact Nat.succ_pos _)); intro _ _))) | with_reducible ((show wpAny _ _ (isTrue (Expr.Compare _ _ _ _) _ _) _ _ _); (k_here; k_dflt (refine' isTrue_ll ?zF ?zv ?_ ?zk ?zl; (case zF => k_asm); (case zv => rfl); (case zk => rfl); (case zl => rfl); k_whole; intro _; (try dsimp only)))) | (k_unfold; (try dsimp only)) | walk1 | (dsimp only; walk1) | (dsimp only [List.nil_append, List.cons_append]; walk1) | (k_end; dsimp only; k_unfold; (try dsimp only)) | (leave1; (try dsimp only)) | ((with_reducible show wpAny _ _ (isTrue (Expr.Compare _ _ _ _) _ _) _ _ _); (k_here; k_dflt (refine' isTrue_ll ?zF ?zv ?_ ?zk ?zl; (case zF => k_asm); (case zv => rfl); (case zk => rfl); (case zl => rfl); k_whole; intro _; (try dsimp only)))))))
        (try unfold StopAt)
        (with_reducible rename Fr _ _ _ _ => F5)
        (with_reducible rename News _ _ _ _ => N5)
        refine' item_any (vs := [.ref ta, .str (Str.ofString "abé") u, .ref la]) ?hl k (rowV ta la u k) (rowV_get hk3) ?hf ?_ ?hs ?hg
        case hl => exact list_of N5 (by k_mem)
        case hf => exact Nat.lt_of_lt_of_le hk3 (by decide)
        case hs => with_unfolding_all rfl
        case hg => intro _; with_unfolding_all rfl
        w_strict ((repeat' (first | with_reducible ((first | (show wpAny _ _ (call (Value.type "dict") _) _ _ _) | (show wpAny _ _ (subscriptTail (Expr.Name _ _) (Expr.BinOp _ _ _ _) (Value.ref _) (Value.int _ _)) _ _ _) | (show wpAny _ _ (subscriptTail (Expr.Name _ _) (Expr.Name _ _) (Value.ref _) (Value.int _ _)) _ _ _) | (show wpAny _ _ (eval (Expr.ListComp _ _ _ _) _) _ _ _) | (show wpAny _ _ (call (Value.type "zip") _) _ _ _) | (show wpAny _ _ (exec (Stmt.Assign (_ :: _) (Expr.ListComp _ _ _ _) _) _) _ _ _) | (show wpAny _ _ (pyIter (Value.ref _)) _ _ _)); refine stopAt_ ?_) | with_reducible ((show wpAny _ _ (call (Value.ref _) _) _ _ _); (k_here; (with_reducible show wpAny _ _ (call (Value.ref 98) _) _ _ _); refine stopAt_ ?_)) | with_reducible ((show wpAny _ _ (call (Value.ref _) _) _ _ _); (k_here; (with_reducible show wpAny _ _ (call (Value.ref 121) _) _ _ _); refine stopAt_ ?_)) | with_reducible ((show wpAny _ _ (execs (_ :: _) _) _ _ _); ((with_reducible show wpAny _ _ (execs (Stmt.If _ _ _ _ :: _ :: _ :: _) _) _ _ _); refine stopAt_ ?_)) | with_reducible ((show wpAny _ _ (execs (_ :: _) _) _ _ _); (k_here; (with_reducible rename StopList _ => zT9); k_dflt (refine stop_list zT9 ?_))) | with_reducible ((show wpAny _ _ (eval (Expr.Constant (Const.str _) _ _) _) _ _ _); ((try dsimp only); k_dflt (refine' const_str_tk ?_); intro _ _)) | with_reducible ((show wpAny _ _ (eval (Expr.Constant (Const.int _) _ _) _) _ _ _); ((try dsimp only); k_dflt (refine' const_int_tk ?_); intro _ _)) | with_reducible ((show wpAny _ _ (exec (Stmt.For (Expr.Tuple _ _ _) (Expr.Tuple _ _ _) (_ :: _) [] _) _) _ _ _); (k_here; (with_reducible rename Fr _ _ _ _ => zlF); (with_reducible refine' for_t ?zF9 ?_ ?zhs9); (case zF9 => k_dflt (exact zlF)); (case zhs9 => k_dflt (intro _; rfl)))) | with_reducible ((show wpAny _ _ (exec (Stmt.For (Expr.Name _ _) (Expr.Name _ _) (_ :: _) [] _) _) _ _ _); (k_here; (with_reducible rename Fr _ _ _ _ => zlF); (with_reducible refine' for_t ?zF9 ?_ ?zhs9); (case zF9 => k_dflt (exact zlF)); (case zhs9 => k_dflt (intro _; rfl)))) | with_reducible ((show wpAny _ _ (exec (Stmt.For (Expr.Name _ _) (Expr.Call _ _ _ _) (_ :: _) [] _) _) _ _ _); (k_here; (with_reducible rename Fr _ _ _ _ => zlF); (with_reducible refine' for_t ?zF9 ?_ ?zhs9); (case zF9 => k_dflt (exact zlF)); (case zhs9 => k_dflt (intro _; rfl)))) | with_reducible ((show wpAny _ _ (execs (_ :: _) _) _ _ _); (k_here; (with_reducible show wpAny _ _ _ _ _ (Shared.mk _ _ _ (_ + _) _)); k_dflt (refine' gen_toks ?zp ?_; (case zp => ((try dsimp only); exact Nat.succ_pos _)); intro _ _))) | with_reducible ((show wpAny _ _ (isTrue (Expr.Compare _ _ _ _) _ _) _ _ _); (k_here; k_dflt (refine' isTrue_ll ?zF ?zv ?_ ?zk ?zl; (case zF => k_asm); (case zv => rfl); (case zk => rfl); (case zl => rfl); k_whole; intro _; (try dsimp only)))) | (k_unfold; (try dsimp only)) | walk1 | (dsimp only; walk1) | (dsimp only [List.nil_append, List.cons_append]; walk1) | (k_end; dsimp only; k_unfold; (try dsimp only)) | (leave1; (try dsimp only)) | ((with_reducible show wpAny _ _ (isTrue (Expr.Compare _ _ _ _) _ _) _ _ _); (k_here; k_dflt (refine' isTrue_ll ?zF ?zv ?_ ?zk ?zl; (case zF => k_asm); (case zv => rfl); (case zk => rfl); (case zl => rfl); k_whole; intro _; (try dsimp only)))))))
        unfold StopAt
        (with_reducible rename Fr _ _ _ _ => F5)
        (with_reducible rename News _ _ _ _ => N5)
        (try dsimp only [List.append_nil])
        k_dflt (refine' Does.useG3 [_, _, _] (does_untilT w kt' x d q nl td tx er hord T hTl M.hsur _ _ _ hrow hOb st1 ok1 b1 tT n2 q2 hn2 (Nat.le_trans hn7 (by decide))) (got_charP M hR.lo hr A2 ok1 tk1) ?k1 ?k2 ?k3 ?k4 ?k5 ?kd ?kK ?kr ?ku ?_)
        case k4 => exact N5
        case k1 => k_asm
        case k2 => exact F5
        case k3 => k_asm
        case k5 => k_asm
        case kK => first | exact rfl | assumption
        case kr => (first | assumption | ((simp only [depth_under_make, depth_under_kw, depth_in1, depth_deeper, depth_caller]); (try dsimp only [ktrTop]); first | exact room0 (by assumption) (by decide) | exact room1 (by assumption) (by decide) | omega | decide) | ((try dsimp only [ktrTop]); omega))
        case ku => (first | assumption | ((simp only [units_in1, units_deeper, Around.mark_units, units_caller]); (try dsimp only [ktrTop]); first | exact room0 (by assumption) (by decide) | exact room1 (by assumption) (by decide)) | ((have zhcL := cLine_is); (simp only [units_in1, units_deeper, Around.mark_units, units_caller]); (try dsimp only [ktrTop]); omega) | ((have zhcL := cLine_is); (try dsimp only [ktrTop]); omega))
        skip
        case kd => exact turn_dis hord hLt hlt hrr hrd hoff
        k_whole
        intro r9 t9 st9 h9 tk9 F9 N9 p9 T9
        (try dsimp only at T9)
        (try simp only [List.nil_append, List.cons_append] at N9)
        clear N5 F5
        have eX := p9.1
        have hG := p9.2
        have hr9 := cat_short M hr eX
        w_strict ((repeat' (first | with_reducible ((first | (show wpAny _ _ (call (Value.type "dict") _) _ _ _) | (show wpAny _ _ (subscriptTail (Expr.Name _ _) (Expr.BinOp _ _ _ _) (Value.ref _) (Value.int _ _)) _ _ _) | (show wpAny _ _ (subscriptTail (Expr.Name _ _) (Expr.Name _ _) (Value.ref _) (Value.int _ _)) _ _ _) | (show wpAny _ _ (eval (Expr.ListComp _ _ _ _) _) _ _ _) | (show wpAny _ _ (call (Value.type "zip") _) _ _ _) | (show wpAny _ _ (exec (Stmt.Assign (_ :: _) (Expr.ListComp _ _ _ _) _) _) _ _ _) | (show wpAny _ _ (pyIter (Value.ref _)) _ _ _)); refine stopAt_ ?_) | with_reducible ((show wpAny _ _ (call (Value.ref _) _) _ _ _); (k_here; (with_reducible show wpAny _ _ (call (Value.ref 98) _) _ _ _); refine stopAt_ ?_)) | with_reducible ((show wpAny _ _ (call (Value.ref _) _) _ _ _); (k_here; (with_reducible show wpAny _ _ (call (Value.ref 121) _) _ _ _); refine stopAt_ ?_)) | with_reducible ((show wpAny _ _ (execs (_ :: _) _) _ _ _); ((with_reducible show wpAny _ _ (execs (Stmt.If _ _ _ _ :: _ :: _ :: _) _) _ _ _); refine stopAt_ ?_)) | with_reducible ((show wpAny _ _ (execs (_ :: _) _) _ _ _); (k_here; (with_reducible rename StopList _ => zT9); k_dflt (refine stop_list zT9 ?_))) | with_reducible ((show wpAny _ _ (eval (Expr.Constant (Const.str _) _ _) _) _ _ _); ((try dsimp only); k_dflt (refine' const_str_tk ?_); intro _ _)) | with_reducible ((show wpAny _ _ (eval (Expr.Constant (Const.int _) _ _) _) _ _ _); ((try dsimp only); k_dflt (refine' const_int_tk ?_); intro _ _)) | with_reducible ((show wpAny _ _ (exec (Stmt.For (Expr.Tuple _ _ _) (Expr.Tuple _ _ _) (_ :: _) [] _) _) _ _ _); (k_here; (with_reducible rename Fr _ _ _ _ => zlF); (with_reducible refine' for_t ?zF9 ?_ ?zhs9); (case zF9 => k_dflt (exact zlF)); (case zhs9 => k_dflt (intro _; rfl)))) | with_reducible ((show wpAny _ _ (exec (Stmt.For (Expr.Name _ _) (Expr.Name _ _) (_ :: _) [] _) _) _ _ _); (k_here; (with_reducible rename Fr _ _ _ _ => zlF); (with_reducible refine' for_t ?zF9 ?_ ?zhs9); (case zF9 => k_dflt (exact zlF)); (case zhs9 => k_dflt (intro _; rfl)))) | with_reducible ((show wpAny _ _ (exec (Stmt.For (Expr.Name _ _) (Expr.Call _ _ _ _) (_ :: _) [] _) _) _ _ _); (k_here; (with_reducible rename Fr _ _ _ _ => zlF); (with_reducible refine' for_t ?zF9 ?_ ?zhs9); (case zF9 => k_dflt (exact zlF)); (case zhs9 => k_dflt (intro _; rfl)))) | with_reducible ((show wpAny _ _ (execs (_ :: _) _) _ _ _); (k_here; (with_reducible show wpAny _ _ _ _ _ (Shared.mk _ _ _ (_ + _) _)); k_dflt (refine' gen_toks ?zp ?_; (case zp => ((try dsimp only); exact Nat.succ_pos _)); intro _ _))) | with_reducible ((show wpAny _ _ (isTrue (Expr.Compare _ _ _ _) _ _) _ _ _); (k_here; k_dflt (refine' isTrue_ll ?zF ?zv ?_ ?zk ?zl; (case zF => k_asm); (case zv => rfl); (case zk => rfl); (case zl => rfl); k_whole; intro _; (try dsimp only)))) | (k_unfold; (try dsimp only)) | walk1 | (dsimp only; walk1) | (dsimp only [List.nil_append, List.cons_append]; walk1) | (k_end; dsimp only; k_unfold; (try dsimp only)) | (leave1; (try dsimp only)) | ((with_reducible show wpAny _ _ (isTrue (Expr.Compare _ _ _ _) _ _) _ _ _); (k_here; k_dflt (refine' isTrue_ll ?zF ?zv ?_ ?zk ?zl; (case zF => k_asm); (case zv => rfl); (case zk => rfl); (case zl => rfl); k_whole; intro _; (try dsimp only)))))))
        subst hJJ
        (with_reducible rename Fr _ _ _ _ => F9)
        (with_reducible rename News _ _ _ _ => N9)
        rw [eX] at F9
        exact ⟨_, _, _, st9, _, rfl, F9, rfl, rfl, rfl, rfl, rfl, rfl, rfl, rfl, rfl, fun p hp => N9 p (mem_rows' hp), hG⟩
    case rest2 =>
      intro s' hJ
      refine' ex_5_12 (hJ) ?_; intro h3 tk3 m3 st3 tg3 r95 F3 f1 f2 f3 f4 f5 f6 f7 f8 f9 hNG; (try clear hJ); subst r95
      clear F2 N2
      k_dflt (refine' T3 L _ n un1 hcd rsa ra la ta u nt nll nr nrs tT vsT vsL vs rs oc9 i kd T hR M hi12 kt' x d q nl td tx er hord hLt hlt hrr hrd R3 hoff n2 q2 hn2 hn7 st st3 calm ln col j k X u2 u3 t1 t2 hr A2 hNG.2 tg3 m3 f1 f2 f3 f4 f5 f6 f7 f8 f9 fa cd dp un gd outer A₀ base h₀ _ QQ _ loose mean mg mb B F3 KX hNG.1 TT hroom hun ?cont3)
      case cont3 => exact hcont
end
section
theorem fin_dis {w : World} {kt : Nat → Nat} {x d q nl td tx er : Nat} {S : Str} {t6 : Nat} {st : StS} {z : Value} {rsa ra la ta na c nrs u nt nl2 nr n3 : Nat} {vsT vsL : List Value} {a1 a2 : Array Value} {oc oc' : Obj} {tl : Ledger} (ho : d < x ∧ x < q ∧ q < td ∧ td < tx ∧ tx < er)
    (hltd : ∀ p ∈ ((rsa, listOf a1 nrs) :: (rowsL ta la ra u nt nl2 nr vsT vsL ++ ((c, oc) :: (na, listOf a2 n3) :: tl)) : Ledger), @LT.lt Nat _ p.1 d) : ∀ p ∈ ((rsa, listOf a1 nrs) :: (rowsL ta la ra u nt nl2 nr vsT vsL ++ ((c, oc') :: (na, listOf a2 n3) :: tl)) : Ledger), ∀ r ∈ LS w kt x d q nl td tx er S t6 z st, r.1 ≠ p.1 := by
  refine disOf (adr := [er, q, x, d, tx, td]) (fun _ hr => List.mem_map_of_mem (f := fun p : Addr × Obj => p.1) hr) (offLt (fun p hp => ?_) (six_le ho))
  have h : p.1 ∈ (((rsa, listOf a1 nrs) :: (rowsL ta la ra u nt nl2 nr vsT vsL ++ ((c, oc) :: (na, listOf a2 n3) :: tl)) : Ledger).map fun p => p.1)  := by
    have h1 := List.mem_map_of_mem (f := fun p : Addr × Obj => p.1) hp
    exact h1
  obtain ⟨q, hq, e⟩ := List.mem_map.mp h
  exact e ▸ hltd q hq
/-- from the stream on -/
noncomputable def Seg2 (w : World) (body : List Stmt) (qual : Str) (scope : Scope) (cdv : Value) : Prop :=
  ∀ (L : Nat) (oc : Obj) (cv : Option Value) (_ : oc.data = .cell cv) (rsa ra la ta na u nt nl nr nrs tT n3 : Nat) (vsT vsL vs nvs : List Value) (tl : Ledger) (rs : List RunT) (oc9 i kd : Nat) (T : Str) (_ : RowsAt oc9 vsT vsL) (_ : RunsAre vs tl rs) (_ : Made oc9 i kd T rs)
    (_ : 1 ≤ i) (_ : i ≤ 12) (_ : na < ta ∧ ta < la ∧ la < ra) (_ : L + 1 < na) (_ : ra < rsa) (_ : OwnOff tl [L + 1, rsa, ra, la, ta, na])
    (m : Str → Option Value) (_ : m (Str.ofString "rows") = some (.ref ra)) (_ : m (Str.ofString "text") = some (.str T tT)) (_ : m (Str.ofString "runs") = some (.ref rsa))
    (fa : Addr) (cd : Value) (dp un : Nat) (gd : Option (List Code)) (outer : List Env) (A₀ : Around) (base h₀ : Heap) (s : Shared) (Q : Flow → Shared → Prop) (Er : Value → Shared → Prop)
    (loose : List Str) (mean : ExcName → Option Value) (mg mb : Str → Option Value)
    (_ : Below A₀ base outer h₀) (_ : Fr h₀ L s.heap m) (_ : (hd.heap_39 w.params).In h₀) (_ : News h₀ L s.heap ((rsa, listOf vs.toArray nrs) :: (rowsL ta la ra u nt nl nr vsT vsL ++ ((L + 1, oc) :: (na, listOf nvs.toArray n3) :: tl)))) (_ : Top hd.view_39 loose mean mg mb h₀)
    (_ : dp + 4 * 6 < recursionLimit) (_ : un + 40 * 6 < cLine)
    (_ : ∀ (h' : Heap) (tk' : Nat) (m' : Str → Option Value) (N' : Ledger), Fr h₀ L h' m' → News h₀ L h' N' → Q (.ret (.bool true)) { s with heap := h', toks := tk' }),
    wpAny (model PySem.Challenge.rw_te0024_02.row.prog w) (ktrTop dp un gd qual scope L fa cd [(Str.ofString "n", L + 1)] outer) (execs (body.drop 7) (envX qual scope L fa cd [(Str.ofString "n", L + 1)])) Q Er s
set_option maxRecDepth 100000 in
set_option maxHeartbeats 1500000 in
theorem seg2 (w : World) {oc od osl} {name qual : Str} {params : Arguments} {body : List Stmt} {scope : Scope} {dV kV doc pm cdv ct : Value} {an : Option Addr} :
    (hd.heap_39 w.params).lookup 166 = some ⟨oc, od, .func (fnOf name qual params body scope dV kV doc pm an cdv ct), osl⟩ → Seg2 w body qual scope cdv := by
  unfold Seg2
  k_fill
  show _ → Seg2 w body qual scope cdv
  intro ho
  obtain ⟨rfl, rfl, rfl, rfl⟩ := fn_parts ho (show (hd.heap_39 w.params).lookup 166 = some _ by k_is)
  unfold Seg2
  intro L oc cv hcd rsa ra la ta na u nt nll nr nrs tT n3 vsT vsL vs nvs tl rs oc9 i kd T hR hRuns M hi1 hi12 hlt hLn hrr hoff m hm1 hm2 hm3 fa cd dp un gd outer A₀ base h₀ s Q Er loose mean mg mb B F KX N TT hroom hun hret
  have FN := fin2 w (show (hd.heap_39 w.params).lookup 166 = some _ by k_is)
  have T2 := turn2 w (show (hd.heap_39 w.params).lookup 166 = some _ by k_is)
  clear ho
  have F1 := fr_know3 hm1 hm2 hm3 F
  clear F
  simp only [rowsL, List.cons_append, List.nil_append] at N
  refine wpAny_noRaise ?_
  w_on
  w_top on
  w_strict ((repeat' (first | with_reducible ((first | (show wpAny _ _ (call (Value.type "zip") _) _ _ _) | (show wpAny _ _ (eval (Expr.ListComp _ _ _ _) _) _ _ _) | (show wpAny _ _ (exec (Stmt.Assign (_ :: _) (Expr.ListComp _ _ _ _) _) _) _ _ _) | (show wpAny _ _ (pyIter (Value.ref _)) _ _ _)); refine stopAt_ ?_) | with_reducible ((show wpAny _ _ (call (Value.ref _) _) _ _ _); (k_here; (with_reducible show wpAny _ _ (call (Value.ref 131) _) _ _ _); refine stopAt_ ?_)) | with_reducible ((show wpAny _ _ (exec (Stmt.For (Expr.Tuple _ _ _) (Expr.Name _ _) (_ :: _) [] _) _) _ _ _); (k_here; (with_reducible rename Fr _ _ _ _ => zlF); (with_reducible refine' for_t ?zF9 ?_ ?zhs9); (case zF9 => k_dflt (exact zlF)); (case zhs9 => k_dflt (intro _; rfl)))) | with_reducible ((show wpAny _ _ (execs (_ :: _) _) _ _ _); ((with_reducible show wpAny _ _ (execs [_, _, _, _, _, _, _] _) _ _ _); refine stopAt_ ?_)) | with_reducible ((show wpAny _ _ (execs (_ :: _) _) _ _ _); (k_here; (with_reducible rename StopList _ => zT9); k_dflt (refine stop_list zT9 ?_))) | with_reducible ((show wpAny _ _ (eval (Expr.Constant (Const.str _) _ _) _) _ _ _); ((try dsimp only); k_dflt (refine' const_str_tk ?_); intro _ _)) | with_reducible ((show wpAny _ _ (eval (Expr.Constant (Const.int _) _ _) _) _ _ _); ((try dsimp only); k_dflt (refine' const_int_tk ?_); intro _ _)) | with_reducible ((show wpAny _ _ (exec (Stmt.For (Expr.Tuple _ _ _) (Expr.Tuple _ _ _) (_ :: _) [] _) _) _ _ _); (k_here; (with_reducible rename Fr _ _ _ _ => zlF); (with_reducible refine' for_t ?zF9 ?_ ?zhs9); (case zF9 => k_dflt (exact zlF)); (case zhs9 => k_dflt (intro _; rfl)))) | with_reducible ((show wpAny _ _ (exec (Stmt.For (Expr.Name _ _) (Expr.Name _ _) (_ :: _) [] _) _) _ _ _); (k_here; (with_reducible rename Fr _ _ _ _ => zlF); (with_reducible refine' for_t ?zF9 ?_ ?zhs9); (case zF9 => k_dflt (exact zlF)); (case zhs9 => k_dflt (intro _; rfl)))) | with_reducible ((show wpAny _ _ (exec (Stmt.For (Expr.Name _ _) (Expr.Call _ _ _ _) (_ :: _) [] _) _) _ _ _); (k_here; (with_reducible rename Fr _ _ _ _ => zlF); (with_reducible refine' for_t ?zF9 ?_ ?zhs9); (case zF9 => k_dflt (exact zlF)); (case zhs9 => k_dflt (intro _; rfl)))) | with_reducible ((show wpAny _ _ (execs (_ :: _) _) _ _ _); (k_here; (with_reducible show wpAny _ _ _ _ _ (Shared.mk _ _ _ (_ + _) _)); k_dflt (refine' gen_toks ?zp ?_; (case zp => ((try dsimp only); exact Nat.succ_pos _)); intro _ _))) | with_reducible ((show wpAny _ _ (isTrue (Expr.Compare _ _ _ _) _ _) _ _ _); (k_here; k_dflt (refine' isTrue_ll ?zF ?zv ?_ ?zk ?zl; (case zF => k_asm); (case zv => rfl); (case zk => rfl); (case zl => rfl); k_whole; intro _; (try dsimp only)))) | (k_unfold; (try dsimp only)) | walk1 | (dsimp only; walk1) | (dsimp only [List.nil_append, List.cons_append]; walk1) | (k_end; dsimp only; k_unfold; (try dsimp only)) | (leave1; (try dsimp only)) | ((with_reducible show wpAny _ _ (isTrue (Expr.Compare _ _ _ _) _ _) _ _ _); (k_here; k_dflt (refine' isTrue_ll ?zF ?zv ?_ ?zk ?zl; (case zF => k_asm); (case zv => rfl); (case zk => rfl); (case zl => rfl); k_whole; intro _; (try dsimp only)))))))
  unfold StopAt
  (with_reducible rename Fr _ _ _ _ => F5)
  (with_reducible rename News _ _ _ _ => N5)
  refine' use_ctor _ _ _ ?k1 ?k2 ?k3 ?k4 ?k5 ?k6 ?kr ?ku ?_
  case k1 => assumption
  case k2 => exact F5
  case k3 => assumption
  case k4 => exact N5
  case k5 => assumption
  case k6 => rfl
  case kr => (first | assumption | ((simp only [depth_under_make, depth_under_kw, depth_in1, depth_deeper, depth_caller]); (try dsimp only [ktrTop]); first | exact room0 (by assumption) (by decide) | exact room1 (by assumption) (by decide) | omega | decide) | ((try dsimp only [ktrTop]); omega))
  case ku => (first | assumption | ((simp only [units_in1, units_deeper, Around.mark_units, units_caller]); (try dsimp only [ktrTop]); first | exact room0 (by assumption) (by decide) | exact room1 (by assumption) (by decide)) | ((have zhcL := cLine_is); (simp only [units_in1, units_deeper, Around.mark_units, units_caller]); (try dsimp only [ktrTop]); omega) | ((have zhcL := cLine_is); (try dsimp only [ktrTop]); omega))
  k_whole
  intro v9 E9 h9 tk9 F9 N9 p9
  refine' ex_9_5 (ctor_ls2 p9) ?_; intro kt x d q nl td tx er st0 hord hltd e9 e8 z0
  (try clear p9)
  (try clear N5)
  (try clear F5)
  subst e9
  subst e8
  w_strict ((repeat' (first | with_reducible ((first | (show wpAny _ _ (call (Value.type "zip") _) _ _ _) | (show wpAny _ _ (eval (Expr.ListComp _ _ _ _) _) _ _ _) | (show wpAny _ _ (exec (Stmt.Assign (_ :: _) (Expr.ListComp _ _ _ _) _) _) _ _ _) | (show wpAny _ _ (pyIter (Value.ref _)) _ _ _)); refine stopAt_ ?_) | with_reducible ((show wpAny _ _ (call (Value.ref _) _) _ _ _); (k_here; (with_reducible show wpAny _ _ (call (Value.ref 131) _) _ _ _); refine stopAt_ ?_)) | with_reducible ((show wpAny _ _ (exec (Stmt.For (Expr.Tuple _ _ _) (Expr.Name _ _) (_ :: _) [] _) _) _ _ _); (k_here; (with_reducible rename Fr _ _ _ _ => zlF); (with_reducible refine' for_t ?zF9 ?_ ?zhs9); (case zF9 => k_dflt (exact zlF)); (case zhs9 => k_dflt (intro _; rfl)))) | with_reducible ((show wpAny _ _ (execs (_ :: _) _) _ _ _); ((with_reducible show wpAny _ _ (execs [_, _, _, _, _, _, _] _) _ _ _); refine stopAt_ ?_)) | with_reducible ((show wpAny _ _ (execs (_ :: _) _) _ _ _); (k_here; (with_reducible rename StopList _ => zT9); k_dflt (refine stop_list zT9 ?_))) | with_reducible ((show wpAny _ _ (eval (Expr.Constant (Const.str _) _ _) _) _ _ _); ((try dsimp only); k_dflt (refine' const_str_tk ?_); intro _ _)) | with_reducible ((show wpAny _ _ (eval (Expr.Constant (Const.int _) _ _) _) _ _ _); ((try dsimp only); k_dflt (refine' const_int_tk ?_); intro _ _)) | with_reducible ((show wpAny _ _ (exec (Stmt.For (Expr.Tuple _ _ _) (Expr.Tuple _ _ _) (_ :: _) [] _) _) _ _ _); (k_here; (with_reducible rename Fr _ _ _ _ => zlF); (with_reducible refine' for_t ?zF9 ?_ ?zhs9); (case zF9 => k_dflt (exact zlF)); (case zhs9 => k_dflt (intro _; rfl)))) | with_reducible ((show wpAny _ _ (exec (Stmt.For (Expr.Name _ _) (Expr.Name _ _) (_ :: _) [] _) _) _ _ _); (k_here; (with_reducible rename Fr _ _ _ _ => zlF); (with_reducible refine' for_t ?zF9 ?_ ?zhs9); (case zF9 => k_dflt (exact zlF)); (case zhs9 => k_dflt (intro _; rfl)))) | with_reducible ((show wpAny _ _ (exec (Stmt.For (Expr.Name _ _) (Expr.Call _ _ _ _) (_ :: _) [] _) _) _ _ _); (k_here; (with_reducible rename Fr _ _ _ _ => zlF); (with_reducible refine' for_t ?zF9 ?_ ?zhs9); (case zF9 => k_dflt (exact zlF)); (case zhs9 => k_dflt (intro _; rfl)))) | with_reducible ((show wpAny _ _ (execs (_ :: _) _) _ _ _); (k_here; (with_reducible show wpAny _ _ _ _ _ (Shared.mk _ _ _ (_ + _) _)); k_dflt (refine' gen_toks ?zp ?_; (case zp => ((try dsimp only); exact Nat.succ_pos _)); intro _ _))) | with_reducible ((show wpAny _ _ (isTrue (Expr.Compare _ _ _ _) _ _) _ _ _); (k_here; k_dflt (refine' isTrue_ll ?zF ?zv ?_ ?zk ?zl; (case zF => k_asm); (case zv => rfl); (case zk => rfl); (case zl => rfl); k_whole; intro _; (try dsimp only)))) | (k_unfold; (try dsimp only)) | walk1 | (dsimp only; walk1) | (dsimp only [List.nil_append, List.cons_append]; walk1) | (k_end; dsimp only; k_unfold; (try dsimp only)) | (leave1; (try dsimp only)) | ((with_reducible show wpAny _ _ (isTrue (Expr.Compare _ _ _ _) _ _) _ _ _); (k_here; k_dflt (refine' isTrue_ll ?zF ?zv ?_ ?zk ?zl; (case zF => k_asm); (case zv => rfl); (case zk => rfl); (case zl => rfl); k_whole; intro _; (try dsimp only)))))))
  (try unfold StopAt)
  (with_reducible rename Fr _ _ _ _ => F5)
  (with_reducible rename News _ _ _ _ => N5)
  refine' list_turns (ax := rsa) (items := vs.toArray) (nr := nrs) (news := LSq w kt x d q nl td tx er T tT none st0 ++ ((rsa, listOf vs.toArray nrs) :: (rowsL ta la ra u nt nll nr vsT vsL ++ ((L + 1, oc) :: (na, listOf nvs.toArray n3) :: tl))))
    (fun j m' nx => ∃ (kt : Nat → Nat) (o : Option (Nat × Nat)) (st : StS) (oc' : Obj) (cv' : Option Value) (calm : Bool) (ln col : Int) (t1 t2 : Nat), nx = LSq w kt x d q nl td tx er T tT o st ++ ((rsa, listOf vs.toArray nrs) :: (rowsL ta la ra u nt nll nr vsT vsL ++ ((L + 1, oc') :: (na, listOf nvs.toArray n3) :: tl))) ∧
    oc'.data = .cell cv' ∧ m' (Str.ofString "rows") = some (.ref ra) ∧ m' (Str.ofString "runs") = some (.ref rsa) ∧ m' (Str.ofString "stream") = some (.ref x) ∧ m' (Str.ofString "line") = some (.int ln t1) ∧ m' (Str.ofString "column") = some (.int col t2) ∧ m' (Str.ofString "calm") = some (.bool calm) ∧
    (∀ n t, o = some (n, t) → 2 ≤ n ∧ n ≤ 7) ∧ (o = none → j = 0) ∧ At2 T rs j st calm ln col) ?hh ?hm ?F ?N ?hj ?turn ?done
  case hh => rfl
  case hm => exact List.mem_append_right _ (.head _)
  case F => exact F5
  case N => exact fun p hp => N5 p (.tail _ hp)
  case hj => exact ⟨kt, none, st0, oc, cv, true, 1, 0, _, _, rfl, hcd, rfl, rfl, rfl, rfl, rfl, rfl, fun n t h => by simp at h, fun _ => rfl, at2_zero M hi12 z0⟩
  case turn =>
    intro j v m₁ news₁ h tk own hv hadr hoff2 hmem hJ F2 N2 QQ hQQ
    refine' ex_10_11 (hJ) ?_; intro kt' o st oc' cv' calm ln col t1 t2 r910 hcd' e1 e2 e3 e4 e5 e6 ho ho0 A2; (try clear hJ); subst r910
    have hvl : vs[j]? = some v := by simpa using hv
    have hj : j < rs.length := by rw [← hRuns.1]; exact (List.getElem?_eq_some_iff.mp hvl).1
    obtain ⟨n, k, X, hr⟩ : ∃ n k X, rs[j]? = some (n, k, X) := ⟨_, _, _, List.getElem?_eq_getElem hj⟩
    refine' ex_4_2 (hRuns.2 j n k X hr) ?_; intro Tt u1 u2 u3 hT1 hT2
    obtain rfl : v = .ref Tt := Option.some.inj (hvl.symm.trans hT1)
    have hTm : ((Tt, tup3 (.int n u1) (.int (k : Int) u2) (.str X u3)) : Addr × Obj) ∈ LSq w kt' x d q nl td tx er T tT o st ++ ((rsa, listOf vs.toArray nrs) :: (rowsL ta la ra u nt nll nr vsT vsL ++ ((L + 1, oc') :: (na, listOf nvs.toArray n3) :: tl))) ++ own := by simp [hT2]
    have hTt : IsTup h Tt #[.int n u1, .int (k : Int) u2, .str X u3] := ⟨_, (N2 _ hTm).1, rfl, _, rfl⟩
    have F3 : Fr h₀ L h _ := fr_know6' e1 e2 e3 e4 e5 e6 F2
    obtain ⟨RR, hRR⟩ : ∃ RR, RR = LSq w kt' x d q nl td tx er T tT o st ++ ((rsa, listOf vs.toArray nrs) :: (rowsL ta la ra u nt nll nr vsT vsL ++ ((na, listOf nvs.toArray n3) :: (tl ++ own)))) := ⟨_, rfl⟩
    have N3 : News h₀ L h ((L + 1, oc') :: RR) := fun p hp => N2 p (by
      rw [hRR] at hp
      simp only [List.mem_append, List.mem_cons] at hp ⊢
      rcases hp with h | h | h | h | h | h | h <;> simp [h])
    have hoffR : OwnOff RR [L + 1] := by
      rw [hRR]
      exact turn_off hord (hltd (L + 1, oc) (by simp [rowsL])) hlt hLn hrr hoff hoff2
    clear F5 N5 F2 N2
    w_strict ((repeat' (first | with_reducible ((first | (show wpAny _ _ (call (Value.type "zip") _) _ _ _) | (show wpAny _ _ (eval (Expr.ListComp _ _ _ _) _) _ _ _) | (show wpAny _ _ (exec (Stmt.Assign (_ :: _) (Expr.ListComp _ _ _ _) _) _) _ _ _) | (show wpAny _ _ (pyIter (Value.ref _)) _ _ _)); refine stopAt_ ?_) | with_reducible ((show wpAny _ _ (call (Value.ref _) _) _ _ _); (k_here; (with_reducible show wpAny _ _ (call (Value.ref 131) _) _ _ _); refine stopAt_ ?_)) | with_reducible ((show wpAny _ _ (exec (Stmt.For (Expr.Tuple _ _ _) (Expr.Name _ _) (_ :: _) [] _) _) _ _ _); (k_here; (with_reducible rename Fr _ _ _ _ => zlF); (with_reducible refine' for_t ?zF9 ?_ ?zhs9); (case zF9 => k_dflt (exact zlF)); (case zhs9 => k_dflt (intro _; rfl)))) | with_reducible ((show wpAny _ _ (execs (_ :: _) _) _ _ _); ((with_reducible show wpAny _ _ (execs [_, _, _, _, _, _, _] _) _ _ _); refine stopAt_ ?_)) | with_reducible ((show wpAny _ _ (execs (_ :: _) _) _ _ _); (k_here; (with_reducible rename StopList _ => zT9); k_dflt (refine stop_list zT9 ?_))) | with_reducible ((show wpAny _ _ (eval (Expr.Constant (Const.str _) _ _) _) _ _ _); ((try dsimp only); k_dflt (refine' const_str_tk ?_); intro _ _)) | with_reducible ((show wpAny _ _ (eval (Expr.Constant (Const.int _) _ _) _) _ _ _); ((try dsimp only); k_dflt (refine' const_int_tk ?_); intro _ _)) | with_reducible ((show wpAny _ _ (exec (Stmt.For (Expr.Tuple _ _ _) (Expr.Tuple _ _ _) (_ :: _) [] _) _) _ _ _); (k_here; (with_reducible rename Fr _ _ _ _ => zlF); (with_reducible refine' for_t ?zF9 ?_ ?zhs9); (case zF9 => k_dflt (exact zlF)); (case zhs9 => k_dflt (intro _; rfl)))) | with_reducible ((show wpAny _ _ (exec (Stmt.For (Expr.Name _ _) (Expr.Name _ _) (_ :: _) [] _) _) _ _ _); (k_here; (with_reducible rename Fr _ _ _ _ => zlF); (with_reducible refine' for_t ?zF9 ?_ ?zhs9); (case zF9 => k_dflt (exact zlF)); (case zhs9 => k_dflt (intro _; rfl)))) | with_reducible ((show wpAny _ _ (exec (Stmt.For (Expr.Name _ _) (Expr.Call _ _ _ _) (_ :: _) [] _) _) _ _ _); (k_here; (with_reducible rename Fr _ _ _ _ => zlF); (with_reducible refine' for_t ?zF9 ?_ ?zhs9); (case zF9 => k_dflt (exact zlF)); (case zhs9 => k_dflt (intro _; rfl)))) | with_reducible ((show wpAny _ _ (execs (_ :: _) _) _ _ _); (k_here; (with_reducible show wpAny _ _ _ _ _ (Shared.mk _ _ _ (_ + _) _)); k_dflt (refine' gen_toks ?zp ?_; (case zp => ((try dsimp only); exact Nat.succ_pos _)); intro _ _))) | with_reducible ((show wpAny _ _ (isTrue (Expr.Compare _ _ _ _) _ _) _ _ _); (k_here; k_dflt (refine' isTrue_ll ?zF ?zv ?_ ?zk ?zl; (case zF => k_asm); (case zv => rfl); (case zk => rfl); (case zl => rfl); k_whole; intro _; (try dsimp only)))) | (k_unfold; (try dsimp only)) | walk1 | (dsimp only; walk1) | (dsimp only [List.nil_append, List.cons_append]; walk1) | (k_end; dsimp only; k_unfold; (try dsimp only)) | (leave1; (try dsimp only)) | ((with_reducible show wpAny _ _ (isTrue (Expr.Compare _ _ _ _) _ _) _ _ _); (k_here; k_dflt (refine' isTrue_ll ?zF ?zv ?_ ?zk ?zl; (case zF => k_asm); (case zv => rfl); (case zk => rfl); (case zl => rfl); k_whole; intro _; (try dsimp only)))))))
    (try unfold StopAt)
    (with_reducible rename Fr _ _ _ _ => F6)
    (with_reducible rename News _ _ _ _ => N6)
    subst hRR
    k_dflt (refine' T2 L _ n u1 ?cell rsa ra la ta u nt nll nr nrs tT vsT vsL vs rs oc9 i kd T hR M hi12 kt' x d q nl td tx er hord ?g1 hlt.2 hrr ?g2 _ ?off o st calm ln col j k X u2 u3 t1 t2 hr A2 _ ?m1 ?m2 ?m3 ?m4 ?m5 ?m6 ?m7 ?m8 _ _ _ _ _ _ _ _ _ _ _ _ _ _ _ _ B F6 KX N6 TT hroom hun ?cont)
    case cell => assumption
    case m1 => rfl
    case m2 => rfl
    case m3 => rfl
    case m4 => rfl
    case m5 => rfl
    case m6 => rfl
    case m7 => rfl
    case m8 => rfl
    case g1 => exact Nat.lt_trans hLn hlt.1
    case g2 => exact hltd (rsa, listOf vs.toArray nrs) (.head _)
    case off => exact turn_off3 hltd hlt hLn hrr hord hoff hoff2
    case cont =>
      intro h8 tk8 m8 k8 n2 q2 st' calm' ln' col' t3 t4 F8 N8 h2 h7 f1 f2 f3 f4 f5 f6 A3
      subst hQQ
      refine turn_end F8 ⟨?keep, k8, some (n2, q2), st', _, _, calm', ln', col', t3, t4, rfl, (by assumption), f1, f2, f3, f4, f5, f6, fun a b h => by cases h; exact ⟨h2, h7⟩, fun h => (by cases h), A3⟩ ?nn ?adr
      case keep => intro p hp; rw [List.mem_singleton.mp hp]; exact List.mem_append_right _ (.head _)
      case adr => exact hadr ▸ lsq_adr
      case nn => exact fun p hp => N8 p (mem_back hp)
  case done =>
    intro m₁ news₁ h tk hmem hJ F2 N2
    refine' ex_10_11 (hJ) ?_; intro kt' o st oc' cv' calm ln col t1 t2 r910 hcd' e1 e2 e3 e4 e5 e6 ho ho0 A2; (try clear hJ); subst r910
    rw [show vs.toArray.size = rs.length by rw [List.size_toArray]; exact hRuns.1] at A2 ho0
    cases o with
    | none => exact absurd (ho0 rfl) (by rw [M.hlen]; exact Nat.ne_of_gt hi1)
    | some o =>
      obtain ⟨n0, q0⟩ := o
      k_dflt (refine' FN L rsa nrs tT vs tl rs oc9 i kd vsT vsL T hR hRuns M hi12 kt' x d q nl td tx er hord n0 q0 (ho _ _ rfl).1 (ho _ _ rfl).2 st calm ln col A2 _ (.head _) (fun p hp => .tail _ (List.mem_append_right _ (.tail _ (.tail _ hp)))) (fin_dis hord hltd) m₁ e2 e3 fa cd dp un gd outer A₀ base h₀ _ Q _ loose mean mg mb B F2 KX N2 TT hroom hun ?ret)
      case ret => exact hret
end
section
noncomputable def StopLater (_l : List Stmt) : Prop := True
theorem stop_now {l : List Stmt} (_h : StopLater l) : StopList l := trivial
/-- the loop that makes the runs -/
noncomputable def Seg1 (w : World) (body : List Stmt) (qual : Str) (scope : Scope) (cdv : Value) : Prop :=
  ∀ (na : Nat) (nvs : List Value) (n3 : Nat) (ns : List Int) (L : Nat) (oc : Obj) (_ : oc.data = .cell none)
    (m : Str → Option Value) (_ : m (Str.ofString "numbers") = some (.ref na))
    (_ : IntsAre nvs ns) (_ : 1 ≤ ns.length) (_ : ns.length ≤ 12)
    (fa : Addr) (cd : Value) (dp un : Nat) (gd : Option (List Code)) (outer : List Env) (A₀ : Around) (base h₀ : Heap) (s : Shared) (Q : Flow → Shared → Prop) (Er : Value → Shared → Prop)
    (loose : List Str) (mean : ExcName → Option Value) (mg mb : Str → Option Value)
    (_ : Below A₀ base outer h₀) (_ : Fr h₀ L s.heap m) (_ : (hd.heap_39 w.params).In h₀) (_ : News h₀ L s.heap [(L + 1, oc), (na, listOf nvs.toArray n3)]) (_ : L + 1 < na) (_ : Top hd.view_39 loose mean mg mb h₀)
    (_ : dp + 4 * 6 < recursionLimit) (_ : un + 40 * 6 < cLine)
    (_ : ∀ (h' : Heap) (tk' : Nat) (m' : Str → Option Value) (N' : Ledger), Fr h₀ L h' m' → News h₀ L h' N' → Q (.ret (.bool true)) { s with heap := h', toks := tk' }),
    wpAny (model PySem.Challenge.rw_te0024_02.row.prog w) (ktrTop dp un gd qual scope L fa cd [(Str.ofString "n", L + 1)] outer) (execs (body.drop 1) (envX qual scope L fa cd [(Str.ofString "n", L + 1)])) Q Er s
set_option maxRecDepth 100000 in
set_option maxHeartbeats 1500000 in
theorem seg1 (w : World) {oc od osl} {name qual : Str} {params : Arguments} {body : List Stmt} {scope : Scope} {dV kV doc pm cdv ct : Value} {an : Option Addr} :
    (hd.heap_39 w.params).lookup 166 = some ⟨oc, od, .func (fnOf name qual params body scope dV kV doc pm an cdv ct), osl⟩ → Seg1 w body qual scope cdv := by
  unfold Seg1
  k_fill
  show _ → Seg1 w body qual scope cdv
  intro ho
  have hstop0 : StopLater (body.drop 7) := trivial
  obtain ⟨rfl, rfl, rfl, rfl⟩ := fn_parts ho (show (hd.heap_39 w.params).lookup 166 = some _ by k_is)
  unfold Seg1
  intro na nvs n3 ns L oc hoc m hm1 hI hz1 hz12 fa cd dp un gd outer A₀ base h₀ s Q Er loose mean mg mb B F KX N hLn TT hroom hun hret
  have S2 := seg2 w (show (hd.heap_39 w.params).lookup 166 = some _ by k_is)
  clear ho
  have F1 := fr_know1 hm1 F
  clear F
  refine wpAny_noRaise ?_
  w_on
  w_top on
  w_strict ((repeat' (first | with_reducible ((first | (show wpAny _ _ (call (Value.builtin "chr") _) _ _ _) | (show wpAny _ _ (call (Value.builtin "sum") _) _ _ _) | (show wpAny _ _ (subscriptTail (Expr.Name _ _) (Expr.UnaryOp _ _ _) (Value.ref _) (Value.int _ _)) _ _ _) | (show wpAny _ _ (call (Value.type "zip") _) _ _ _) | (show wpAny _ _ (eval (Expr.ListComp _ _ _ _) _) _ _ _) | (show wpAny _ _ (exec (Stmt.Assign (_ :: _) (Expr.ListComp _ _ _ _) _) _) _ _ _) | (show wpAny _ _ (pyIter (Value.ref _)) _ _ _)); refine stopAt_ ?_) | with_reducible ((show wpAny _ _ (call (Value.ref _) _) _ _ _); (k_here; (with_reducible show wpAny _ _ (call (Value.ref 161) _) _ _ _); refine stopAt_ ?_)) | with_reducible ((show wpAny _ _ (call (Value.ref _) _) _ _ _); (k_here; (with_reducible show wpAny _ _ (call (Value.ref 154) _) _ _ _); refine stopAt_ ?_)) | with_reducible ((show wpAny _ _ (execs (_ :: _) _) _ _ _); ((with_reducible show wpAny _ _ (execs (Stmt.Assign _ (Expr.List (_ :: _) _) _ :: _) _) _ _ _); refine stopAt_ ?_)) | with_reducible ((show wpAny _ _ (execs (_ :: _) _) _ _ _); (k_here; (with_reducible rename StopList _ => zT9); k_dflt (refine stop_list zT9 ?_))) | with_reducible ((show wpAny _ _ (eval (Expr.Constant (Const.str _) _ _) _) _ _ _); ((try dsimp only); k_dflt (refine' const_str_tk ?_); intro _ _)) | with_reducible ((show wpAny _ _ (eval (Expr.Constant (Const.int _) _ _) _) _ _ _); ((try dsimp only); k_dflt (refine' const_int_tk ?_); intro _ _)) | with_reducible ((show wpAny _ _ (exec (Stmt.For (Expr.Tuple _ _ _) (Expr.Tuple _ _ _) (_ :: _) [] _) _) _ _ _); (k_here; (with_reducible rename Fr _ _ _ _ => zlF); (with_reducible refine' for_t ?zF9 ?_ ?zhs9); (case zF9 => k_dflt (exact zlF)); (case zhs9 => k_dflt (intro _; rfl)))) | with_reducible ((show wpAny _ _ (exec (Stmt.For (Expr.Name _ _) (Expr.Name _ _) (_ :: _) [] _) _) _ _ _); (k_here; (with_reducible rename Fr _ _ _ _ => zlF); (with_reducible refine' for_t ?zF9 ?_ ?zhs9); (case zF9 => k_dflt (exact zlF)); (case zhs9 => k_dflt (intro _; rfl)))) | with_reducible ((show wpAny _ _ (exec (Stmt.For (Expr.Name _ _) (Expr.Call _ _ _ _) (_ :: _) [] _) _) _ _ _); (k_here; (with_reducible rename Fr _ _ _ _ => zlF); (with_reducible refine' for_t ?zF9 ?_ ?zhs9); (case zF9 => k_dflt (exact zlF)); (case zhs9 => k_dflt (intro _; rfl)))) | with_reducible ((show wpAny _ _ (execs (_ :: _) _) _ _ _); (k_here; (with_reducible show wpAny _ _ _ _ _ (Shared.mk _ _ _ (_ + _) _)); k_dflt (refine' gen_toks ?zp ?_; (case zp => ((try dsimp only); exact Nat.succ_pos _)); intro _ _))) | with_reducible ((show wpAny _ _ (isTrue (Expr.Compare _ _ _ _) _ _) _ _ _); (k_here; k_dflt (refine' isTrue_ll ?zF ?zv ?_ ?zk ?zl; (case zF => k_asm); (case zv => rfl); (case zk => rfl); (case zl => rfl); k_whole; intro _; (try dsimp only)))) | (k_unfold; (try dsimp only)) | walk1 | (dsimp only; walk1) | (dsimp only [List.nil_append, List.cons_append]; walk1) | (k_end; dsimp only; k_unfold; (try dsimp only)) | (leave1; (try dsimp only)) | ((with_reducible show wpAny _ _ (isTrue (Expr.Compare _ _ _ _) _ _) _ _ _); (k_here; k_dflt (refine' isTrue_ll ?zF ?zv ?_ ?zk ?zl; (case zF => k_asm); (case zv => rfl); (case zk => rfl); (case zl => rfl); k_whole; intro _; (try dsimp only)))))))
  unfold StopAt
  obtain ⟨lst0, hlast⟩ : ∃ c, ns.getLast? = some c := by
    cases h : ns.getLast? with
    | none => rw [List.getLast?_eq_none_iff] at h; subst h; exact absurd hz1 (by decide)
    | some c => exact ⟨c, rfl⟩
  refine' last_item ?k1 hI hlast ?_ ?k4
  case k1 => exact list_of (by assumption) (by k_mem)
  case k4 => with_unfolding_all rfl
  intro t9
  w_strict ((repeat' (first | with_reducible ((first | (show wpAny _ _ (call (Value.builtin "chr") _) _ _ _) | (show wpAny _ _ (call (Value.builtin "sum") _) _ _ _) | (show wpAny _ _ (subscriptTail (Expr.Name _ _) (Expr.UnaryOp _ _ _) (Value.ref _) (Value.int _ _)) _ _ _) | (show wpAny _ _ (call (Value.type "zip") _) _ _ _) | (show wpAny _ _ (eval (Expr.ListComp _ _ _ _) _) _ _ _) | (show wpAny _ _ (exec (Stmt.Assign (_ :: _) (Expr.ListComp _ _ _ _) _) _) _ _ _) | (show wpAny _ _ (pyIter (Value.ref _)) _ _ _)); refine stopAt_ ?_) | with_reducible ((show wpAny _ _ (call (Value.ref _) _) _ _ _); (k_here; (with_reducible show wpAny _ _ (call (Value.ref 161) _) _ _ _); refine stopAt_ ?_)) | with_reducible ((show wpAny _ _ (call (Value.ref _) _) _ _ _); (k_here; (with_reducible show wpAny _ _ (call (Value.ref 154) _) _ _ _); refine stopAt_ ?_)) | with_reducible ((show wpAny _ _ (execs (_ :: _) _) _ _ _); ((with_reducible show wpAny _ _ (execs (Stmt.Assign _ (Expr.List (_ :: _) _) _ :: _) _) _ _ _); refine stopAt_ ?_)) | with_reducible ((show wpAny _ _ (execs (_ :: _) _) _ _ _); (k_here; (with_reducible rename StopList _ => zT9); k_dflt (refine stop_list zT9 ?_))) | with_reducible ((show wpAny _ _ (eval (Expr.Constant (Const.str _) _ _) _) _ _ _); ((try dsimp only); k_dflt (refine' const_str_tk ?_); intro _ _)) | with_reducible ((show wpAny _ _ (eval (Expr.Constant (Const.int _) _ _) _) _ _ _); ((try dsimp only); k_dflt (refine' const_int_tk ?_); intro _ _)) | with_reducible ((show wpAny _ _ (exec (Stmt.For (Expr.Tuple _ _ _) (Expr.Tuple _ _ _) (_ :: _) [] _) _) _ _ _); (k_here; (with_reducible rename Fr _ _ _ _ => zlF); (with_reducible refine' for_t ?zF9 ?_ ?zhs9); (case zF9 => k_dflt (exact zlF)); (case zhs9 => k_dflt (intro _; rfl)))) | with_reducible ((show wpAny _ _ (exec (Stmt.For (Expr.Name _ _) (Expr.Name _ _) (_ :: _) [] _) _) _ _ _); (k_here; (with_reducible rename Fr _ _ _ _ => zlF); (with_reducible refine' for_t ?zF9 ?_ ?zhs9); (case zF9 => k_dflt (exact zlF)); (case zhs9 => k_dflt (intro _; rfl)))) | with_reducible ((show wpAny _ _ (exec (Stmt.For (Expr.Name _ _) (Expr.Call _ _ _ _) (_ :: _) [] _) _) _ _ _); (k_here; (with_reducible rename Fr _ _ _ _ => zlF); (with_reducible refine' for_t ?zF9 ?_ ?zhs9); (case zF9 => k_dflt (exact zlF)); (case zhs9 => k_dflt (intro _; rfl)))) | with_reducible ((show wpAny _ _ (execs (_ :: _) _) _ _ _); (k_here; (with_reducible show wpAny _ _ _ _ _ (Shared.mk _ _ _ (_ + _) _)); k_dflt (refine' gen_toks ?zp ?_; (case zp => ((try dsimp only); exact Nat.succ_pos _)); intro _ _))) | with_reducible ((show wpAny _ _ (isTrue (Expr.Compare _ _ _ _) _ _) _ _ _); (k_here; k_dflt (refine' isTrue_ll ?zF ?zv ?_ ?zk ?zl; (case zF => k_asm); (case zv => rfl); (case zk => rfl); (case zl => rfl); k_whole; intro _; (try dsimp only)))) | (k_unfold; (try dsimp only)) | walk1 | (dsimp only; walk1) | (dsimp only [List.nil_append, List.cons_append]; walk1) | (k_end; dsimp only; k_unfold; (try dsimp only)) | (leave1; (try dsimp only)) | ((with_reducible show wpAny _ _ (isTrue (Expr.Compare _ _ _ _) _ _) _ _ _); (k_here; k_dflt (refine' isTrue_ll ?zF ?zv ?_ ?zk ?zl; (case zF => k_asm); (case zv => rfl); (case zk => rfl); (case zl => rfl); k_whole; intro _; (try dsimp only)))))))
  unfold StopAt
  have hodd := odd_is (lst0.fdiv 77760)
  with_reducible refine' execs_join (fun s' => ∃ (h' : Heap) (tk : Nat) (m' : Str → Option Value) (oc9 ta la ra u nt nl nr : Nat) (vsT vsL : List Value), s' = ⟨h', s.gens, s.drawn, tk, s.os⟩ ∧ Fr h₀ L h' m' ∧ m' (Str.ofString "numbers") = some (.ref na) ∧ m' (Str.ofString "rows") = some (.ref ra) ∧
    News h₀ L h' (rowsL ta la ra u nt nl nr vsT vsL ++ [(L + 1, oc), (na, listOf nvs.toArray n3)]) ∧ RowsAt oc9 vsT vsL ∧ (na < ta ∧ ta < la ∧ la < ra)) ?rest ?rows
  case rows =>
    intro JJ hJJ
    refine wpAny_Assign_Name ?_
    w_strict ((repeat' (first | with_reducible ((first | (show wpAny _ _ (call (Value.builtin "chr") _) _ _ _) | (show wpAny _ _ (call (Value.builtin "sum") _) _ _ _) | (show wpAny _ _ (subscriptTail (Expr.Name _ _) (Expr.UnaryOp _ _ _) (Value.ref _) (Value.int _ _)) _ _ _) | (show wpAny _ _ (call (Value.type "zip") _) _ _ _) | (show wpAny _ _ (eval (Expr.ListComp _ _ _ _) _) _ _ _) | (show wpAny _ _ (exec (Stmt.Assign (_ :: _) (Expr.ListComp _ _ _ _) _) _) _ _ _) | (show wpAny _ _ (pyIter (Value.ref _)) _ _ _)); refine stopAt_ ?_) | with_reducible ((show wpAny _ _ (call (Value.ref _) _) _ _ _); (k_here; (with_reducible show wpAny _ _ (call (Value.ref 161) _) _ _ _); refine stopAt_ ?_)) | with_reducible ((show wpAny _ _ (call (Value.ref _) _) _ _ _); (k_here; (with_reducible show wpAny _ _ (call (Value.ref 154) _) _ _ _); refine stopAt_ ?_)) | with_reducible ((show wpAny _ _ (execs (_ :: _) _) _ _ _); ((with_reducible show wpAny _ _ (execs (Stmt.Assign _ (Expr.List (_ :: _) _) _ :: _) _) _ _ _); refine stopAt_ ?_)) | with_reducible ((show wpAny _ _ (execs (_ :: _) _) _ _ _); (k_here; (with_reducible rename StopList _ => zT9); k_dflt (refine stop_list zT9 ?_))) | with_reducible ((show wpAny _ _ (eval (Expr.Constant (Const.str _) _ _) _) _ _ _); ((try dsimp only); k_dflt (refine' const_str_tk ?_); intro _ _)) | with_reducible ((show wpAny _ _ (eval (Expr.Constant (Const.int _) _ _) _) _ _ _); ((try dsimp only); k_dflt (refine' const_int_tk ?_); intro _ _)) | with_reducible ((show wpAny _ _ (exec (Stmt.For (Expr.Tuple _ _ _) (Expr.Tuple _ _ _) (_ :: _) [] _) _) _ _ _); (k_here; (with_reducible rename Fr _ _ _ _ => zlF); (with_reducible refine' for_t ?zF9 ?_ ?zhs9); (case zF9 => k_dflt (exact zlF)); (case zhs9 => k_dflt (intro _; rfl)))) | with_reducible ((show wpAny _ _ (exec (Stmt.For (Expr.Name _ _) (Expr.Name _ _) (_ :: _) [] _) _) _ _ _); (k_here; (with_reducible rename Fr _ _ _ _ => zlF); (with_reducible refine' for_t ?zF9 ?_ ?zhs9); (case zF9 => k_dflt (exact zlF)); (case zhs9 => k_dflt (intro _; rfl)))) | with_reducible ((show wpAny _ _ (exec (Stmt.For (Expr.Name _ _) (Expr.Call _ _ _ _) (_ :: _) [] _) _) _ _ _); (k_here; (with_reducible rename Fr _ _ _ _ => zlF); (with_reducible refine' for_t ?zF9 ?_ ?zhs9); (case zF9 => k_dflt (exact zlF)); (case zhs9 => k_dflt (intro _; rfl)))) | with_reducible ((show wpAny _ _ (execs (_ :: _) _) _ _ _); (k_here; (with_reducible show wpAny _ _ _ _ _ (Shared.mk _ _ _ (_ + _) _)); k_dflt (refine' gen_toks ?zp ?_; (case zp => ((try dsimp only); exact Nat.succ_pos _)); intro _ _))) | with_reducible ((show wpAny _ _ (isTrue (Expr.Compare _ _ _ _) _ _) _ _ _); (k_here; k_dflt (refine' isTrue_ll ?zF ?zv ?_ ?zk ?zl; (case zF => k_asm); (case zv => rfl); (case zk => rfl); (case zl => rfl); k_whole; intro _; (try dsimp only)))) | (k_unfold; (try dsimp only)) | walk1 | (dsimp only; walk1) | (dsimp only [List.nil_append, List.cons_append]; walk1) | (k_end; dsimp only; k_unfold; (try dsimp only)) | (leave1; (try dsimp only)) | ((with_reducible show wpAny _ _ (isTrue (Expr.Compare _ _ _ _) _ _) _ _ _); (k_here; k_dflt (refine' isTrue_ll ?zF ?zv ?_ ?zk ?zl; (case zF => k_asm); (case zv => rfl); (case zk => rfl); (case zl => rfl); k_whole; intro _; (try dsimp only)))))))
    all_goals unfold StopAt
    all_goals (
      first | refine chr_of_range (odd_a hodd).1 (odd_a hodd).2 ?_ | refine chr_of_range (odd_b hodd).1 (odd_b hodd).2 ?_
      w_strict ((repeat' (first | with_reducible ((first | (show wpAny _ _ (call (Value.builtin "chr") _) _ _ _) | (show wpAny _ _ (call (Value.builtin "sum") _) _ _ _) | (show wpAny _ _ (subscriptTail (Expr.Name _ _) (Expr.UnaryOp _ _ _) (Value.ref _) (Value.int _ _)) _ _ _) | (show wpAny _ _ (call (Value.type "zip") _) _ _ _) | (show wpAny _ _ (eval (Expr.ListComp _ _ _ _) _) _ _ _) | (show wpAny _ _ (exec (Stmt.Assign (_ :: _) (Expr.ListComp _ _ _ _) _) _) _ _ _) | (show wpAny _ _ (pyIter (Value.ref _)) _ _ _)); refine stopAt_ ?_) | with_reducible ((show wpAny _ _ (call (Value.ref _) _) _ _ _); (k_here; (with_reducible show wpAny _ _ (call (Value.ref 161) _) _ _ _); refine stopAt_ ?_)) | with_reducible ((show wpAny _ _ (call (Value.ref _) _) _ _ _); (k_here; (with_reducible show wpAny _ _ (call (Value.ref 154) _) _ _ _); refine stopAt_ ?_)) | with_reducible ((show wpAny _ _ (execs (_ :: _) _) _ _ _); ((with_reducible show wpAny _ _ (execs (Stmt.Assign _ (Expr.List (_ :: _) _) _ :: _) _) _ _ _); refine stopAt_ ?_)) | with_reducible ((show wpAny _ _ (execs (_ :: _) _) _ _ _); (k_here; (with_reducible rename StopList _ => zT9); k_dflt (refine stop_list zT9 ?_))) | with_reducible ((show wpAny _ _ (eval (Expr.Constant (Const.str _) _ _) _) _ _ _); ((try dsimp only); k_dflt (refine' const_str_tk ?_); intro _ _)) | with_reducible ((show wpAny _ _ (eval (Expr.Constant (Const.int _) _ _) _) _ _ _); ((try dsimp only); k_dflt (refine' const_int_tk ?_); intro _ _)) | with_reducible ((show wpAny _ _ (exec (Stmt.For (Expr.Tuple _ _ _) (Expr.Tuple _ _ _) (_ :: _) [] _) _) _ _ _); (k_here; (with_reducible rename Fr _ _ _ _ => zlF); (with_reducible refine' for_t ?zF9 ?_ ?zhs9); (case zF9 => k_dflt (exact zlF)); (case zhs9 => k_dflt (intro _; rfl)))) | with_reducible ((show wpAny _ _ (exec (Stmt.For (Expr.Name _ _) (Expr.Name _ _) (_ :: _) [] _) _) _ _ _); (k_here; (with_reducible rename Fr _ _ _ _ => zlF); (with_reducible refine' for_t ?zF9 ?_ ?zhs9); (case zF9 => k_dflt (exact zlF)); (case zhs9 => k_dflt (intro _; rfl)))) | with_reducible ((show wpAny _ _ (exec (Stmt.For (Expr.Name _ _) (Expr.Call _ _ _ _) (_ :: _) [] _) _) _ _ _); (k_here; (with_reducible rename Fr _ _ _ _ => zlF); (with_reducible refine' for_t ?zF9 ?_ ?zhs9); (case zF9 => k_dflt (exact zlF)); (case zhs9 => k_dflt (intro _; rfl)))) | with_reducible ((show wpAny _ _ (execs (_ :: _) _) _ _ _); (k_here; (with_reducible show wpAny _ _ _ _ _ (Shared.mk _ _ _ (_ + _) _)); k_dflt (refine' gen_toks ?zp ?_; (case zp => ((try dsimp only); exact Nat.succ_pos _)); intro _ _))) | with_reducible ((show wpAny _ _ (isTrue (Expr.Compare _ _ _ _) _ _) _ _ _); (k_here; k_dflt (refine' isTrue_ll ?zF ?zv ?_ ?zk ?zl; (case zF => k_asm); (case zv => rfl); (case zk => rfl); (case zl => rfl); k_whole; intro _; (try dsimp only)))) | (k_unfold; (try dsimp only)) | walk1 | (dsimp only; walk1) | (dsimp only [List.nil_append, List.cons_append]; walk1) | (k_end; dsimp only; k_unfold; (try dsimp only)) | (leave1; (try dsimp only)) | ((with_reducible show wpAny _ _ (isTrue (Expr.Compare _ _ _ _) _ _) _ _ _); (k_here; k_dflt (refine' isTrue_ll ?zF ?zv ?_ ?zk ?zl; (case zF => k_asm); (case zv => rfl); (case zk => rfl); (case zl => rfl); k_whole; intro _; (try dsimp only)))))))
      (with_reducible rename Fr _ _ _ _ => F9)
      (with_reducible rename News _ _ _ _ => N9)
      subst hJJ)
    · exact ⟨_, _, _, (256 + (lst0.fdiv 77760).fmod 1111808).toNat, _, _, _, _, _, _, _, _, _, rfl, F9, rfl, rfl, N9, rows_at (odd_c hodd (by assumption)) _ _ _ _ _ _ _ _, ⟨by assumption, by assumption, by assumption⟩⟩
    · exact ⟨_, _, _, (256 + (lst0.fdiv 77760).fmod 1111808 + 2048).toNat, _, _, _, _, _, _, _, _, _, rfl, F9, rfl, rfl, N9, rows_at (odd_d hodd (by assumption)) _ _ _ _ _ _ _ _, ⟨by assumption, by assumption, by assumption⟩⟩
  case rest =>
    intro s' hJ
    refine' ex_13_7 (hJ) ?_; intro h' tk m' oc9 ta la ra u nt nl nr vsT vsL r913 F2 e1 e2 N2 hR hlt; (try clear hJ); subst r913
    have F3 : Fr h₀ L h' _ := fr_know2 e1 e2 F2
    (try clear F1); (try clear N)
    clear F2
    have N3 : News h₀ L h' _ := N2
    simp only [rowsL, List.cons_append, List.nil_append] at N3
    clear N2
    w_strict ((repeat' (first | with_reducible ((first | (show wpAny _ _ (call (Value.builtin "chr") _) _ _ _) | (show wpAny _ _ (call (Value.builtin "sum") _) _ _ _) | (show wpAny _ _ (subscriptTail (Expr.Name _ _) (Expr.UnaryOp _ _ _) (Value.ref _) (Value.int _ _)) _ _ _) | (show wpAny _ _ (call (Value.type "zip") _) _ _ _) | (show wpAny _ _ (eval (Expr.ListComp _ _ _ _) _) _ _ _) | (show wpAny _ _ (exec (Stmt.Assign (_ :: _) (Expr.ListComp _ _ _ _) _) _) _ _ _) | (show wpAny _ _ (pyIter (Value.ref _)) _ _ _)); refine stopAt_ ?_) | with_reducible ((show wpAny _ _ (call (Value.ref _) _) _ _ _); (k_here; (with_reducible show wpAny _ _ (call (Value.ref 161) _) _ _ _); refine stopAt_ ?_)) | with_reducible ((show wpAny _ _ (call (Value.ref _) _) _ _ _); (k_here; (with_reducible show wpAny _ _ (call (Value.ref 154) _) _ _ _); refine stopAt_ ?_)) | with_reducible ((show wpAny _ _ (execs (_ :: _) _) _ _ _); ((with_reducible show wpAny _ _ (execs (Stmt.Assign _ (Expr.List (_ :: _) _) _ :: _) _) _ _ _); refine stopAt_ ?_)) | with_reducible ((show wpAny _ _ (execs (_ :: _) _) _ _ _); (k_here; (with_reducible rename StopList _ => zT9); k_dflt (refine stop_list zT9 ?_))) | with_reducible ((show wpAny _ _ (eval (Expr.Constant (Const.str _) _ _) _) _ _ _); ((try dsimp only); k_dflt (refine' const_str_tk ?_); intro _ _)) | with_reducible ((show wpAny _ _ (eval (Expr.Constant (Const.int _) _ _) _) _ _ _); ((try dsimp only); k_dflt (refine' const_int_tk ?_); intro _ _)) | with_reducible ((show wpAny _ _ (exec (Stmt.For (Expr.Tuple _ _ _) (Expr.Tuple _ _ _) (_ :: _) [] _) _) _ _ _); (k_here; (with_reducible rename Fr _ _ _ _ => zlF); (with_reducible refine' for_t ?zF9 ?_ ?zhs9); (case zF9 => k_dflt (exact zlF)); (case zhs9 => k_dflt (intro _; rfl)))) | with_reducible ((show wpAny _ _ (exec (Stmt.For (Expr.Name _ _) (Expr.Name _ _) (_ :: _) [] _) _) _ _ _); (k_here; (with_reducible rename Fr _ _ _ _ => zlF); (with_reducible refine' for_t ?zF9 ?_ ?zhs9); (case zF9 => k_dflt (exact zlF)); (case zhs9 => k_dflt (intro _; rfl)))) | with_reducible ((show wpAny _ _ (exec (Stmt.For (Expr.Name _ _) (Expr.Call _ _ _ _) (_ :: _) [] _) _) _ _ _); (k_here; (with_reducible rename Fr _ _ _ _ => zlF); (with_reducible refine' for_t ?zF9 ?_ ?zhs9); (case zF9 => k_dflt (exact zlF)); (case zhs9 => k_dflt (intro _; rfl)))) | with_reducible ((show wpAny _ _ (execs (_ :: _) _) _ _ _); (k_here; (with_reducible show wpAny _ _ _ _ _ (Shared.mk _ _ _ (_ + _) _)); k_dflt (refine' gen_toks ?zp ?_; (case zp => ((try dsimp only); exact Nat.succ_pos _)); intro _ _))) | with_reducible ((show wpAny _ _ (isTrue (Expr.Compare _ _ _ _) _ _) _ _ _); (k_here; k_dflt (refine' isTrue_ll ?zF ?zv ?_ ?zk ?zl; (case zF => k_asm); (case zv => rfl); (case zk => rfl); (case zl => rfl); k_whole; intro _; (try dsimp only)))) | (k_unfold; (try dsimp only)) | walk1 | (dsimp only; walk1) | (dsimp only [List.nil_append, List.cons_append]; walk1) | (k_end; dsimp only; k_unfold; (try dsimp only)) | (leave1; (try dsimp only)) | ((with_reducible show wpAny _ _ (isTrue (Expr.Compare _ _ _ _) _ _) _ _ _); (k_here; k_dflt (refine' isTrue_ll ?zF ?zv ?_ ?zk ?zl; (case zF => k_asm); (case zv => rfl); (case zk => rfl); (case zl => rfl); k_whole; intro _; (try dsimp only)))))))
    unfold StopAt
    (with_reducible rename Fr _ _ _ _ => F5)
    (with_reducible rename News _ _ _ _ => N5)
    refine' PyProof.Rows.LSm.sum_ints F5 N5 rfl ?hl hI ?_
    case hl => exact list_of N5 (by k_mem)
    intro h5 tk5 t5 F6 N6
    clear F5 N5
    w_strict ((repeat' (first | with_reducible ((first | (show wpAny _ _ (call (Value.builtin "chr") _) _ _ _) | (show wpAny _ _ (call (Value.builtin "sum") _) _ _ _) | (show wpAny _ _ (subscriptTail (Expr.Name _ _) (Expr.UnaryOp _ _ _) (Value.ref _) (Value.int _ _)) _ _ _) | (show wpAny _ _ (call (Value.type "zip") _) _ _ _) | (show wpAny _ _ (eval (Expr.ListComp _ _ _ _) _) _ _ _) | (show wpAny _ _ (exec (Stmt.Assign (_ :: _) (Expr.ListComp _ _ _ _) _) _) _ _ _) | (show wpAny _ _ (pyIter (Value.ref _)) _ _ _)); refine stopAt_ ?_) | with_reducible ((show wpAny _ _ (call (Value.ref _) _) _ _ _); (k_here; (with_reducible show wpAny _ _ (call (Value.ref 161) _) _ _ _); refine stopAt_ ?_)) | with_reducible ((show wpAny _ _ (call (Value.ref _) _) _ _ _); (k_here; (with_reducible show wpAny _ _ (call (Value.ref 154) _) _ _ _); refine stopAt_ ?_)) | with_reducible ((show wpAny _ _ (execs (_ :: _) _) _ _ _); ((with_reducible show wpAny _ _ (execs (Stmt.Assign _ (Expr.List (_ :: _) _) _ :: _) _) _ _ _); refine stopAt_ ?_)) | with_reducible ((show wpAny _ _ (execs (_ :: _) _) _ _ _); (k_here; (with_reducible rename StopList _ => zT9); k_dflt (refine stop_list zT9 ?_))) | with_reducible ((show wpAny _ _ (eval (Expr.Constant (Const.str _) _ _) _) _ _ _); ((try dsimp only); k_dflt (refine' const_str_tk ?_); intro _ _)) | with_reducible ((show wpAny _ _ (eval (Expr.Constant (Const.int _) _ _) _) _ _ _); ((try dsimp only); k_dflt (refine' const_int_tk ?_); intro _ _)) | with_reducible ((show wpAny _ _ (exec (Stmt.For (Expr.Tuple _ _ _) (Expr.Tuple _ _ _) (_ :: _) [] _) _) _ _ _); (k_here; (with_reducible rename Fr _ _ _ _ => zlF); (with_reducible refine' for_t ?zF9 ?_ ?zhs9); (case zF9 => k_dflt (exact zlF)); (case zhs9 => k_dflt (intro _; rfl)))) | with_reducible ((show wpAny _ _ (exec (Stmt.For (Expr.Name _ _) (Expr.Name _ _) (_ :: _) [] _) _) _ _ _); (k_here; (with_reducible rename Fr _ _ _ _ => zlF); (with_reducible refine' for_t ?zF9 ?_ ?zhs9); (case zF9 => k_dflt (exact zlF)); (case zhs9 => k_dflt (intro _; rfl)))) | with_reducible ((show wpAny _ _ (exec (Stmt.For (Expr.Name _ _) (Expr.Call _ _ _ _) (_ :: _) [] _) _) _ _ _); (k_here; (with_reducible rename Fr _ _ _ _ => zlF); (with_reducible refine' for_t ?zF9 ?_ ?zhs9); (case zF9 => k_dflt (exact zlF)); (case zhs9 => k_dflt (intro _; rfl)))) | with_reducible ((show wpAny _ _ (execs (_ :: _) _) _ _ _); (k_here; (with_reducible show wpAny _ _ _ _ _ (Shared.mk _ _ _ (_ + _) _)); k_dflt (refine' gen_toks ?zp ?_; (case zp => ((try dsimp only); exact Nat.succ_pos _)); intro _ _))) | with_reducible ((show wpAny _ _ (isTrue (Expr.Compare _ _ _ _) _ _) _ _ _); (k_here; k_dflt (refine' isTrue_ll ?zF ?zv ?_ ?zk ?zl; (case zF => k_asm); (case zv => rfl); (case zk => rfl); (case zl => rfl); k_whole; intro _; (try dsimp only)))) | (k_unfold; (try dsimp only)) | walk1 | (dsimp only; walk1) | (dsimp only [List.nil_append, List.cons_append]; walk1) | (k_end; dsimp only; k_unfold; (try dsimp only)) | (leave1; (try dsimp only)) | ((with_reducible show wpAny _ _ (isTrue (Expr.Compare _ _ _ _) _ _) _ _ _); (k_here; k_dflt (refine' isTrue_ll ?zF ?zv ?_ ?zk ?zl; (case zF => k_asm); (case zv => rfl); (case zk => rfl); (case zl => rfl); k_whole; intro _; (try dsimp only)))))))
    unfold StopAt
    (with_reducible rename Fr _ _ _ _ => F5)
    (with_reducible rename News _ _ _ _ => N5)
    rw [← (kd0_is ns.sum).1] at F5
    rename_i rsa _ q1 q2 q3 q4 q5 _ _ _
    (try clear F6); (try clear N6); (try clear F3); (try clear N3)
    refine' grow_turns (fun i m' nx => ∃ (oc' : Obj) (cv : Option Value) (kd : Nat) (T : Str) (tT tK nrs : Nat) (vs : List Value) (tl : Ledger) (rs : List RunT), nx = (rsa, listOf vs.toArray nrs) :: (rowsL ta la ra u nt nl nr vsT vsL ++ ((L + 1, oc') :: (na, listOf nvs.toArray n3) :: tl)) ∧
      oc'.data = .cell cv ∧ m' (Str.ofString "rows") = some (.ref ra) ∧ m' (Str.ofString "kind") = some (.int (kd : Int) tK) ∧ m' (Str.ofString "text") = some (.str T tT) ∧ m' (Str.ofString "runs") = some (.ref rsa) ∧ OwnOff tl [L + 1, rsa, ra, la, ta, na] ∧ RunsAre vs tl rs ∧ Made oc9 i kd T rs) ?hh ?hm ?F ?N ?hj ?turn ?done
    case hh => rfl
    case F => exact F5
    case N => exact N5
    case hm => k_mem
    case hj =>
      exact ⟨oc, none, (ns.sum.fmod 3).toNat, Str.ofString "", _, _, 0, [], [], [], rfl, hoc, rfl, rfl, rfl, rfl, fun p hp => absurd hp List.not_mem_nil, runs_nil, made_nil oc9 (kd0_is ns.sum).2⟩
    case turn =>
      intro i v m₁ news₁ h tk I oI hv hmem hne hJ F2 N2 QQ hQQ
      refine' ex_10_9 (hJ) ?_; intro oc' cv kd T tT tK nrs vs tl rs r910 hcd e3 e4 e5 e6 hoff hRuns M; (try clear hJ); subst r910
      obtain ⟨k, tv, hk, rfl⟩ := ints_get hI (by simpa using hv)
      have F3 : Fr h₀ L h _ := fr_know4 e3 e4 e5 e6 F2
      have N3 : News h₀ L h _ := N2
      clear F2 F5 N5 N2
      simp only [rowsL, List.cons_append, List.nil_append] at N3
      refine' ex_0_6 (loop_ne hne) ?_; intro hn1 hn2 hn3 hn4 hn5 hn6
      w_strict ((repeat' (first | with_reducible ((first | (show wpAny _ _ (call (Value.builtin "chr") _) _ _ _) | (show wpAny _ _ (call (Value.builtin "sum") _) _ _ _) | (show wpAny _ _ (subscriptTail (Expr.Name _ _) (Expr.UnaryOp _ _ _) (Value.ref _) (Value.int _ _)) _ _ _) | (show wpAny _ _ (call (Value.type "zip") _) _ _ _) | (show wpAny _ _ (eval (Expr.ListComp _ _ _ _) _) _ _ _) | (show wpAny _ _ (exec (Stmt.Assign (_ :: _) (Expr.ListComp _ _ _ _) _) _) _ _ _) | (show wpAny _ _ (pyIter (Value.ref _)) _ _ _)); refine stopAt_ ?_) | with_reducible ((show wpAny _ _ (call (Value.ref _) _) _ _ _); (k_here; (with_reducible show wpAny _ _ (call (Value.ref 161) _) _ _ _); refine stopAt_ ?_)) | with_reducible ((show wpAny _ _ (call (Value.ref _) _) _ _ _); (k_here; (with_reducible show wpAny _ _ (call (Value.ref 154) _) _ _ _); refine stopAt_ ?_)) | with_reducible ((show wpAny _ _ (execs (_ :: _) _) _ _ _); ((with_reducible show wpAny _ _ (execs (Stmt.Assign _ (Expr.List (_ :: _) _) _ :: _) _) _ _ _); refine stopAt_ ?_)) | with_reducible ((show wpAny _ _ (execs (_ :: _) _) _ _ _); (k_here; (with_reducible rename StopList _ => zT9); k_dflt (refine stop_list zT9 ?_))) | with_reducible ((show wpAny _ _ (eval (Expr.Constant (Const.str _) _ _) _) _ _ _); ((try dsimp only); k_dflt (refine' const_str_tk ?_); intro _ _)) | with_reducible ((show wpAny _ _ (eval (Expr.Constant (Const.int _) _ _) _) _ _ _); ((try dsimp only); k_dflt (refine' const_int_tk ?_); intro _ _)) | with_reducible ((show wpAny _ _ (exec (Stmt.For (Expr.Tuple _ _ _) (Expr.Tuple _ _ _) (_ :: _) [] _) _) _ _ _); (k_here; (with_reducible rename Fr _ _ _ _ => zlF); (with_reducible refine' for_t ?zF9 ?_ ?zhs9); (case zF9 => k_dflt (exact zlF)); (case zhs9 => k_dflt (intro _; rfl)))) | with_reducible ((show wpAny _ _ (exec (Stmt.For (Expr.Name _ _) (Expr.Name _ _) (_ :: _) [] _) _) _ _ _); (k_here; (with_reducible rename Fr _ _ _ _ => zlF); (with_reducible refine' for_t ?zF9 ?_ ?zhs9); (case zF9 => k_dflt (exact zlF)); (case zhs9 => k_dflt (intro _; rfl)))) | with_reducible ((show wpAny _ _ (exec (Stmt.For (Expr.Name _ _) (Expr.Call _ _ _ _) (_ :: _) [] _) _) _ _ _); (k_here; (with_reducible rename Fr _ _ _ _ => zlF); (with_reducible refine' for_t ?zF9 ?_ ?zhs9); (case zF9 => k_dflt (exact zlF)); (case zhs9 => k_dflt (intro _; rfl)))) | with_reducible ((show wpAny _ _ (execs (_ :: _) _) _ _ _); (k_here; (with_reducible show wpAny _ _ _ _ _ (Shared.mk _ _ _ (_ + _) _)); k_dflt (refine' gen_toks ?zp ?_; (case zp => ((try dsimp only); exact Nat.succ_pos _)); intro _ _))) | with_reducible ((show wpAny _ _ (isTrue (Expr.Compare _ _ _ _) _ _) _ _ _); (k_here; k_dflt (refine' isTrue_ll ?zF ?zv ?_ ?zk ?zl; (case zF => k_asm); (case zv => rfl); (case zk => rfl); (case zl => rfl); k_whole; intro _; (try dsimp only)))) | (k_unfold; (try dsimp only)) | walk1 | (dsimp only; walk1) | (dsimp only [List.nil_append, List.cons_append]; walk1) | (k_end; dsimp only; k_unfold; (try dsimp only)) | (leave1; (try dsimp only)) | ((with_reducible show wpAny _ _ (isTrue (Expr.Compare _ _ _ _) _ _) _ _ _); (k_here; k_dflt (refine' isTrue_ll ?zF ?zv ?_ ?zk ?zl; (case zF => k_asm); (case zv => rfl); (case zk => rfl); (case zl => rfl); k_whole; intro _; (try dsimp only)))))))
      (try unfold StopAt)
      refine' ex_0_3 (nextK_is k M.hlt) ?_; intro hk1 hk2 hk3
      (with_reducible rename Fr _ _ _ _ => F5)
      (with_reducible rename News _ _ _ _ => N5)
      rw [hk1] at F5 ⊢
      refine' item_any (vs := [.ref ta, .str (Str.ofString "abé") u, .ref la]) ?hl (nextK kd k) (rowV ta la u (nextK kd k)) (rowV_get hk2) ?hf ?_ ?hs ?hg
      case hl => exact list_of N5 (by k_mem)
      case hf => exact Nat.lt_of_lt_of_le hk2 (by decide)
      case hs => with_unfolding_all rfl
      case hg => intro _; with_unfolding_all rfl
      have hrow := row_at w (nt := nt) (nl := nl) (ta := ta) (la := la) (u := u) hR hk2
      w_strict ((repeat' (first | with_reducible ((first | (show wpAny _ _ (call (Value.builtin "chr") _) _ _ _) | (show wpAny _ _ (call (Value.builtin "sum") _) _ _ _) | (show wpAny _ _ (subscriptTail (Expr.Name _ _) (Expr.UnaryOp _ _ _) (Value.ref _) (Value.int _ _)) _ _ _) | (show wpAny _ _ (call (Value.type "zip") _) _ _ _) | (show wpAny _ _ (eval (Expr.ListComp _ _ _ _) _) _ _ _) | (show wpAny _ _ (exec (Stmt.Assign (_ :: _) (Expr.ListComp _ _ _ _) _) _) _ _ _) | (show wpAny _ _ (pyIter (Value.ref _)) _ _ _)); refine stopAt_ ?_) | with_reducible ((show wpAny _ _ (call (Value.ref _) _) _ _ _); (k_here; (with_reducible show wpAny _ _ (call (Value.ref 161) _) _ _ _); refine stopAt_ ?_)) | with_reducible ((show wpAny _ _ (call (Value.ref _) _) _ _ _); (k_here; (with_reducible show wpAny _ _ (call (Value.ref 154) _) _ _ _); refine stopAt_ ?_)) | with_reducible ((show wpAny _ _ (execs (_ :: _) _) _ _ _); ((with_reducible show wpAny _ _ (execs (Stmt.Assign _ (Expr.List (_ :: _) _) _ :: _) _) _ _ _); refine stopAt_ ?_)) | with_reducible ((show wpAny _ _ (execs (_ :: _) _) _ _ _); (k_here; (with_reducible rename StopList _ => zT9); k_dflt (refine stop_list zT9 ?_))) | with_reducible ((show wpAny _ _ (eval (Expr.Constant (Const.str _) _ _) _) _ _ _); ((try dsimp only); k_dflt (refine' const_str_tk ?_); intro _ _)) | with_reducible ((show wpAny _ _ (eval (Expr.Constant (Const.int _) _ _) _) _ _ _); ((try dsimp only); k_dflt (refine' const_int_tk ?_); intro _ _)) | with_reducible ((show wpAny _ _ (exec (Stmt.For (Expr.Tuple _ _ _) (Expr.Tuple _ _ _) (_ :: _) [] _) _) _ _ _); (k_here; (with_reducible rename Fr _ _ _ _ => zlF); (with_reducible refine' for_t ?zF9 ?_ ?zhs9); (case zF9 => k_dflt (exact zlF)); (case zhs9 => k_dflt (intro _; rfl)))) | with_reducible ((show wpAny _ _ (exec (Stmt.For (Expr.Name _ _) (Expr.Name _ _) (_ :: _) [] _) _) _ _ _); (k_here; (with_reducible rename Fr _ _ _ _ => zlF); (with_reducible refine' for_t ?zF9 ?_ ?zhs9); (case zF9 => k_dflt (exact zlF)); (case zhs9 => k_dflt (intro _; rfl)))) | with_reducible ((show wpAny _ _ (exec (Stmt.For (Expr.Name _ _) (Expr.Call _ _ _ _) (_ :: _) [] _) _) _ _ _); (k_here; (with_reducible rename Fr _ _ _ _ => zlF); (with_reducible refine' for_t ?zF9 ?_ ?zhs9); (case zF9 => k_dflt (exact zlF)); (case zhs9 => k_dflt (intro _; rfl)))) | with_reducible ((show wpAny _ _ (execs (_ :: _) _) _ _ _); (k_here; (with_reducible show wpAny _ _ _ _ _ (Shared.mk _ _ _ (_ + _) _)); k_dflt (refine' gen_toks ?zp ?_; (case zp => ((try dsimp only); exact Nat.succ_pos _)); intro _ _))) | with_reducible ((show wpAny _ _ (isTrue (Expr.Compare _ _ _ _) _ _) _ _ _); (k_here; k_dflt (refine' isTrue_ll ?zF ?zv ?_ ?zk ?zl; (case zF => k_asm); (case zv => rfl); (case zk => rfl); (case zl => rfl); k_whole; intro _; (try dsimp only)))) | (k_unfold; (try dsimp only)) | walk1 | (dsimp only; walk1) | (dsimp only [List.nil_append, List.cons_append]; walk1) | (k_end; dsimp only; k_unfold; (try dsimp only)) | (leave1; (try dsimp only)) | ((with_reducible show wpAny _ _ (isTrue (Expr.Compare _ _ _ _) _ _) _ _ _); (k_here; k_dflt (refine' isTrue_ll ?zF ?zv ?_ ?zk ?zl; (case zF => k_asm); (case zv => rfl); (case zk => rfl); (case zl => rfl); k_whole; intro _; (try dsimp only)))))))
      unfold StopAt
      (with_reducible rename Fr _ _ _ _ => F5)
      (with_reducible rename News _ _ _ _ => N5)
      (try dsimp only [List.append_nil])
      k_dflt (refine' Does.useG2 [_, _, _] (does_run w _ _ _ hrow _ _) (swapP) ?k1 ?k2 ?k3 ?k4 ?k5 ?kd ?kK ?kr ?ku ?_)
      case k4 => exact N5
      case k1 => k_asm
      case k2 => exact F5
      case k3 => k_asm
      case k5 => k_asm
      case kK => first | exact rfl | assumption
      case kr => (first | assumption | ((simp only [depth_under_make, depth_under_kw, depth_in1, depth_deeper, depth_caller]); (try dsimp only [ktrTop]); first | exact room0 (by assumption) (by decide) | exact room1 (by assumption) (by decide) | omega | decide) | ((try dsimp only [ktrTop]); omega))
      case ku => (first | assumption | ((simp only [units_in1, units_deeper, Around.mark_units, units_caller]); (try dsimp only [ktrTop]); first | exact room0 (by assumption) (by decide) | exact room1 (by assumption) (by decide)) | ((have zhcL := cLine_is); (simp only [units_in1, units_deeper, Around.mark_units, units_caller]); (try dsimp only [ktrTop]); omega) | ((have zhcL := cLine_is); (try dsimp only [ktrTop]); omega))
      skip
      case kd => exact rows_dis hlt hLn q1 hn2 hn3 hn4 hoff
      k_whole
      intro r9 t8 h9 tk9 F9 N9 p9 T9
      (try dsimp only at T9)
      (try simp only [List.nil_append, List.cons_append] at N9)
      clear N5 F5
      have hr9 := p9
      have hX8 := run_len8 hr9
      have hT1 := made_len M hk hz12
      have hvs := runs_size hRuns M hk hz12
      w_strict ((repeat' (first | with_reducible ((first | (show wpAny _ _ (call (Value.builtin "chr") _) _ _ _) | (show wpAny _ _ (call (Value.builtin "sum") _) _ _ _) | (show wpAny _ _ (subscriptTail (Expr.Name _ _) (Expr.UnaryOp _ _ _) (Value.ref _) (Value.int _ _)) _ _ _) | (show wpAny _ _ (call (Value.type "zip") _) _ _ _) | (show wpAny _ _ (eval (Expr.ListComp _ _ _ _) _) _ _ _) | (show wpAny _ _ (exec (Stmt.Assign (_ :: _) (Expr.ListComp _ _ _ _) _) _) _ _ _) | (show wpAny _ _ (pyIter (Value.ref _)) _ _ _)); refine stopAt_ ?_) | with_reducible ((show wpAny _ _ (call (Value.ref _) _) _ _ _); (k_here; (with_reducible show wpAny _ _ (call (Value.ref 161) _) _ _ _); refine stopAt_ ?_)) | with_reducible ((show wpAny _ _ (call (Value.ref _) _) _ _ _); (k_here; (with_reducible show wpAny _ _ (call (Value.ref 154) _) _ _ _); refine stopAt_ ?_)) | with_reducible ((show wpAny _ _ (execs (_ :: _) _) _ _ _); ((with_reducible show wpAny _ _ (execs (Stmt.Assign _ (Expr.List (_ :: _) _) _ :: _) _) _ _ _); refine stopAt_ ?_)) | with_reducible ((show wpAny _ _ (execs (_ :: _) _) _ _ _); (k_here; (with_reducible rename StopList _ => zT9); k_dflt (refine stop_list zT9 ?_))) | with_reducible ((show wpAny _ _ (eval (Expr.Constant (Const.str _) _ _) _) _ _ _); ((try dsimp only); k_dflt (refine' const_str_tk ?_); intro _ _)) | with_reducible ((show wpAny _ _ (eval (Expr.Constant (Const.int _) _ _) _) _ _ _); ((try dsimp only); k_dflt (refine' const_int_tk ?_); intro _ _)) | with_reducible ((show wpAny _ _ (exec (Stmt.For (Expr.Tuple _ _ _) (Expr.Tuple _ _ _) (_ :: _) [] _) _) _ _ _); (k_here; (with_reducible rename Fr _ _ _ _ => zlF); (with_reducible refine' for_t ?zF9 ?_ ?zhs9); (case zF9 => k_dflt (exact zlF)); (case zhs9 => k_dflt (intro _; rfl)))) | with_reducible ((show wpAny _ _ (exec (Stmt.For (Expr.Name _ _) (Expr.Name _ _) (_ :: _) [] _) _) _ _ _); (k_here; (with_reducible rename Fr _ _ _ _ => zlF); (with_reducible refine' for_t ?zF9 ?_ ?zhs9); (case zF9 => k_dflt (exact zlF)); (case zhs9 => k_dflt (intro _; rfl)))) | with_reducible ((show wpAny _ _ (exec (Stmt.For (Expr.Name _ _) (Expr.Call _ _ _ _) (_ :: _) [] _) _) _ _ _); (k_here; (with_reducible rename Fr _ _ _ _ => zlF); (with_reducible refine' for_t ?zF9 ?_ ?zhs9); (case zF9 => k_dflt (exact zlF)); (case zhs9 => k_dflt (intro _; rfl)))) | with_reducible ((show wpAny _ _ (execs (_ :: _) _) _ _ _); (k_here; (with_reducible show wpAny _ _ _ _ _ (Shared.mk _ _ _ (_ + _) _)); k_dflt (refine' gen_toks ?zp ?_; (case zp => ((try dsimp only); exact Nat.succ_pos _)); intro _ _))) | with_reducible ((show wpAny _ _ (isTrue (Expr.Compare _ _ _ _) _ _) _ _ _); (k_here; k_dflt (refine' isTrue_ll ?zF ?zv ?_ ?zk ?zl; (case zF => k_asm); (case zv => rfl); (case zk => rfl); (case zl => rfl); k_whole; intro _; (try dsimp only)))) | (k_unfold; (try dsimp only)) | walk1 | (dsimp only; walk1) | (dsimp only [List.nil_append, List.cons_append]; walk1) | (k_end; dsimp only; k_unfold; (try dsimp only)) | (leave1; (try dsimp only)) | ((with_reducible show wpAny _ _ (isTrue (Expr.Compare _ _ _ _) _ _) _ _ _); (k_here; k_dflt (refine' isTrue_ll ?zF ?zv ?_ ?zk ?zl; (case zF => k_asm); (case zv => rfl); (case zk => rfl); (case zl => rfl); k_whole; intro _; (try dsimp only)))))))
      unfold StopAt
      (with_reducible rename Fr _ _ _ _ => F5)
      (with_reducible rename News _ _ _ _ => N5)
      (try dsimp only [List.append_nil])
      k_dflt (refine' Does.useG2 [] (does_written w _ _ _ _ _ _ ?h1 ?h2) (swapP) ?k1 ?k2 ?k3 ?k4 ?k5 ?kd ?kK ?kr ?ku ?_)
      case k4 => exact N5
      case k1 => k_asm
      case k2 => exact F5
      case k3 => k_asm
      case k5 => k_asm
      case kK => first | exact rfl | assumption
      case kr => (first | assumption | ((simp only [depth_under_make, depth_under_kw, depth_in1, depth_deeper, depth_caller]); (try dsimp only [ktrTop]); first | exact room0 (by assumption) (by decide) | exact room1 (by assumption) (by decide) | omega | decide) | ((try dsimp only [ktrTop]); omega))
      case ku => (first | assumption | ((simp only [units_in1, units_deeper, Around.mark_units, units_caller]); (try dsimp only [ktrTop]); first | exact room0 (by assumption) (by decide) | exact room1 (by assumption) (by decide)) | ((have zhcL := cLine_is); (simp only [units_in1, units_deeper, Around.mark_units, units_caller]); (try dsimp only [ktrTop]); omega) | ((have zhcL := cLine_is); (try dsimp only [ktrTop]); omega))
      (case h1 => exact hT1); (case h2 => exact hX8.2)
      case kd => exact fun _ _ _ h9 => absurd h9 List.not_mem_nil
      k_whole
      intro r7 t7 h9 tk9 F9 N9 p9 T9
      (try dsimp only at T9)
      (try simp only [List.nil_append, List.cons_append] at N9)
      clear N5 F5
      have hr7 := p9.1
      have hl7 := p9.2
      w_strict ((repeat' (first | with_reducible ((first | (show wpAny _ _ (call (Value.builtin "chr") _) _ _ _) | (show wpAny _ _ (call (Value.builtin "sum") _) _ _ _) | (show wpAny _ _ (subscriptTail (Expr.Name _ _) (Expr.UnaryOp _ _ _) (Value.ref _) (Value.int _ _)) _ _ _) | (show wpAny _ _ (call (Value.type "zip") _) _ _ _) | (show wpAny _ _ (eval (Expr.ListComp _ _ _ _) _) _ _ _) | (show wpAny _ _ (exec (Stmt.Assign (_ :: _) (Expr.ListComp _ _ _ _) _) _) _ _ _) | (show wpAny _ _ (pyIter (Value.ref _)) _ _ _)); refine stopAt_ ?_) | with_reducible ((show wpAny _ _ (call (Value.ref _) _) _ _ _); (k_here; (with_reducible show wpAny _ _ (call (Value.ref 161) _) _ _ _); refine stopAt_ ?_)) | with_reducible ((show wpAny _ _ (call (Value.ref _) _) _ _ _); (k_here; (with_reducible show wpAny _ _ (call (Value.ref 154) _) _ _ _); refine stopAt_ ?_)) | with_reducible ((show wpAny _ _ (execs (_ :: _) _) _ _ _); ((with_reducible show wpAny _ _ (execs (Stmt.Assign _ (Expr.List (_ :: _) _) _ :: _) _) _ _ _); refine stopAt_ ?_)) | with_reducible ((show wpAny _ _ (execs (_ :: _) _) _ _ _); (k_here; (with_reducible rename StopList _ => zT9); k_dflt (refine stop_list zT9 ?_))) | with_reducible ((show wpAny _ _ (eval (Expr.Constant (Const.str _) _ _) _) _ _ _); ((try dsimp only); k_dflt (refine' const_str_tk ?_); intro _ _)) | with_reducible ((show wpAny _ _ (eval (Expr.Constant (Const.int _) _ _) _) _ _ _); ((try dsimp only); k_dflt (refine' const_int_tk ?_); intro _ _)) | with_reducible ((show wpAny _ _ (exec (Stmt.For (Expr.Tuple _ _ _) (Expr.Tuple _ _ _) (_ :: _) [] _) _) _ _ _); (k_here; (with_reducible rename Fr _ _ _ _ => zlF); (with_reducible refine' for_t ?zF9 ?_ ?zhs9); (case zF9 => k_dflt (exact zlF)); (case zhs9 => k_dflt (intro _; rfl)))) | with_reducible ((show wpAny _ _ (exec (Stmt.For (Expr.Name _ _) (Expr.Name _ _) (_ :: _) [] _) _) _ _ _); (k_here; (with_reducible rename Fr _ _ _ _ => zlF); (with_reducible refine' for_t ?zF9 ?_ ?zhs9); (case zF9 => k_dflt (exact zlF)); (case zhs9 => k_dflt (intro _; rfl)))) | with_reducible ((show wpAny _ _ (exec (Stmt.For (Expr.Name _ _) (Expr.Call _ _ _ _) (_ :: _) [] _) _) _ _ _); (k_here; (with_reducible rename Fr _ _ _ _ => zlF); (with_reducible refine' for_t ?zF9 ?_ ?zhs9); (case zF9 => k_dflt (exact zlF)); (case zhs9 => k_dflt (intro _; rfl)))) | with_reducible ((show wpAny _ _ (execs (_ :: _) _) _ _ _); (k_here; (with_reducible show wpAny _ _ _ _ _ (Shared.mk _ _ _ (_ + _) _)); k_dflt (refine' gen_toks ?zp ?_; (case zp => ((try dsimp only); exact Nat.succ_pos _)); intro _ _))) | with_reducible ((show wpAny _ _ (isTrue (Expr.Compare _ _ _ _) _ _) _ _ _); (k_here; k_dflt (refine' isTrue_ll ?zF ?zv ?_ ?zk ?zl; (case zF => k_asm); (case zv => rfl); (case zk => rfl); (case zl => rfl); k_whole; intro _; (try dsimp only)))) | (k_unfold; (try dsimp only)) | walk1 | (dsimp only; walk1) | (dsimp only [List.nil_append, List.cons_append]; walk1) | (k_end; dsimp only; k_unfold; (try dsimp only)) | (leave1; (try dsimp only)) | ((with_reducible show wpAny _ _ (isTrue (Expr.Compare _ _ _ _) _ _) _ _ _); (k_here; k_dflt (refine' isTrue_ll ?zF ?zv ?_ ?zk ?zl; (case zF => k_asm); (case zv => rfl); (case zk => rfl); (case zl => rfl); k_whole; intro _; (try dsimp only)))))))
      subst hQQ
      show GEnd _ _ _ _ _ _ _ _
      (with_reducible rename Fr _ _ _ _ => F9)
      (with_reducible rename News _ _ _ _ => N9)
      refine' loop1_end F9 N9 (by assumption) (by assumption) (by assumption) (by assumption) (by assumption) (by assumption) (by assumption) hn1 hn2 hn3 hn4 hn5 hn6 (fun p hp => hne p (by simp [hp])) ?_
      exact ⟨_, _, nextK kd k, r7, t7, _, _, vs ++ [_], _, rs ++ [(k, nextK kd k, r9)], rfl, by assumption, rfl, rfl, rfl, rfl, off_cons hoff (by assumption) (by assumption) (by assumption) (by assumption) (by assumption) (by assumption), runs_snoc hRuns, made_next M hR hk2 hk3 hX8 hr9 hr7 hl7⟩
    case done =>
      intro m₁ news₁ h tk hmem hJ F2 N2
      refine' ex_10_9 (hJ) ?_; intro oc' cv kd T tT tK nrs vs tl rs r910 hcd e3 e4 e5 e6 hoff hRuns M; (try clear hJ); subst r910
      have hN : nvs.toArray.size = ns.length := by rw [List.size_toArray, ints_len hI]
      have hstop := stop_now hstop0
      have F3 : Fr h₀ L h _ := fr_know3 e3 e5 e6 F2
      have N3 : News h₀ L h _ := N2
      clear F2 F5 N5 N2
      rw [hN] at M
      w_strict ((repeat' (first | with_reducible ((first | (show wpAny _ _ (call (Value.builtin "chr") _) _ _ _) | (show wpAny _ _ (call (Value.builtin "sum") _) _ _ _) | (show wpAny _ _ (subscriptTail (Expr.Name _ _) (Expr.UnaryOp _ _ _) (Value.ref _) (Value.int _ _)) _ _ _) | (show wpAny _ _ (call (Value.type "zip") _) _ _ _) | (show wpAny _ _ (eval (Expr.ListComp _ _ _ _) _) _ _ _) | (show wpAny _ _ (exec (Stmt.Assign (_ :: _) (Expr.ListComp _ _ _ _) _) _) _ _ _) | (show wpAny _ _ (pyIter (Value.ref _)) _ _ _)); refine stopAt_ ?_) | with_reducible ((show wpAny _ _ (call (Value.ref _) _) _ _ _); (k_here; (with_reducible show wpAny _ _ (call (Value.ref 161) _) _ _ _); refine stopAt_ ?_)) | with_reducible ((show wpAny _ _ (call (Value.ref _) _) _ _ _); (k_here; (with_reducible show wpAny _ _ (call (Value.ref 154) _) _ _ _); refine stopAt_ ?_)) | with_reducible ((show wpAny _ _ (execs (_ :: _) _) _ _ _); ((with_reducible show wpAny _ _ (execs (Stmt.Assign _ (Expr.List (_ :: _) _) _ :: _) _) _ _ _); refine stopAt_ ?_)) | with_reducible ((show wpAny _ _ (execs (_ :: _) _) _ _ _); (k_here; (with_reducible rename StopList _ => zT9); k_dflt (refine stop_list zT9 ?_))) | with_reducible ((show wpAny _ _ (eval (Expr.Constant (Const.str _) _ _) _) _ _ _); ((try dsimp only); k_dflt (refine' const_str_tk ?_); intro _ _)) | with_reducible ((show wpAny _ _ (eval (Expr.Constant (Const.int _) _ _) _) _ _ _); ((try dsimp only); k_dflt (refine' const_int_tk ?_); intro _ _)) | with_reducible ((show wpAny _ _ (exec (Stmt.For (Expr.Tuple _ _ _) (Expr.Tuple _ _ _) (_ :: _) [] _) _) _ _ _); (k_here; (with_reducible rename Fr _ _ _ _ => zlF); (with_reducible refine' for_t ?zF9 ?_ ?zhs9); (case zF9 => k_dflt (exact zlF)); (case zhs9 => k_dflt (intro _; rfl)))) | with_reducible ((show wpAny _ _ (exec (Stmt.For (Expr.Name _ _) (Expr.Name _ _) (_ :: _) [] _) _) _ _ _); (k_here; (with_reducible rename Fr _ _ _ _ => zlF); (with_reducible refine' for_t ?zF9 ?_ ?zhs9); (case zF9 => k_dflt (exact zlF)); (case zhs9 => k_dflt (intro _; rfl)))) | with_reducible ((show wpAny _ _ (exec (Stmt.For (Expr.Name _ _) (Expr.Call _ _ _ _) (_ :: _) [] _) _) _ _ _); (k_here; (with_reducible rename Fr _ _ _ _ => zlF); (with_reducible refine' for_t ?zF9 ?_ ?zhs9); (case zF9 => k_dflt (exact zlF)); (case zhs9 => k_dflt (intro _; rfl)))) | with_reducible ((show wpAny _ _ (execs (_ :: _) _) _ _ _); (k_here; (with_reducible show wpAny _ _ _ _ _ (Shared.mk _ _ _ (_ + _) _)); k_dflt (refine' gen_toks ?zp ?_; (case zp => ((try dsimp only); exact Nat.succ_pos _)); intro _ _))) | with_reducible ((show wpAny _ _ (isTrue (Expr.Compare _ _ _ _) _ _) _ _ _); (k_here; k_dflt (refine' isTrue_ll ?zF ?zv ?_ ?zk ?zl; (case zF => k_asm); (case zv => rfl); (case zk => rfl); (case zl => rfl); k_whole; intro _; (try dsimp only)))) | (k_unfold; (try dsimp only)) | walk1 | (dsimp only; walk1) | (dsimp only [List.nil_append, List.cons_append]; walk1) | (k_end; dsimp only; k_unfold; (try dsimp only)) | (leave1; (try dsimp only)) | ((with_reducible show wpAny _ _ (isTrue (Expr.Compare _ _ _ _) _ _) _ _ _); (k_here; k_dflt (refine' isTrue_ll ?zF ?zv ?_ ?zk ?zl; (case zF => k_asm); (case zv => rfl); (case zk => rfl); (case zl => rfl); k_whole; intro _; (try dsimp only)))))))
      unfold StopAt
      refine' S2 L oc' cv hcd rsa ra la ta na u nt nl nr nrs tT n3 vsT vsL vs nvs tl rs oc9 _ kd T hR hRuns M hz1 hz12 hlt hLn q1 hoff _ ?m1 ?m2 ?m3 _ _ _ _ _ _ _ _ _ _ _ _ _ _ _ _ B F3 KX N3 TT hroom hun hret
      case m1 => rfl
      case m2 => rfl
      case m3 => rfl
end
section
theorem news2 {h₀ h : Heap} {L : Addr} {l : Ledger} {a b : Addr × Obj} (N : News h₀ L h l) (h1 : a ∈ l) (h2 : b ∈ l) : News h₀ L h [a, b] := fun p hp => by
  simp only [List.mem_cons, List.not_mem_nil, or_false] at hp
  rcases hp with rfl | rfl <;> exact N _ (by assumption)
set_option maxRecDepth 100000 in
set_option maxHeartbeats 2000000 in
theorem holds : PySem.Challenge.rw_te0024_02.Holds := hd (by
  k_go0
  all_goals try k_fold
  refine wpAny_noRaise ?_
  w_on
  w_top on
  w_strict ((repeat' (first | with_reducible ((first | (show wpAny _ _ (subscriptTail (Expr.BoolOp _ _ _) _ _ _) _ _ _) | (show wpAny _ _ (call (Value.type "zip") _) _ _ _) | (show wpAny _ _ (eval (Expr.ListComp _ _ _ _) _) _ _ _) | (show wpAny _ _ (exec (Stmt.Assign (_ :: _) (Expr.ListComp _ _ _ _) _) _) _ _ _) | (show wpAny _ _ (pyIter (Value.ref _)) _ _ _)); refine stopAt_ ?_) | with_reducible ((show wpAny _ _ (execs (_ :: _) _) _ _ _); (k_here; (with_reducible show wpAny _ _ (execs (PySem.Stmt.Assign _ (Expr.BinOp _ _ _ _) _ :: _) _) _ _ _); refine stopAt_ ?_)) | with_reducible ((show wpAny _ _ (execs (_ :: _) _) _ _ _); (k_here; (with_reducible rename StopList _ => zT9); k_dflt (refine stop_list zT9 ?_))) | with_reducible ((show wpAny _ _ (eval (Expr.Constant (Const.str _) _ _) _) _ _ _); ((try dsimp only); k_dflt (refine' const_str_tk ?_); intro _ _)) | with_reducible ((show wpAny _ _ (eval (Expr.Constant (Const.int _) _ _) _) _ _ _); ((try dsimp only); k_dflt (refine' const_int_tk ?_); intro _ _)) | with_reducible ((show wpAny _ _ (exec (Stmt.For (Expr.Tuple _ _ _) (Expr.Tuple _ _ _) (_ :: _) [] _) _) _ _ _); (k_here; (with_reducible rename Fr _ _ _ _ => zlF); (with_reducible refine' for_t ?zF9 ?_ ?zhs9); (case zF9 => k_dflt (exact zlF)); (case zhs9 => k_dflt (intro _; rfl)))) | with_reducible ((show wpAny _ _ (exec (Stmt.For (Expr.Name _ _) (Expr.Name _ _) (_ :: _) [] _) _) _ _ _); (k_here; (with_reducible rename Fr _ _ _ _ => zlF); (with_reducible refine' for_t ?zF9 ?_ ?zhs9); (case zF9 => k_dflt (exact zlF)); (case zhs9 => k_dflt (intro _; rfl)))) | with_reducible ((show wpAny _ _ (exec (Stmt.For (Expr.Name _ _) (Expr.Call _ _ _ _) (_ :: _) [] _) _) _ _ _); (k_here; (with_reducible rename Fr _ _ _ _ => zlF); (with_reducible refine' for_t ?zF9 ?_ ?zhs9); (case zF9 => k_dflt (exact zlF)); (case zhs9 => k_dflt (intro _; rfl)))) | with_reducible ((show wpAny _ _ (execs (_ :: _) _) _ _ _); (k_here; (with_reducible show wpAny _ _ _ _ _ (Shared.mk _ _ _ (_ + _) _)); k_dflt (refine' gen_toks ?zp ?_; (case zp => ((try dsimp only); exact Nat.succ_pos _)); intro _ _))) | with_reducible ((show wpAny _ _ (isTrue (Expr.Compare _ _ _ _) _ _) _ _ _); (k_here; k_dflt (refine' isTrue_ll ?zF ?zv ?_ ?zk ?zl; (case zF => k_asm); (case zv => rfl); (case zk => rfl); (case zl => rfl); k_whole; intro _; (try dsimp only)))) | (k_unfold; (try dsimp only)) | walk1 | (dsimp only; walk1) | (dsimp only [List.nil_append, List.cons_append]; walk1) | (k_end; dsimp only; k_unfold; (try dsimp only)) | (leave1; (try dsimp only)) | ((with_reducible show wpAny _ _ (isTrue (Expr.Compare _ _ _ _) _ _) _ _ _); (k_here; k_dflt (refine' isTrue_ll ?zF ?zv ?_ ?zk ?zl; (case zF => k_asm); (case zv => rfl); (case zk => rfl); (case zl => rfl); k_whole; intro _; (try dsimp only)))))))
  all_goals unfold StopAt
  all_goals (with_reducible rename Fr _ _ _ _ => F5)
  all_goals (with_reducible rename News _ _ _ _ => N5)
  · (with_reducible refine' cut_ints F5 N5 ?l1 ?i1 ?h1 ?z1 ?_)
    case l1 => kmk_list
    case i1 => assumption
    case h1 => decide
    case z1 =>
      (with_reducible rename IntsAre _ _ => hIs)
      have e := ints_len hIs
      omega
    (with_reducible rename IntsAre _ _ => hIs)
    have hIl := ints_len hIs
    intro D ws h1 F1 N1 l1 hI1
    clear F5 N5
    w_strict ((repeat' (first | with_reducible ((first | (show wpAny _ _ (subscriptTail (Expr.BoolOp _ _ _) _ _ _) _ _ _) | (show wpAny _ _ (call (Value.type "zip") _) _ _ _) | (show wpAny _ _ (eval (Expr.ListComp _ _ _ _) _) _ _ _) | (show wpAny _ _ (exec (Stmt.Assign (_ :: _) (Expr.ListComp _ _ _ _) _) _) _ _ _) | (show wpAny _ _ (pyIter (Value.ref _)) _ _ _)); refine stopAt_ ?_) | with_reducible ((show wpAny _ _ (execs (_ :: _) _) _ _ _); (k_here; (with_reducible show wpAny _ _ (execs (PySem.Stmt.Assign _ (Expr.BinOp _ _ _ _) _ :: _) _) _ _ _); refine stopAt_ ?_)) | with_reducible ((show wpAny _ _ (execs (_ :: _) _) _ _ _); (k_here; (with_reducible rename StopList _ => zT9); k_dflt (refine stop_list zT9 ?_))) | with_reducible ((show wpAny _ _ (eval (Expr.Constant (Const.str _) _ _) _) _ _ _); ((try dsimp only); k_dflt (refine' const_str_tk ?_); intro _ _)) | with_reducible ((show wpAny _ _ (eval (Expr.Constant (Const.int _) _ _) _) _ _ _); ((try dsimp only); k_dflt (refine' const_int_tk ?_); intro _ _)) | with_reducible ((show wpAny _ _ (exec (Stmt.For (Expr.Tuple _ _ _) (Expr.Tuple _ _ _) (_ :: _) [] _) _) _ _ _); (k_here; (with_reducible rename Fr _ _ _ _ => zlF); (with_reducible refine' for_t ?zF9 ?_ ?zhs9); (case zF9 => k_dflt (exact zlF)); (case zhs9 => k_dflt (intro _; rfl)))) | with_reducible ((show wpAny _ _ (exec (Stmt.For (Expr.Name _ _) (Expr.Name _ _) (_ :: _) [] _) _) _ _ _); (k_here; (with_reducible rename Fr _ _ _ _ => zlF); (with_reducible refine' for_t ?zF9 ?_ ?zhs9); (case zF9 => k_dflt (exact zlF)); (case zhs9 => k_dflt (intro _; rfl)))) | with_reducible ((show wpAny _ _ (exec (Stmt.For (Expr.Name _ _) (Expr.Call _ _ _ _) (_ :: _) [] _) _) _ _ _); (k_here; (with_reducible rename Fr _ _ _ _ => zlF); (with_reducible refine' for_t ?zF9 ?_ ?zhs9); (case zF9 => k_dflt (exact zlF)); (case zhs9 => k_dflt (intro _; rfl)))) | with_reducible ((show wpAny _ _ (execs (_ :: _) _) _ _ _); (k_here; (with_reducible show wpAny _ _ _ _ _ (Shared.mk _ _ _ (_ + _) _)); k_dflt (refine' gen_toks ?zp ?_; (case zp => ((try dsimp only); exact Nat.succ_pos _)); intro _ _))) | with_reducible ((show wpAny _ _ (isTrue (Expr.Compare _ _ _ _) _ _) _ _ _); (k_here; k_dflt (refine' isTrue_ll ?zF ?zv ?_ ?zk ?zl; (case zF => k_asm); (case zv => rfl); (case zk => rfl); (case zl => rfl); k_whole; intro _; (try dsimp only)))) | (k_unfold; (try dsimp only)) | walk1 | (dsimp only; walk1) | (dsimp only [List.nil_append, List.cons_append]; walk1) | (k_end; dsimp only; k_unfold; (try dsimp only)) | (leave1; (try dsimp only)) | ((with_reducible show wpAny _ _ (isTrue (Expr.Compare _ _ _ _) _ _) _ _ _); (k_here; k_dflt (refine' isTrue_ll ?zF ?zv ?_ ?zk ?zl; (case zF => k_asm); (case zv => rfl); (case zk => rfl); (case zl => rfl); k_whole; intro _; (try dsimp only)))))))
    unfold StopAt
    (with_reducible rename Fr _ _ _ _ => F2)
    (with_reducible rename News _ _ _ _ => N2)
    (with_reducible rename Top _ _ _ _ _ _ => TT)
    (with_reducible rename Frag.In _ _ => KX)
    (with_reducible rename World => ww)
    have S1 := seg1 ww (show (hd.heap_39 ww.params).lookup 166 = some _ by k_is)
    k_dflt (refine' S1 _ ws _ _ _ _ ?hc _ ?m1 hI1 ?z1 ?z12 _ _ _ _ _ _ _ _ _ _ _ _ _ _ _ _ ?B ?F ?K ?N ?lt ?T ?room ?un ?ret)
    case F => exact F2
    case K => exact KX
    case T => exact TT
    case m1 => rfl
    case N => exact news2 N2 (by k_mem) (by k_mem)
    case hc => assumption
    case lt => first | exact l1 _ (List.Mem.tail _ (List.Mem.head _)) | exact l1 _ (List.Mem.head _)
    case z1 =>
      have h5 : Int.toNat 12 = 12 := rfl
      rw [List.length_take, h5]; first | omega | exact Nat.le_of_ble_eq_true rfl
    case z12 =>
      have h5 : Int.toNat 12 = 12 := rfl
      rw [List.length_take, h5]; first | omega | exact Nat.le_of_ble_eq_true rfl
    case B => assumption
    case room => (first | assumption | ((simp only [depth_under_make, depth_under_kw, depth_in1, depth_deeper, depth_caller]); (try dsimp only [ktrTop]); first | exact room0 (by assumption) (by decide) | exact room1 (by assumption) (by decide) | omega | decide) | ((try dsimp only [ktrTop]); omega))
    case un => (first | assumption | ((simp only [units_in1, units_deeper, Around.mark_units, units_caller]); (try dsimp only [ktrTop]); first | exact room0 (by assumption) (by decide) | exact room1 (by assumption) (by decide)) | ((have zhcL := cLine_is); (simp only [units_in1, units_deeper, Around.mark_units, units_caller]); (try dsimp only [ktrTop]); omega) | ((have zhcL := cLine_is); (try dsimp only [ktrTop]); omega))
    case ret =>
      intro h7 tk7 m7 N7 F7 _
      dsimp only
      wrow_close
  · (with_reducible refine' cut_ints (vs := [.int 144 _, .int 40047 _, .int 6405 _]) (ns := [144, 40047, 6405]) F5 N5 ?l2 ?i2 ?h2 ?z2 ?_)
    case l2 => exact list_of N5 (by k_mem)
    case i2 => exact .cons _ _ (.cons _ _ (.cons _ _ .nil))
    case h2 => decide
    case z2 => exact Nat.le_of_ble_eq_true rfl
    intro D ws h1 F1 N1 l1 hI1
    clear F5 N5
    w_strict ((repeat' (first | with_reducible ((first | (show wpAny _ _ (subscriptTail (Expr.BoolOp _ _ _) _ _ _) _ _ _) | (show wpAny _ _ (call (Value.type "zip") _) _ _ _) | (show wpAny _ _ (eval (Expr.ListComp _ _ _ _) _) _ _ _) | (show wpAny _ _ (exec (Stmt.Assign (_ :: _) (Expr.ListComp _ _ _ _) _) _) _ _ _) | (show wpAny _ _ (pyIter (Value.ref _)) _ _ _)); refine stopAt_ ?_) | with_reducible ((show wpAny _ _ (execs (_ :: _) _) _ _ _); (k_here; (with_reducible show wpAny _ _ (execs (PySem.Stmt.Assign _ (Expr.BinOp _ _ _ _) _ :: _) _) _ _ _); refine stopAt_ ?_)) | with_reducible ((show wpAny _ _ (execs (_ :: _) _) _ _ _); (k_here; (with_reducible rename StopList _ => zT9); k_dflt (refine stop_list zT9 ?_))) | with_reducible ((show wpAny _ _ (eval (Expr.Constant (Const.str _) _ _) _) _ _ _); ((try dsimp only); k_dflt (refine' const_str_tk ?_); intro _ _)) | with_reducible ((show wpAny _ _ (eval (Expr.Constant (Const.int _) _ _) _) _ _ _); ((try dsimp only); k_dflt (refine' const_int_tk ?_); intro _ _)) | with_reducible ((show wpAny _ _ (exec (Stmt.For (Expr.Tuple _ _ _) (Expr.Tuple _ _ _) (_ :: _) [] _) _) _ _ _); (k_here; (with_reducible rename Fr _ _ _ _ => zlF); (with_reducible refine' for_t ?zF9 ?_ ?zhs9); (case zF9 => k_dflt (exact zlF)); (case zhs9 => k_dflt (intro _; rfl)))) | with_reducible ((show wpAny _ _ (exec (Stmt.For (Expr.Name _ _) (Expr.Name _ _) (_ :: _) [] _) _) _ _ _); (k_here; (with_reducible rename Fr _ _ _ _ => zlF); (with_reducible refine' for_t ?zF9 ?_ ?zhs9); (case zF9 => k_dflt (exact zlF)); (case zhs9 => k_dflt (intro _; rfl)))) | with_reducible ((show wpAny _ _ (exec (Stmt.For (Expr.Name _ _) (Expr.Call _ _ _ _) (_ :: _) [] _) _) _ _ _); (k_here; (with_reducible rename Fr _ _ _ _ => zlF); (with_reducible refine' for_t ?zF9 ?_ ?zhs9); (case zF9 => k_dflt (exact zlF)); (case zhs9 => k_dflt (intro _; rfl)))) | with_reducible ((show wpAny _ _ (execs (_ :: _) _) _ _ _); (k_here; (with_reducible show wpAny _ _ _ _ _ (Shared.mk _ _ _ (_ + _) _)); k_dflt (refine' gen_toks ?zp ?_; (case zp => ((try dsimp only); exact Nat.succ_pos _)); intro _ _))) | with_reducible ((show wpAny _ _ (isTrue (Expr.Compare _ _ _ _) _ _) _ _ _); (k_here; k_dflt (refine' isTrue_ll ?zF ?zv ?_ ?zk ?zl; (case zF => k_asm); (case zv => rfl); (case zk => rfl); (case zl => rfl); k_whole; intro _; (try dsimp only)))) | (k_unfold; (try dsimp only)) | walk1 | (dsimp only; walk1) | (dsimp only [List.nil_append, List.cons_append]; walk1) | (k_end; dsimp only; k_unfold; (try dsimp only)) | (leave1; (try dsimp only)) | ((with_reducible show wpAny _ _ (isTrue (Expr.Compare _ _ _ _) _ _) _ _ _); (k_here; k_dflt (refine' isTrue_ll ?zF ?zv ?_ ?zk ?zl; (case zF => k_asm); (case zv => rfl); (case zk => rfl); (case zl => rfl); k_whole; intro _; (try dsimp only)))))))
    unfold StopAt
    (with_reducible rename Fr _ _ _ _ => F2)
    (with_reducible rename News _ _ _ _ => N2)
    (with_reducible rename Top _ _ _ _ _ _ => TT)
    (with_reducible rename Frag.In _ _ => KX)
    (with_reducible rename World => ww)
    have S1 := seg1 ww (show (hd.heap_39 ww.params).lookup 166 = some _ by k_is)
    k_dflt (refine' S1 _ ws _ _ _ _ ?hc _ ?m1 hI1 ?z1 ?z12 _ _ _ _ _ _ _ _ _ _ _ _ _ _ _ _ ?B ?F ?K ?N ?lt ?T ?room ?un ?ret)
    case F => exact F2
    case K => exact KX
    case T => exact TT
    case m1 => rfl
    case N => exact news2 N2 (by k_mem) (by k_mem)
    case hc => assumption
    case lt => first | exact l1 _ (List.Mem.tail _ (List.Mem.head _)) | exact l1 _ (List.Mem.head _)
    case z1 =>
      have h5 : Int.toNat 12 = 12 := rfl
      rw [List.length_take, h5]; first | omega | exact Nat.le_of_ble_eq_true rfl
    case z12 =>
      have h5 : Int.toNat 12 = 12 := rfl
      rw [List.length_take, h5]; first | omega | exact Nat.le_of_ble_eq_true rfl
    case B => assumption
    case room => (first | assumption | ((simp only [depth_under_make, depth_under_kw, depth_in1, depth_deeper, depth_caller]); (try dsimp only [ktrTop]); first | exact room0 (by assumption) (by decide) | exact room1 (by assumption) (by decide) | omega | decide) | ((try dsimp only [ktrTop]); omega))
    case un => (first | assumption | ((simp only [units_in1, units_deeper, Around.mark_units, units_caller]); (try dsimp only [ktrTop]); first | exact room0 (by assumption) (by decide) | exact room1 (by assumption) (by decide)) | ((have zhcL := cLine_is); (simp only [units_in1, units_deeper, Around.mark_units, units_caller]); (try dsimp only [ktrTop]); omega) | ((have zhcL := cLine_is); (try dsimp only [ktrTop]); omega))
    case ret =>
      intro h7 tk7 m7 N7 F7 _
      dsimp only
      wrow_close
  )
end
end Mine
set_option maxRecDepth 100000 in
set_option maxHeartbeats 8000000 in
theorem PySem.Challenge.cw_te0024_02_holds : PySem.Challenge.rw_te0024_02.Holds := by
  exact Mine.holds

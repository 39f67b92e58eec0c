import PyProof.Rows.All
import Wide.All
import OpenK.AllK
import Wide.FinOn
import Lean
import PySem.Challenge.RW_te0024_01
open PySem PySem.W PyProof.Rows PySem.Calls PySem.Spec
set_option Elab.async false
set_option linter.all false
set_option compiler.extract_closed false
set_option genInjectivity false
set_option genSizeOf false
local macro_rules | `(tactic| omega) => `(tactic| first | lia | omega (config := {}))
namespace Mine
set_option maxRecDepth 100000 in
set_option maxHeartbeats 8000000 in
open_top hd for PySem.Challenge.rw_te0024_01
abbrev Ledger := List (Addr × Obj)

/-- entering a def with a part of the ledger; the rest is kept -/
theorem enterR {prog : Program} {w : World} {A₀ A : Around} {s : Shared} {base h₀ : Heap} {outer : List Env} {L : Addr} {m : Str → Option Value} {env : Env} {E rest : Ledger} {K : Frag}
    {p : Program} {loose : List Str} {mean : ExcName → Option Value} {mg mb : Str → Option Value}
    {R : Result → Shared → Prop} {name qual : Str} {params : Arguments} {body : List Stmt} {scope : Scope} {dV kV doc pm cdv ct oc : Value} {an od : Option Addr} {osl : Array (Option Value)} {f : Addr} {args : Args} {binds : List (Str × Value)}
    (B : Below A₀ base outer h₀) (F : Fr h₀ L s.heap m) (X₀ : K.In h₀) (N : News h₀ L s.heap (E ++ rest)) (T : Top p loose mean mg mb h₀) (hdis : ∀ q ∈ rest, ∀ r ∈ E, r.1 ≠ q.1)
    (hA : A.frames = some (env :: outer)) (hf : env.frame = some L) (hke : env.scope.kind = .function)
    (ho : K.lookup f = some ⟨oc, od, .func (fnOf name qual params body scope dV kV doc pm an cdv ct), osl⟩) (hcd : codeIn K cdv qual = true) (hroom : A.depth < recursionLimit)
    (hbind : BindsTo s (fnOf name qual params body scope dV kV doc pm an cdv ct) args binds) (hloc : ∀ y ∈ binds, scope.names.lookup y.1 = some .local)
    (h : ∀ g L' h₁, Fr h₀ L g m → Fr g L' h₁ (fun y => binds.reverse.lookup y) → News g L' h₁ E → Below A base (env :: outer) g → K.In g → Top p loose mean mg mb g → (∀ q ∈ E ++ rest, q.1 < L') →
      wpAny (model prog w) (A.deeper (envOf qual scope L' f cdv)) (execs body (envOf qual scope L' f cdv))
        (fun fl s' => LeaveK h₀ L m g (fun r s'' => News h₀ L s''.heap rest → R r s'') (match fl with | .ret v => v | _ => .none) s')
        (fun e s' => wpAny (model prog w) (A.deeper (envOf qual scope L' f cdv)) (leaving (envOf qual scope L' f cdv) e) (fun _ s'' => R (.error e) s'') (fun e' s'' => R (.error e') s'') s')
        { s with heap := h₁, toks := s.toks + binds.length })
    (hco : scope.isCoroutine = false := by rfl) (hgen : scope.isGenerator = false := by rfl) (hk : scope.kind = .function := by rfl)
    (hcell : ∀ x ∈ scope.names, x.2 ≠ .cell := by decide) : codeAny (model prog w) A (.call (.ref f) args) R s := by
  have NE : News h₀ L s.heap E := fun q hq => N q (List.mem_append_left _ hq)
  have NR : News h₀ L s.heap rest := fun q hq => N q (List.mem_append_right _ hq)
  obtain ⟨FG, BG, st, lv⟩ := groundX (R := fun r s'' => News h₀ L s''.heap rest → R r s'') B F NE hA hf hke
  refine codeAny_call_def (fd := fnOf name qual params body scope dV kV doc pm an cdv ct) (body := body) (binds := binds) hroom ((X₀.keeps F.keep) _ _ ho) rfl (T.nolimit.keeps F.keep) (codeRec_of (X₀.keeps F.keep) hcd) rfl hbind hcell hloc (fun h₁ hns hk₁ => ?_) hco hgen hk
  refine wpAny_mono (h _ s.heap.objs.size h₁ FG ⟨hns, fun b o e => hk₁ b o (of_hideAll _ e), Nat.le_of_eq (hideAll_size _ _)⟩
    (fun q hq => ⟨hk₁ _ _ (NE q hq).1, Nat.ne_of_lt (Heap.lt_size (NE q hq).1), hideAll_none _ (List.mem_map_of_mem hq)⟩) BG (X₀.keeps st) (T.keeps st) (fun q hq => Heap.lt_size (N q hq).1)) (fun fl s' hl => ?_) fun _ _ y => y
  refine lv _ _ hl ?_
  obtain ⟨L', m', news', F', N', k⟩ := hl
  intro q hq
  refine ⟨F'.keep _ _ (hideAll_get _ (NR q hq).1 fun hm => ?_), (NR q hq).2⟩
  obtain ⟨r, hr, e⟩ := List.mem_map.mp hm
  exact hdis q hq r hr e

/-- what a call of f with the arguments vs does, upon the part E of the ledger -/
def Does (w : World) (lv : Nat) (f : Value) (vs : List Value) (E : Ledger) (post : Value → Ledger → Prop) : Prop :=
  ∀ (dp un : Nat) (gd : Option (List Code)) (cn : Str) (cs : Scope) (a : Addr) (ccd : Value) (cl : List (Str × Addr)) (outer : List Env) (A₀ : Around) (base h₀ : Heap) (L : Addr) (m : Str → Option Value) (s : Shared) (R : Result → Shared → Prop)
    (loose : List Str) (mean : ExcName → Option Value) (mg mb : Str → Option Value) (rest : Ledger),
    Below A₀ base outer h₀ → Fr h₀ L s.heap m → (hd.heap_39 w.params).In h₀ → News h₀ L s.heap (E ++ rest) → Top hd.view_39 loose mean mg mb h₀ → (∀ q ∈ rest, ∀ r ∈ E, r.1 ≠ q.1) → cs.kind = .function →
    dp + 4 * lv < recursionLimit → un + 40 * lv < cLine →
    (∀ v E' h' tk', Fr h₀ L h' m → News h₀ L h' (E' ++ rest) → post v E' → R (.ok (.ret v)) { s with heap := h', toks := tk' }) →
    codeAny (model PySem.Challenge.rw_te0024_01.row.prog w) (ktrTop dp un gd cn cs L a ccd cl outer) (.call f ⟨vs, []⟩) R s

section
variable {w : World} {lv : Nat} {f : Value} {vs : List Value} {E : Ledger} {post : Value → Ledger → Prop} {dp un : Nat} {gd : Option (List Code)} {cn : Str} {cs : Scope} {a : Addr} {ccd : Value} {cl : List (Str × Addr)} {outer : List Env} {A₀ : Around} {base h₀ : Heap} {L : Addr} {m : Str → Option Value} {s : Shared} {Q Er : Value → Shared → Prop}
    {loose : List Str} {mean : ExcName → Option Value} {mg mb : Str → Option Value} {rest : Ledger}
/-- .. with some of the ledger ahead, which stays -/
theorem Does.useC (pre : Ledger) (D : Does w lv f vs E post) {R : Result → Shared → Prop}
    (B : Below A₀ base outer h₀) (F : Fr h₀ L s.heap m) (X : (hd.heap_39 w.params).In h₀) (N : News h₀ L s.heap (pre ++ (E ++ rest))) (T : Top hd.view_39 loose mean mg mb h₀) (hdis : ∀ q ∈ pre ++ rest, ∀ r ∈ E, r.1 ≠ q.1) (hk : cs.kind = .function)
    (hr : dp + 4 * lv < recursionLimit) (hu : un + 40 * lv < cLine)
    (k : ∀ v E' h' tk', Fr h₀ L h' m → News h₀ L h' (pre ++ (E' ++ rest)) → post v E' → R (.ok (.ret v)) { s with heap := h', toks := tk' }) :
    codeAny (model PySem.Challenge.rw_te0024_01.row.prog w) (ktrTop dp un gd cn cs L a ccd cl outer) (.call f ⟨vs, []⟩) R s := by
  refine D _ _ _ _ _ _ _ _ _ _ _ _ _ _ _ _ _ _ _ _ (pre ++ rest) B F X (fun p hp => N p ?_) T hdis hk hr hu fun v E' h' tk' F' N' hp => k v E' h' tk' F' (fun p hp => N' p ?_) hp
  all_goals (simp only [List.mem_append] at hp ⊢; rcases hp with hp | hp | hp <;> simp [hp])
theorem Does.useP (pre : Ledger) (D : Does w lv f vs E post)
    (B : Below A₀ base outer h₀) (F : Fr h₀ L s.heap m) (X : (hd.heap_39 w.params).In h₀) (N : News h₀ L s.heap (pre ++ (E ++ rest))) (T : Top hd.view_39 loose mean mg mb h₀) (hdis : ∀ q ∈ pre ++ rest, ∀ r ∈ E, r.1 ≠ q.1) (hk : cs.kind = .function)
    (hr : dp + 4 * lv < recursionLimit) (hu : un + 40 * lv < cLine)
    (k : ∀ v E' h' tk', Fr h₀ L h' m → News h₀ L h' (pre ++ (E' ++ rest)) → post v E' → s.toks ≤ tk' → Q v { s with heap := h', toks := tk' }) :
    wpAny (model PySem.Challenge.rw_te0024_01.row.prog w) (ktrTop dp un gd cn cs L a ccd cl outer) (call f vs) Q Er s :=
  wpAny_with_toks (Nat.le_refl s.toks) (wpAny_call (Does.useC pre D B F X N T hdis hk hr hu (R := fun r s' => match r with | .ok (.ret v) => (s.toks ≤ s'.toks → Q v s') | .ok _ => False | .error e => _) k))
/-- .. through a bound method -/
theorem Does.useM (pre : Ledger) {q : Addr} {self : Value} (D : Does w lv f (self :: vs) E post)
    (B : Below A₀ base outer h₀) (F : Fr h₀ L s.heap m) (X : (hd.heap_39 w.params).In h₀) (N : News h₀ L s.heap (pre ++ (E ++ rest))) (hq : (q, methodObj f self) ∈ pre ++ (E ++ rest)) (T : Top hd.view_39 loose mean mg mb h₀) (hdis : ∀ q ∈ pre ++ rest, ∀ r ∈ E, r.1 ≠ q.1) (hk : cs.kind = .function)
    (hr : dp + 4 * lv < recursionLimit) (hu : un + 40 * lv < cLine)
    (k : ∀ v E' h' tk', Fr h₀ L h' m → News h₀ L h' (pre ++ (E' ++ rest)) → post v E' → s.toks ≤ tk' → Q v { s with heap := h', toks := tk' }) :
    wpAny (model PySem.Challenge.rw_te0024_01.row.prog w) (ktrTop dp un gd cn cs L a ccd cl outer) (call (.ref q) vs) Q Er s :=
  wpAny_with_toks (Nat.le_refl s.toks) (call_meth N hq (Does.useC pre D B F X N T hdis hk hr hu (R := fun r s' => match r with | .ok (.ret v) => (s.toks ≤ s'.toks → Q v s') | .ok _ => False | .error e => _) k))
end
theorem room0 {d a b R : Nat} (h : d + b < R) (hab : a ≤ b) : d + a < R := by omega
theorem room1 {d c a b R : Nat} (h : d + b < R) (hab : c + a ≤ b) : d + c + a < R := by omega
theorem ord4 {d x q er : Nat} (h : d < x ∧ x < q ∧ q < er) : d < x ∧ x < q ∧ q < er ∧ d < q ∧ d < er ∧ x < er := ⟨h.1, h.2.1, h.2.2, Nat.lt_trans h.1 h.2.1, Nat.lt_trans (Nat.lt_trans h.1 h.2.1) h.2.2, Nat.lt_trans h.2.1 h.2.2⟩
theorem ord6 {d x q td tx er : Nat} (h : d < x ∧ x < q ∧ q < td ∧ td < tx ∧ tx < er) : d < x ∧ x < q ∧ q < td ∧ td < tx ∧ tx < er ∧ d < q ∧ d < td ∧ d < tx ∧ d < er ∧ x < td ∧ x < tx ∧ x < er ∧ q < tx ∧ q < er ∧ td < er :=
  have h1 := h.1; have h2 := h.2.1; have h3 := h.2.2.1; have h4 := h.2.2.2.1; have h5 := h.2.2.2.2
  have h6 := Nat.lt_trans h1 h2; have h7 := Nat.lt_trans h6 h3; have h8 := Nat.lt_trans h7 h4; have h10 := Nat.lt_trans h2 h3; have h11 := Nat.lt_trans h10 h4; have h13 := Nat.lt_trans h3 h4
  ⟨h1, h2, h3, h4, h5, h6, h7, h8, Nat.lt_trans h8 h5, h10, h11, Nat.lt_trans h11 h5, h13, Nat.lt_trans h13 h5, Nat.lt_trans h4 h5⟩
theorem fr_know1 {h₀ h : Heap} {L : Addr} {m : Str → Option Value} {z1 : Str} {b1 : Value} (h1 : m z1 = some b1) (F : Fr h₀ L h m) : Fr h₀ L h (fun y => if y = z1 then some b1 else m y) := by
  have e : (fun y => if y = z1 then some b1 else m y) = m := by
    funext y
    by_cases k1 : y = z1
    · rw [if_pos k1, k1, h1]
    · rw [if_neg k1]
  rw [e]; exact F
theorem fr_know2 {h₀ h : Heap} {L : Addr} {m : Str → Option Value} {z1 z2 : Str} {b1 b2 : Value} (h1 : m z1 = some b1) (h2 : m z2 = some b2) (F : Fr h₀ L h m) :
    Fr h₀ L h (fun y => if y = z1 then some b1 else if y = z2 then some b2 else m y) := by
  have e : (fun y => if y = z2 then some b2 else m y) = m := by
    funext y
    by_cases k1 : y = z2
    · rw [if_pos k1, k1, h2]
    · rw [if_neg k1]
  have := fr_know1 h1 F
  rw [← e] at this
  have e2 : (fun y => if y = z1 then some b1 else (fun y => if y = z2 then some b2 else m y) y) = (fun y => if y = z1 then some b1 else if y = z2 then some b2 else m y) := rfl
  exact this
/-- the frame's map as an opaque one, with some keys known -/
theorem fr_some {h₀ h : Heap} {L : Addr} {m : Str → Option Value} (ks : List (Str × Value)) (F : Fr h₀ L h m) (hk : ∀ p ∈ ks, m p.1 = some p.2) : ∃ m', Fr h₀ L h m' ∧ ∀ p ∈ ks, m' p.1 = some p.2 := ⟨m, F, hk⟩
/-- .. and back: the keys ahead of the opaque map -/
theorem fr_list {h₀ h : Heap} {L : Addr} {m : Str → Option Value} (ks : List (Str × Value)) (hk : ∀ p ∈ ks, m p.1 = some p.2) (F : Fr h₀ L h m) : Fr h₀ L h (kstB m ks) := by
  have e : kstB m ks = m := funext fun y => kstB_eq hk fun _ => rfl
  rw [e]; exact F
theorem fr_know3 {h₀ h : Heap} {L : Addr} {m : Str → Option Value} {z1 z2 z3 : Str} {b1 b2 b3 : Value} (h1 : m z1 = some b1) (h2 : m z2 = some b2) (h3 : m z3 = some b3) (F : Fr h₀ L h m) :
    Fr h₀ L h (fun y => if y = z1 then some b1 else if y = z2 then some b2 else if y = z3 then some b3 else m y) :=
  fr_list [(z1, b1), (z2, b2), (z3, b3)] (fun p hp => by
    simp only [List.mem_cons, List.not_mem_nil, or_false] at hp
    rcases hp with rfl | rfl | rfl <;> assumption) F
theorem fr_know4 {h₀ h : Heap} {L : Addr} {m : Str → Option Value} {z1 z2 z3 z4 : Str} {b1 b2 b3 b4 : Value} (h1 : m z1 = some b1) (h2 : m z2 = some b2) (h3 : m z3 = some b3) (h4 : m z4 = some b4) (F : Fr h₀ L h m) :
    Fr h₀ L h (fun y => if y = z1 then some b1 else if y = z2 then some b2 else if y = z3 then some b3 else if y = z4 then some b4 else m y) :=
  fr_list [(z1, b1), (z2, b2), (z3, b3), (z4, b4)] (fun p hp => by
    simp only [List.mem_cons, List.not_mem_nil, or_false] at hp
    rcases hp with rfl | rfl | rfl | rfl <;> assumption) F
theorem fr_know5 {h₀ h : Heap} {L : Addr} {m : Str → Option Value} {z1 z2 z3 z4 z5 : Str} {b1 b2 b3 b4 b5 : Value} (h1 : m z1 = some b1) (h2 : m z2 = some b2) (h3 : m z3 = some b3) (h4 : m z4 = some b4) (h5 : m z5 = some b5) (F : Fr h₀ L h m) :
    Fr h₀ L h (fun y => if y = z1 then some b1 else if y = z2 then some b2 else if y = z3 then some b3 else if y = z4 then some b4 else if y = z5 then some b5 else m y) :=
  fr_list [(z1, b1), (z2, b2), (z3, b3), (z4, b4), (z5, b5)] (fun p hp => by
    simp only [List.mem_cons, List.not_mem_nil, or_false] at hp
    rcases hp with rfl | rfl | rfl | rfl | rfl <;> assumption) F
theorem fn_parts {o : Option Obj} {oc oc' : Value} {od od' : Option Addr} {osl osl' : Array (Option Value)} {name qual name' qual' : Str} {params params' : Arguments} {body body' : List Stmt} {scope scope' : Scope} {dV kV doc pm cdv ct dV' kV' doc' pm' cdv' ct' : Value} {an an' : Option Addr}
    (h : o = some ⟨oc, od, .func (fnOf name qual params body scope dV kV doc pm an cdv ct), osl⟩) (h' : o = some ⟨oc', od', .func (fnOf name' qual' params' body' scope' dV' kV' doc' pm' an' cdv' ct'), osl'⟩) : body = body' ∧ qual = qual' ∧ scope = scope' ∧ cdv = cdv' := by
  cases h.symm.trans h'
  exact ⟨rfl, rfl, rfl, rfl⟩
/-- a statement's ways brought together behind it -/
theorem execs_join {M : Model} {A : Around} {env : Env} {st : Stmt} {rest : List Stmt} {Q : Flow → Shared → Prop} {E : Value → Shared → Prop} {s : Shared} (J : Shared → Prop) (h2 : ∀ s', J s' → wpAny M A (execs rest env) Q E s')
    (h1 : ∀ JJ, JJ = J → wpAny M A (exec st env) (fun f s' => match f with | .next => JJ s' | f => Q f s') E s) : wpAny M A (execs (st :: rest) env) Q E s :=
  wpAny_execs_cons (wpAny_mono (h1 J rfl) (fun f s' h => by cases f <;> first | exact h2 _ h | exact h) fun _ _ e => e)
theorem ex_0_2 {p0 p1 G : Prop} (h : p0 ∧ p1) (k : p0 → p1 → G) : G := k (h.1) (h.2)
theorem ex_0_3 {p0 p1 p2 G : Prop} (h : p0 ∧ p1 ∧ p2) (k : p0 → p1 → p2 → G) : G := k (h.1) (h.2.1) (h.2.2)
theorem ex_0_6 {p0 p1 p2 p3 p4 p5 G : Prop} (h : p0 ∧ p1 ∧ p2 ∧ p3 ∧ p4 ∧ p5) (k : p0 → p1 → p2 → p3 → p4 → p5 → G) : G := k (h.1) (h.2.1) (h.2.2.1) (h.2.2.2.1) (h.2.2.2.2.1) (h.2.2.2.2.2)
theorem ex_0_15 {p0 p1 p2 p3 p4 p5 p6 p7 p8 p9 p10 p11 p12 p13 p14 G : Prop} (h : p0 ∧ p1 ∧ p2 ∧ p3 ∧ p4 ∧ p5 ∧ p6 ∧ p7 ∧ p8 ∧ p9 ∧ p10 ∧ p11 ∧ p12 ∧ p13 ∧ p14) (k : p0 → p1 → p2 → p3 → p4 → p5 → p6 → p7 → p8 → p9 → p10 → p11 → p12 → p13 → p14 → G) : G := k (h.1) (h.2.1) (h.2.2.1) (h.2.2.2.1) (h.2.2.2.2.1) (h.2.2.2.2.2.1) (h.2.2.2.2.2.2.1) (h.2.2.2.2.2.2.2.1) (h.2.2.2.2.2.2.2.2.1) (h.2.2.2.2.2.2.2.2.2.1) (h.2.2.2.2.2.2.2.2.2.2.1) (h.2.2.2.2.2.2.2.2.2.2.2.1) (h.2.2.2.2.2.2.2.2.2.2.2.2.1) (h.2.2.2.2.2.2.2.2.2.2.2.2.2.1) (h.2.2.2.2.2.2.2.2.2.2.2.2.2.2)
theorem ex_1_1 {α0 : Sort _} {p0 : α0 → Prop} {G : Prop} (h : ∃ a0, p0 a0) (k : ∀ a0, p0 a0 → G) : G := h.elim fun a0 h => k a0 (h)
theorem ex_1_2 {α0 : Sort _} {p0 p1 : α0 → Prop} {G : Prop} (h : ∃ a0, p0 a0 ∧ p1 a0) (k : ∀ a0, p0 a0 → p1 a0 → G) : G := h.elim fun a0 h => k a0 (h.1) (h.2)
theorem ex_1_4 {α0 : Sort _} {p0 p1 p2 p3 : α0 → Prop} {G : Prop} (h : ∃ a0, p0 a0 ∧ p1 a0 ∧ p2 a0 ∧ p3 a0) (k : ∀ a0, p0 a0 → p1 a0 → p2 a0 → p3 a0 → G) : G := h.elim fun a0 h => k a0 (h.1) (h.2.1) (h.2.2.1) (h.2.2.2)
theorem ex_1_5 {α0 : Sort _} {p0 p1 p2 p3 p4 : α0 → Prop} {G : Prop} (h : ∃ a0, p0 a0 ∧ p1 a0 ∧ p2 a0 ∧ p3 a0 ∧ p4 a0) (k : ∀ a0, p0 a0 → p1 a0 → p2 a0 → p3 a0 → p4 a0 → G) : G := h.elim fun a0 h => k a0 (h.1) (h.2.1) (h.2.2.1) (h.2.2.2.1) (h.2.2.2.2)
theorem ex_1_6 {α0 : Sort _} {p0 p1 p2 p3 p4 p5 : α0 → Prop} {G : Prop} (h : ∃ a0, p0 a0 ∧ p1 a0 ∧ p2 a0 ∧ p3 a0 ∧ p4 a0 ∧ p5 a0) (k : ∀ a0, p0 a0 → p1 a0 → p2 a0 → p3 a0 → p4 a0 → p5 a0 → G) : G := h.elim fun a0 h => k a0 (h.1) (h.2.1) (h.2.2.1) (h.2.2.2.1) (h.2.2.2.2.1) (h.2.2.2.2.2)
theorem ex_2_3 {α0 α1 : Sort _} {p0 p1 p2 : α0 → α1 → Prop} {G : Prop} (h : ∃ a0 a1, p0 a0 a1 ∧ p1 a0 a1 ∧ p2 a0 a1) (k : ∀ a0 a1, p0 a0 a1 → p1 a0 a1 → p2 a0 a1 → G) : G := h.elim fun a0 h => h.elim fun a1 h => k a0 a1 (h.1) (h.2.1) (h.2.2)
theorem ex_2_4 {α0 α1 : Sort _} {p0 p1 p2 p3 : α0 → α1 → Prop} {G : Prop} (h : ∃ a0 a1, p0 a0 a1 ∧ p1 a0 a1 ∧ p2 a0 a1 ∧ p3 a0 a1) (k : ∀ a0 a1, p0 a0 a1 → p1 a0 a1 → p2 a0 a1 → p3 a0 a1 → G) : G := h.elim fun a0 h => h.elim fun a1 h => k a0 a1 (h.1) (h.2.1) (h.2.2.1) (h.2.2.2)
theorem ex_2_12 {α0 α1 : Sort _} {p0 p1 p2 p3 p4 p5 p6 p7 p8 p9 p10 p11 : α0 → α1 → Prop} {G : Prop} (h : ∃ a0 a1, p0 a0 a1 ∧ p1 a0 a1 ∧ p2 a0 a1 ∧ p3 a0 a1 ∧ p4 a0 a1 ∧ p5 a0 a1 ∧ p6 a0 a1 ∧ p7 a0 a1 ∧ p8 a0 a1 ∧ p9 a0 a1 ∧ p10 a0 a1 ∧ p11 a0 a1) (k : ∀ a0 a1, p0 a0 a1 → p1 a0 a1 → p2 a0 a1 → p3 a0 a1 → p4 a0 a1 → p5 a0 a1 → p6 a0 a1 → p7 a0 a1 → p8 a0 a1 → p9 a0 a1 → p10 a0 a1 → p11 a0 a1 → G) : G := h.elim fun a0 h => h.elim fun a1 h => k a0 a1 (h.1) (h.2.1) (h.2.2.1) (h.2.2.2.1) (h.2.2.2.2.1) (h.2.2.2.2.2.1) (h.2.2.2.2.2.2.1) (h.2.2.2.2.2.2.2.1) (h.2.2.2.2.2.2.2.2.1) (h.2.2.2.2.2.2.2.2.2.1) (h.2.2.2.2.2.2.2.2.2.2.1) (h.2.2.2.2.2.2.2.2.2.2.2)
theorem ex_3_3 {α0 α1 α2 : Sort _} {p0 p1 p2 : α0 → α1 → α2 → Prop} {G : Prop} (h : ∃ a0 a1 a2, p0 a0 a1 a2 ∧ p1 a0 a1 a2 ∧ p2 a0 a1 a2) (k : ∀ a0 a1 a2, p0 a0 a1 a2 → p1 a0 a1 a2 → p2 a0 a1 a2 → G) : G := h.elim fun a0 h => h.elim fun a1 h => h.elim fun a2 h => k a0 a1 a2 (h.1) (h.2.1) (h.2.2)
theorem ex_3_5 {α0 α1 α2 : Sort _} {p0 p1 p2 p3 p4 : α0 → α1 → α2 → Prop} {G : Prop} (h : ∃ a0 a1 a2, p0 a0 a1 a2 ∧ p1 a0 a1 a2 ∧ p2 a0 a1 a2 ∧ p3 a0 a1 a2 ∧ p4 a0 a1 a2) (k : ∀ a0 a1 a2, p0 a0 a1 a2 → p1 a0 a1 a2 → p2 a0 a1 a2 → p3 a0 a1 a2 → p4 a0 a1 a2 → G) : G := h.elim fun a0 h => h.elim fun a1 h => h.elim fun a2 h => k a0 a1 a2 (h.1) (h.2.1) (h.2.2.1) (h.2.2.2.1) (h.2.2.2.2)
theorem ex_5_12 {α0 α1 α2 α3 α4 : Sort _} {p0 p1 p2 p3 p4 p5 p6 p7 p8 p9 p10 p11 : α0 → α1 → α2 → α3 → α4 → Prop} {G : Prop} (h : ∃ a0 a1 a2 a3 a4, p0 a0 a1 a2 a3 a4 ∧ p1 a0 a1 a2 a3 a4 ∧ p2 a0 a1 a2 a3 a4 ∧ p3 a0 a1 a2 a3 a4 ∧ p4 a0 a1 a2 a3 a4 ∧ p5 a0 a1 a2 a3 a4 ∧ p6 a0 a1 a2 a3 a4 ∧ p7 a0 a1 a2 a3 a4 ∧ p8 a0 a1 a2 a3 a4 ∧ p9 a0 a1 a2 a3 a4 ∧ p10 a0 a1 a2 a3 a4 ∧ p11 a0 a1 a2 a3 a4) (k : ∀ a0 a1 a2 a3 a4, p0 a0 a1 a2 a3 a4 → p1 a0 a1 a2 a3 a4 → p2 a0 a1 a2 a3 a4 → p3 a0 a1 a2 a3 a4 → p4 a0 a1 a2 a3 a4 → p5 a0 a1 a2 a3 a4 → p6 a0 a1 a2 a3 a4 → p7 a0 a1 a2 a3 a4 → p8 a0 a1 a2 a3 a4 → p9 a0 a1 a2 a3 a4 → p10 a0 a1 a2 a3 a4 → p11 a0 a1 a2 a3 a4 → G) : G := h.elim fun a0 h => h.elim fun a1 h => h.elim fun a2 h => h.elim fun a3 h => h.elim fun a4 h => k a0 a1 a2 a3 a4 (h.1) (h.2.1) (h.2.2.1) (h.2.2.2.1) (h.2.2.2.2.1) (h.2.2.2.2.2.1) (h.2.2.2.2.2.2.1) (h.2.2.2.2.2.2.2.1) (h.2.2.2.2.2.2.2.2.1) (h.2.2.2.2.2.2.2.2.2.1) (h.2.2.2.2.2.2.2.2.2.2.1) (h.2.2.2.2.2.2.2.2.2.2.2)
theorem ex_6_6 {α0 α1 α2 α3 α4 α5 : Sort _} {p0 p1 p2 p3 p4 p5 : α0 → α1 → α2 → α3 → α4 → α5 → Prop} {G : Prop} (h : ∃ a0 a1 a2 a3 a4 a5, p0 a0 a1 a2 a3 a4 a5 ∧ p1 a0 a1 a2 a3 a4 a5 ∧ p2 a0 a1 a2 a3 a4 a5 ∧ p3 a0 a1 a2 a3 a4 a5 ∧ p4 a0 a1 a2 a3 a4 a5 ∧ p5 a0 a1 a2 a3 a4 a5) (k : ∀ a0 a1 a2 a3 a4 a5, p0 a0 a1 a2 a3 a4 a5 → p1 a0 a1 a2 a3 a4 a5 → p2 a0 a1 a2 a3 a4 a5 → p3 a0 a1 a2 a3 a4 a5 → p4 a0 a1 a2 a3 a4 a5 → p5 a0 a1 a2 a3 a4 a5 → G) : G := h.elim fun a0 h => h.elim fun a1 h => h.elim fun a2 h => h.elim fun a3 h => h.elim fun a4 h => h.elim fun a5 h => k a0 a1 a2 a3 a4 a5 (h.1) (h.2.1) (h.2.2.1) (h.2.2.2.1) (h.2.2.2.2.1) (h.2.2.2.2.2)
theorem ex_6_8 {α0 α1 α2 α3 α4 α5 : Sort _} {p0 p1 p2 p3 p4 p5 p6 p7 : α0 → α1 → α2 → α3 → α4 → α5 → Prop} {G : Prop} (h : ∃ a0 a1 a2 a3 a4 a5, p0 a0 a1 a2 a3 a4 a5 ∧ p1 a0 a1 a2 a3 a4 a5 ∧ p2 a0 a1 a2 a3 a4 a5 ∧ p3 a0 a1 a2 a3 a4 a5 ∧ p4 a0 a1 a2 a3 a4 a5 ∧ p5 a0 a1 a2 a3 a4 a5 ∧ p6 a0 a1 a2 a3 a4 a5 ∧ p7 a0 a1 a2 a3 a4 a5) (k : ∀ a0 a1 a2 a3 a4 a5, p0 a0 a1 a2 a3 a4 a5 → p1 a0 a1 a2 a3 a4 a5 → p2 a0 a1 a2 a3 a4 a5 → p3 a0 a1 a2 a3 a4 a5 → p4 a0 a1 a2 a3 a4 a5 → p5 a0 a1 a2 a3 a4 a5 → p6 a0 a1 a2 a3 a4 a5 → p7 a0 a1 a2 a3 a4 a5 → G) : G := h.elim fun a0 h => h.elim fun a1 h => h.elim fun a2 h => h.elim fun a3 h => h.elim fun a4 h => h.elim fun a5 h => k a0 a1 a2 a3 a4 a5 (h.1) (h.2.1) (h.2.2.1) (h.2.2.2.1) (h.2.2.2.2.1) (h.2.2.2.2.2.1) (h.2.2.2.2.2.2.1) (h.2.2.2.2.2.2.2)
theorem ex_6_11 {α0 α1 α2 α3 α4 α5 : Sort _} {p0 p1 p2 p3 p4 p5 p6 p7 p8 p9 p10 : α0 → α1 → α2 → α3 → α4 → α5 → Prop} {G : Prop} (h : ∃ a0 a1 a2 a3 a4 a5, p0 a0 a1 a2 a3 a4 a5 ∧ p1 a0 a1 a2 a3 a4 a5 ∧ p2 a0 a1 a2 a3 a4 a5 ∧ p3 a0 a1 a2 a3 a4 a5 ∧ p4 a0 a1 a2 a3 a4 a5 ∧ p5 a0 a1 a2 a3 a4 a5 ∧ p6 a0 a1 a2 a3 a4 a5 ∧ p7 a0 a1 a2 a3 a4 a5 ∧ p8 a0 a1 a2 a3 a4 a5 ∧ p9 a0 a1 a2 a3 a4 a5 ∧ p10 a0 a1 a2 a3 a4 a5) (k : ∀ a0 a1 a2 a3 a4 a5, p0 a0 a1 a2 a3 a4 a5 → p1 a0 a1 a2 a3 a4 a5 → p2 a0 a1 a2 a3 a4 a5 → p3 a0 a1 a2 a3 a4 a5 → p4 a0 a1 a2 a3 a4 a5 → p5 a0 a1 a2 a3 a4 a5 → p6 a0 a1 a2 a3 a4 a5 → p7 a0 a1 a2 a3 a4 a5 → p8 a0 a1 a2 a3 a4 a5 → p9 a0 a1 a2 a3 a4 a5 → p10 a0 a1 a2 a3 a4 a5 → G) : G := h.elim fun a0 h => h.elim fun a1 h => h.elim fun a2 h => h.elim fun a3 h => h.elim fun a4 h => h.elim fun a5 h => k a0 a1 a2 a3 a4 a5 (h.1) (h.2.1) (h.2.2.1) (h.2.2.2.1) (h.2.2.2.2.1) (h.2.2.2.2.2.1) (h.2.2.2.2.2.2.1) (h.2.2.2.2.2.2.2.1) (h.2.2.2.2.2.2.2.2.1) (h.2.2.2.2.2.2.2.2.2.1) (h.2.2.2.2.2.2.2.2.2.2)
theorem ex_7_6 {α0 α1 α2 α3 α4 α5 α6 : Sort _} {p0 p1 p2 p3 p4 p5 : α0 → α1 → α2 → α3 → α4 → α5 → α6 → Prop} {G : Prop} (h : ∃ a0 a1 a2 a3 a4 a5 a6, p0 a0 a1 a2 a3 a4 a5 a6 ∧ p1 a0 a1 a2 a3 a4 a5 a6 ∧ p2 a0 a1 a2 a3 a4 a5 a6 ∧ p3 a0 a1 a2 a3 a4 a5 a6 ∧ p4 a0 a1 a2 a3 a4 a5 a6 ∧ p5 a0 a1 a2 a3 a4 a5 a6) (k : ∀ a0 a1 a2 a3 a4 a5 a6, p0 a0 a1 a2 a3 a4 a5 a6 → p1 a0 a1 a2 a3 a4 a5 a6 → p2 a0 a1 a2 a3 a4 a5 a6 → p3 a0 a1 a2 a3 a4 a5 a6 → p4 a0 a1 a2 a3 a4 a5 a6 → p5 a0 a1 a2 a3 a4 a5 a6 → G) : G := h.elim fun a0 h => h.elim fun a1 h => h.elim fun a2 h => h.elim fun a3 h => h.elim fun a4 h => h.elim fun a5 h => h.elim fun a6 h => k a0 a1 a2 a3 a4 a5 a6 (h.1) (h.2.1) (h.2.2.1) (h.2.2.2.1) (h.2.2.2.2.1) (h.2.2.2.2.2)
theorem ex_7_7 {α0 α1 α2 α3 α4 α5 α6 : Sort _} {p0 p1 p2 p3 p4 p5 p6 : α0 → α1 → α2 → α3 → α4 → α5 → α6 → Prop} {G : Prop} (h : ∃ a0 a1 a2 a3 a4 a5 a6, p0 a0 a1 a2 a3 a4 a5 a6 ∧ p1 a0 a1 a2 a3 a4 a5 a6 ∧ p2 a0 a1 a2 a3 a4 a5 a6 ∧ p3 a0 a1 a2 a3 a4 a5 a6 ∧ p4 a0 a1 a2 a3 a4 a5 a6 ∧ p5 a0 a1 a2 a3 a4 a5 a6 ∧ p6 a0 a1 a2 a3 a4 a5 a6) (k : ∀ a0 a1 a2 a3 a4 a5 a6, p0 a0 a1 a2 a3 a4 a5 a6 → p1 a0 a1 a2 a3 a4 a5 a6 → p2 a0 a1 a2 a3 a4 a5 a6 → p3 a0 a1 a2 a3 a4 a5 a6 → p4 a0 a1 a2 a3 a4 a5 a6 → p5 a0 a1 a2 a3 a4 a5 a6 → p6 a0 a1 a2 a3 a4 a5 a6 → G) : G := h.elim fun a0 h => h.elim fun a1 h => h.elim fun a2 h => h.elim fun a3 h => h.elim fun a4 h => h.elim fun a5 h => h.elim fun a6 h => k a0 a1 a2 a3 a4 a5 a6 (h.1) (h.2.1) (h.2.2.1) (h.2.2.2.1) (h.2.2.2.2.1) (h.2.2.2.2.2.1) (h.2.2.2.2.2.2)
theorem ex_7_14 {α0 α1 α2 α3 α4 α5 α6 : Sort _} {p0 p1 p2 p3 p4 p5 p6 p7 p8 p9 p10 p11 p12 p13 : α0 → α1 → α2 → α3 → α4 → α5 → α6 → Prop} {G : Prop} (h : ∃ a0 a1 a2 a3 a4 a5 a6, p0 a0 a1 a2 a3 a4 a5 a6 ∧ p1 a0 a1 a2 a3 a4 a5 a6 ∧ p2 a0 a1 a2 a3 a4 a5 a6 ∧ p3 a0 a1 a2 a3 a4 a5 a6 ∧ p4 a0 a1 a2 a3 a4 a5 a6 ∧ p5 a0 a1 a2 a3 a4 a5 a6 ∧ p6 a0 a1 a2 a3 a4 a5 a6 ∧ p7 a0 a1 a2 a3 a4 a5 a6 ∧ p8 a0 a1 a2 a3 a4 a5 a6 ∧ p9 a0 a1 a2 a3 a4 a5 a6 ∧ p10 a0 a1 a2 a3 a4 a5 a6 ∧ p11 a0 a1 a2 a3 a4 a5 a6 ∧ p12 a0 a1 a2 a3 a4 a5 a6 ∧ p13 a0 a1 a2 a3 a4 a5 a6) (k : ∀ a0 a1 a2 a3 a4 a5 a6, p0 a0 a1 a2 a3 a4 a5 a6 → p1 a0 a1 a2 a3 a4 a5 a6 → p2 a0 a1 a2 a3 a4 a5 a6 → p3 a0 a1 a2 a3 a4 a5 a6 → p4 a0 a1 a2 a3 a4 a5 a6 → p5 a0 a1 a2 a3 a4 a5 a6 → p6 a0 a1 a2 a3 a4 a5 a6 → p7 a0 a1 a2 a3 a4 a5 a6 → p8 a0 a1 a2 a3 a4 a5 a6 → p9 a0 a1 a2 a3 a4 a5 a6 → p10 a0 a1 a2 a3 a4 a5 a6 → p11 a0 a1 a2 a3 a4 a5 a6 → p12 a0 a1 a2 a3 a4 a5 a6 → p13 a0 a1 a2 a3 a4 a5 a6 → G) : G := h.elim fun a0 h => h.elim fun a1 h => h.elim fun a2 h => h.elim fun a3 h => h.elim fun a4 h => h.elim fun a5 h => h.elim fun a6 h => k a0 a1 a2 a3 a4 a5 a6 (h.1) (h.2.1) (h.2.2.1) (h.2.2.2.1) (h.2.2.2.2.1) (h.2.2.2.2.2.1) (h.2.2.2.2.2.2.1) (h.2.2.2.2.2.2.2.1) (h.2.2.2.2.2.2.2.2.1) (h.2.2.2.2.2.2.2.2.2.1) (h.2.2.2.2.2.2.2.2.2.2.1) (h.2.2.2.2.2.2.2.2.2.2.2.1) (h.2.2.2.2.2.2.2.2.2.2.2.2.1) (h.2.2.2.2.2.2.2.2.2.2.2.2.2)
theorem ex_9_5 {α0 α1 α2 α3 α4 α5 α6 α7 α8 : Sort _} {p0 p1 p2 p3 p4 : α0 → α1 → α2 → α3 → α4 → α5 → α6 → α7 → α8 → Prop} {G : Prop} (h : ∃ a0 a1 a2 a3 a4 a5 a6 a7 a8, p0 a0 a1 a2 a3 a4 a5 a6 a7 a8 ∧ p1 a0 a1 a2 a3 a4 a5 a6 a7 a8 ∧ p2 a0 a1 a2 a3 a4 a5 a6 a7 a8 ∧ p3 a0 a1 a2 a3 a4 a5 a6 a7 a8 ∧ p4 a0 a1 a2 a3 a4 a5 a6 a7 a8) (k : ∀ a0 a1 a2 a3 a4 a5 a6 a7 a8, p0 a0 a1 a2 a3 a4 a5 a6 a7 a8 → p1 a0 a1 a2 a3 a4 a5 a6 a7 a8 → p2 a0 a1 a2 a3 a4 a5 a6 a7 a8 → p3 a0 a1 a2 a3 a4 a5 a6 a7 a8 → p4 a0 a1 a2 a3 a4 a5 a6 a7 a8 → G) : G := h.elim fun a0 h => h.elim fun a1 h => h.elim fun a2 h => h.elim fun a3 h => h.elim fun a4 h => h.elim fun a5 h => h.elim fun a6 h => h.elim fun a7 h => h.elim fun a8 h => k a0 a1 a2 a3 a4 a5 a6 a7 a8 (h.1) (h.2.1) (h.2.2.1) (h.2.2.2.1) (h.2.2.2.2)
theorem ex_10_6 {α0 α1 α2 α3 α4 α5 α6 α7 α8 α9 : Sort _} {p0 p1 p2 p3 p4 p5 : α0 → α1 → α2 → α3 → α4 → α5 → α6 → α7 → α8 → α9 → Prop} {G : Prop} (h : ∃ a0 a1 a2 a3 a4 a5 a6 a7 a8 a9, p0 a0 a1 a2 a3 a4 a5 a6 a7 a8 a9 ∧ p1 a0 a1 a2 a3 a4 a5 a6 a7 a8 a9 ∧ p2 a0 a1 a2 a3 a4 a5 a6 a7 a8 a9 ∧ p3 a0 a1 a2 a3 a4 a5 a6 a7 a8 a9 ∧ p4 a0 a1 a2 a3 a4 a5 a6 a7 a8 a9 ∧ p5 a0 a1 a2 a3 a4 a5 a6 a7 a8 a9) (k : ∀ a0 a1 a2 a3 a4 a5 a6 a7 a8 a9, p0 a0 a1 a2 a3 a4 a5 a6 a7 a8 a9 → p1 a0 a1 a2 a3 a4 a5 a6 a7 a8 a9 → p2 a0 a1 a2 a3 a4 a5 a6 a7 a8 a9 → p3 a0 a1 a2 a3 a4 a5 a6 a7 a8 a9 → p4 a0 a1 a2 a3 a4 a5 a6 a7 a8 a9 → p5 a0 a1 a2 a3 a4 a5 a6 a7 a8 a9 → G) : G := h.elim fun a0 h => h.elim fun a1 h => h.elim fun a2 h => h.elim fun a3 h => h.elim fun a4 h => h.elim fun a5 h => h.elim fun a6 h => h.elim fun a7 h => h.elim fun a8 h => h.elim fun a9 h => k a0 a1 a2 a3 a4 a5 a6 a7 a8 a9 (h.1) (h.2.1) (h.2.2.1) (h.2.2.2.1) (h.2.2.2.2.1) (h.2.2.2.2.2)
theorem ex_10_11 {α0 α1 α2 α3 α4 α5 α6 α7 α8 α9 : Sort _} {p0 p1 p2 p3 p4 p5 p6 p7 p8 p9 p10 : α0 → α1 → α2 → α3 → α4 → α5 → α6 → α7 → α8 → α9 → Prop} {G : Prop} (h : ∃ a0 a1 a2 a3 a4 a5 a6 a7 a8 a9, p0 a0 a1 a2 a3 a4 a5 a6 a7 a8 a9 ∧ p1 a0 a1 a2 a3 a4 a5 a6 a7 a8 a9 ∧ p2 a0 a1 a2 a3 a4 a5 a6 a7 a8 a9 ∧ p3 a0 a1 a2 a3 a4 a5 a6 a7 a8 a9 ∧ p4 a0 a1 a2 a3 a4 a5 a6 a7 a8 a9 ∧ p5 a0 a1 a2 a3 a4 a5 a6 a7 a8 a9 ∧ p6 a0 a1 a2 a3 a4 a5 a6 a7 a8 a9 ∧ p7 a0 a1 a2 a3 a4 a5 a6 a7 a8 a9 ∧ p8 a0 a1 a2 a3 a4 a5 a6 a7 a8 a9 ∧ p9 a0 a1 a2 a3 a4 a5 a6 a7 a8 a9 ∧ p10 a0 a1 a2 a3 a4 a5 a6 a7 a8 a9) (k : ∀ a0 a1 a2 a3 a4 a5 a6 a7 a8 a9, p0 a0 a1 a2 a3 a4 a5 a6 a7 a8 a9 → p1 a0 a1 a2 a3 a4 a5 a6 a7 a8 a9 → p2 a0 a1 a2 a3 a4 a5 a6 a7 a8 a9 → p3 a0 a1 a2 a3 a4 a5 a6 a7 a8 a9 → p4 a0 a1 a2 a3 a4 a5 a6 a7 a8 a9 → p5 a0 a1 a2 a3 a4 a5 a6 a7 a8 a9 → p6 a0 a1 a2 a3 a4 a5 a6 a7 a8 a9 → p7 a0 a1 a2 a3 a4 a5 a6 a7 a8 a9 → p8 a0 a1 a2 a3 a4 a5 a6 a7 a8 a9 → p9 a0 a1 a2 a3 a4 a5 a6 a7 a8 a9 → p10 a0 a1 a2 a3 a4 a5 a6 a7 a8 a9 → G) : G := h.elim fun a0 h => h.elim fun a1 h => h.elim fun a2 h => h.elim fun a3 h => h.elim fun a4 h => h.elim fun a5 h => h.elim fun a6 h => h.elim fun a7 h => h.elim fun a8 h => h.elim fun a9 h => k a0 a1 a2 a3 a4 a5 a6 a7 a8 a9 (h.1) (h.2.1) (h.2.2.1) (h.2.2.2.1) (h.2.2.2.2.1) (h.2.2.2.2.2.1) (h.2.2.2.2.2.2.1) (h.2.2.2.2.2.2.2.1) (h.2.2.2.2.2.2.2.2.1) (h.2.2.2.2.2.2.2.2.2.1) (h.2.2.2.2.2.2.2.2.2.2)
theorem ex_14_4 {α0 α1 α2 α3 α4 α5 α6 α7 α8 α9 α10 α11 α12 α13 : Sort _} {p0 p1 p2 p3 : α0 → α1 → α2 → α3 → α4 → α5 → α6 → α7 → α8 → α9 → α10 → α11 → α12 → α13 → Prop} {G : Prop} (h : ∃ a0 a1 a2 a3 a4 a5 a6 a7 a8 a9 a10 a11 a12 a13, p0 a0 a1 a2 a3 a4 a5 a6 a7 a8 a9 a10 a11 a12 a13 ∧ p1 a0 a1 a2 a3 a4 a5 a6 a7 a8 a9 a10 a11 a12 a13 ∧ p2 a0 a1 a2 a3 a4 a5 a6 a7 a8 a9 a10 a11 a12 a13 ∧ p3 a0 a1 a2 a3 a4 a5 a6 a7 a8 a9 a10 a11 a12 a13) (k : ∀ a0 a1 a2 a3 a4 a5 a6 a7 a8 a9 a10 a11 a12 a13, p0 a0 a1 a2 a3 a4 a5 a6 a7 a8 a9 a10 a11 a12 a13 → p1 a0 a1 a2 a3 a4 a5 a6 a7 a8 a9 a10 a11 a12 a13 → p2 a0 a1 a2 a3 a4 a5 a6 a7 a8 a9 a10 a11 a12 a13 → p3 a0 a1 a2 a3 a4 a5 a6 a7 a8 a9 a10 a11 a12 a13 → G) : G := h.elim fun a0 h => h.elim fun a1 h => h.elim fun a2 h => h.elim fun a3 h => h.elim fun a4 h => h.elim fun a5 h => h.elim fun a6 h => h.elim fun a7 h => h.elim fun a8 h => h.elim fun a9 h => h.elim fun a10 h => h.elim fun a11 h => h.elim fun a12 h => h.elim fun a13 h => k a0 a1 a2 a3 a4 a5 a6 a7 a8 a9 a10 a11 a12 a13 (h.1) (h.2.1) (h.2.2.1) (h.2.2.2)
theorem gen_toks {α : Type} {M : Model} {A : Around} {t : Sem α} {Q : α → Shared → Prop} {E : Value → Shared → Prop} {heap gens drawn toks os} (hpos : 0 < toks) (h : ∀ tk : Nat, 0 < tk → wpAny M A t Q E ⟨heap, gens, drawn, tk, os⟩) :
    wpAny M A t Q E ⟨heap, gens, drawn, toks, os⟩ := h toks hpos
theorem own_dis {own E : Ledger} {adr : List Addr} (h : OwnOff own adr) (hs : ∀ r ∈ E, r.1 ∈ adr) : ∀ q ∈ own, ∀ r ∈ E, r.1 ≠ q.1 := fun q hq r hr => (h q hq r.1 (hs r hr)).symm
theorem truthy_meth {prog : Program} {w : World} {A : Around} {E : Value → Shared → Prop} {s : Shared} {q : Addr} {f self : Value} {h₀ : Heap} {L : Addr} {news : Ledger} {Q : Bool → Shared → Prop} (N : News h₀ L s.heap news) (hq : (q, methodObj f self) ∈ news) (h : Q true s) :
    wpAny (model prog w) A (truthy (.ref q)) Q E s := by
  have hT : s.TypeIs (.ref q) "method" := ⟨_, (N _ hq).1, rfl⟩
  unfold truthy
  refine wpAny_bind (wpAny_callSpecial?_none (name := Str.ofString "__bool__") hT (by rw [typeLookup_type, builtinLookup_eq_fast]; kernel_rfl) ?_)
  refine wpAny_bind (wpAny_specialOf (r := none) hT (by rw [typeLookup_type, builtinLookup_eq_fast]; kernel_rfl) ?_)
  exact wpAny_pure h
section
theorem news_app {h₀ h : Heap} {L : Addr} {a b : Ledger} (A : News h₀ L h a) (B : News h₀ L h b) : News h₀ L h (a ++ b) := fun p hp => (List.mem_append.mp hp).elim (A p) (B p)
section
variable {prog : Program} {w : World} {A : Around} {E : Value → Shared → Prop} {s : Shared} {h₀ : Heap} {L fa : Addr} {m : Str → Option Value} {cn : Str} {cs : Scope} {ccd : Value}
/-- a chain of two comparisons of a name that holds an int with two written ones, as one value -/
theorem chain_ll {x : Str} {a b n : Int} {t : Tok} {k k' : Nat} {p1 p2 p3 pos : Pos} {Q : Value → Shared → Prop} (F : Fr h₀ L s.heap m) (hv : m x = some (.int n t)) (hQ : ∀ tk, Q (.bool (decide (a ≤ n ∧ n ≤ b))) { s with toks := tk })
    (hk : cs.kind = .function := by rfl) (hl : (envOf cn cs L fa ccd).kindOf x = some .local := by rfl) (hd : (x == ("__debug__" : Str)) = false := by decide) :
    wpAny (model prog w) A (eval (.Compare (.Constant (.int a) k p1) [.LtE, .LtE] [.Name x p2, .Constant (.int b) k' p3] pos) (envOf cn cs L fa ccd)) Q E s := by
  refine Compare_chain (wpAny_Constant_int (chain_link (ld (s := { s with toks := s.toks + 1 }) F hv ?_ hk hl hd))) (by with_unfolding_all rfl)
  refine le_int (wpAny_truthy_bool ?_)
  by_cases h : a ≤ n
  · rw [if_pos (by simpa using h)]
    refine chain_last (wpAny_Constant_int (le_int ?_))
    have := hQ (s.toks + 1 + 1)
    simpa [h] using this
  · rw [if_neg (by simpa using h)]
    have := hQ (s.toks + 1)
    simpa [h] using this
theorem chain_tt {x : Str} {a b n : Int} {t : Tok} {k k' : Nat} {p1 p2 p3 pos : Pos} {Q : Value → Shared → Prop} (F : Fr h₀ L s.heap m) (hv : m x = some (.int n t)) (hQ : ∀ tk, Q (.bool (decide (a < n ∧ n < b))) { s with toks := tk })
    (hk : cs.kind = .function := by rfl) (hl : (envOf cn cs L fa ccd).kindOf x = some .local := by rfl) (hd : (x == ("__debug__" : Str)) = false := by decide) :
    wpAny (model prog w) A (eval (.Compare (.Constant (.int a) k p1) [.Lt, .Lt] [.Name x p2, .Constant (.int b) k' p3] pos) (envOf cn cs L fa ccd)) Q E s := by
  refine Compare_chain (wpAny_Constant_int (chain_link (ld (s := { s with toks := s.toks + 1 }) F hv ?_ hk hl hd))) (by with_unfolding_all rfl)
  refine lt_int (wpAny_truthy_bool ?_)
  by_cases h : a < n
  · rw [if_pos (by simpa using h)]
    refine chain_last (wpAny_Constant_int (lt_int ?_))
    have := hQ (s.toks + 1 + 1)
    simpa [h] using this
  · rw [if_neg (by simpa using h)]
    have := hQ (s.toks + 1)
    simpa [h] using this
theorem chain_lt {x : Str} {a b n : Int} {t : Tok} {k k' : Nat} {p1 p2 p3 pos : Pos} {Q : Value → Shared → Prop} (F : Fr h₀ L s.heap m) (hv : m x = some (.int n t)) (hQ : ∀ tk, Q (.bool (decide (a ≤ n ∧ n < b))) { s with toks := tk })
    (hk : cs.kind = .function := by rfl) (hl : (envOf cn cs L fa ccd).kindOf x = some .local := by rfl) (hd : (x == ("__debug__" : Str)) = false := by decide) :
    wpAny (model prog w) A (eval (.Compare (.Constant (.int a) k p1) [.LtE, .Lt] [.Name x p2, .Constant (.int b) k' p3] pos) (envOf cn cs L fa ccd)) Q E s := by
  refine Compare_chain (wpAny_Constant_int (chain_link (ld (s := { s with toks := s.toks + 1 }) F hv ?_ hk hl hd))) (by with_unfolding_all rfl)
  refine le_int (wpAny_truthy_bool ?_)
  by_cases h : a ≤ n
  · rw [if_pos (by simpa using h)]
    refine chain_last (wpAny_Constant_int (lt_int ?_))
    have := hQ (s.toks + 1 + 1)
    simpa [h] using this
  · rw [if_neg (by simpa using h)]
    have := hQ (s.toks + 1)
    simpa [h] using this
theorem isTrue_ll {whole : Sem Value} {x : Str} {a b n : Int} {t : Tok} {k k' : Nat} {p1 p2 p3 pos : Pos} {Q : Bool → Shared → Prop} (F : Fr h₀ L s.heap m) (hv : m x = some (.int n t)) (hQ : ∀ tk, Q (decide (a ≤ n ∧ n ≤ b)) { s with toks := tk })
    (hk : cs.kind = .function := by rfl) (hl : (envOf cn cs L fa ccd).kindOf x = some .local := by rfl) (hd : (x == ("__debug__" : Str)) = false := by decide) :
    wpAny (model prog w) A (isTrue (.Compare (.Constant (.int a) k p1) [.LtE, .LtE] [.Name x p2, .Constant (.int b) k' p3] pos) (envOf cn cs L fa ccd) whole) Q E s := by
  refine isTrue_chain (wpAny_Constant_int (test_link (ld (s := { s with toks := s.toks + 1 }) F hv ?_ hk hl hd))) (by with_unfolding_all rfl)
  refine le_int (wpAny_truthy_bool ?_)
  by_cases h : a ≤ n
  · rw [if_pos (by simpa using h)]
    refine test_last (wpAny_Constant_int (le_int (wpAny_truthy_bool ?_)))
    have := hQ (s.toks + 1 + 1)
    simpa [h] using this
  · rw [if_neg (by simpa using h)]
    have := hQ (s.toks + 1)
    simpa [h] using this
end
local macro_rules | `(tactic| k_room) => `(tactic| ((simp only [depth_under_make, depth_under_kw, depth_in1, depth_deeper, depth_caller]); (try dsimp only [ktrTop]); omega))
local macro_rules | `(tactic| walk_at "MY steps") => `(tactic| repeat' (first | (k_unfold; (try dsimp only)) | walk1 | (dsimp only; walk1) | (k_end; dsimp only; k_unfold; (try dsimp only)) | (leave1; (try dsimp only)) | fail "no step"))
local macro_rules | `(tactic| walk_at "eval Compare") => `(tactic| (k_here; k_dflt (first
  | (refine' chain_ll ?F ?v ?_ ?k ?l; (case F => k_asm); (case v => rfl); (case k => rfl); (case l => rfl); k_whole; intro tk'; (try dsimp only))
  | (refine' chain_tt ?F ?v ?_ ?k ?l; (case F => k_asm); (case v => rfl); (case k => rfl); (case l => rfl); k_whole; intro tk'; (try dsimp only))
  | (refine' chain_lt ?F ?v ?_ ?k ?l; (case F => k_asm); (case v => rfl); (case k => rfl); (case l => rfl); k_whole; intro tk'; (try dsimp only)))))
local macro_rules | `(tactic| walk_at "compareOp In int ref") => `(tactic| (k_here; k_dflt (refine' in_tuple_ints ?T ?I ?_; (case T => exact News.isTup (by k_asm) (by k_mem)); (case I => exact IntsAre.cons _ _ (IntsAre.cons _ _ IntsAre.nil)); k_whole; (simp only [List.any_cons, List.any_nil, Bool.or_false]))))
local macro_rules | `(tactic| walk_at "ite") => `(tactic| ((with_reducible show (if ((_ == _) || (_ == _)) = true then _ else _)); refine split_bool ?_ ?_ <;> intro hb'))
def bad (n : Int) : Bool := decide (1 ≤ n ∧ n ≤ 8) || n == 11 || decide (14 ≤ n ∧ n ≤ 31) || decide (127 ≤ n ∧ n ≤ 159) || decide (64976 ≤ n ∧ n ≤ 65007) || (n.fmod 65536 == 65534 || n.fmod 65536 == 65535) || decide (55296 ≤ n ∧ n ≤ 57343)

set_option maxRecDepth 100000 in
set_option maxHeartbeats 1000000 in
theorem does_inval (w : World) (n : Int) (tk : Nat) : Does w 1 (.ref 56) [.int n tk] [] (fun v E' => v = .bool (bad n) ∧ E' = []) := by
  unfold Does
  k_fill
  intro dp un gd cn cs a ccd cl outer A₀ base h₀ L m s R loose mean mg mb rest B F KX N T hdis hk hroom hun hret
  refine' enterR (binds := [(Str.ofString "codepoint", .int n tk)]) ?k1 ?k2 ?k3 ?k4 ?k5 ?kd ?kA ?kF ?kK ?k6 ?k7 ?k8 ?k9 ?kB ?_ ?c2 ?c3 ?c4 ?c5
  (case kA => exact rfl); (case kF => exact rfl); (case kK => first | exact rfl | assumption); (case k1 => k_asm); (case k2 => k_asm); (case k3 => k_asm); (case k4 => k_asm); (case k5 => k_asm); (case kd => assumption); (case k6 => k_dflt k_is); (case k7 => k_dflt k_is); (case k8 => k_room); (case k9 => first | exact BindsTo.of_eq rfl | exact binds_K (by k_in) rfl (by k_is) rfl rfl rfl); (case c5 => decide); (case kB => exact locs rfl); (case c2 => exact rfl); (case c3 => exact rfl); (case c4 => exact rfl)
  k_whole
  intro g' L' h' FG' F' N' B' X' T' lt'
  clear N F
  (try dsimp only)
  (try k_fold)
  w_on
  w_top on
  w_strict (walk_at "MY steps")
  all_goals (
    (refine hret _ [] _ _ (by k_asm) (news_app News.nil (by k_asm)) ⟨?_, rfl⟩)
    (congr 1; unfold bad; (rw [Bool.eq_iff_iff]); (simp only [Bool.or_eq_true, Bool.or_eq_false_iff, beq_iff_eq, beq_eq_false_iff_ne, decide_eq_true_eq, ne_eq, @eq_comm Int 65534 (n.fmod 65536), @eq_comm Int 65535 (n.fmod 65536)] at *); first | (simp only [*, true_or, or_true, or_false, false_or, iff_self, and_self, not_false_eq_true, or_self]; done) | (clear hret; omega)))
end
section
open Builtin Builtin.Str
def clipI (len : Nat) (v : Option Int) (d : Int) : Int := match v with
  | none => d
  | some i => max (0 : Int) (min (if i < 0 then i + (len : Int) else i) (len : Int))
theorem indices_of (l u : Option Int) (a b len : Nat) (hab : a ≤ b)
    (h1 : clipI len l 0 = (a : Int))
    (h2 : clipI len u (len : Int) = (b : Int)) :
    strSliceIndices l u 1 len = (List.range (b - a)).map (fun k => a + k) := by
  have e1 : strSliceIndices l u 1 len = sliceRange (a : Int) (b : Int) 1 := by
    unfold strSliceIndices
    cases l <;> cases u <;> (simp only [clipI] at h1 h2; rw [← h1, ← h2]; rfl)
  rw [e1]
  unfold sliceRange
  simp only [show ((1 : Int) > 0) = True from by simp, if_true]
  by_cases hlt : (a : Int) < b
  · have e3 : (((b : Int) - a + 1 - 1) / 1).toNat = b - a := by first | omega | (simp; done) | (simp; omega)
    simp only [hlt, if_true, e3]
    refine List.map_congr_left fun k _ => ?_
    omega
  · have : b - a = 0 := by omega
    simp [hlt, this]
theorem slice_core (x : Str) (l u : Option Int) (p k : Nat) (hk : p + k ≤ x.length) (hi : strSliceIndices l u 1 x.length = (List.range k).map (fun j => p + j)) :
    (Txt.slice x l u).cps.toList = (x.cps.toList.drop p).take k := by
  have hp := StrLaws.picks x.cps.toList k p (by simpa [Str.length] using hk)
  unfold Txt.slice
  rw [hi]
  split
  · rename_i h
    simp at h
    have h0 : p = 0 := by omega
    subst h0
    rw [List.drop_zero, List.take_of_length_le]
    rw [h]; simp [Str.length]
  · simpa using hp
theorem slice_nat (x : Str) {p : Nat} (n : Nat) (hp : p ≤ x.length) : (Txt.slice x (some (p : Int)) (some ((p : Int) + (n : Int)))).cps.toList = (x.cps.toList.drop p).take n := by
  have e := slice_core x (some (p : Int)) (some ((p : Int) + (n : Int))) p (min n (x.length - p)) (by omega) (by
    have := indices_of (some (p : Int)) (some ((p : Int) + (n : Int))) p (p + min n (x.length - p)) x.length (by omega) (by simp only [clipI]; omega) (by simp only [clipI]; omega)
    rw [this]; congr 2; omega)
  rw [e]
  have : (x.cps.toList.drop p).length = x.length - p := by simp [Str.length]
  rcases Nat.le_total n (x.length - p) with h | h
  · rw [Nat.min_eq_left h]
  · rw [Nat.min_eq_right h, List.take_of_length_le (by omega), List.take_of_length_le (by omega)]
theorem slice_init (x : Str) (hx : 1 ≤ x.length) : (Txt.slice x none (some (-1))).cps.toList = x.cps.toList.dropLast := by
  have e := slice_core x none (some (-1)) 0 (x.length - 1) (by omega) (by
    have := indices_of none (some (-1)) 0 (x.length - 1) x.length (by omega) rfl (by simp only [clipI]; omega)
    rw [this]; rfl)
  rw [e, List.drop_zero, List.dropLast_eq_take]
  simp [Str.length]
theorem slice_tail (x : Str) {p : Nat} (hp : p ≤ x.length) : (Txt.slice x (some (p : Int)) none).cps.toList = x.cps.toList.drop p := by
  have e := slice_core x (some (p : Int)) none p (x.length - p) (by omega) (by
    have := indices_of (some (p : Int)) none p x.length x.length (by omega) (by simp only [clipI]; omega) rfl
    rw [this])
  rw [e, List.take_of_length_le]
  simp [Str.length]
theorem slice_range (x : Str) {p r : Nat} (hp : p ≤ r) (hr : r ≤ x.length) : (Txt.slice x (some (p : Int)) (some (r : Int))).cps.toList = (x.cps.toList.drop p).take (r - p) := by
  have e := slice_core x (some (p : Int)) (some (r : Int)) p (r - p) (by omega) (by
    exact indices_of (some (p : Int)) (some (r : Int)) p r x.length (by omega) (by simp only [clipI]; omega) (by simp only [clipI]; omega))
  exact e
end
section
open Builtin Builtin.Str
def crf (c : Nat) : Nat := if c = 13 then 10 else c
def crlf : List Nat → List Nat
  | [] => []
  | [c] => [c]
  | c :: d :: r => if c = 13 ∧ d = 10 then 10 :: crlf r else c :: crlf (d :: r)
/-- line ends mended -/
def norm (l : List Nat) : List Nat := (crlf l).map crf
def starts (l : List Nat) : Prop := ∃ r, l = 13 :: 10 :: r
theorem crlf_cons {c : Nat} {r : List Nat} (h : ¬ starts (c :: r)) : crlf (c :: r) = c :: crlf r := by
  cases r with
  | nil => rfl
  | cons d r =>
    rw [crlf, if_neg]
    rintro ⟨rfl, rfl⟩
    exact h ⟨r, rfl⟩
theorem crlf_starts (r : List Nat) : crlf (13 :: 10 :: r) = 10 :: crlf r := by
  rw [crlf]; rfl
theorem crlf_skip : ∀ (k : Nat) (l : List Nat), (∀ j, j < k → ¬ starts (l.drop j)) → crlf l = l.take k ++ crlf (l.drop k)
  | 0, l, _ => rfl
  | k + 1, [], _ => rfl
  | k + 1, c :: r, h => by
    rw [crlf_cons (h 0 (by omega)), crlf_skip k r fun j hj => h (j + 1) (by omega)]
    rfl
theorem crlf_length : ∀ l : List Nat, (crlf l).length ≤ l.length
  | [] => Nat.le_refl _
  | [_] => Nat.le_refl _
  | c :: d :: r => by
    unfold crlf
    have h1 := crlf_length r
    have h2 := crlf_length (d :: r)
    split
    · simp only [List.length_cons]; omega
    · simp only [List.length_cons] at h2 ⊢; omega
theorem norm_length (l : List Nat) : (norm l).length ≤ l.length := by
  unfold norm; rw [List.length_map]; exact crlf_length l

theorem at_starts (x : Str) (i : Nat) : StrLaws.At x ⟨#[13, 10]⟩ x.length i ↔ starts (x.cps.toList.drop i) := by
  unfold StrLaws.At
  rw [StrLaws.subAt_eq]
  show i + 2 ≤ x.length ∧ ((x.cps.toList.drop i).take 2 == [13, 10]) = true ↔ _
  have hl : (x.cps.toList.drop i).length = x.length - i := by simp [Str.length]
  constructor
  · rintro ⟨h1, h2⟩
    have h3 := eq_of_beq h2
    refine ⟨(x.cps.toList.drop i).drop 2, ?_⟩
    rw [← List.take_append_drop 2 (x.cps.toList.drop i), h3]
    simp
  · rintro ⟨r, e⟩
    have hl' := congrArg List.length e
    rw [hl] at hl'
    simp only [List.length_cons] at hl'
    refine ⟨by omega, ?_⟩
    rw [e]; rfl
theorem crlf_chain (x : Str) : ∀ (cuts : List Nat) (a f : Nat), StrLaws.ChainG x ⟨#[13, 10]⟩ x.length a cuts f → (∀ k, f ≤ k → ¬ StrLaws.At x ⟨#[13, 10]⟩ x.length k) →
    (Str.join ⟨#[10]⟩ (StrLaws.partsFrom x 2 a cuts)).cps.toList = crlf (x.cps.toList.drop a)
  | [], a, f, h, hn => by
    have e : f = a := h
    subst e
    show (strSub x f x.length).cps.toList = _
    rw [StrLaws.strSub_toList, crlf_skip (x.length - f) _ fun j _ hs => hn (f + j) (by omega) ((at_starts x _).mpr (by rwa [List.drop_drop] at hs)), List.drop_drop]
    have : x.cps.toList.drop (f + (x.length - f)) = [] := List.drop_of_length_le (by simp [Str.length]; omega)
    rw [this]
    simp [crlf]
  | c :: r, a, f, h, hn => by
    obtain ⟨h1, h2, h3, h4⟩ := h
    have ih := crlf_chain x r (c + 2) f h4 hn
    obtain ⟨p, q, hp⟩ := StrLaws.partsFrom_ne x 2 (c + 2) r
    show (Str.join ⟨#[10]⟩ (strSub x a c :: StrLaws.partsFrom x 2 (c + 2) r)).cps.toList = _
    rw [hp] at ih ⊢
    show (strSub x a c ++ ⟨#[10]⟩ ++ Str.join ⟨#[10]⟩ (p :: q)).cps.toList = _
    simp only [Str.cps_append, Array.toList_append]
    rw [ih, StrLaws.strSub_toList, crlf_skip (c - a) (x.cps.toList.drop a) fun j hj hs => h3 (a + j) (by omega) (by omega) ((at_starts x _).mpr (by rwa [List.drop_drop] at hs)), List.drop_drop,
      show a + (c - a) = c by omega]
    obtain ⟨t, ht⟩ := (at_starts x c).mp h2
    rw [ht, crlf_starts, List.append_assoc]
    congr 1
    have : x.cps.toList.drop (c + 2) = t := by rw [← List.drop_drop, ht]; rfl
    rw [this]; rfl
theorem replace_crlf (x : Str) : (Txt.replace x ⟨#[13, 10]⟩ ⟨#[10]⟩).cps.toList = crlf x.cps.toList := by
  obtain ⟨f, h1, h2⟩ := StrLaws.occ_tight x ⟨#[13, 10]⟩ (by decide)
  have key := crlf_chain x _ 0 f h1 h2
  rw [List.drop_zero] at key
  have e2 : ((⟨#[13, 10]⟩ : Str).length == 0) = false := rfl
  unfold Txt.replace
  rw [e2, Bool.false_and, Bool.or_false]
  split
  · rename_i he
    have hn : occurrences x ⟨#[13, 10]⟩ 0 x.length (x.length + 1) = [] := List.isEmpty_iff.mp he
    rw [hn] at key
    rw [← key]
    show _ = (strSub x 0 x.length).cps.toList
    rw [StrLaws.sub_whole]
  · rw [StrLaws.glued_eq_join, StrLaws.partsBetween_eq]
    exact key
theorem cr_free : ∀ l : List Nat, 13 ∉ l → l.map crf = l
  | [], _ => rfl
  | k :: r, h => by
    have h1 : ¬ k = 13 := fun e => h (e ▸ List.mem_cons_self ..)
    rw [List.map_cons, cr_free r fun m => h (List.mem_cons_of_mem _ m)]
    unfold crf
    rw [if_neg h1]
theorem cr_join : ∀ parts : List Str, (∀ p ∈ parts, 13 ∉ p.cps.toList) → (Str.join ⟨#[13]⟩ parts).cps.toList.map crf = (Str.join ⟨#[10]⟩ parts).cps.toList
  | [], _ => rfl
  | [p], h => cr_free _ (h p (List.mem_singleton.mpr rfl))
  | p :: q :: r, h => by
    have ih := cr_join (q :: r) fun a ha => h a (List.mem_cons_of_mem _ ha)
    show ((p ++ ⟨#[13]⟩ ++ Str.join ⟨#[13]⟩ (q :: r)).cps.toList).map crf = (p ++ ⟨#[10]⟩ ++ Str.join ⟨#[10]⟩ (q :: r)).cps.toList
    simp only [Str.cps_append, Array.toList_append, List.map_append]
    rw [ih, cr_free _ (h p (List.mem_cons_self ..))]
    rfl
theorem replace_cr (x : Str) : (Txt.replace x ⟨#[13]⟩ ⟨#[10]⟩).cps.toList = x.cps.toList.map crf := by
  rw [StrLaws.replace_one, ← cr_join _ (StrLaws.split_free x 13), StrLaws.join_split]
theorem replace_both (x : Str) : (Txt.replace (Txt.replace x (Str.ofString "\r\n") (Str.ofString "\n")) (Str.ofString "\r") (Str.ofString "\n")).cps.toList = norm x.cps.toList := by
  rw [show Str.ofString "\r\n" = ⟨#[13, 10]⟩ from by decide, show Str.ofString "\n" = ⟨#[10]⟩ from by decide, show Str.ofString "\r" = ⟨#[13]⟩ from by decide, replace_cr, replace_crlf]
  rfl
theorem replace_crlf_length (x : Str) : (Txt.replace x (Str.ofString "\r\n") (Str.ofString "\n")).length ≤ x.length := by
  rw [show Str.ofString "\r\n" = ⟨#[13, 10]⟩ from by decide, show Str.ofString "\n" = ⟨#[10]⟩ from by decide]
  show (Txt.replace x ⟨#[13, 10]⟩ ⟨#[10]⟩).cps.size ≤ x.cps.size
  rw [← Array.length_toList, replace_crlf, ← Array.length_toList]
  exact crlf_length _
/-- what is kept back of a piece: a last CR, not alone -/
def cut13 (l : List Nat) : List Nat × List Nat := if 1 < l.length ∧ l.getLast? = some 13 then (l.dropLast, [13]) else (l, [])
theorem item_last (x : Str) (h : 1 ≤ x.length) : ∃ c, x.cps.toList.getLast? = some c ∧ Txt.item x (-1) = ⟨#[c]⟩ := by
  have hl : x.cps.toList.length = x.length := rfl
  have hx : x.length - 1 < x.cps.size := by show _ < x.length; omega
  refine ⟨x.cps[x.length - 1], ?_, ?_⟩
  · rw [List.getLast?_eq_getElem?, hl, Array.getElem?_toList, Array.getElem?_eq_getElem hx]
  · unfold Txt.item Txt.charAt
    rw [StrLaws.at_neg (n := x.cps[x.length - 1]) (by decide) (by omega) (by
      rw [show ((-1 : Int) + (x.length : Int)).toNat = x.length - 1 by omega]
      exact Array.getElem?_eq_getElem hx)]
    rfl
theorem cut13_yes {x : Str} (h : 1 < (x.length : Int)) (h13 : ((Txt.item x (-1)).cps.getD 0 0 : Int) = 13) : cut13 x.cps.toList = (x.cps.toList.dropLast, [13]) ∧ Txt.item x (-1) = ⟨#[13]⟩ := by
  obtain ⟨c, h1, h2⟩ := item_last x (by omega)
  rw [h2] at h13
  have hc : c = 13 := by have h4 : (c : Int) = 13 := by simpa using h13
                         omega
  subst hc
  refine ⟨if_pos ⟨?_, h1⟩, h2⟩
  show 1 < x.length
  omega
theorem cut13_ne {x : Str} (h : 1 < (x.length : Int)) (h13 : ((Txt.item x (-1)).cps.getD 0 0 : Int) ≠ 13) : cut13 x.cps.toList = (x.cps.toList, []) := by
  obtain ⟨c, h1, h2⟩ := item_last x (by omega)
  rw [h2] at h13
  refine if_neg fun hc => h13 ?_
  rw [h1] at hc
  have : c = 13 := Option.some.inj hc.2
  subst this
  rfl
theorem cut13_one {x : Str} (h : ¬ 1 < (x.length : Int)) : cut13 x.cps.toList = (x.cps.toList, []) := if_neg fun hc => h (by have : 1 < x.length := hc.1; omega)
def noSur (l : List Nat) : Prop := ∀ c ∈ l, ¬ (55296 ≤ c ∧ c ≤ 57343)
theorem nosur_not {x : Str} (h : noSur x.cps.toList) (h1 : 1 ≤ x.length) : ¬ (decide (55296 ≤ ((Txt.item x (-1)).cps.getD 0 0 : Int) ∧ ((Txt.item x (-1)).cps.getD 0 0 : Int) ≤ 56319) = true) := by
  obtain ⟨c, h2, h3⟩ := item_last x h1
  have hm := h c (List.mem_of_getLast? h2)
  rw [h3]
  simp
  intro h4
  have h5 : (55296 : Int) ≤ (c : Int) := by simpa using h4
  omega
theorem replace_cr_length (x : Str) : (Txt.replace x (Str.ofString "\r") (Str.ofString "\n")).length ≤ x.length := by
  rw [show Str.ofString "\r" = ⟨#[13]⟩ from by decide, show Str.ofString "\n" = ⟨#[10]⟩ from by decide]
  show (Txt.replace x ⟨#[13]⟩ ⟨#[10]⟩).cps.size ≤ x.cps.size
  rw [← Array.length_toList, replace_cr, List.length_map, Array.length_toList]
  exact Nat.le_refl _
end
section
open Builtin Builtin.Str
section
variable {prog : Program} {w : World} {A : Around} {E : Value → Shared → Prop} {s : Shared} {x y : Str} {t u v v' : Tok} {i j : Int} {Q : Value → Shared → Prop}
def cnt4 (x y : Str) (i j : Int) : Int := (occurrences x y (fromIndex x.length i) (min (fromIndex x.length j) x.length) (x.length + 1)).length
def rfi4 (x y : Str) (i j : Int) : Int := match lastOccurrence x y (fromIndex x.length i) (min (fromIndex x.length j) x.length) with | some k => (k : Int) | none => -1
theorem gives_count4 (x y : Str) (i j : Int) (t u v v' : Tok) : Gives (Builtin.«str.count» ⟨[.str x t, .str y u, .int i v, .int j v'], []⟩) (.int (cnt4 x y i j)) := by
  exact .of_eq rfl
theorem gives_rfind4 (x y : Str) (i j : Int) (t u v v' : Tok) : Gives (Builtin.«str.rfind» ⟨[.str x t, .str y u, .int i v, .int j v'], []⟩) (.int (rfi4 x y i j)) := by
  show Gives (match lastOccurrence x y (fromIndex x.length i) (min (fromIndex x.length j) x.length) with | some i => retInt i | none => (do rule "str.rfind.not-found"; retInt (-1))) _
  unfold rfi4
  cases lastOccurrence x y (fromIndex x.length i) (min (fromIndex x.length j) x.length) with
  | none => exact .rule (.of_eq rfl)
  | some i => exact .of_eq rfl
theorem call_count4 (hq : Q (.int (cnt4 x y i j) s.toks) { s with toks := s.toks + 1 }) : wpAny (model prog w) A (call (.builtin "str.count") [.str x t, .str y u, .int i v, .int j v']) Q E s :=
  call_gives F.slot_str_count (typeIs_str _ _ _) F.entry_str_count (F.args_str_count_4 _ _ _ _) (gives_count4 x y i j t u v v') hq
theorem call_rfind4 (hq : Q (.int (rfi4 x y i j) s.toks) { s with toks := s.toks + 1 }) : wpAny (model prog w) A (call (.builtin "str.rfind") [.str x t, .str y u, .int i v, .int j v']) Q E s :=
  call_gives F.slot_str_rfind (typeIs_str _ _ _) F.entry_str_rfind (F.args_str_rfind_4 _ _ _ _) (gives_rfind4 x y i j t u v v') hq
theorem call_replace_crlf (hx : x.length ≤ 200000) (hu : u ≠ 0) (hv : v ≠ 0) (huv : u ≠ v)
    (hq : ∀ (R : Str) t' k, R = Txt.replace x (Str.ofString "\r\n") (Str.ofString "\n") → R.length ≤ x.length → Q (.str R t') { s with toks := k }) :
    wpAny (model prog w) A (call (.builtin "str.replace") [.str x t, .str (Str.ofString "\r\n") u, .str (Str.ofString "\n") v]) Q E s :=
  SC.replace hu hv huv (by decide) (by show _ + _ * 1 ≤ _; omega) fun t' k => hq _ t' k rfl (replace_crlf_length x)
theorem call_replace_cr (hx : x.length ≤ 200000) (hu : u ≠ 0) (hv : v ≠ 0) (huv : u ≠ v)
    (hq : ∀ (R : Str) t' k, R = Txt.replace x (Str.ofString "\r") (Str.ofString "\n") → R.length ≤ x.length → Q (.str R t') { s with toks := k }) :
    wpAny (model prog w) A (call (.builtin "str.replace") [.str x t, .str (Str.ofString "\r") u, .str (Str.ofString "\n") v]) Q E s :=
  SC.replace hu hv huv (by decide) (by show _ + _ * 1 ≤ _; omega) fun t' k => hq _ t' k rfl (replace_cr_length x)
end
end
/-- an entry of an instance's dict -/
abbrev ent (w : World) (n : Str) (tk : Nat) (v : Value) : DictEntry := { hash := PyData.keyHash w.params n, key := Value.str n tk, val := v }
/-- the source: a Text at tx with its dict at td -/
abbrev TL (w : World) (kt : Nat → Nat) (tx td : Nat) (text place : Value) : Ledger :=
  [(tx, instObj 45 td), (td, dictOf [ent w (Str.ofString "text") (kt 0) text, ent w (Str.ofString "place") (kt 1) place] 2)]
/-- the stream at x with its dict at d, its bound method at q, its source's reference tx, its errors at er -/
abbrev SX (w : World) (kt : Nat → Nat) (x d q nl tx er : Nat) (chunk size off pl pc buf : Value) (errs : Array Value) (ne : Nat) : Ledger :=
  [(er, listOf errs ne), (q, methodObj (.ref 120) (.ref x)), (x, instObj 138 d),
   (d, dictOf [ent w (Str.ofString "reportCharacterErrors") (kt 2) (.ref q), ent w (Str.ofString "newLines") (kt 3) (.ref nl), ent w (Str.ofString "dataStream") (kt 4) (.ref tx),
    ent w (Str.ofString "chunk") (kt 5) chunk, ent w (Str.ofString "chunkSize") (kt 6) size, ent w (Str.ofString "chunkOffset") (kt 7) off, ent w (Str.ofString "errors") (kt 8) (.ref er),
    ent w (Str.ofString "prevNumLines") (kt 9) pl, ent w (Str.ofString "prevNumCols") (kt 10) pc, ent w (Str.ofString "_bufferedCharacter") (kt 11) buf
    ] 10)]
/-- .. as the constructor leaves it -/
abbrev SX0 (w : World) (kt : Nat → Nat) (x d q nl tx er : Nat) (chunk size off pl pc buf : Value) (errs : Array Value) (ne : Nat) : Ledger :=
  [(er, listOf errs ne), (q, methodObj (.ref 120) (.ref x)), (x, instObj 138 d),
   (d, dictOf [ent w (Str.ofString "reportCharacterErrors") (kt 2) (.ref q), ent w (Str.ofString "newLines") (kt 3) (.ref nl), ent w (Str.ofString "dataStream") (kt 4) (.ref tx),
    ent w (Str.ofString "chunk") (kt 5) chunk, ent w (Str.ofString "chunkSize") (kt 6) size, ent w (Str.ofString "chunkOffset") (kt 7) off, ent w (Str.ofString "errors") (kt 8) (.ref er),
    ent w (Str.ofString "prevNumLines") (kt 9) pl, ent w (Str.ofString "prevNumCols") (kt 10) pc, ent w (Str.ofString "_bufferedCharacter") (kt 11) buf
    ] 10)]
theorem sx_sub {w : World} {kt : Nat → Nat} {x d q nl tx er : Nat} {chunk size off pl pc buf : Value} {errs : Array Value} {ne : Nat} : ∀ r ∈ SX w kt x d q nl tx er chunk size off pl pc buf errs ne, r.1 ∈ [er, q, x, d] := by
  intro r9 hr9
  simp only [SX, List.mem_cons, List.not_mem_nil, or_false] at hr9 ⊢
  rcases hr9 with h9 | h9 | h9 | h9 <;> (subst h9; simp)
theorem sxtl_sub {w : World} {kt : Nat → Nat} {x d q nl td tx er : Nat} {chunk size off pl pc buf : Value} {errs : Array Value} {ne : Nat} {text place : Value} : ∀ r ∈ SX w kt x d q nl tx er chunk size off pl pc buf errs ne ++ TL w kt tx td text place, r.1 ∈ [er, q, x, d, tx, td] := by
  intro r9 hr9
  simp only [SX, TL, List.cons_append, List.nil_append, List.mem_cons, List.not_mem_nil, or_false] at hr9 ⊢
  rcases hr9 with h9 | h9 | h9 | h9 | h9 | h9 <;> (subst h9; simp)
abbrev nlS : Str := Str.ofString "\n"
def posL (C : Str) (pl o : Int) : Int := pl + cnt4 C nlS 0 o
def posC (C : Str) (pc o : Int) : Int := if rfi4 C nlS 0 o = -1 then pc + o else o - (rfi4 C nlS 0 o + 1)
abbrev tup2 (a b : Value) : Obj := { cls := .type "tuple", data := .seq #[a, b] }
theorem pos_end {C : Str} {pl pc o v2 : Int} {er D a b : Nat} {E : Ledger} (hlt : er < D) (e : v2 = posC C pc o) :
    ∃ t t5 t6, Value.ref D = .ref t ∧ er < t ∧ ((D, tup2 (.int (posL C pl o) a) (.int v2 b)) :: E : Ledger) = (t, tup2 (.int (posL C pl o) t5) (.int (posC C pc o) t6)) :: E := by
  subst e; exact ⟨_, _, _, rfl, hlt, rfl⟩
local macro_rules | `(tactic| k_ne) => `(tactic| (refine neN ?_; (try dsimp only); first | exact Nat.ne_of_lt (by with_reducible assumption) | exact Nat.ne_of_gt (by with_reducible assumption) | omega))
local macro_rules | `(tactic| k_room) => `(tactic| ((simp only [depth_under_make, depth_under_kw, depth_in1, depth_deeper, depth_caller]); (try dsimp only [ktrTop]); omega))
local macro_rules | `(tactic| walk_at "MY room") => `(tactic| first | assumption | ((simp only [depth_under_make, depth_under_kw, depth_in1, depth_deeper, depth_caller]); (try dsimp only [ktrTop]); first | exact room0 (by assumption) (by decide) | exact room1 (by assumption) (by decide) | omega | decide) | ((try dsimp only [ktrTop]); omega))
local macro_rules | `(tactic| walk_at "MY units") => `(tactic| first | assumption | ((simp only [units_in1, units_deeper, Around.mark_units, units_caller]); (try dsimp only [ktrTop]); first | exact room0 (by assumption) (by decide) | exact room1 (by assumption) (by decide)) | ((have hcL9 := cLine_is); (simp only [units_in1, units_deeper, Around.mark_units, units_caller]); (try dsimp only [ktrTop]); omega) | ((have hcL9 := cLine_is); (try dsimp only [ktrTop]); omega))
local macro_rules | `(tactic| walk_at "MY dis") => `(tactic| first | (exact fun _ _ _ h9 => absurd h9 List.not_mem_nil) | (exact own_dis (by assumption) sx_sub) | ((simp only [List.nil_append, List.cons_append, List.append_nil, List.forall_mem_cons]); (repeat' (first | (refine And.intro ?_ ?_) | k_ne | (exact fun _ h9 => absurd h9 List.not_mem_nil) | assumption)); done))
local macro_rules | `(tactic| walk_at "truthy ref") => `(tactic| (k_here; (refine' truthy_meth ?N ?m ?_; (case N => k_asm); (case m => k_mem); k_whole; (try dsimp only))))
local macro_rules | `(tactic| walk_at "MY step") => `(tactic| (first | (k_unfold; (try dsimp only)) | walk1 | (dsimp only; walk1) | (dsimp only [List.nil_append, List.cons_append]; walk1) | (k_end; dsimp only; k_unfold; (try dsimp only)) | (leave1; (try dsimp only)) | fail "no step"))
local macro_rules | `(tactic| walk_at "MY steps") => `(tactic| repeat' (walk_at "MY step"))
local macro_rules | `(tactic| walk_at "call builtin:str.count") => `(tactic| (refine call_count4 ?_; (try dsimp only)))
local macro_rules | `(tactic| walk_at "call builtin:str.rfind") => `(tactic| (refine call_rfind4 ?_; (try dsimp only)))
local macro_rules | `(tactic| size_fits) => `(tactic| first | assumption | (rw [PySem.sizeLine_eq]; omega))
local macro_rules | `(tactic| walk_at "MY len") => `(tactic| omega)
local macro_rules | `(tactic| walk_at "call builtin:str.replace") => `(tactic| k_dflt (first
  | (refine' call_replace_crlf ?l ?u ?v ?n ?_; (case l => walk_at "MY len"); (case u => k_ne); (case v => k_ne); (case n => k_ne); intro R9 t9 k9 hR9 hl9; (try dsimp only))
  | (refine' call_replace_cr ?l ?u ?v ?n ?_; (case l => walk_at "MY len"); (case u => k_ne); (case v => k_ne); (case n => k_ne); intro R9 t9 k9 hR9 hl9; (try dsimp only))))
local macro_rules | `(tactic| walk_at "isTrue Compare") => `(tactic| (k_here; k_dflt (refine' isTrue_ll ?F ?v ?_ ?k ?l; (case F => k_asm); (case v => rfl); (case k => rfl); (case l => rfl); k_whole; intro tk'; (try dsimp only))))
local macro_rules | `(tactic| walk_at "execs cons") => `(tactic| (k_here; (with_reducible show wpAny _ _ _ _ _ (Shared.mk _ _ _ (_ + _) _)); k_dflt (refine' gen_toks ?p ?_; (case p => ((try dsimp only); exact Nat.succ_pos _)); intro tk htk)))
local macro_rules | `(tactic| walk_at "getMethod ref") => `(tactic| (k_here; (with_reducible show wpAny _ _ (getMethod (Value.ref _) (PySem.Str.ofString "reportCharacterErrors") _) _ _ _); k_dflt (refine' kmu_own ?k1 ?k2 ?k3 ?k4 ?k5 ?_; (case k1 => k_asm); (case k2 => k_asm); (case k3 => k_inst); (case k4 => k_is); (case k5 => k_is); k_whole)))
set_option maxRecDepth 100000 in
set_option maxHeartbeats 1000000 in
theorem does_read (w : World) (kt : Nat → Nat) (tx td : Nat) (hlt : td < tx) (S : Str) (p n : Nat) (t1 t2 t3 : Nat) (hp : p ≤ S.length) (hT : S.length ≤ 10000) (hn' : n ≤ 100000) :
    Does w 1 (.ref 42) [.ref tx, .int (n : Int) t1] (TL w kt tx td (.str S t2) (.int (p : Int) t3))
      (fun v E' => ∃ (P : Str) (t t' : Nat), P.cps.toList = (S.cps.toList.drop p).take n ∧ P.length ≤ S.length ∧ p + P.length ≤ S.length ∧ v = .str P t ∧ E' = TL w kt tx td (.str S t2) (.int ((p + P.length : Nat) : Int) t')) := by
  unfold Does
  k_fill
  intro dp un gd cn cs a ccd cl outer A₀ base h₀ L m s R loose mean mg mb rest B F KX N T hdis hk hroom hun hret
  refine' enterR (binds := [(Str.ofString "self", .ref tx), (Str.ofString "size", .int (n : Int) t1)]) ?k1 ?k2 ?k3 ?k4 ?k5 ?kd ?kA ?kF ?kK ?k6 ?k7 ?k8 ?k9 ?kB ?_ ?c2 ?c3 ?c4 ?c5
  (case kA => exact rfl); (case kF => exact rfl); (case kK => first | exact rfl | assumption); (case k1 => k_asm); (case k2 => k_asm); (case k3 => k_asm); (case k4 => k_asm); (case k5 => k_asm); (case kd => assumption); (case k6 => k_dflt k_is); (case k7 => k_dflt k_is); (case k8 => k_room); (case k9 => first | exact BindsTo.of_eq rfl | exact binds_K (by k_in) rfl (by k_is) rfl rfl rfl); (case c5 => decide); (case kB => exact locs rfl); (case c2 => exact rfl); (case c3 => exact rfl); (case c4 => exact rfl)
  k_whole
  intro g' L' h' FG' F' N' B' X' T' lt'
  clear N F
  dsimp only [TL, ent] at N'
  (try dsimp only)
  (try k_fold)
  w_on
  w_top on
  w_strict (walk_at "MY steps")
  (with_reducible rename News _ _ _ (_ :: _) => kN9)
  refine hret _ _ _ _ (by k_asm) (news_app kN9 (by assumption)) ?_
  have e := slice_nat S n hp
  have hl : (Txt.slice S (some (p : Int)) (some ((p : Int) + (n : Int)))).length = min n (S.length - p) := by
    show (Txt.slice S (some (p : Int)) (some ((p : Int) + (n : Int)))).cps.size = _
    rw [← Array.length_toList, e]; simp [Str.length]
  exact ⟨_, _, _, e, by omega, by omega, rfl, by rw [Int.natCast_add]⟩
set_option maxRecDepth 100000 in
set_option maxHeartbeats 1000000 in
theorem does__position (w : World) (kt : Nat → Nat) (x d q nl tx er : Nat) (hord : d < x ∧ x < q ∧ q < er) (C : Str) (o pl pc : Int) (t1 t2 t3 t4 : Nat) (size off buf : Value) (errs : Array Value) (ne : Nat) (h0 : 0 ≤ o) (h1 : o ≤ 100000) :
    Does w 1 (.ref 91) [.ref x, .int o t1] (SX w kt x d q nl tx er (.str C t2) size off (.int pl t3) (.int pc t4) buf errs ne)
      (fun v E' => ∃ t t5 t6, v = .ref t ∧ er < t ∧ E' = (t, tup2 (.int (posL C pl o) t5) (.int (posC C pc o) t6)) :: SX w kt x d q nl tx er (.str C t2) size off (.int pl t3) (.int pc t4) buf errs ne) := by
  refine' ex_0_6 (ord4 hord) ?_; intro g1 g2 g3 g4 g5 g6
  unfold Does
  k_fill
  intro dp un gd cn cs a ccd cl outer A₀ base h₀ L m s R loose mean mg mb rest B F KX N T hdis hk hroom hun hret
  refine' enterR (binds := [(Str.ofString "self", .ref x), (Str.ofString "offset", .int o t1)]) ?k1 ?k2 ?k3 ?k4 ?k5 ?kd ?kA ?kF ?kK ?k6 ?k7 ?k8 ?k9 ?kB ?_ ?c2 ?c3 ?c4 ?c5
  (case kA => exact rfl); (case kF => exact rfl); (case kK => first | exact rfl | assumption); (case k1 => k_asm); (case k2 => k_asm); (case k3 => k_asm); (case k4 => k_asm); (case k5 => k_asm); (case kd => assumption); (case k6 => k_dflt k_is); (case k7 => k_dflt k_is); (case k8 => k_room); (case k9 => first | exact BindsTo.of_eq rfl | exact binds_K (by k_in) rfl (by k_is) rfl rfl rfl); (case c5 => decide); (case kB => exact locs rfl); (case c2 => exact rfl); (case c3 => exact rfl); (case c4 => exact rfl)
  k_whole
  intro g' L' h' FG' F' N' B' X' T' lt'
  clear N F
  dsimp only [SX, ent] at N'
  (try dsimp only)
  (try k_fold)
  w_on
  w_top on
  w_strict (walk_at "MY steps")
  all_goals (
    (with_reducible rename News _ _ _ (_ :: _) => kN9)
    refine hret _ _ _ _ (by k_asm) (news_app kN9 (by assumption)) ?_
    exact pos_end (C := C) (pl := pl) (o := o) (pc := pc) (by omega) (by first | exact (if_pos (by assumption)).symm | exact (if_neg (by assumption)).symm))
/-- a mark at which the walk stands still -/
def StopAt (P : Prop) : Prop := P
theorem stopAt_ {P : Prop} (h : StopAt P) : P := h
/-- a mark in the context: the walk stands still at these rows -/
def StopList (_l : List Stmt) : Prop := True
theorem stop_list {l : List Stmt} (_h : StopList l) {M : Model} {A : Around} {env : Env} {Q : Flow → Shared → Prop} {E : Value → Shared → Prop} {s : Shared} (h : StopAt (wpAny M A (execs l env) Q E s)) : wpAny M A (execs l env) Q E s := h
/-- the loop's word fell -/
def Again (J : Nat → Shared → Prop) (n : Nat) (s : Shared) : Prop := ∃ k, k < n ∧ J k s
section
variable {prog : Program} {w : World} {A : Around} {s : Shared} {env : Env} {E : Value → Shared → Prop} {Q : Flow → Shared → Prop}
/-- a while by any word of the state that falls -/
theorem while_gen {test : Expr} {body : List Stmt} {pos : Pos} (J : Nat → Shared → Prop)
    (turn : ∀ n s', ∀ JJ, JJ = J → J n s' → wpAny (model prog w) A (isTrue test env (eval test env)) (fun b s₂ =>
      if b = true then wpAny (model prog w) A (execs body env) (fun f s₃ => match f with
        | .next => Again JJ n s₃
        | .cont => Again JJ n s₃
        | .brk => Q .next s₃
        | .ret v => Q (.ret v) s₃) E s₂
      else Q .next s₂) E s')
    (n : Nat) (h : J n s) (hE : PassesOwn (model prog w) A env E := by passes_own) :
    wpAny (model prog w) A (exec (.While test body [] pos) env) Q E s := by
  refine wpAny_While (codeAny_whileLoop (R := fun r s' => match r with | .ok f => Q f s' | .error e => cameBackBy (model prog w) A env E e s') J (fun k s' hJ => ?_) n h)
  refine wpAny_passesOwn hE (wpAny_mono (turn k s' _ rfl hJ) (fun b s₂ h₂ => ?_) fun _ _ e => e)
  split
  · rename_i hb
    rw [if_pos hb] at h₂
    refine wpAny_passesOwn hE (wpAny_mono h₂ (fun f s₃ h₃ => ?_) fun _ _ e => e)
    cases f <;> exact h₃
  · rename_i hb
    rw [if_neg hb] at h₂
    exact wpAny_execs_nil h₂
end
section
local macro_rules | `(tactic| walk_at "call ref") => `(tactic| (k_here; (with_reducible show wpAny _ _ (call (Value.ref 56) _) _ _ _); refine stopAt_ ?_))
/-- a list of nothing but the one text -/
def Bads (errs : Array Value) : Prop := ∀ v ∈ errs.toList, ∃ t, v = .str (Str.ofString "invalid-codepoint") t
def badCount (l : List Nat) : Nat := (l.filter fun (c : Nat) => bad (c : Int)).length
theorem kst_end {σ : Type} {Led : σ → Ledger} {x : Str} {m₀ m' : Str → Option Value} {P : List Int → σ → Prop} {pre : List Int} {own : Ledger} {adr : List Addr} {h₀ h' : Heap} {L : Addr} {s₁ : Shared} {tk : Nat} (c : σ) (F : Fr h₀ L h' m') (N : News h₀ L h' (Led c ++ own))
    (hm : ∀ z, z ≠ x → m' z = m₀ z) (hP : P pre c) (ha : (Led c).map (·.1) = adr) :
    InvEndN h₀ L (KstS Led (fun _ => []) (fun _ => True) x [] m₀ P pre) own adr s₁ { s₁ with heap := h', toks := tk } :=
  InvEndN.intro F N ⟨c, rfl, trivial, (fun _ h => nomatch h), fun z hz _ _ => hm z hz, hP⟩ ha (fun _ hp => List.mem_append_left _ hp) (fun _ hp => List.mem_append_right _ hp)
set_option maxRecDepth 100000 in
set_option maxHeartbeats 1000000 in
theorem does_charErr (w : World) (kt : Nat → Nat) (x d q nl tx er : Nat) (hord : d < x ∧ x < q ∧ q < er) (D : Str) (t1 : Nat) (hD : D.length ≤ 20000) (chunk size off pl pc buf : Value) (errs : Array Value) (ne : Nat) (hE : errs.size ≤ 20000) :
    Does w 2 (.ref 120) [.ref x, .str D t1] (SX w kt x d q nl tx er chunk size off pl pc buf errs ne)
      (fun v E' => ∃ errs' ne', v = .none ∧ E' = SX w kt x d q nl tx er chunk size off pl pc buf errs' ne' ∧ errs'.size = errs.size + badCount D.cps.toList ∧ (Bads errs → Bads errs')) := by
  refine' ex_0_6 (ord4 hord) ?_; intro g1 g2 g3 g4 g5 g6
  unfold Does
  k_fill
  intro dp un gd cn cs a ccd cl outer A₀ base h₀ L m s R loose mean mg mb rest B F KX N T hdis hk hroom hun hret
  refine' enterR (binds := [(Str.ofString "self", .ref x), (Str.ofString "data", .str D t1)]) ?k1 ?k2 ?k3 ?k4 ?k5 ?kd ?kA ?kF ?kK ?k6 ?k7 ?k8 ?k9 ?kB ?_ ?c2 ?c3 ?c4 ?c5
  (case kA => exact rfl); (case kF => exact rfl); (case kK => first | exact rfl | assumption); (case k1 => k_asm); (case k2 => k_asm); (case k3 => k_asm); (case k4 => k_asm); (case k5 => k_asm); (case kd => assumption); (case k6 => k_dflt k_is); (case k7 => k_dflt k_is); (case k8 => k_room); (case k9 => first | exact BindsTo.of_eq rfl | exact binds_K (by k_in) rfl (by k_is) rfl rfl rfl); (case c5 => decide); (case kB => exact locs rfl); (case c2 => exact rfl); (case c3 => exact rfl); (case c4 => exact rfl)
  k_whole
  intro g' L' h' FG' F' N' B' X' T' lt'
  clear N F
  dsimp only [SX, ent] at N'
  w_on
  w_top on
  refine wpAny_execs_cons ?_
  refine For_invVF F' rfl rfl ?_
  refine ld F' rfl ?_
  refine KStt.kst_text (σ := Array Value × Nat) (fun c => SX w kt x d q nl tx er chunk size off pl pc buf c.1 c.2) (fun _ => []) (fun _ => True) [] (fun pre c => c.1.size = errs.size + (pre.filter bad).length ∧ (Bads errs → Bads c.1)) (errs, ne) rfl F' N' trivial (by simp) ⟨by simp, id⟩ ?_ ?_
  · intro c pre post n t u h tk own hc hoff _ hP F1 N1
    change Fr g' L' h _ at F1
    simp only [SX, ent, List.cons_append, List.nil_append] at N1
    simp only [SX, List.map_cons, List.map_nil] at hoff
    clear N' F'
    have hl : pre.length ≤ D.length := by have := congrArg List.length hc; rw [KStt.codes_length] at this; simp at this; omega
    have hf := List.length_filter_le bad pre
    have hsz : c.1.size ≤ sizeLine := by rw [sizeLine_eq]; omega
    w_strict (walk_at "MY steps")
    unfold StopAt
    (with_reducible rename Fr _ _ _ _ => F5)
    (with_reducible rename News _ _ _ _ => N5)
    k_dflt (refine' Does.useP [] (does_inval _ _ _) ?k1 ?k2 ?k3 ?k4 ?k5 ?kd ?kK ?kr ?ku ?_)
    case k4 => exact N5
    case k1 => assumption
    case k2 => exact F5
    case k3 => assumption
    case k5 => assumption
    case kK => rfl
    case kr => walk_at "MY room"
    case ku => walk_at "MY units"
    case kd => exact fun _ _ _ h9 => absurd h9 List.not_mem_nil
    k_whole
    intro v9 E9 h9 tk9 F9 N9 p9 T9
    clear N5 F5
    obtain ⟨e9, e8⟩ := p9
    subst e9
    subst e8
    simp only [List.nil_append] at N9
    w_strict (walk_at "MY steps")
    · rename_i hb _ _ _
      refine kst_end (c.1.push _, c.2 + 1) (by k_asm) (by k_asm) (fun z hz => (if_neg hz).trans rfl) ?_ rfl
      refine ⟨?_, fun hB v hv => ?_⟩
      · simp [List.filter_append, hb, Array.size_push]; omega
      · simp only [Array.toList_push, List.mem_append, List.mem_singleton] at hv
        rcases hv with hv | rfl
        · exact hP.2 hB v hv
        · exact ⟨_, rfl⟩
    · rename_i hb
      refine kst_end c (by k_asm) (by k_asm) (fun z hz => (if_neg hz).trans rfl) ?_ rfl
      refine ⟨?_, hP.2⟩
      simp [List.filter_append, hb]; omega
  · intro c u h tk _ hP F1 N1
    change Fr g' L' h _ at F1
    clear N' F'
    w_strict (walk_at "MY steps")
    (with_reducible rename News _ _ _ (SX _ _ _ _ _ _ _ _ _ _ _ _ _ _ _ _) => kN9)
    refine hret _ _ _ _ (by k_asm) (news_app kN9 (by assumption)) ⟨_, _, rfl, rfl, ?_, hP.2⟩
    rw [hP.1]
    congr 1
    unfold badCount KStt.codes
    rw [List.filter_map, List.length_map]
    rfl
end
section
/-- a buffered sign's value: none, or CR -/
def BufIs (v : Value) (b : List Nat) : Prop := (b = [] ∧ v = .none) ∨ (b = [13] ∧ ∃ t, v = .str ⟨#[13]⟩ t)
theorem rc_cutA {D : Str} {t : Nat} (h : 1 < (D.length : Int)) (h13 : ((Txt.item D (-1)).cps.getD 0 0 : Int) = 13) :
    (Txt.slice D none (some (-1))).cps.toList = (cut13 D.cps.toList).1 ∧ BufIs (.str (Txt.item D (-1)) t) (cut13 D.cps.toList).2 ∧ (D.length ≤ 10001 → (Txt.slice D none (some (-1))).length ≤ 10001) := by
  obtain ⟨h1, h2⟩ := cut13_yes h h13
  have e := slice_init D (by omega)
  refine ⟨by rw [h1]; exact e, by rw [h1]; exact .inr ⟨rfl, t, by rw [h2]⟩, fun hl => ?_⟩
  have : (Txt.slice D none (some (-1))).length = D.cps.toList.dropLast.length := congrArg List.length e
  rw [this, List.length_dropLast]
  have : D.cps.toList.length = D.length := rfl
  omega
theorem rc_bufA {D : Str} {t : Nat} (h : 1 < (D.length : Int)) (h13 : ((Txt.item D (-1)).cps.getD 0 0 : Int) = 13) : BufIs (.str (Txt.item D (-1)) t) (cut13 D.cps.toList).2 := (rc_cutA h h13).2.1
theorem rc_endJ {D R1 R2 : Str} {l : List Nat} (h : D.cps.toList = l) (e1 : R1 = Txt.replace D (Str.ofString "\r\n") (Str.ofString "\n")) (e2 : R2 = Txt.replace R1 (Str.ofString "\r") (Str.ofString "\n")) : R2.cps.toList = norm l := by
  rw [e2, e1, replace_both, h]
theorem fr_self {h₀ h : Heap} {L : Addr} {v1 : Str → Option Value} {x z : Str} {a b : Value} (hs : v1 z = some b) (F : Fr h₀ L h (fun y => if y = x then some a else v1 y)) :
    Fr h₀ L h (fun y => if y = x then some a else if y = z then some b else v1 y) := by
  have e : (fun y => if y = x then some a else if y = z then some b else v1 y) = (fun y => if y = x then some a else v1 y) := by
    funext y
    by_cases h1 : y = x
    · rw [if_pos h1, if_pos h1]
    · rw [if_neg h1, if_neg h1]
      by_cases h2 : y = z
      · rw [if_pos h2, h2, hs]
      · rw [if_neg h2]
  rw [e]; exact F
/-- a mark in the context: the walk stands still at a bound method's call -/
def StopHere : Prop := True
theorem stop_here {P : Prop} (_h : StopHere) (h : StopAt P) : P := h
local macro_rules | `(tactic| walk_at "call ref") => `(tactic| (k_here; (with_reducible rename StopHere => T9); k_dflt ((show wpAny _ _ (call (Value.ref _) [_]) _ _ _); refine stop_here T9 ?_)))
local macro_rules | `(tactic| walk_at "ite") => `(tactic| ((with_reducible show (if decide ((55296 : Int) ≤ _ ∧ _ ≤ 56319) = true then _ else _)); k_dflt (refine ite_neg (nosur_not (by assumption) (by assumption)) ?_)))
/-- readChunk behind its reading: from «if len(data) > 1» on -/
def RcTail (w : World) (body : List Stmt) (qual : Str) (scope : Scope) (cdv : Value) : Prop :=
  ∀ (kt : Nat → Nat) (x d q nl tx er : Nat) (_ : d < x ∧ x < q ∧ q < er) (D : Str) (t1 t2 t3 t4 : Nat) (pl pc : Value) (v1 : Str → Option Value) (errs : Array Value) (ne : Nat) (_ : D.length ≤ 10001) (_ : 1 ≤ D.length) (_ : noSur D.cps.toList) (_ : errs.size ≤ 10000)
    (dp un : Nat) (gd : Option (List Code)) (outer : List Env) (A₀ : Around) (base h₀ : Heap) (L : Addr) (s : Shared) (Q : Flow → Shared → Prop) (Er : Value → Shared → Prop)
    (loose : List Str) (mean : ExcName → Option Value) (mg mb : Str → Option Value)
    (_ : Below A₀ base outer h₀) (_ : Fr h₀ L s.heap (fun y => if y = Str.ofString "data" then some (.str D t1) else v1 y)) (_ : v1 (Str.ofString "self") = some (.ref x)) (_ : (hd.heap_39 w.params).In h₀)
    (gp : Addr × Obj) (rest : Ledger) (_ : OwnOff rest [er, q, x, d]) (_ : News h₀ L s.heap (gp :: (SX w kt x d q nl tx er (.str (Str.ofString "") t2) (.int 0 t3) (.int 0 t4) pl pc .none errs ne ++ rest))) (_ : Top hd.view_39 loose mean mg mb h₀)
    (_ : dp + 4 * 2 < recursionLimit) (_ : un + 40 * 2 < cLine)
    (_ : ∀ (h' : Heap) (tk' : Nat) (m' : Str → Option Value) (R : Str) (bufV : Value) (errs' : Array Value) (ne' ta tb : Nat), Fr h₀ L h' m' → News h₀ L h' (SX w kt x d q nl tx er (.str R ta) (.int R.length tb) (.int 0 t4) pl pc bufV errs' ne' ++ rest) →
      R.cps.toList = norm (cut13 D.cps.toList).1 → BufIs bufV (cut13 D.cps.toList).2 → errs'.size = errs.size + badCount (cut13 D.cps.toList).1 → (Bads errs → Bads errs') → Q (.ret (.bool true)) { s with heap := h', toks := tk' }),
    wpAny (model PySem.Challenge.rw_te0024_01.row.prog w) (ktrTop dp un gd qual scope L 113 cdv [] outer) (execs (body.drop 7) (envOf qual scope L 113 cdv)) Q Er s
set_option maxRecDepth 100000 in
set_option maxHeartbeats 2000000 in
theorem rc_tail (w : World) {oc od osl} {name qual : Str} {params : Arguments} {body : List Stmt} {scope : Scope} {dV kV doc pm cdv ct : Value} {an : Option Addr} :
    (hd.heap_39 w.params).lookup 113 = some ⟨oc, od, .func (fnOf name qual params body scope dV kV doc pm an cdv ct), osl⟩ → RcTail w body qual scope cdv := by
  unfold RcTail
  k_fill
  show _ → RcTail w body qual scope cdv
  intro ho
  obtain ⟨rfl, rfl, rfl, rfl⟩ := fn_parts ho (show (hd.heap_39 w.params).lookup 113 = some _ by k_is)
  unfold RcTail
  intro kt x d q nl tx er hord D t1 t2 t3 t4 pl pc v1 errs ne hD h1 hsur hE dp un gd outer A₀ base h₀ L s Q Er loose mean mg mb B F hself KX gp rest hoff N0 TT hroom hun hret
  refine' ex_0_6 (ord4 hord) ?_; intro g1 g2 g3 g4 g5 g6
  have N : News h₀ L s.heap _ := fun p hp => N0 p (.tail _ hp)
  clear N0
  have F1 := fr_self hself F
  clear F
  simp only [SX, ent, List.cons_append, List.nil_append] at N
  have hstop : StopHere := trivial
  w_on
  w_top on
  refine' execs_join (fun s' => ∃ (h' : Heap) (tk : Nat) (m' : Str → Option Value) (D' : Str) (t : Nat) (bufV : Value), s' = ⟨h', s.gens, s.drawn, tk, s.os⟩ ∧ Fr h₀ L h' m' ∧ m' (Str.ofString "data") = some (.str D' t) ∧ m' (Str.ofString "self") = some (.ref x) ∧
    News h₀ L h' (SX w kt x d q nl tx er (.str (Str.ofString "") t2) (.int 0 t3) (.int 0 t4) pl pc bufV errs ne ++ rest) ∧ D'.cps.toList = (cut13 D.cps.toList).1 ∧ BufIs bufV (cut13 D.cps.toList).2 ∧ D'.length ≤ 10001) ?tail ?first
  case first =>
    intro JJ hJJ
    w_strict (walk_at "MY steps")
    all_goals (
      subst hJJ
      (with_reducible rename News _ _ _ (_ :: _) => N9)
      (with_reducible rename Fr _ _ _ _ => F9)
      have hl9 : D.cps.toList.length = D.length := rfl)
    · obtain ⟨q1, q2, q3⟩ := rc_cutA (t := 0) (D := D) (by assumption) (by assumption)
      exact ⟨_, _, _, _, _, _, rfl, F9, rfl, rfl, N9, q1, rc_bufA (by assumption) (by assumption), q3 hD⟩
    · have q1 := cut13_ne (x := D) (by assumption) (by assumption)
      exact ⟨_, _, _, _, _, _, rfl, F9, rfl, rfl, N9, by rw [q1], by rw [q1]; exact .inl ⟨rfl, rfl⟩, hD⟩
    · have q1 := cut13_one (x := D) (by assumption)
      exact ⟨_, _, _, _, _, _, rfl, F9, rfl, rfl, N9, by rw [q1], by rw [q1]; exact .inl ⟨rfl, rfl⟩, hD⟩
  case tail =>
    intro s' hJ
    refine' ex_6_8 (hJ) ?_; intro h' tk m' D' t bufV r96 F2 e1 e2 N2 hcut hbuf hlen; (try clear hJ); subst r96
    have F3 : Fr h₀ L h' _ := fr_know2 e1 e2 F2
    have N3 : News h₀ L h' _ := N2
    clear F1 N F2 N2 h1 hsur
    simp only [SX, ent, List.cons_append, List.nil_append] at N3
    w_strict (walk_at "MY steps")
    unfold StopAt
    (with_reducible rename Fr _ _ _ _ => F5)
    (with_reducible rename News _ _ _ _ => N5)
    (try dsimp only [List.append_nil])
    k_dflt (refine' Does.useM [] (does_charErr _ _ _ _ _ _ _ _ ?h1 _ _ ?h2 _ _ _ _ _ _ _ _ ?h3) ?k1 ?k2 ?k3 ?k4 ?kq ?k5 ?kd ?kK ?kr ?ku ?_)
    case k4 => exact N5
    case kq => k_mem
    case k1 => k_asm
    case k2 => exact F5
    case k3 => k_asm
    case k5 => k_asm
    case kK => first | exact rfl | assumption
    case kr => walk_at "MY room"
    case ku => walk_at "MY units"
    (case h1 => omega); (case h2 => walk_at "MY len"); (case h3 => omega)
    case kd => walk_at "MY dis"
    k_whole
    intro v9 E9 h9 tk9 F9 N9 p9 T9
    (try dsimp only at T9)
    (try simp only [List.nil_append, List.cons_append] at N9)
    clear N5 F5
    refine' ex_2_4 (p9) ?_; intro er9 n9 e9 e8 c9 b9; (try clear p9)
    subst e9
    subst e8
    (try simp only [List.nil_append, List.cons_append, SX, ent] at N9)
    w_strict (walk_at "MY steps")
    (try dsimp only)
    refine' hret _ _ _ _ _ _ _ _ _ ?F ?N (rc_endJ hcut (by assumption) (by assumption)) hbuf ?c ?d
    case F => k_asm
    case N => k_asm
    case c => rw [← hcut]; assumption
    case d => assumption
end
section
/-- the code points that readChunk has before it: what was kept back and what it reads -/
def rcIn (b : List Nat) (S : Str) (p n : Nat) : List Nat := b ++ (S.cps.toList.drop p).take n
/-- what readChunk leaves -/
def rcPost (w : World) (kt : Nat → Nat) (x d q nl td tx er : Nat) (C S : Str) (p n : Nat) (pl pc : Int) (b : List Nat) (t6 : Nat) (errs : Array Value) (v : Value) (E' : Ledger) : Prop :=
  ∃ (R : Str) (bufV : Value) (errs' : Array Value) (ne' ta tb tc t4 t5 t7 : Nat),
    E' = SX w kt x d q nl tx er (.str R ta) (.int R.length tb) (.int 0 tc) (.int (posL C pl C.length) t4) (.int (posC C pc C.length) t5) bufV errs' ne' ++ TL w kt tx td (.str S t6) (.int ((min (p + n) S.length : Nat) : Int) t7) ∧
    R.cps.toList = norm (cut13 (rcIn b S p n)).1 ∧ BufIs bufV (cut13 (rcIn b S p n)).2 ∧ errs'.size = errs.size + badCount (cut13 (rcIn b S p n)).1 ∧ (Bads errs → Bads errs') ∧ v = .bool (!(rcIn b S p n).isEmpty)
theorem rc_fin {w : World} {kt : Nat → Nat} {x d q nl td tx er : Nat} {C S P D R : Str} {p n : Nat} {pl pc : Int} {b : List Nat} {t6 ta tb tc t4 t5 t7 : Nat} {errs errs' : Array Value} {ne' : Nat} {bufV : Value}
    (hP : P.cps.toList = (S.cps.toList.drop p).take n) (hD : D.cps.toList = b ++ P.cps.toList) (hpos : 1 ≤ D.length) (hp : p ≤ S.length)
    (hR : R.cps.toList = norm (cut13 D.cps.toList).1) (hb : BufIs bufV (cut13 D.cps.toList).2) (he : errs'.size = errs.size + badCount (cut13 D.cps.toList).1) (hB : Bads errs → Bads errs') :
    rcPost w kt x d q nl td tx er C S p n pl pc b t6 errs (.bool true)
      (SX w kt x d q nl tx er (.str R ta) (.int R.length tb) (.int 0 tc) (.int (posL C pl C.length) t4) (.int (posC C pc C.length) t5) bufV errs' ne' ++ TL w kt tx td (.str S t6) (.int ((p + P.length : Nat) : Int) t7)) := by
  have e : rcIn b S p n = D.cps.toList := by rw [hD, hP]; rfl
  have e2 : p + P.length = min (p + n) S.length := by
    have h := congrArg List.length hP
    have h1 : P.cps.toList.length = P.length := rfl
    have h2 : S.cps.toList.length = S.length := rfl
    rw [List.length_take, List.length_drop, h1, h2] at h
    omega
  have e3 : (D.cps.toList).isEmpty = false := by
    cases h : D.cps.toList with
    | nil => have : D.cps.toList.length = D.length := rfl; rw [h] at this; simp at this; omega
    | cons _ _ => rfl
  rw [e2]
  refine ⟨R, bufV, errs', ne', ta, tb, tc, t4, t5, t7, rfl, ?_, ?_, ?_, hB, ?_⟩
  all_goals rw [e]
  · exact hR
  · exact hb
  · exact he
  · rw [e3]; rfl
theorem rc_finF {w : World} {kt : Nat → Nat} {x d q nl td tx er : Nat} {C S P : Str} {p n : Nat} {pl pc : Int} {t6 ta tb tc t4 t5 t7 : Nat} {errs : Array Value} {ne' : Nat}
    (hP : P.cps.toList = (S.cps.toList.drop p).take n) (hpos : (P.length : Int) = 0) (hp : p ≤ S.length) :
    rcPost w kt x d q nl td tx er C S p n pl pc [] t6 errs (.bool false)
      (SX w kt x d q nl tx er (.str (Str.ofString "") ta) (.int 0 tb) (.int 0 tc) (.int (posL C pl C.length) t4) (.int (posC C pc C.length) t5) .none errs ne' ++ TL w kt tx td (.str S t6) (.int ((p + P.length : Nat) : Int) t7)) := by
  have h0 : P.length = 0 := by omega
  have hl : P.cps.toList = [] := by
    cases h : P.cps.toList with
    | nil => rfl
    | cons _ _ => have : P.cps.toList.length = P.length := rfl; rw [h, h0] at this; simp at this
  have e : rcIn [] S p n = [] := by unfold rcIn; rw [List.nil_append, ← hP, hl]
  have e2 : p + P.length = min (p + n) S.length := by
    have h := congrArg List.length hP
    have h1 : P.cps.toList.length = P.length := rfl
    have h2 : S.cps.toList.length = S.length := rfl
    rw [List.length_take, List.length_drop, h1, h2] at h
    omega
  rw [e2]
  refine ⟨Str.ofString "", .none, errs, ne', ta, tb, tc, t4, t5, t7, rfl, ?_, ?_, ?_, id, ?_⟩
  all_goals rw [e]
  · decide
  · exact .inl ⟨rfl, rfl⟩
  · rfl
  · rfl
theorem nosur_of {P S : Str} {p n : Nat} (h : P.cps.toList = (S.cps.toList.drop p).take n) (hs : noSur S.cps.toList) : noSur P.cps.toList := by
  intro c hc
  rw [h] at hc
  exact hs c (List.mem_of_mem_drop (List.mem_of_mem_take hc))
theorem nosur_cr {P S : Str} {p n : Nat} (h : P.cps.toList = (S.cps.toList.drop p).take n) (hs : noSur S.cps.toList) : noSur ((⟨#[13]⟩ : Str) ++ P).cps.toList := by
  intro c hc
  rw [Str.cps_append, Array.toList_append] at hc
  rcases List.mem_append.mp hc with hc | hc
  · have : c = 13 := by simpa using hc
    omega
  · exact nosur_of h hs c hc
theorem fr_two {h₀ h : Heap} {L : Addr} {m : Str → Option Value} {z1 z2 : Str} {b1 b2 : Value} (h1 : m z1 = some b1) (h2 : m z2 = some b2) (F : Fr h₀ L h m) : Fr h₀ L h (fun y => if y = z1 then some b1 else if y = z2 then some b2 else m y) := by
  have e : (fun y => if y = z1 then some b1 else if y = z2 then some b2 else m y) = m := by
    funext y
    by_cases k1 : y = z1
    · rw [if_pos k1, k1, h1]
    · rw [if_neg k1]
      by_cases k2 : y = z2
      · rw [if_pos k2, k2, h2]
      · rw [if_neg k2]
  rw [e]; exact F
theorem stop_rc {w : World} {body : List Stmt} {qual : Str} {scope : Scope} {cdv : Value} (_T : RcTail w body qual scope cdv) {M : Model} {A : Around} {env : Env} {Q : Flow → Shared → Prop} {E : Value → Shared → Prop} {s : Shared} (h : StopAt (wpAny M A (execs (body.drop 7) env) Q E s)) : wpAny M A (execs (body.drop 7) env) Q E s := h
local macro_rules | `(tactic| walk_at "call ref") => `(tactic| (k_here; (with_reducible show wpAny _ _ (call (Value.ref 91) _) _ _ _); refine stopAt_ ?_))
local macro_rules | `(tactic| walk_at "call ref") => `(tactic| (k_here; (with_reducible show wpAny _ _ (call (Value.ref 42) _) _ _ _); refine stopAt_ ?_))
local macro_rules | `(tactic| walk_at "execs cons") => `(tactic| (k_here; (with_reducible rename RcTail _ _ _ _ _ => T9); k_dflt (refine stop_rc T9 ?_)))
/-- readChunk from its second row on -/
def RcMid (w : World) (body : List Stmt) (qual : Str) (scope : Scope) (cdv : Value) : Prop :=
  ∀ (kt : Nat → Nat) (x d q nl td tx er : Nat) (_ : d < x ∧ x < q ∧ q < td ∧ td < tx ∧ tx < er) (C S : Str) (n p : Nat) (pl pc : Int) (tn t2 t3 t4 t5 t6 t7 : Nat) (off bufV : Value) (b : List Nat) (errs : Array Value) (ne : Nat)
    (_ : 1 ≤ n) (_ : n ≤ 20000) (_ : p ≤ S.length) (_ : S.length ≤ 10000) (_ : C.length ≤ 20000) (_ : errs.size ≤ 10000) (_ : noSur S.cps.toList) (_ : BufIs bufV b)
    (m : Str → Option Value) (_ : m (Str.ofString "self") = some (.ref x)) (_ : m (Str.ofString "chunkSize") = some (.int (n : Int) tn))
    (dp un : Nat) (gd : Option (List Code)) (outer : List Env) (A₀ : Around) (base h₀ : Heap) (L : Addr) (s : Shared) (Q : Flow → Shared → Prop) (Er : Value → Shared → Prop)
    (loose : List Str) (mean : ExcName → Option Value) (mg mb : Str → Option Value)
    (_ : Below A₀ base outer h₀) (_ : Fr h₀ L s.heap m) (_ : (hd.heap_39 w.params).In h₀) (_ : News h₀ L s.heap (SX w kt x d q nl tx er (.str C t2) (.int C.length t3) off (.int pl t4) (.int pc t5) bufV errs ne ++ TL w kt tx td (.str S t6) (.int (p : Int) t7))) (_ : Top hd.view_39 loose mean mg mb h₀)
    (_ : dp + 4 * 2 < recursionLimit) (_ : un + 40 * 2 < cLine)
    (_ : ∀ (h' : Heap) (tk' : Nat) (m' : Str → Option Value) (v : Value) (E' : Ledger), Fr h₀ L h' m' → News h₀ L h' E' → rcPost w kt x d q nl td tx er C S p n pl pc b t6 errs v E' → Q (.ret v) { s with heap := h', toks := tk' }),
    wpAny (model PySem.Challenge.rw_te0024_01.row.prog w) (ktrTop dp un gd qual scope L 113 cdv [] outer) (execs (body.drop 1) (envOf qual scope L 113 cdv)) Q Er s
set_option maxRecDepth 100000 in
set_option maxHeartbeats 2000000 in
theorem rc_mid (w : World) {oc od osl} {name qual : Str} {params : Arguments} {body : List Stmt} {scope : Scope} {dV kV doc pm cdv ct : Value} {an : Option Addr} :
    (hd.heap_39 w.params).lookup 113 = some ⟨oc, od, .func (fnOf name qual params body scope dV kV doc pm an cdv ct), osl⟩ → RcMid w body qual scope cdv := by
  unfold RcMid
  k_fill
  show _ → RcMid w body qual scope cdv
  intro ho
  obtain ⟨rfl, rfl, rfl, rfl⟩ := fn_parts ho (show (hd.heap_39 w.params).lookup 113 = some _ by k_is)
  unfold RcMid
  intro kt x d q nl td tx er hord C S n p pl pc tn t2 t3 t4 t5 t6 t7 off bufV b errs ne hn hn' hp' hS hC hE hsur hb m hm1 hm2 dp un gd outer A₀ base h₀ L s Q Er loose mean mg mb B F KX N TT hroom hun hret
  refine' ex_0_15 (ord6 hord) ?_; intro g1 g2 g3 g4 g5 g6 g7 g8 g9 g10 g11 g12 g13 g14 g15
  have hT := rc_tail w (show (hd.heap_39 w.params).lookup 113 = some _ by k_is)
  clear ho
  have F1 := fr_two hm1 hm2 F
  clear F
  simp only [TL, SX, ent, List.cons_append, List.nil_append] at N
  w_on
  w_top on
  rcases hb with ⟨rfl, rfl⟩ | ⟨rfl, tb, rfl⟩
  · skip
    w_strict (walk_at "MY steps")
    unfold StopAt
    (with_reducible rename Fr _ _ _ _ => F5)
    (with_reducible rename News _ _ _ _ => N5)
    (try dsimp only [List.append_nil])
    k_dflt (refine' Does.useP [] (does__position _ _ _ _ _ _ _ _ ?h1 _ _ _ _ _ _ _ _ _ _ _ _ _ ?h2 ?h3) ?k1 ?k2 ?k3 ?k4 ?k5 ?kd ?kK ?kr ?ku ?_)
    case k4 => exact N5
    case k1 => k_asm
    case k2 => exact F5
    case k3 => k_asm
    case k5 => k_asm
    case kK => first | exact rfl | assumption
    case kr => walk_at "MY room"
    case ku => walk_at "MY units"
    (case h1 => omega); (case h2 => omega); (case h3 => omega)
    case kd => walk_at "MY dis"
    k_whole
    intro v9 E9 h9 tk9 F9 N9 p9 T9
    (try dsimp only at T9)
    (try simp only [List.nil_append, List.cons_append] at N9)
    clear N5 F5
    refine' ex_3_3 (p9) ?_; intro t9 t8 t7 e9 l9 e8; (try clear p9)
    subst e9
    subst e8
    replace l9 := ltN l9
    (try simp only [List.nil_append, List.cons_append, SX, ent] at N9)
    w_strict (walk_at "MY steps")
    unfold StopAt
    (with_reducible rename Fr _ _ _ _ => F5)
    (with_reducible rename News _ _ _ _ => N5)
    (try dsimp only [List.append_nil])
    k_dflt (refine' Does.useP [_, _, _, _, _] (does_read _ _ _ _ ?h1 _ _ _ _ _ _ ?h2 ?h3 ?h4) ?k1 ?k2 ?k3 ?k4 ?k5 ?kd ?kK ?kr ?ku ?_)
    case k4 => exact N5
    case k1 => k_asm
    case k2 => exact F5
    case k3 => k_asm
    case k5 => k_asm
    case kK => first | exact rfl | assumption
    case kr => walk_at "MY room"
    case ku => walk_at "MY units"
    (case h1 => omega); (case h2 => omega); (case h3 => omega); (case h4 => omega)
    case kd => walk_at "MY dis"
    k_whole
    intro v9 E9 h9 tk9 F9 N9 p9 T9
    (try dsimp only at T9)
    (try simp only [List.nil_append, List.cons_append] at N9)
    clear N5 F5
    refine' ex_3_5 (p9) ?_; intro P9 t9 t8 hP hl9 hq9 e9 e8; (try clear p9)
    subst e9
    subst e8
    (try simp only [List.nil_append, List.cons_append, TL, ent] at N9)
    w_strict (walk_at "MY steps")
    · skip
      unfold StopAt
      (with_reducible rename RcTail _ _ _ _ _ => hT)
      k_dflt (refine' hT _ _ _ _ _ _ _ ?h1 _ _ _ _ _ _ _ _ _ _ ?h2 ?h3 ?h4 ?h5 _ _ _ _ _ _ _ _ _ _ _ _ _ _ _ ?kB ?kF ?kS ?kX _ _ ?kO ?kN ?kT ?kr ?ku ?_)
      case kB => k_asm
      case kF => k_asm
      case kS => rfl
      case kX => k_asm
      case kN => k_asm
      case kO =>
        simp only [OwnOff, List.forall_mem_cons]
        (repeat' (first | (refine And.intro ?_ ?_) | k_ne | (exact fun _ h9 => absurd h9 List.not_mem_nil)))
      case kT => k_asm
      case h1 => omega
      case h2 => first | omega | (rw [Str.length_append]; show 1 + _ ≤ _; omega)
      case h3 => first | assumption | omega | (rw [Str.length_append]; show _ ≤ 1 + _; omega)
      case h4 => first | exact nosur_of hP (by assumption) | exact nosur_cr hP (by assumption)
      case h5 => omega
      case kr => walk_at "MY room"
      case ku => walk_at "MY units"
      k_whole
      intro h8 tk8 m8 R8 b8 er8 n8 ta8 tb8 F8 N8 hR8 hb8 he8 hB8
      w_strict (walk_at "MY steps")
      refine' hret _ _ _ _ _ ?F ?N (rc_fin hP rfl ?pos hp' hR8 hb8 he8 hB8)
      case F => k_asm
      case N => assumption
      case pos => first | assumption | omega
    · (with_reducible rename News _ _ _ (_ :: _) => kN9)
      refine' hret _ _ _ _ _ ?F (fun p hp => kN9 p (.tail _ hp)) (rc_finF hP ?pos hp')
      case F => k_asm
      case pos => assumption
  · skip
    w_strict (walk_at "MY steps")
    unfold StopAt
    (with_reducible rename Fr _ _ _ _ => F5)
    (with_reducible rename News _ _ _ _ => N5)
    (try dsimp only [List.append_nil])
    k_dflt (refine' Does.useP [] (does__position _ _ _ _ _ _ _ _ ?h1 _ _ _ _ _ _ _ _ _ _ _ _ _ ?h2 ?h3) ?k1 ?k2 ?k3 ?k4 ?k5 ?kd ?kK ?kr ?ku ?_)
    case k4 => exact N5
    case k1 => k_asm
    case k2 => exact F5
    case k3 => k_asm
    case k5 => k_asm
    case kK => first | exact rfl | assumption
    case kr => walk_at "MY room"
    case ku => walk_at "MY units"
    (case h1 => omega); (case h2 => omega); (case h3 => omega)
    case kd => walk_at "MY dis"
    k_whole
    intro v9 E9 h9 tk9 F9 N9 p9 T9
    (try dsimp only at T9)
    (try simp only [List.nil_append, List.cons_append] at N9)
    clear N5 F5
    refine' ex_3_3 (p9) ?_; intro t9 t8 t7 e9 l9 e8; (try clear p9)
    subst e9
    subst e8
    replace l9 := ltN l9
    (try simp only [List.nil_append, List.cons_append, SX, ent] at N9)
    w_strict (walk_at "MY steps")
    unfold StopAt
    (with_reducible rename Fr _ _ _ _ => F5)
    (with_reducible rename News _ _ _ _ => N5)
    (try dsimp only [List.append_nil])
    k_dflt (refine' Does.useP [_, _, _, _, _] (does_read _ _ _ _ ?h1 _ _ _ _ _ _ ?h2 ?h3 ?h4) ?k1 ?k2 ?k3 ?k4 ?k5 ?kd ?kK ?kr ?ku ?_)
    case k4 => exact N5
    case k1 => k_asm
    case k2 => exact F5
    case k3 => k_asm
    case k5 => k_asm
    case kK => first | exact rfl | assumption
    case kr => walk_at "MY room"
    case ku => walk_at "MY units"
    (case h1 => omega); (case h2 => omega); (case h3 => omega); (case h4 => omega)
    case kd => walk_at "MY dis"
    k_whole
    intro v9 E9 h9 tk9 F9 N9 p9 T9
    (try dsimp only at T9)
    (try simp only [List.nil_append, List.cons_append] at N9)
    clear N5 F5
    refine' ex_3_5 (p9) ?_; intro P9 t9 t8 hP hl9 hq9 e9 e8; (try clear p9)
    subst e9
    subst e8
    (try simp only [List.nil_append, List.cons_append, TL, ent] at N9)
    w_strict (walk_at "MY steps")
    unfold StopAt
    (with_reducible rename RcTail _ _ _ _ _ => hT)
    k_dflt (refine' hT _ _ _ _ _ _ _ ?h1 _ _ _ _ _ _ _ _ _ _ ?h2 ?h3 ?h4 ?h5 _ _ _ _ _ _ _ _ _ _ _ _ _ _ _ ?kB ?kF ?kS ?kX _ _ ?kO ?kN ?kT ?kr ?ku ?_)
    case kB => k_asm
    case kF => k_asm
    case kS => rfl
    case kX => k_asm
    case kN => k_asm
    case kO =>
      simp only [OwnOff, List.forall_mem_cons]
      (repeat' (first | (refine And.intro ?_ ?_) | k_ne | (exact fun _ h9 => absurd h9 List.not_mem_nil)))
    case kT => k_asm
    case h1 => omega
    case h2 => first | omega | (rw [Str.length_append]; show 1 + _ ≤ _; omega)
    case h3 => first | assumption | omega | (rw [Str.length_append]; show _ ≤ 1 + _; omega)
    case h4 => first | exact nosur_of hP (by assumption) | exact nosur_cr hP (by assumption)
    case h5 => omega
    case kr => walk_at "MY room"
    case ku => walk_at "MY units"
    k_whole
    intro h8 tk8 m8 R8 b8 er8 n8 ta8 tb8 F8 N8 hR8 hb8 he8 hB8
    w_strict (walk_at "MY steps")
    refine' hret _ _ _ _ _ ?F ?N (rc_fin hP ?hD ?pos hp' hR8 hb8 he8 hB8)
    case F => k_asm
    case N => assumption
    case pos => first | assumption | omega | (rw [Str.length_append]; show _ ≤ 1 + _; omega)
    case hD => rw [Str.cps_append, Array.toList_append]; rfl
theorem stop_mid {w : World} {body : List Stmt} {qual : Str} {scope : Scope} {cdv : Value} (_T : RcMid w body qual scope cdv) {M : Model} {A : Around} {env : Env} {Q : Flow → Shared → Prop} {E : Value → Shared → Prop} {s : Shared} (h : StopAt (wpAny M A (execs (body.drop 1) env) Q E s)) : wpAny M A (execs (body.drop 1) env) Q E s := h
local macro_rules | `(tactic| walk_at "execs cons") => `(tactic| (k_here; (with_reducible rename RcMid _ _ _ _ _ => T9); k_dflt (refine stop_mid T9 ?_)))
set_option maxRecDepth 100000 in
set_option maxHeartbeats 2000000 in
theorem does_readChunk (w : World) (kt : Nat → Nat) (x d q nl td tx er : Nat) (hord : d < x ∧ x < q ∧ q < td ∧ td < tx ∧ tx < er) (C S : Str) (n p : Nat) (pl pc : Int) (t1 t2 t3 t4 t5 t6 t7 : Nat) (off bufV : Value) (b : List Nat) (errs : Array Value) (ne : Nat)
    (hn : 1 ≤ n) (hn' : n ≤ 20000) (hp' : p ≤ S.length) (hS : S.length ≤ 10000) (hC : C.length ≤ 20000) (hE : errs.size ≤ 10000) (hsur : noSur S.cps.toList) (hb : BufIs bufV b) :
    Does w 3 (.ref 113) [.ref x, .int (n : Int) t1] (SX w kt x d q nl tx er (.str C t2) (.int C.length t3) off (.int pl t4) (.int pc t5) bufV errs ne ++ TL w kt tx td (.str S t6) (.int (p : Int) t7))
      (rcPost w kt x d q nl td tx er C S p n pl pc b t6 errs) := by
  unfold Does
  k_fill
  refine' ex_0_15 (ord6 hord) ?_; intro g1 g2 g3 g4 g5 g6 g7 g8 g9 g10 g11 g12 g13 g14 g15
  have hM := rc_mid w (by k_is)
  intro dp un gd cn cs a ccd cl outer A₀ base h₀ L m s R loose mean mg mb rest B F KX N T hdis hk hroom hun hret
  refine' enterR (binds := [(Str.ofString "self", .ref x), (Str.ofString "chunkSize", .int (n : Int) t1)]) ?k1 ?k2 ?k3 ?k4 ?k5 ?kd ?kA ?kF ?kK ?k6 ?k7 ?k8 ?k9 ?kB ?_ ?c2 ?c3 ?c4 ?c5
  (case kA => exact rfl); (case kF => exact rfl); (case kK => first | exact rfl | assumption); (case k1 => k_asm); (case k2 => k_asm); (case k3 => k_asm); (case k4 => k_asm); (case k5 => k_asm); (case kd => assumption); (case k6 => k_dflt k_is); (case k7 => k_dflt k_is); (case k8 => k_room); (case k9 => first | exact BindsTo.of_eq rfl | exact binds_K (by k_in) rfl (by k_is) rfl rfl rfl); (case c5 => decide); (case kB => exact locs rfl); (case c2 => exact rfl); (case c3 => exact rfl); (case c4 => exact rfl)
  k_whole
  intro g' L' h' FG' F' N' B' X' T' lt'
  clear N F
  w_on
  w_top on
  w_strict (walk_at "MY steps")
  unfold StopAt
  (with_reducible rename RcMid _ _ _ _ _ => hM)
  (with_reducible rename Fr _ _ _ _ => F5)
  k_dflt (refine' hM kt x d q nl td tx er hord C S _ p pl pc _ t2 t3 t4 t5 t6 t7 off bufV b errs ne ?h1 ?h2 hp' hS hC hE hsur hb _ ?m1 ?m2 _ _ _ _ _ _ _ _ _ _ _ _ _ _ _ ?kB ?kF ?kX ?kN ?kT ?kr ?ku ?_)
  case kB => k_asm
  case kF => exact F5
  case m1 => rfl
  case m2 => rfl
  case kX => k_asm
  case kN => k_asm
  case kT => k_asm
  case h1 => omega
  case h2 => omega
  case kr => walk_at "MY room"
  case ku => walk_at "MY units"
  k_whole
  intro h8 tk8 m8 v8 E8 F8 N8 p8
  w_strict (walk_at "MY steps")
  refine' hret _ _ _ _ ?F (news_app ?N ?R) p8
  case F => k_asm
  case N => assumption
  case R => assumption
set_option maxRecDepth 100000 in
set_option maxHeartbeats 2000000 in
theorem does_readChunkD (w : World) (kt : Nat → Nat) (x d q nl td tx er : Nat) (hord : d < x ∧ x < q ∧ q < td ∧ td < tx ∧ tx < er) (C S : Str) (n p : Nat) (pl pc : Int) (t1 t2 t3 t4 t5 t6 t7 : Nat) (off bufV : Value) (b : List Nat) (errs : Array Value) (ne : Nat)
    (hn : n = 10240) (hp' : p ≤ S.length) (hS : S.length ≤ 10000) (hC : C.length ≤ 20000) (hE : errs.size ≤ 10000) (hsur : noSur S.cps.toList) (hb : BufIs bufV b) :
    Does w 3 (.ref 113) [.ref x] (SX w kt x d q nl tx er (.str C t2) (.int C.length t3) off (.int pl t4) (.int pc t5) bufV errs ne ++ TL w kt tx td (.str S t6) (.int (p : Int) t7))
      (rcPost w kt x d q nl td tx er C S p n pl pc b t6 errs) := by
  subst hn
  unfold Does
  k_fill
  refine' ex_0_15 (ord6 hord) ?_; intro g1 g2 g3 g4 g5 g6 g7 g8 g9 g10 g11 g12 g13 g14 g15
  have hM := rc_mid w (by k_is)
  intro dp un gd cn cs a ccd cl outer A₀ base h₀ L m s R loose mean mg mb rest B F KX N T hdis hk hroom hun hret
  refine' enterR (binds := [(Str.ofString "self", .ref x), (Str.ofString "chunkSize", .none)]) ?k1 ?k2 ?k3 ?k4 ?k5 ?kd ?kA ?kF ?kK ?k6 ?k7 ?k8 ?k9 ?kB ?_ ?c2 ?c3 ?c4 ?c5
  (case kA => exact rfl); (case kF => exact rfl); (case kK => first | exact rfl | assumption); (case k1 => k_asm); (case k2 => k_asm); (case k3 => k_asm); (case k4 => k_asm); (case k5 => k_asm); (case kd => assumption); (case k6 => k_dflt k_is); (case k7 => k_dflt k_is); (case k8 => k_room); (case k9 => first | exact BindsTo.of_eq rfl | exact binds_K (by k_in) rfl (by k_is) rfl rfl rfl); (case c5 => decide); (case kB => exact locs rfl); (case c2 => exact rfl); (case c3 => exact rfl); (case c4 => exact rfl)
  k_whole
  intro g' L' h' FG' F' N' B' X' T' lt'
  clear N F
  w_on
  w_top on
  w_strict (walk_at "MY steps")
  unfold StopAt
  (with_reducible rename RcMid _ _ _ _ _ => hM)
  (with_reducible rename Fr _ _ _ _ => F5)
  k_dflt (refine' hM kt x d q nl td tx er hord C S 10240 p pl pc _ t2 t3 t4 t5 t6 t7 off bufV b errs ne ?h1 ?h2 hp' hS hC hE hsur hb _ ?m1 ?m2 _ _ _ _ _ _ _ _ _ _ _ _ _ _ _ ?kB ?kF ?kX ?kN ?kT ?kr ?ku ?_)
  case kB => k_asm
  case kF => exact F5
  case m1 => rfl
  case m2 => rfl
  case kX => k_asm
  case kN => k_asm
  case kT => k_asm
  case h1 => omega
  case h2 => omega
  case kr => walk_at "MY room"
  case ku => walk_at "MY units"
  k_whole
  intro h8 tk8 m8 v8 E8 F8 N8 p8
  w_strict (walk_at "MY steps")
  refine' hret _ _ _ _ ?F (news_app ?N ?R) p8
  case F => k_asm
  case N => assumption
  case R => assumption
end
section
local macro_rules | `(tactic| k_lt $h) => `(tactic| (replace $h := allLt_of $h; simp only [AllLt, and_true] at $h:ident; (repeat (have lh9 := And.left $h; replace $h := And.right $h))))
theorem chain_lt' {E : Ledger} {d : Addr} (h : ∀ p ∈ E, p.1 < d) : ∀ p ∈ E, @LT.lt Nat _ p.1 d := h
/-- what the constructor leaves -/
def ctorPost (w : World) (text : Str) (t : Nat) (rest : Ledger) (v : Value) (E' : Ledger) : Prop :=
  ∃ (kt : Nat → Nat) (x d q nl td tx er : Nat) (t1 t2 t3 t4 t5 t6 : Nat), (d < x ∧ x < q ∧ q < td ∧ td < tx ∧ tx < er) ∧ (∀ p ∈ rest, @LT.lt Nat _ p.1 d) ∧ v = .ref x ∧
    E' = SX0 w kt x d q nl tx er (.str (Str.ofString "") t1) (.int 0 t2) (.int 0 t3) (.int 0 t4) (.int 0 t5) .none #[] 0 ++ TL w kt tx td (.str text t) (.int 0 t6)
theorem ctor_fin {w : World} {text : Str} {t : Nat} {rest : Ledger} (k : List Nat) {x d q nl td tx er t1 t2 t3 t4 t5 t6 : Nat} (ho : d < x ∧ x < q ∧ q < td ∧ td < tx ∧ tx < er) (hl : ∀ p ∈ rest, @LT.lt Nat _ p.1 d) :
    ctorPost w text t rest (.ref x) (SX0 w (fun i => k.getD i 0) x d q nl tx er (.str (Str.ofString "") t1) (.int 0 t2) (.int 0 t3) (.int 0 t4) (.int 0 t5) .none #[] 0 ++ TL w (fun i => k.getD i 0) tx td (.str text t) (.int 0 t6)) :=
  ⟨_, x, d, q, nl, td, tx, er, t1, t2, t3, t4, t5, t6, ho, hl, rfl, rfl⟩
theorem perm7 {h₀ h : Heap} {L : Addr} {a b c d e f g : Addr × Obj} (N : News h₀ L h [a, b, c, d, e, f, g]) : News h₀ L h [a, e, f, g, b, c] := fun p hp => N p (by
  simp only [List.mem_cons, List.not_mem_nil, or_false] at hp ⊢
  rcases hp with h | h | h | h | h | h <;> simp [h])
set_option maxRecDepth 100000 in
set_option maxHeartbeats 4000000 in
/-- the class called; rest: the whole ledger ahead of it -/
theorem make_stream (w : World) (text : Str) (t : Nat) (dp un : Nat) (gd : Option (List Code)) (cn : Str) (cs : Scope) (a : Addr) (ccd : Value) (cl : List (Str × Addr)) (outer : List Env) (A₀ : Around) (base h₀ : Heap) (L : Addr) (m : Str → Option Value) (s : Shared) (Q Er : Value → Shared → Prop)
    (loose : List Str) (mean : ExcName → Option Value) (mg mb : Str → Option Value) (rest : Ledger)
    (B : Below A₀ base outer h₀) (F : Fr h₀ L s.heap m) (KX : (hd.heap_39 w.params).In h₀) (N : News h₀ L s.heap rest) (TT : Top hd.view_39 loose mean mg mb h₀) (hk : cs.kind = .function)
    (hroom : dp + 4 * 3 < recursionLimit) (hun : un + 40 * 3 < cLine)
    (hret : ∀ v E' h' tk', Fr h₀ L h' m → News h₀ L h' (E' ++ rest) → ctorPost w text t rest v E' → Q v { s with heap := h', toks := tk' }) :
    wpAny (model PySem.Challenge.rw_te0024_01.row.prog w) (ktrTop dp un gd cn cs L a ccd cl outer) (call (.ref 138) [.str text t]) Q Er s := by
  revert KX
  k_fill
  intro KX
  refine' call_cls ?k1 ?k2 ?k3 ?k4 ?k5 ?k6 ?_; (case k1 => k_asm); (case k2 => k_asm); (case k3 => k_asm); (case k4 => k_is); (case k5 => k_is); (case k6 => k_is); intro x d h1 F1 N1 l1 l2
  have l1' : ∀ p ∈ rest, @LT.lt Nat _ p.1 d := l1
  have l2' := ltN l2
  have N : News h₀ L h1 ([(x, instObj 138 d), (d, dictOf [] 0)] ++ rest) := N1
  have hdis : ∀ q ∈ rest, ∀ r ∈ [((x, instObj 138 d) : Addr × Obj), (d, dictOf [] 0)], r.1 ≠ q.1 := by
    intro q hq r hr
    have := l1' q hq
    simp only [List.mem_cons, List.not_mem_nil, or_false] at hr
    rcases hr with rfl | rfl
    · exact neN (by dsimp only; omega)
    · exact neN (by dsimp only; omega)
  clear N1 F
  have F := F1
  clear F1
  refine' enterR (binds := [(Str.ofString "self", .ref x), (Str.ofString "source", .str text t)]) ?k1 ?k2 ?k3 ?k4 ?k5 ?kd ?kA ?kF ?kK ?k6 ?k7 ?k8 ?k9 ?kB ?_ ?c2 ?c3 ?c4 ?c5
  (case kA => exact rfl); (case kF => exact rfl); (case kK => first | exact rfl | assumption); (case k1 => k_asm); (case k2 => k_asm); (case k3 => k_asm); (case k4 => k_asm); (case k5 => k_asm); (case kd => assumption); (case k6 => k_dflt k_is); (case k7 => k_dflt k_is); (case k8 => k_room); (case k9 => first | exact BindsTo.of_eq rfl | exact binds_K (by k_in) rfl (by k_is) rfl rfl rfl); (case c5 => decide); (case kB => exact locs rfl); (case c2 => exact rfl); (case c3 => exact rfl); (case c4 => exact rfl)
  k_whole
  intro g' L' h' FG' F' N' B' X' T' lt'
  clear N F
  w_on
  w_top on
  w_strict (walk_at "MY steps")
  (with_reducible rename News _ _ _ (_ :: _) => kN9)
  have P := perm7 kN9
  refine' hret _ _ _ _ ?F (news_app ?N ?R) (ctor_fin [_, _, _, _, _, _, _, _, _, _, _, _] ?o l1')
  case F => k_asm
  case N => exact P
  case R => assumption
  case o => omega
end
theorem crlf_append : ∀ (X Y : List Nat), ¬ (X.getLast? = some 13 ∧ Y.head? = some 10) → crlf (X ++ Y) = crlf X ++ crlf Y
  | [], Y, _ => rfl
  | [c], Y, h => by
    show crlf (c :: Y) = c :: crlf Y
    refine crlf_cons ?_
    rintro ⟨r, e⟩
    injection e with e1 e2
    exact h ⟨by rw [e1]; rfl, by rw [e2]; rfl⟩
  | c :: d :: r, Y, h => by
    have hl : (c :: d :: r).getLast? = (d :: r).getLast? := by simp [List.getLast?_cons_cons]
    by_cases hc : c = 13 ∧ d = 10
    · obtain ⟨rfl, rfl⟩ := hc
      show crlf (13 :: 10 :: (r ++ Y)) = crlf (13 :: 10 :: r) ++ crlf Y
      rw [crlf_starts, crlf_starts, crlf_append r Y ?_]
      · rfl
      · rintro ⟨h1, h2⟩
        refine h ⟨?_, h2⟩
        rw [hl]
        cases r with
        | nil => cases h1
        | cons a t => rw [List.getLast?_cons_cons]; exact h1
    · have hs : ∀ Z, ¬ starts (c :: d :: Z) := by
        rintro Z ⟨t, e⟩
        injection e with e1 e2
        injection e2 with e2 _
        exact hc ⟨e1, e2⟩
      show crlf (c :: d :: (r ++ Y)) = crlf (c :: d :: r) ++ crlf Y
      rw [crlf_cons (hs _), crlf_cons (hs _)]
      have ih := crlf_append (d :: r) Y (by rw [← hl]; exact h)
      show c :: crlf (d :: r ++ Y) = _
      rw [ih]; rfl
theorem cut13_cat (D : List Nat) : (cut13 D).1 ++ (cut13 D).2 = D := by
  unfold cut13
  split
  · rename_i h
    obtain ⟨h1, h2⟩ := h
    show D.dropLast ++ [13] = D
    have hne : D ≠ [] := by intro e; rw [e] at h1; simp at h1
    have h3 : D.getLast hne = 13 := by
      rw [List.getLast?_eq_some_getLast hne] at h2
      exact Option.some.inj h2
    have := List.dropLast_concat_getLast hne
    rw [h3] at this
    exact this
  · exact List.append_nil D
theorem norm_split (D rest : List Nat) (h : 2 ≤ D.length ∨ rest = []) : norm (D ++ rest) = norm (cut13 D).1 ++ norm ((cut13 D).2 ++ rest) := by
  have e : crlf (D ++ rest) = crlf (cut13 D).1 ++ crlf ((cut13 D).2 ++ rest) := by
    have hc := cut13_cat D
    have : D ++ rest = (cut13 D).1 ++ ((cut13 D).2 ++ rest) := by rw [← List.append_assoc, hc]
    rw [this]
    refine crlf_append _ _ ?_
    rintro ⟨h1, h2⟩
    unfold cut13 at h1 h2
    split at h1
    · rename_i hh
      rw [if_pos hh] at h2
      simp at h2
    · rename_i hh
      rw [if_neg hh] at h2
      rcases h with h | h
      · exact hh ⟨by omega, h1⟩
      · subst h
        cases h2
  unfold norm
  rw [e, List.map_append]
/-- the raw piece is not empty: what becomes of it is not either -/
theorem cut13_pos (D : List Nat) (h : D ≠ []) : (cut13 D).1 ≠ [] := by
  unfold cut13
  split
  · rename_i hh
    intro e
    have h1 : D.dropLast.length = D.length - 1 := List.length_dropLast
    have h2 : D.dropLast = [] := e
    rw [h2] at h1
    simp at h1
    omega
  · exact h
theorem crlf_pos : ∀ l : List Nat, l ≠ [] → crlf l ≠ []
  | [], h => absurd rfl h
  | [_], _ => by simp [crlf]
  | c :: d :: r, _ => by
    rw [crlf]
    split <;> simp
theorem norm_pos (l : List Nat) (h : l ≠ []) : norm l ≠ [] := by
  unfold norm
  intro e
  exact crlf_pos l h (List.map_eq_nil_iff.mp e)
/-- the stream's state; U: what came before the chunk -/
structure StS where
  C : Str
  o : Nat
  p : Nat
  pl : Int
  pc : Int
  b : List Nat
  errs : Array Value
  U : List Nat
  bufV : Value
  ta : Nat
  tb : Nat
  tc : Nat
  t4 : Nat
  t5 : Nat
  t7 : Nat
  ne : Nat
/-- the raw code points not yet looked at -/
def rawOf (S : Str) (st : StS) : List Nat := st.b ++ S.cps.toList.drop st.p
/-- the signs that are still to come -/
def remOf (S : Str) (st : StS) : List Nat := st.C.cps.toList.drop st.o ++ norm (rawOf S st)
structure StOk (S : Str) (st : StS) : Prop where
  o : st.o ≤ st.C.length
  p : st.p ≤ S.length
  C : st.C.length ≤ 15000
  E : st.errs.size + badCount (rawOf S st) ≤ 10000
/-- what readChunk makes of a state whose chunk is read -/
structure RcNext (S : Str) (n : Nat) (st st' : StS) : Prop where
  C : st'.C.cps.toList = norm (cut13 (rcIn st.b S st.p n)).1
  b : st'.b = (cut13 (rcIn st.b S st.p n)).2
  o : st'.o = 0
  p : st'.p = min (st.p + n) S.length
  pl : st'.pl = posL st.C st.pl st.C.length
  pc : st'.pc = posC st.C st.pc st.C.length
  E : st'.errs.size = st.errs.size + badCount (cut13 (rcIn st.b S st.p n)).1
  B : Bads st.errs → Bads st'.errs
  U : st'.U = st.U ++ st.C.cps.toList
theorem badCount_append (a b : List Nat) : badCount (a ++ b) = badCount a + badCount b := by
  unfold badCount; rw [List.filter_append, List.length_append]
theorem raw_split {S : Str} {n : Nat} {st st' : StS} (h : RcNext S n st st') (hp : st.p ≤ S.length) :
    rawOf S st = (cut13 (rcIn st.b S st.p n)).1 ++ rawOf S st' := by
  unfold rawOf
  rw [h.b, h.p, ← List.append_assoc, cut13_cat]
  unfold rcIn
  rw [List.append_assoc]
  congr 1
  have e : S.cps.toList.drop (min (st.p + n) S.length) = (S.cps.toList.drop st.p).drop n := by
    rw [List.drop_drop]
    have hl : S.cps.toList.length = S.length := rfl
    rcases Nat.le_total (st.p + n) S.length with hh | hh
    · rw [Nat.min_eq_left hh]
    · rw [Nat.min_eq_right hh, List.drop_of_length_le (by omega), List.drop_of_length_le (by omega)]
  rw [e, List.take_append_drop]
theorem raw_empty {S : Str} {n : Nat} {st : StS} (hn : 1 ≤ n) (hD : rcIn st.b S st.p n = []) : rawOf S st = [] := by
  unfold rcIn at hD
  unfold rawOf
  obtain ⟨h1, h2⟩ := List.append_eq_nil_iff.mp hD
  rw [h1, List.nil_append]
  cases h : S.cps.toList.drop st.p with
  | nil => rfl
  | cons a r =>
    rw [h] at h2
    cases n with
    | zero => omega
    | succ n => simp at h2
theorem rem_next {S : Str} {n : Nat} {st st' : StS} (h : RcNext S n st st') (hn : 2 ≤ n) (hp : st.p ≤ S.length) (ho : st.o = st.C.length) : remOf S st' = remOf S st := by
  unfold remOf
  have e0 : st.C.cps.toList.drop st.o = [] := List.drop_of_length_le (by rw [ho]; exact Nat.le_refl _)
  rw [e0, List.nil_append, h.o, List.drop_zero, h.C]
  have hs := raw_split h hp
  have hl : S.cps.toList.length = S.length := rfl
  -- the raw text is D and what lies behind it
  have hD : rawOf S st = rcIn st.b S st.p n ++ S.cps.toList.drop (st.p + n) := by
    unfold rawOf rcIn
    rw [List.append_assoc, ← List.drop_drop, List.take_append_drop]
  have hk := norm_split (rcIn st.b S st.p n) (S.cps.toList.drop (st.p + n)) (by
    by_cases h2 : st.p + n ≤ S.length
    · left
      unfold rcIn
      rw [List.length_append, List.length_take, List.length_drop, hl]
      omega
    · right
      exact List.drop_of_length_le (by omega))
  rw [hD, hk]
  congr 2
  unfold rawOf
  rw [h.b, h.p]
  congr 1
  rcases Nat.le_total (st.p + n) S.length with hh | hh
  · rw [Nat.min_eq_left hh]
  · rw [Nat.min_eq_right hh, List.drop_of_length_le (by omega), List.drop_of_length_le (by omega)]
theorem ok_next {S : Str} {n : Nat} {st st' : StS} (h : RcNext S n st st') (ok : StOk S st) (hS : S.length ≤ 10000) (hb : st.b.length ≤ 1) : StOk S st' := by
  have hs := raw_split h ok.p
  have hl : S.cps.toList.length = S.length := rfl
  refine ⟨by rw [h.o]; omega, by rw [h.p]; omega, ?_, ?_⟩
  · have h1 : st'.C.length = (norm (cut13 (rcIn st.b S st.p n)).1).length := by rw [← h.C]; rfl
    have h2 := norm_length (cut13 (rcIn st.b S st.p n)).1
    have h3 := congrArg List.length hs
    unfold rawOf at h3
    simp only [List.length_append, List.length_drop, hl] at h3
    omega
  · have h1 := congrArg badCount hs
    rw [badCount_append] at h1
    have h2 := ok.E
    have h3 := h.E
    omega
theorem err_next {S : Str} {n : Nat} {st st' : StS} (h : RcNext S n st st') (hp : st.p ≤ S.length) : st'.errs.size + badCount (rawOf S st') = st.errs.size + badCount (rawOf S st) := by
  have h1 := congrArg badCount (raw_split h hp)
  rw [badCount_append] at h1
  have h3 := h.E
  omega
theorem fall_next {S : Str} {n : Nat} {st st' : StS} (h : RcNext S n st st') (hp : st.p ≤ S.length) (hD : rcIn st.b S st.p n ≠ []) : (rawOf S st').length < (rawOf S st).length := by
  have h1 := congrArg List.length (raw_split h hp)
  rw [List.length_append] at h1
  have h2 := List.length_pos_iff.mpr (cut13_pos _ hD)
  omega
theorem pos_next {S : Str} {n : Nat} {st st' : StS} (h : RcNext S n st st') (hD : rcIn st.b S st.p n ≠ []) : st'.C.length ≠ 0 := by
  have h1 : st'.C.length = (norm (cut13 (rcIn st.b S st.p n)).1).length := by rw [← h.C]; rfl
  have h2 := List.length_pos_iff.mpr (norm_pos _ (cut13_pos _ hD))
  omega
section
open Builtin Builtin.Str StrLaws
def linesOf (l : List Nat) : Int := ((l.filter (· == 10)).length : Nat)
def colFrom (k : Int) (l : List Nat) : Int := l.foldl (fun k c => if c = 10 then 0 else k + 1) k
theorem linesOf_append (a b : List Nat) : linesOf (a ++ b) = linesOf a + linesOf b := by
  unfold linesOf; rw [List.filter_append, List.length_append, Int.natCast_add]
theorem colFrom_append (k : Int) (a b : List Nat) : colFrom k (a ++ b) = colFrom (colFrom k a) b := by
  unfold colFrom; rw [List.foldl_append]
theorem nl_at (x : Str) (i hi : Nat) : At x nlS hi i ↔ i + 1 ≤ hi ∧ x.cps.toList[i]? = some 10 := by
  have e : nlS = ⟨#[10]⟩ := by decide +kernel
  unfold At
  rw [e]
  constructor
  · rintro ⟨h1, h2⟩
    refine ⟨h1, ?_⟩
    rw [subAt_eq] at h2
    exact take1_drop.mp h2
  · rintro ⟨h1, h2⟩
    refine ⟨h1, ?_⟩
    rw [subAt_eq]
    exact take1_drop.mpr h2
theorem suf_cons (x : List Nat) (a hi : Nat) (h : a < hi) (hh : hi ≤ x.length) : ∃ c, x[a]? = some c ∧ (x.take hi).drop a = c :: (x.take hi).drop (a + 1) := by
  have hl : a < x.length := by omega
  refine ⟨x[a], List.getElem?_eq_getElem hl, ?_⟩
  have h2 : a < (x.take hi).length := by rw [List.length_take]; omega
  rw [List.drop_eq_getElem_cons h2, List.getElem_take]
theorem occ_nl (x : Str) (hi limit : Nat) (hh : hi ≤ x.length) : ∀ (n a : Nat) (found : Array Nat) (free : Nat), a + n = hi + 1 → free ≤ a → found.size + n ≤ limit →
    ((forIn (List.range' a n) (found, free) (occBody x nlS hi limit)).run.fst.size : Int) = found.size + linesOf ((x.cps.toList.take hi).drop a)
  | 0, a, found, free, h, _, _ => by
    rw [List.drop_of_length_le (by rw [List.length_take]; omega)]
    show (found.size : Int) = found.size + 0
    omega
  | n + 1, a, found, free, h, hf, hl => by
    rw [List.range'_succ, List.forIn_cons]
    unfold occBody
    have key := nl_at x a hi
    unfold At at key
    by_cases hc : a + nlS.length ≤ hi ∧ subAt x nlS a = true
    · obtain ⟨h1, h2⟩ := key.mp hc
      rw [if_pos ⟨⟨⟨by show found.size < limit; omega, hf⟩, hc.1⟩, hc.2⟩]
      have ih := occ_nl x hi limit hh n (a + 1) (found.push a) (a + nlS.length) (by omega) (Nat.le_of_eq (by rfl)) (by rw [Array.size_push]; omega)
      obtain ⟨c, e1, e2⟩ := suf_cons x.cps.toList a hi (by omega) hh
      rw [h2] at e1
      cases e1
      rw [e2]
      refine Eq.trans ih ?_
      rw [Array.size_push]
      show _ = (found.size : Int) + linesOf ([10] ++ _)
      rw [linesOf_append]
      show _ = (found.size : Int) + (1 + _)
      omega
    · rw [if_neg fun q => hc ⟨q.1.2, q.2⟩]
      have ih := occ_nl x hi limit hh n (a + 1) found free (by omega) (by omega) (by omega)
      refine Eq.trans ih ?_
      by_cases hlt : a < hi
      · obtain ⟨c, e1, e2⟩ := suf_cons x.cps.toList a hi hlt hh
        rw [e2]
        show _ = (found.size : Int) + linesOf ([c] ++ _)
        rw [linesOf_append]
        have : linesOf [c] = 0 := by
          have hne : c ≠ 10 := fun e => hc (key.mpr ⟨by omega, by rw [e1, e]⟩)
          unfold linesOf
          rw [List.filter_cons_of_neg (by simpa using hne)]
          rfl
        omega
      · rw [List.drop_of_length_le (by rw [List.length_take]; omega), List.drop_of_length_le (by rw [List.length_take]; omega)]
theorem last_nl (x : Str) (hi : Nat) (hh : hi ≤ x.length) : ∀ (n a : Nat) (st : Option Nat), a + n = hi + 1 →
    (10 ∉ (x.cps.toList.take hi).drop a → (forIn (List.range' a n) st (lastBody x nlS hi)).run = st ∧ ∀ k, colFrom k ((x.cps.toList.take hi).drop a) = k + ((x.cps.toList.take hi).drop a).length) ∧
    (10 ∈ (x.cps.toList.take hi).drop a → ∃ j : Nat, (forIn (List.range' a n) st (lastBody x nlS hi)).run = some j ∧ ∀ k, colFrom k ((x.cps.toList.take hi).drop a) = hi - (j + 1))
  | 0, a, st, h => by
    rw [List.drop_of_length_le (by rw [List.length_take]; omega)]
    exact ⟨fun _ => ⟨rfl, fun k => by show k = k + 0; omega⟩, fun hm => absurd hm List.not_mem_nil⟩
  | n + 1, a, st, h => by
    rw [List.range'_succ, List.forIn_cons]
    unfold lastBody
    have key := nl_at x a hi
    unfold At at key
    by_cases hc : a + nlS.length ≤ hi ∧ subAt x nlS a = true
    · obtain ⟨h1, h2⟩ := key.mp hc
      rw [if_pos hc]
      have ih := last_nl x hi hh n (a + 1) (some a) (by omega)
      obtain ⟨c, e1, e2⟩ := suf_cons x.cps.toList a hi (by omega) hh
      rw [h2] at e1
      cases e1
      rw [e2]
      refine ⟨fun hm => absurd (.head _) hm, fun _ => ?_⟩
      have hl : ((x.cps.toList.take hi).drop (a + 1)).length = hi - (a + 1) := by
        have : x.cps.toList.length = x.length := rfl
        rw [List.length_drop, List.length_take]; omega
      by_cases hm : 10 ∈ (x.cps.toList.take hi).drop (a + 1)
      · obtain ⟨j, ej, ek⟩ := ih.2 hm
        exact ⟨j, ej, fun k => ek 0⟩
      · obtain ⟨ej, ek⟩ := ih.1 hm
        refine ⟨a, ej, fun k => (ek 0).trans ?_⟩
        rw [hl]
        omega
    · rw [if_neg hc]
      have ih := last_nl x hi hh n (a + 1) st (by omega)
      by_cases hlt : a < hi
      · obtain ⟨c, e1, e2⟩ := suf_cons x.cps.toList a hi hlt hh
        have hne : c ≠ 10 := fun e => hc (key.mpr ⟨by omega, by rw [e1, e]⟩)
        rw [e2]
        have hcol : ∀ k l, colFrom k (c :: l) = colFrom (k + 1) l := fun k l => by
          show List.foldl _ (if c = 10 then 0 else k + 1) l = _
          rw [if_neg hne]; rfl
        refine ⟨fun hm => ?_, fun hm => ?_⟩
        · obtain ⟨ej, ek⟩ := ih.1 fun q => hm (.tail _ q)
          refine ⟨ej, fun k => ?_⟩
          rw [hcol, ek, List.length_cons]
          omega
        · obtain ⟨j, ej, ek⟩ := ih.2 ((List.mem_cons.mp hm).resolve_left (Ne.symm hne))
          exact ⟨j, ej, fun k => by rw [hcol]; exact ek _⟩
      · rw [List.drop_of_length_le (by rw [List.length_take]; omega)] at ih ⊢
        exact ⟨fun _ => ⟨(ih.1 List.not_mem_nil).1, fun k => by show k = k + 0; omega⟩, fun hm => absurd hm List.not_mem_nil⟩
theorem fromIndex_nat (n k : Nat) : fromIndex n (k : Int) = k := by unfold fromIndex; rw [if_neg (by omega)]; omega
theorem posL_eq (C : Str) (pl : Int) (k : Nat) (h : k ≤ C.length) : posL C pl k = pl + linesOf (C.cps.toList.take k) := by
  unfold posL cnt4
  have e0 : fromIndex C.length 0 = 0 := fromIndex_nat C.length 0
  rw [e0, fromIndex_nat, Nat.min_eq_left h, occ_eq, Array.length_toList]
  have := occ_nl C k (C.length + 1) h (k + 1 - 0) 0 #[] 0 (by omega) (Nat.le_refl _) (by show 0 + _ ≤ _; omega)
  rw [this]
  show pl + ((0 : Int) + _) = _
  rw [List.drop_zero, Int.zero_add]
theorem posC_eq (C : Str) (pc : Int) (k : Nat) (h : k ≤ C.length) : posC C pc k = colFrom pc (C.cps.toList.take k) := by
  unfold posC rfi4
  have e0 : fromIndex C.length 0 = 0 := fromIndex_nat C.length 0
  rw [e0, fromIndex_nat, Nat.min_eq_left h, last_eq]
  have key := last_nl C k h (k + 1 - 0) 0 none (by omega)
  rw [List.drop_zero] at key
  have hl : (C.cps.toList.take k).length = k := by rw [List.length_take]; exact Nat.min_eq_left h
  by_cases hm : 10 ∈ C.cps.toList.take k
  · obtain ⟨j, ej, ek⟩ := key.2 hm
    rw [ej, ek pc]
    dsimp only
    rw [if_neg (by omega)]
  · obtain ⟨ej, ek⟩ := key.1 hm
    rw [ej, ek pc, hl]
    dsimp only
    rw [if_pos rfl]
end
/-- what was read of the stream so far -/
def consOf (st : StS) : List Nat := st.U ++ st.C.cps.toList.take st.o
/-- the place told is right -/
def PosOk (st : StS) : Prop := st.pl = linesOf st.U ∧ st.pc = colFrom 0 st.U
/-- st' came of st by taking acc -/
structure Took (S : Str) (st : StS) (acc : List Nat) (st' : StS) : Prop where
  cons : consOf st' = consOf st ++ acc
  rem : remOf S st = acc ++ remOf S st'
  E : st'.errs.size + badCount (rawOf S st') = st.errs.size + badCount (rawOf S st)
  B : Bads st.errs → Bads st'.errs
  pos : PosOk st → PosOk st'
theorem Took.refl {S : Str} {st : StS} : Took S st [] st := ⟨(List.append_nil _).symm, rfl, rfl, id, id⟩
theorem Took.trans {S : Str} {a b c : StS} {x y : List Nat} (h : Took S a x b) (k : Took S b y c) : Took S a (x ++ y) c :=
  ⟨by rw [k.cons, h.cons, List.append_assoc], by rw [h.rem, k.rem, List.append_assoc], k.E.trans h.E, fun z => k.B (h.B z), fun z => k.pos (h.pos z)⟩
/-- taking a stretch of the chunk -/
theorem took_chunk {S : Str} {st : StS} {e tc : Nat} (h1 : st.o ≤ e) : Took S st ((st.C.cps.toList.drop st.o).take (e - st.o)) { st with o := e, tc := tc } := by
  have e1 : st.C.cps.toList.take e = st.C.cps.toList.take st.o ++ (st.C.cps.toList.drop st.o).take (e - st.o) := by
    conv => lhs; rw [show e = st.o + (e - st.o) by omega, List.take_add]
  refine ⟨?_, ?_, rfl, id, id⟩
  · show st.U ++ st.C.cps.toList.take e = (st.U ++ st.C.cps.toList.take st.o) ++ _
    rw [e1, List.append_assoc]
  · show st.C.cps.toList.drop st.o ++ _ = _ ++ (st.C.cps.toList.drop e ++ _)
    rw [← List.append_assoc]
    congr 1
    have e2 : st.C.cps.toList.drop e = (st.C.cps.toList.drop st.o).drop (e - st.o) := by rw [List.drop_drop]; congr 1; omega
    rw [e2, List.take_append_drop]
/-- reading on -/
theorem took_next {S : Str} {n : Nat} {st st' : StS} (h : RcNext S n st st') (hn : 2 ≤ n) (hp : st.p ≤ S.length) (ho : st.o = st.C.length) : Took S st [] st' := by
  have hl : st.C.cps.toList.length = st.C.length := rfl
  refine ⟨?_, (rem_next h hn hp ho).symm, err_next h hp, h.B, fun hP => ?_⟩
  · unfold consOf
    rw [h.o, h.U, ho, List.take_of_length_le (Nat.le_of_eq hl), List.take_zero]
  · unfold PosOk
    rw [h.pl, h.pc, h.U, posL_eq _ _ _ (Nat.le_refl _), posC_eq _ _ _ (Nat.le_refl _), List.take_of_length_le (Nat.le_of_eq hl), hP.1, hP.2, linesOf_append, colFrom_append]
    exact ⟨rfl, rfl⟩
/-- readChunk's answer as a state -/
def nextSt (S : Str) (n : Nat) (st : StS) (R : Str) (bufV : Value) (errs : Array Value) (ta tb tc t4 t5 t7 ne : Nat) : StS :=
  ⟨R, 0, min (st.p + n) S.length, posL st.C st.pl st.C.length, posC st.C st.pc st.C.length, (cut13 (rcIn st.b S st.p n)).2, errs, st.U ++ st.C.cps.toList, bufV, ta, tb, tc, t4, t5, t7, ne⟩
theorem next_rc {S : Str} {n : Nat} {st : StS} {R : Str} {bufV : Value} {errs : Array Value} {ta tb tc t4 t5 t7 ne : Nat} (hR : R.cps.toList = norm (cut13 (rcIn st.b S st.p n)).1)
    (hE : errs.size = st.errs.size + badCount (cut13 (rcIn st.b S st.p n)).1) (hB : Bads st.errs → Bads errs) : RcNext S n st (nextSt S n st R bufV errs ta tb tc t4 t5 t7 ne) :=
  ⟨hR, rfl, rfl, rfl, rfl, rfl, hE, hB, rfl⟩
theorem buf_len {v : Value} {b : List Nat} (h : BufIs v b) : b.length ≤ 1 := by
  rcases h with ⟨h, _⟩ | ⟨h, _⟩ <;> subst h <;> decide
/-- the pieces of a list joined -/
theorem join_snoc0 (ys : List Str) (a : Str) : (Str.join (Str.ofString "") (ys ++ [a])).cps.toList = (Str.join (Str.ofString "") ys).cps.toList ++ a.cps.toList := by
  rw [FinIter.join_snoc]
  split
  · rename_i h; subst h; rfl
  · have e : Str.ofString "" = (⟨#[]⟩ : Str) := by decide +kernel
    rw [e, FinIter.str_append_nil, Str.cps_append, Array.toList_append]
theorem weight_snoc (ys : List Str) (a : Str) : ((ys ++ [a]).map (·.length)).sum = (ys.map (·.length)).sum + a.length := by
  rw [List.map_append, List.sum_append]; simp
theorem strs_push {its : Array Value} {ys : List Str} {a : Str} {t : Nat} (h : StrsAre its.toList ys) : StrsAre (its.push (.str a t)).toList (ys ++ [a]) := by
  rw [Array.toList_push]
  have : ∀ {vs : List Value} {zs : List Str}, StrsAre vs zs → StrsAre (vs ++ [.str a t]) (zs ++ [a]) := by
    intro vs zs h
    induction h with
    | nil => exact .cons a t .nil
    | cons y t' _ ih => exact .cons y t' ih
  exact this h
/-- the pieces taken so far -/
structure Pieces (its : Array Value) (acc : List Nat) : Prop where
  at_ : ∃ ys, StrsAre its.toList ys ∧ (Str.join (Str.ofString "") ys).cps.toList = acc ∧ (ys.map (·.length)).sum = acc.length ∧ ys.length = its.size
theorem Pieces.nil : Pieces #[] [] := ⟨⟨[], .nil, rfl, rfl, rfl⟩⟩
theorem Pieces.push {its : Array Value} {acc : List Nat} {a : Str} {t : Nat} (h : Pieces its acc) {add : List Nat} (ha : a.cps.toList = add) : Pieces (its.push (.str a t)) (acc ++ add) := by
  subst ha
  obtain ⟨ys, h1, h2, h3, h4⟩ := h.at_
  refine ⟨ys ++ [a], strs_push h1, by rw [join_snoc0, h2], ?_, by simp [h4]⟩
  rw [weight_snoc, h3, List.length_append]; rfl
/-- the stretch of the chunk that the scan went over -/
def Went (goes : Nat → Bool) (C : Str) (o e : Nat) : Prop := ∀ i, o ≤ i → i < e → goes (C.cps.toList.getD i 0) = true
theorem went_all {goes : Nat → Bool} {C : Str} {o e : Nat} (he : e ≤ C.length) (h : Went goes C o e) : ∀ c ∈ (C.cps.toList.drop o).take (e - o), goes c = true := by
  intro c hc
  have hl : C.cps.toList.length = C.length := rfl
  obtain ⟨i, hi, e1⟩ := List.mem_iff_getElem.mp hc
  rw [List.getElem_take, List.getElem_drop] at e1
  rw [List.length_take, List.length_drop, hl] at hi
  have := h (o + i) (by omega) (by omega)
  rw [List.getD_eq_getElem?_getD, List.getElem?_eq_getElem (by omega), Option.getD_some, e1] at this
  exact this
theorem went_more {goes : Nat → Bool} {C : Str} {o e : Nat} (h : Went goes C o e) (hg : goes (C.cps.toList.getD e 0) = true) : Went goes C o (e + 1) := by
  intro i h1 h2
  by_cases hi : i = e
  · rw [hi]; exact hg
  · exact h i h1 (by omega)
theorem take_split {goes : Nat → Bool} {l a b : List Nat} (h : l = a ++ b) (ha : ∀ c ∈ a, goes c = true) (hb : ∀ c r, b = c :: r → goes c = false) : a = l.takeWhile goes ∧ b = l.dropWhile goes := by
  subst h
  induction a with
  | nil =>
    cases b with
    | nil => exact ⟨rfl, rfl⟩
    | cons c r =>
      have := hb c r rfl
      simp [List.takeWhile_cons, List.dropWhile_cons, this]
  | cons c r ih =>
    have h1 := ha c (.head _)
    have h2 := ih fun z hz => ha z (.tail _ hz)
    constructor
    · rw [List.cons_append, List.takeWhile_cons, if_pos h1, ← h2.1]
    · rw [List.cons_append, List.dropWhile_cons, if_pos h1, ← h2.2]
theorem rem_head {S : Str} {st : StS} {c : Nat} {r : List Nat} (ho : st.o < st.C.length) (h : remOf S st = c :: r) : c = st.C.cps.toList.getD st.o 0 := by
  have hl : st.o < st.C.cps.toList.length := ho
  unfold remOf at h
  rw [List.drop_eq_getElem_cons hl, List.cons_append] at h
  injection h with h1 h2
  rw [List.getD_eq_getElem?_getD, List.getElem?_eq_getElem hl, Option.getD_some, h1]
/-- what charsUntil gives and leaves -/
structure UntilR (S : Str) (st : StS) (goes : Nat → Bool) (r : List Nat) (st' : StS) : Prop where
  took : Took S st r st'
  r : r = (remOf S st).takeWhile goes
  rem : remOf S st' = (remOf S st).dropWhile goes
  ok : StOk S st'
  b : BufIs st'.bufV st'.b
theorem until_end {S : Str} {st st' : StS} {goes : Nat → Bool} {acc : List Nat} (t : Took S st acc st') (ok : StOk S st') (b : BufIs st'.bufV st'.b) (ha : ∀ c ∈ acc, goes c = true) (hb : ∀ c r, remOf S st' = c :: r → goes c = false) :
    UntilR S st goes acc st' := by
  have h := take_split t.rem ha hb
  exact ⟨t, h.1, h.2, ok, b⟩
theorem ok_errs {S : Str} {st : StS} (h : StOk S st) : st.errs.size ≤ 10000 := by have := h.E; omega
theorem rem_len {S : Str} {st : StS} (h : StOk S st) (hb : BufIs st.bufV st.b) (hS : S.length ≤ 10000) : (remOf S st).length ≤ 25001 := by
  unfold remOf rawOf
  have h1 := norm_length (st.b ++ S.cps.toList.drop st.p)
  have h2 := buf_len hb
  have h3 := h.C
  have hl : S.cps.toList.length = S.length := rfl
  have hc : st.C.cps.toList.length = st.C.length := rfl
  rw [List.length_append, List.length_drop, hc]
  rw [List.length_append, List.length_drop, hl] at h1
  omega
theorem took_len {S : Str} {st st' : StS} {acc : List Nat} (t : Took S st acc st') (h : StOk S st) (hb : BufIs st.bufV st.b) (hS : S.length ≤ 10000) : acc.length ≤ 25001 := by
  have h1 := congrArg List.length t.rem
  rw [List.length_append] at h1
  have := rem_len h hb hS
  omega
theorem rc_either {w : World} {kt : Nat → Nat} {x d q nl td tx er : Nat} {C S : Str} {p n : Nat} {pl pc : Int} {b : List Nat} {t6 : Nat} {errs : Array Value} {v : Value} {E' : Ledger}
    (h : rcPost w kt x d q nl td tx er C S p n pl pc b t6 errs v E') : ∃ (R : Str) (bufV : Value) (errs' : Array Value) (ne' ta tb tc t4 t5 t7 : Nat),
    E' = SX w kt x d q nl tx er (.str R ta) (.int R.length tb) (.int 0 tc) (.int (posL C pl C.length) t4) (.int (posC C pc C.length) t5) bufV errs' ne' ++ TL w kt tx td (.str S t6) (.int ((min (p + n) S.length : Nat) : Int) t7) ∧
    R.cps.toList = norm (cut13 (rcIn b S p n)).1 ∧ BufIs bufV (cut13 (rcIn b S p n)).2 ∧ errs'.size = errs.size + badCount (cut13 (rcIn b S p n)).1 ∧ (Bads errs → Bads errs') ∧
    ((v = .bool true ∧ rcIn b S p n ≠ []) ∨ (v = .bool false ∧ rcIn b S p n = [])) := by
  refine' ex_10_6 (h) ?_; intro R bufV errs' ne' ta tb tc t4 t5 t7 h1 h2 h3 h4 h5 h6; (try clear h)
  refine ⟨R, bufV, errs', ne', ta, tb, tc, t4, t5, t7, h1, h2, h3, h4, h5, ?_⟩
  cases h : rcIn b S p n with
  | nil => rw [h] at h6; exact .inr ⟨h6, rfl⟩
  | cons c r => rw [h] at h6; exact .inl ⟨h6, fun e => by cases e⟩
section
variable {S : Str} {st st' : StS} {acc : List Nat} {goes : Nat → Bool} {e : Nat}
theorem until_A {r : Str} (t : Took S st acc st') (ok : StOk S st') (hb : BufIs st'.bufV st'.b) (ha : ∀ c ∈ acc, goes c = true) (ho : (st'.o : Int) ≠ st'.C.length) (he : (e : Int) = st'.o) (hm : goes (st'.C.cps.toList.getD e 0) = false) (hr : r.cps.toList = acc) :
    UntilR S st goes r.cps.toList st' := by
  rw [hr]
  refine until_end t ok hb ha fun c l h => ?_
  have h1 := ok.o
  have h2 := rem_head (by omega) h
  have h3 : e = st'.o := by omega
  rw [h2, ← h3]; exact hm
theorem all_add (ha : ∀ c ∈ acc, goes c = true) (he : e ≤ st'.C.length) (went : Went goes st'.C st'.o e) : ∀ c ∈ acc ++ (st'.C.cps.toList.drop st'.o).take (e - st'.o), goes c = true := by
  intro c hc
  rcases List.mem_append.mp hc with hc | hc
  · exact ha c hc
  · exact went_all he went c hc
theorem until_B {r : Str} {tc : Nat} (t : Took S st acc st') (ok : StOk S st') (hb : BufIs st'.bufV st'.b) (ha : ∀ c ∈ acc, goes c = true) (hoe : st'.o ≤ e) (hec : e ≤ st'.C.length) (hne : (e : Int) ≠ st'.C.length) (went : Went goes st'.C st'.o e)
    (hm : goes (st'.C.cps.toList.getD e 0) = false) (hr : r.cps.toList = acc ++ (st'.C.cps.toList.drop st'.o).take (e - st'.o)) :
    UntilR S st goes r.cps.toList { st' with o := e, tc := tc } := by
  rw [hr]
  have ok' : StOk S { st' with o := e, tc := tc } := ⟨hec, ok.p, ok.C, ok.E⟩
  refine until_end (t.trans (took_chunk hoe)) ok' hb (all_add ha hec went) fun c l h => ?_
  have h2 := rem_head (st := { st' with o := e, tc := tc }) (by show e < st'.C.length; omega) h
  rw [h2]; exact hm
theorem take_C {n : Nat} {R : Str} {bufV : Value} {errs : Array Value} {ta tb tc t4 t5 t7 ne : Nat} (t : Took S st acc st') (ok : StOk S st') (hb : BufIs st'.bufV st'.b) (hS : S.length ≤ 10000) (ha : ∀ c ∈ acc, goes c = true) (hoe : st'.o ≤ e) (hec : (e : Int) = st'.C.length) (went : Went goes st'.C st'.o e) (hn : 2 ≤ n)
    (hR : R.cps.toList = norm (cut13 (rcIn st'.b S st'.p n)).1)
    (hE : errs.size = st'.errs.size + badCount (cut13 (rcIn st'.b S st'.p n)).1) (hB : Bads st'.errs → Bads errs) :
    Took S st (acc ++ st'.C.cps.toList.drop st'.o) (nextSt S n st' R bufV errs ta tb tc t4 t5 t7 ne) ∧ StOk S (nextSt S n st' R bufV errs ta tb tc t4 t5 t7 ne) ∧ (∀ c ∈ acc ++ st'.C.cps.toList.drop st'.o, goes c = true) ∧
      (rcIn st'.b S st'.p n ≠ [] → (rawOf S (nextSt S n st' R bufV errs ta tb tc t4 t5 t7 ne)).length < (rawOf S st').length) := by
  have he : e = st'.C.length := by omega
  have hl : st'.C.cps.toList.length = st'.C.length := rfl
  have e1 : (st'.C.cps.toList.drop st'.o).take (e - st'.o) = st'.C.cps.toList.drop st'.o := List.take_of_length_le (by rw [List.length_drop, hl]; omega)
  have tk := took_chunk (S := S) (st := st') (e := e) (tc := 0) hoe
  rw [e1] at tk
  have hall := all_add ha (by omega) went
  rw [e1] at hall
  have rc : RcNext S n { st' with o := e, tc := 0 } (nextSt S n st' R bufV errs ta tb tc t4 t5 t7 ne) := next_rc (st := { st' with o := e, tc := 0 }) hR hE hB
  have rc' : RcNext S n st' (nextSt S n st' R bufV errs ta tb tc t4 t5 t7 ne) := next_rc hR hE hB
  have tn := took_next rc hn ok.p he
  have t2 := (t.trans tk).trans tn
  rw [List.append_nil] at t2
  exact ⟨t2, ok_next rc' ok hS (buf_len hb), hall, fun h => fall_next rc' ok.p h⟩
theorem until_C {n : Nat} {r R : Str} {bufV : Value} {errs : Array Value} {ta tb tc t4 t5 t7 ne : Nat} (t : Took S st acc st') (ok : StOk S st') (hb : BufIs st'.bufV st'.b) (hS : S.length ≤ 10000) (ha : ∀ c ∈ acc, goes c = true) (hoe : st'.o ≤ e) (hec : (e : Int) = st'.C.length) (went : Went goes st'.C st'.o e) (hn : 2 ≤ n)
    (hR : R.cps.toList = norm (cut13 (rcIn st'.b S st'.p n)).1)
    (hE : errs.size = st'.errs.size + badCount (cut13 (rcIn st'.b S st'.p n)).1) (hB : Bads st'.errs → Bads errs) (hb2 : BufIs bufV (cut13 (rcIn st'.b S st'.p n)).2) (hD : rcIn st'.b S st'.p n = []) (hr : r.cps.toList = acc ++ st'.C.cps.toList.drop st'.o) :
    UntilR S st goes r.cps.toList (nextSt S n st' R bufV errs ta tb tc t4 t5 t7 ne) := by
  rw [hr]
  obtain ⟨h1, h2, h3, _⟩ := take_C (bufV := bufV) (ta := ta) (tb := tb) (tc := tc) (t4 := t4) (t5 := t5) (t7 := t7) (ne := ne) t ok hb hS ha hoe hec went hn hR hE hB
  refine until_end h1 h2 hb2 h3 fun c l h => ?_
  exfalso
  have rc' : RcNext S n st' (nextSt S n st' R bufV errs ta tb tc t4 t5 t7 ne) := next_rc hR hE hB
  have hs := raw_split rc' ok.p
  rw [raw_empty (by omega) hD] at hs
  have h4 := (List.append_eq_nil_iff.mp hs.symm).2
  have h5 := (List.append_eq_nil_iff.mp hs.symm).1
  unfold remOf at h
  rw [h4] at h
  have h6 : (nextSt S n st' R bufV errs ta tb tc t4 t5 t7 ne).C.cps.toList = [] := by
    rw [rc'.C, h5]; rfl
  rw [h6, List.drop_nil] at h
  cases h
end
section
variable {prog : Program} {w : World} {A : Around} {s : Shared} {E : Value → Shared → Prop} {Q : Value → Shared → Prop}
theorem join_pieces {its : Array Value} {acc : List Nat} {nr t : Nat} {rv : Addr} {h₀ : Heap} {L : Addr} {news : Ledger} (N : News h₀ L s.heap news) (hm : (rv, listOf its nr) ∈ news) (hp : Pieces its acc) (hw : acc.length + its.size ≤ 1048576)
    (h : ∀ r t' k, r.cps.toList = acc → Q (.str r t') { s with toks := k }) : wpAny (model prog w) A (call (.builtin "str.join") [.str (Str.ofString "") t, .ref rv]) Q E s := by
  obtain ⟨ys, h1, h2, h3, h4⟩ := hp.at_
  exact join_listW (ys := ys) ⟨_, (N _ hm).1, rfl, _, rfl⟩ h1 (by decide) (by omega) fun t' k => h _ t' k (by show (Builtin.Str.glued _ _).cps.toList = _; rw [StrLaws.glued_eq_join]; exact h2)
theorem dis_rv {p : Addr × Obj} {Ob E : Ledger} {adr : List Addr} (h : OwnOff Ob adr) (hr : ∀ a ∈ adr, a ≠ p.1) (hs : ∀ r ∈ E, r.1 ∈ adr) : ∀ q ∈ [p] ++ Ob, ∀ r ∈ E, r.1 ≠ q.1 := by
  intro q hq r hre
  rcases List.mem_append.mp hq with hq | hq
  · have : q = p := by simpa using hq
    subst this
    exact hr _ (hs r hre)
  · exact (h q hq r.1 (hs r hre)).symm
theorem size_push_le {its : Array Value} {v : Value} {nm len k : Nat} (hsz : its.size + nm ≤ 20000) (hnm : nm = k) (h : len < k) : (its.push v).size + len ≤ 20000 := by
  rw [Array.size_push]; omega
theorem pieces_size {its : Array Value} {v : Value} : (its.push v).size = its.size + 1 := Array.size_push ..
end
section
/-- the stream's part of the ledger -/
abbrev LS (w : World) (kt : Nat → Nat) (x d q nl td tx er : Nat) (S : Str) (t6 : Nat) (st : StS) : Ledger :=
  SX w kt x d q nl tx er (.str st.C st.ta) (.int st.C.length st.tb) (.int (st.o : Int) st.tc) (.int st.pl st.t4) (.int st.pc st.t5) st.bufV st.errs st.ne ++ TL w kt tx td (.str S t6) (.int ((st.p : Nat) : Int) st.t7)
/-- «a sign in chars», wherever Ob stands -/
def InTest (w : World) (chars : Value) (mem : Nat → Bool) (Ob : Ledger) : Prop :=
  ∀ (A : Around) (E : Value → Shared → Prop) (s : Shared) (X : Str) (c t : Nat) (Q : Value → Shared → Prop), X = ⟨#[c]⟩ → (∀ p ∈ Ob, s.heap.get? p.1 = some p.2) → (∀ tk, Q (.bool (mem c)) { s with toks := tk }) →
    wpAny (model PySem.Challenge.rw_te0024_01.row.prog w) A (compareOp .In (.str X t) chars) Q E s
theorem item_nat (x : Str) {e : Nat} (h : e < x.length) : Txt.item x (e : Int) = ⟨#[x.cps.toList.getD e 0]⟩ := by
  have hx : e < x.cps.size := h
  have h2 : e < x.cps.toList.length := h
  unfold Txt.item Txt.charAt
  rw [StrLaws.at_nonneg (n := x.cps[e]) (by omega) (by simpa using Array.getElem?_eq_getElem hx)]
  rw [List.getD_eq_getElem?_getD, List.getElem?_eq_getElem h2]
  simp
local macro_rules | `(tactic| walk_at "compareOp In str") => `(tactic| (k_here; (with_reducible rename InTest _ _ _ _ => iT9); k_dflt (refine' iT9 _ _ _ _ _ _ _ ?hX ?hO ?_; (case hX => (refine' item_nat _ ?_; omega)); (case hO => walk_at "MY ob"); intro tk9; (try dsimp only))))
local macro_rules | `(tactic| walk_at "MY ob") => `(tactic| (intro p9 hp9; (with_reducible rename News _ _ _ (_ :: _) => kN9); refine (kN9 p9 ?_).1; (repeat (first | exact hp9 | refine List.mem_cons_of_mem _ ?_))))
local macro_rules | `(tactic| walk_at "MY dis") => `(tactic| (exact dis_rv (by assumption) (by assumption) sxtl_sub))
local macro_rules | `(tactic| walk_at "MY pieces") => `(tactic| first | assumption | (refine' Pieces.push ?h9 ?a9; (case h9 => assumption); (case a9 => first | (refine' slice_range _ ?p9 ?r9; (case p9 => omega); (case r9 => omega)) | (refine' slice_tail _ ?p9; (case p9 => omega)))))
local macro_rules | `(tactic| walk_at "call builtin:str.join") => `(tactic| refine stopAt_ ?_)
local macro_rules | `(tactic| walk_at "call ref") => `(tactic| (k_here; (with_reducible show wpAny _ _ (call (Value.ref 113) _) _ _ _); refine stopAt_ ?_))
local macro_rules | `(tactic| walk_at "exec While") => `(tactic| refine stopAt_ ?_)
local macro_rules | `(tactic| walk_at "execs cons") => `(tactic| (k_here; (first | (with_reducible show wpAny _ _ (execs [Stmt.If _ _ _ _, _, _] _) _ _ _) | (with_reducible show wpAny _ _ (execs [Stmt.While _ _ _ _, _, _] _) _ _ _) | (with_reducible show wpAny _ _ (execs [Stmt.While _ _ _ _, _, _, _] _) _ _ _)); refine stopAt_ ?_))
theorem fr_opq5 {h₀ h : Heap} {L : Addr} {m : Str → Option Value} {b0 b1 b2 b3 b4 : Value} (z0 z1 z2 z3 z4 : Str) (F : Fr h₀ L h m) (h0 : m z0 = some b0) (h1 : m z1 = some b1) (h2 : m z2 = some b2) (h3 : m z3 = some b3) (h4 : m z4 = some b4) :
    ∃ m', Fr h₀ L h m' ∧ m' z0 = some b0 ∧ m' z1 = some b1 ∧ m' z2 = some b2 ∧ m' z3 = some b3 ∧ m' z4 = some b4 := ⟨m, F, h0, h1, h2, h3, h4⟩
theorem fr_opq4 {h₀ h : Heap} {L : Addr} {m : Str → Option Value} {b1 b2 b3 b4 : Value} (z1 z2 z3 z4 : Str) (F : Fr h₀ L h m) (h1 : m z1 = some b1) (h2 : m z2 = some b2) (h3 : m z3 = some b3) (h4 : m z4 = some b4) :
    ∃ m', Fr h₀ L h m' ∧ m' z1 = some b1 ∧ m' z2 = some b2 ∧ m' z3 = some b3 ∧ m' z4 = some b4 := ⟨m, F, h1, h2, h3, h4⟩
theorem until_rv {er q x d tx td rv : Nat} {P : Prop} (l : er < rv ∧ q < rv ∧ x < rv ∧ d < rv ∧ tx < rv ∧ td < rv ∧ P) : ∀ a ∈ [er, q, x, d, tx, td], a ≠ rv := by
  obtain ⟨a1, a2, a3, a4, a5, a6, _⟩ := l
  intro a ha
  simp only [List.mem_cons, List.not_mem_nil, or_false] at ha
  rcases ha with rfl | rfl | rfl | rfl | rfl | rfl <;> exact Nat.ne_of_lt (by assumption)
theorem raw_len {S : Str} {st : StS} (hS : S.length ≤ 10000) (hb : BufIs st.bufV st.b) : (#[] : Array Value).size + (rawOf S st).length ≤ 20000 := by
  have := buf_len hb
  have hl : S.cps.toList.length = S.length := rfl
  unfold rawOf
  rw [List.length_append, List.length_drop]
  show 0 + _ ≤ _
  omega
/-- charsUntil's body, whatever opposite is -/
def UntilMid (w : World) (body : List Stmt) (qual : Str) (scope : Scope) (cdv : Value) : Prop :=
  ∀ (kt : Nat → Nat) (x d q nl td tx er : Nat) (_ : d < x ∧ x < q ∧ q < td ∧ td < tx ∧ tx < er) (S : Str) (_ : S.length ≤ 10000) (_ : noSur S.cps.toList) (chars : Value) (mem : Nat → Bool) (ob : Bool) (Ob : Ledger) (_ : InTest w chars mem Ob) (_ : OwnOff Ob [er, q, x, d, tx, td])
    (st : StS) (_ : StOk S st) (_ : BufIs st.bufV st.b) (t6 : Nat)
    (m : Str → Option Value) (_ : m (Str.ofString "self") = some (.ref x)) (_ : m (Str.ofString "characters") = some chars) (_ : m (Str.ofString "opposite") = some (.bool ob))
    (dp un : Nat) (gd : Option (List Code)) (outer : List Env) (A₀ : Around) (base h₀ : Heap) (L : Addr) (s : Shared) (Q : Flow → Shared → Prop) (Er : Value → Shared → Prop)
    (loose : List Str) (mean : ExcName → Option Value) (mg mb : Str → Option Value)
    (_ : Below A₀ base outer h₀) (_ : Fr h₀ L s.heap m) (_ : (hd.heap_39 w.params).In h₀) (_ : News h₀ L s.heap (LS w kt x d q nl td tx er S t6 st ++ Ob)) (_ : Top hd.view_39 loose mean mg mb h₀)
    (_ : dp + 4 * 4 < recursionLimit) (_ : un + 40 * 4 < cLine)
    (_ : ∀ (h' : Heap) (tk' : Nat) (m' : Str → Option Value) (r : Str) (t : Nat) (st' : StS), Fr h₀ L h' m' → News h₀ L h' (LS w kt x d q nl td tx er S t6 st' ++ Ob) → UntilR S st (fun c => mem c == ob) r.cps.toList st' → Q (.ret (.str r t)) { s with heap := h', toks := tk' }),
    wpAny (model PySem.Challenge.rw_te0024_01.row.prog w) (ktrTop dp un gd qual scope L 128 cdv [] outer) (execs body (envOf qual scope L 128 cdv)) Q Er s
set_option maxRecDepth 100000 in
set_option maxHeartbeats 8000000 in
theorem until_mid (w : World) {oc od osl} {name qual : Str} {params : Arguments} {body : List Stmt} {scope : Scope} {dV kV doc pm cdv ct : Value} {an : Option Addr} :
    (hd.heap_39 w.params).lookup 128 = some ⟨oc, od, .func (fnOf name qual params body scope dV kV doc pm an cdv ct), osl⟩ → UntilMid w body qual scope cdv := by
  unfold UntilMid
  k_fill
  show _ → UntilMid w body qual scope cdv
  intro ho
  obtain ⟨rfl, rfl, rfl, rfl⟩ := fn_parts ho (show (hd.heap_39 w.params).lookup 128 = some _ by k_is)
  unfold UntilMid
  intro kt x d q nl td tx er hord S hS hsur chars mem ob Ob hin hOb st hst hb t6 m hm1 hm2 hm3 dp un gd outer A₀ base h₀ L s Q Er loose mean mg mb B F KX N TT hroom hun hret
  clear ho
  refine' ex_0_15 (ord6 hord) ?_; intro g1 g2 g3 g4 g5 g6 g7 g8 g9 g10 g11 g12 g13 g14 g15
  have F0 : Fr h₀ L s.heap _ := fr_know3 hm1 hm2 hm3 F
  clear F
  refine wpAny_noRaise ?_
  have N0 : News h₀ L s.heap _ := N
  simp only [LS, TL, SX, ent, List.cons_append, List.nil_append] at N0
  clear N
  w_on
  w_top on
  w_strict (walk_at "MY steps")
  rename_i rv hh1 l1 hh2 F1 N1
  unfold StopAt
  have hrv : ∀ a ∈ [er, q, x, d, tx, td], a ≠ rv := until_rv l1
  (try clear F0); (try clear N0)
  refine' ex_1_5 (fr_opq4 (Str.ofString "self") (Str.ofString "characters") (Str.ofString "opposite") (Str.ofString "rv") F1 rfl rfl rfl rfl) ?_; intro m1 F2 k1 k2 k3 k4
  clear F1
  refine' execs_join (fun s' => ∃ (h' : Heap) (tk : Nat) (m' : Str → Option Value) (st' : StS) (its : Array Value) (acc : List Nat) (nr : Nat), s' = ⟨h', s.gens, s.drawn, tk, s.os⟩ ∧ Fr h₀ L h' m' ∧ m' (Str.ofString "rv") = some (.ref rv) ∧
    News h₀ L h' ((rv, listOf its nr) :: (LS w kt x d q nl td tx er S t6 st' ++ Ob)) ∧ Pieces its acc ∧ acc.length + its.size ≤ 1048576 ∧ UntilR S st (fun c => mem c == ob) acc st') ?out ?loop
  case out =>
    intro s' hJ
    refine' ex_7_7 (hJ) ?_; intro h' tk m' st' its acc nr r97 F3 e1 N3 hp hsz u; (try clear hJ); subst r97
    have F4 : Fr h₀ L h' _ := fr_know1 e1 F3
    have N4 : News h₀ L h' _ := N3
    clear F2 F3 N1 N3
    w_strict (walk_at "MY steps")
    unfold StopAt
    k_dflt (refine' join_pieces ?jN ?jm hp hsz ?_)
    case jN => exact N4
    case jm => exact List.Mem.head _
    intro r9 t9 k9 hr9
    (try dsimp only)
    w_strict (walk_at "MY steps")
    (with_reducible rename News _ _ _ (_ :: _) => N9)
    (with_reducible rename Fr _ _ _ _ => F9)
    refine' hret _ _ _ _ _ st' F9 (fun p hp => N9 p (List.mem_cons_of_mem _ hp)) ?_
    rw [hr9]; exact u
  case loop =>
    intro JO hJO
    refine' while_gen (fun nm s' => ∃ (h' : Heap) (tk : Nat) (m' : Str → Option Value) (st' : StS) (its : Array Value) (acc : List Nat) (nr : Nat), s' = ⟨h', s.gens, s.drawn, tk, s.os⟩ ∧ Fr h₀ L h' m' ∧
      m' (Str.ofString "self") = some (.ref x) ∧ m' (Str.ofString "characters") = some chars ∧ m' (Str.ofString "opposite") = some (.bool ob) ∧ m' (Str.ofString "rv") = some (.ref rv) ∧
      News h₀ L h' ((rv, listOf its nr) :: (LS w kt x d q nl td tx er S t6 st' ++ Ob)) ∧ BufIs st'.bufV st'.b ∧ StOk S st' ∧ Took S st acc st' ∧ (∀ c ∈ acc, (mem c == ob) = true) ∧ Pieces its acc ∧ its.size + nm ≤ 20000 ∧ nm = (rawOf S st').length) ?turn (rawOf S st).length ?init
    case init => exact ⟨_, _, _, st, #[], [], 0, rfl, F2, k1, k2, k3, k4, by simp only [LS, TL, SX, ent, List.cons_append, List.nil_append]; exact N1, hb, hst, .refl, fun _ h => absurd h List.not_mem_nil, .nil, raw_len hS hb, rfl⟩
    intro nm s' JJ hJJ hJ
    refine' ex_7_14 (hJ) ?_; intro h' tk m' st' its acc nr r97 F3 e1 e2 e3 e4 N3 hb' ok took hacc hp hsz hnm; (try clear hJ); subst r97
    have F4 := fr_know4 e1 e2 e3 e4 F3
    clear F3 F2 N1
    have okC := ok.C
    have okE := ok_errs ok
    have hal := took_len took hst hb hS
    have hits : its.size ≤ 20000 := by omega
    have hcl : st'.C.cps.toList.length = st'.C.length := rfl
    have okp := ok.p
    have oko := ok.o
    simp only [LS, TL, SX, ent, List.cons_append, List.nil_append] at N3
    w_strict (walk_at "MY steps")
    (with_reducible rename Fr _ _ _ _ => F5)
    (with_reducible rename News _ _ _ _ => N5)
    unfold StopAt
    refine' ex_1_6 (fr_opq5 (Str.ofString "end") (Str.ofString "self") (Str.ofString "characters") (Str.ofString "opposite") (Str.ofString "rv") F5 rfl rfl rfl rfl rfl) ?_; intro m3 F6 j0 j1 j2 j3 j4
    clear F5
    refine' execs_join (fun s2 => ∃ (h2 : Heap) (tk2 : Nat) (m2 : Str → Option Value) (e te : Nat), s2 = ⟨h2, s.gens, s.drawn, tk2, s.os⟩ ∧ Fr h₀ L h2 m2 ∧ m2 (Str.ofString "end") = some (.int (e : Int) te) ∧
      m2 (Str.ofString "self") = some (.ref x) ∧ m2 (Str.ofString "characters") = some chars ∧ m2 (Str.ofString "opposite") = some (.bool ob) ∧ m2 (Str.ofString "rv") = some (.ref rv) ∧
      News h₀ L h2 ((rv, listOf its nr) :: (LS w kt x d q nl td tx er S t6 st' ++ Ob)) ∧ st'.o ≤ e ∧ e ≤ st'.C.length ∧ Went (fun c => mem c == ob) st'.C st'.o e ∧ ((e : Int) ≠ st'.C.length → (mem (st'.C.cps.toList.getD e 0) == ob) = false)) ?scan ?inner
    case inner =>
      intro JI hJI
      refine' while_gen (fun n2 s2 => ∃ (h2 : Heap) (tk2 : Nat) (m2 : Str → Option Value) (e te : Nat), s2 = ⟨h2, s.gens, s.drawn, tk2, s.os⟩ ∧ Fr h₀ L h2 m2 ∧ m2 (Str.ofString "end") = some (.int (e : Int) te) ∧
        m2 (Str.ofString "self") = some (.ref x) ∧ m2 (Str.ofString "characters") = some chars ∧ m2 (Str.ofString "opposite") = some (.bool ob) ∧ m2 (Str.ofString "rv") = some (.ref rv) ∧
        News h₀ L h2 ((rv, listOf its nr) :: (LS w kt x d q nl td tx er S t6 st' ++ Ob)) ∧ st'.o ≤ e ∧ e ≤ st'.C.length ∧ Went (fun c => mem c == ob) st'.C st'.o e ∧ n2 = st'.C.length - e) ?turn2 (st'.C.length - st'.o) ?init2
      case init2 => exact ⟨_, _, _, st'.o, st'.tc, rfl, F6, j0, j1, j2, j3, j4, by simp only [LS, TL, SX, ent, List.cons_append, List.nil_append]; exact N5, Nat.le_refl _, oko, fun i h1 h2 => absurd h2 (Nat.not_lt.mpr h1), rfl⟩
      intro n2 s2 JJ2 hJJ2 hJ2
      refine' ex_5_12 (hJ2) ?_; intro h2 tk2 m2 e te r95 F7 i0 i1 i2 i3 i4 N7 hoe hec went hn2; (try clear hJ2); subst r95
      have F8 := fr_know5 i0 i1 i2 i3 i4 F7
      clear F6 F7 N5
      simp only [LS, TL, SX, ent, List.cons_append, List.nil_append] at N7
      w_strict (walk_at "MY steps")
      · subst hJJ2
        show Again _ n2 _
        (with_reducible rename News _ _ _ (_ :: _) => N9)
        (with_reducible rename Fr _ _ _ _ => G9)
        have hel : e < st'.C.length := by omega
        exact ⟨st'.C.length - (e + 1), by rw [hn2]; exact Nat.sub_succ_lt_self _ _ hel, _, _, _, e + 1, _, rfl, G9, rfl, rfl, rfl, rfl, rfl, N9, Nat.le_succ_of_le hoe, hel, went_more went (by assumption), rfl⟩
      all_goals (
        subst hJI
        (with_reducible rename News _ _ _ (_ :: _) => N9)
        (with_reducible rename Fr _ _ _ _ => G9)
        exact ⟨_, _, _, e, _, rfl, G9, rfl, rfl, rfl, rfl, rfl, N9, hoe, hec, went, by first | exact fun h => absurd (by assumption) h | exact fun _ => by assumption⟩)
    case scan =>
      intro s2 hJ2
      refine' ex_5_12 (hJ2) ?_; intro h2 tk2 m2 e te r95 F7 i0 i1 i2 i3 i4 N7 hoe hec went hstop; (try clear hJ2); subst r95
      have F8 := fr_know5 i0 i1 i2 i3 i4 F7
      clear F6 F7 N5
      simp only [LS, TL, SX, ent, List.cons_append, List.nil_append] at N7
      w_strict (walk_at "MY steps")
      unfold StopAt
      refine' execs_join (fun s3 => ∃ (tk3 : Nat), s3 = ⟨h2, s.gens, s.drawn, tk3, s.os⟩ ∧ (e : Int) = st'.C.length) ?app ?ifs
      case ifs =>
        intro JA hJA
        w_strict (walk_at "MY steps")
        all_goals (with_reducible rename News _ _ _ (_ :: _) => N9)
        all_goals (with_reducible rename Fr _ _ _ _ => F9)
        · subst hJO
          exact ⟨_, _, _, st', its, acc, _, rfl, F9, rfl, N9, hp, (by omega), until_A (r := ⟨acc.toArray⟩) took ok hb' hacc (by omega) (by omega) (hstop (by omega)) rfl⟩
        · subst hJA
          exact ⟨_, rfl, by omega⟩
        · subst hJO
          exact ⟨_, _, _, { st' with o := e, tc := _ }, _, _, _, rfl, F9, rfl, N9, hp.push (slice_range _ hoe hec), (by rw [pieces_size, List.length_append, List.length_take, List.length_drop, hcl]; omega), until_B (r := ⟨(acc ++ (st'.C.cps.toList.drop st'.o).take (e - st'.o)).toArray⟩) took ok hb' hacc hoe hec (by assumption) went (hstop (by assumption)) rfl⟩
        · subst hJA
          exact ⟨_, rfl, by omega⟩
      case app =>
        intro s3 hJ3
        refine' ex_1_2 (hJ3) ?_; intro tk3 r91 hee; (try clear hJ3); subst r91
        w_strict (walk_at "MY steps")
        unfold StopAt
        (with_reducible rename Fr _ _ _ _ => F5)
        (with_reducible rename News _ _ _ _ => N5)
        (try dsimp only [List.append_nil])
        k_dflt (refine' Does.useP [_] (does_readChunkD _ _ _ _ _ _ _ _ _ ?h1 _ _ 10240 _ _ _ 0 _ _ _ _ _ _ _ _ _ _ _ rfl ?h3 ?h4 ?h5 ?h6 ?h7 ?h8) ?k1 ?k2 ?k3 ?k4 ?k5 ?kd ?kK ?kr ?ku ?_)
        case k4 => exact N5
        case k1 => k_asm
        case k2 => exact F5
        case k3 => k_asm
        case k5 => k_asm
        case kK => first | exact rfl | assumption
        case kr => walk_at "MY room"
        case ku => walk_at "MY units"
        case h1 => omega
        case h3 => omega
        case h4 => omega
        case h5 => omega
        case h6 => omega
        case h7 => assumption
        case h8 => assumption
        case kd => walk_at "MY dis"
        k_whole
        intro v9 E9 h9 tk9 F9 N9 p9 T9
        (try dsimp only at T9)
        (try simp only [List.nil_append, List.cons_append] at N9)
        clear N5 F5
        have p8 := rc_either p9
        clear p9
        refine' ex_10_6 (p8) ?_; intro R9 bufV9 er9 ne9 ta9 tb9 tc9 t49 t59 t79 e9 hR9 hb9 hE9 hB9 hv9; (try clear p8)
        subst e9
        (try simp only [List.nil_append, List.cons_append, SX, TL, ent] at N9)
        (rcases hv9 with ⟨e9, hD9⟩ | ⟨e9, hD9⟩ <;> (subst e9; (try dsimp only)))
        all_goals (w_strict (walk_at "MY steps"))
        all_goals (with_reducible rename News _ _ _ (_ :: _) => N9)
        all_goals (with_reducible rename Fr _ _ _ _ => G9)
        · subst hJJ
          show Again _ nm _
          have T9 := fun (bv : Value) (ta tb tc t4 t5 t7 ne : Nat) => take_C (bufV := bv) (ta := ta) (tb := tb) (tc := tc) (t4 := t4) (t5 := t5) (t7 := t7) (ne := ne) took ok hb' hS hacc hoe hee went (by omega) hR9 hE9 hB9
          exact ⟨(rawOf S (nextSt S 10240 st' _ _ _ _ _ _ _ _ _ _)).length, by rw [hnm]; exact (T9 _ _ _ _ _ _ _ _).2.2.2 (by assumption), _, _, _, nextSt S 10240 st' _ _ _ _ _ _ _ _ _ _, its.push _, acc ++ st'.C.cps.toList.drop st'.o, _, rfl, G9, rfl, rfl, rfl, rfl, N9, hb9, (T9 _ _ _ _ _ _ _ _).2.1, (T9 _ _ _ _ _ _ _ _).1, (T9 .none 0 0 0 0 0 0 0).2.2.1, Pieces.push hp (slice_tail _ oko), size_push_le hsz hnm ((T9 _ _ _ _ _ _ _ _).2.2.2 (by assumption)), rfl⟩
        · subst hJO
          exact ⟨_, _, _, nextSt S 10240 st' _ _ _ _ _ _ _ _ _ _, its.push _, acc ++ st'.C.cps.toList.drop st'.o, _, rfl, G9, rfl, N9, hp.push (slice_tail _ oko), (by rw [pieces_size, List.length_append, List.length_drop, hcl]; omega), until_C (r := ⟨(acc ++ st'.C.cps.toList.drop st'.o).toArray⟩) took ok hb' hS hacc hoe hee went (by omega) hR9 hE9 hB9 hb9 (by assumption) rfl⟩
theorem stop_until {w : World} {body : List Stmt} {qual : Str} {scope : Scope} {cdv : Value} (_T : UntilMid w body qual scope cdv) {M : Model} {A : Around} {env : Env} {Q : Flow → Shared → Prop} {E : Value → Shared → Prop} {s : Shared} (h : StopAt (wpAny M A (execs body env) Q E s)) : wpAny M A (execs body env) Q E s := h
end
section
local macro_rules | `(tactic| walk_at "execs cons") => `(tactic| (k_here; (with_reducible rename UntilMid _ _ _ _ _ => T9); k_dflt (refine stop_until T9 ?_)))
set_option maxRecDepth 100000 in
set_option maxHeartbeats 2000000 in
theorem does_until (w : World) (kt : Nat → Nat) (x d q nl td tx er : Nat) (hord : d < x ∧ x < q ∧ q < td ∧ td < tx ∧ tx < er) (S : Str) (hS : S.length ≤ 10000) (hsur : noSur S.cps.toList) (chars : Value) (mem : Nat → Bool) (Ob : Ledger) (hin : InTest w chars mem Ob) (hOb : OwnOff Ob [er, q, x, d, tx, td])
    (st : StS) (hst : StOk S st) (hb : BufIs st.bufV st.b) (t6 : Nat) :
    Does w 5 (.ref 128) [.ref x, chars] (LS w kt x d q nl td tx er S t6 st ++ Ob) (fun v E' => ∃ r t st', v = .str r t ∧ E' = LS w kt x d q nl td tx er S t6 st' ++ Ob ∧ UntilR S st (fun c => mem c == false) r.cps.toList st') := by
  unfold Does
  k_fill
  have hM := until_mid w (by k_is)
  intro dp un gd cn cs a ccd cl outer A₀ base h₀ L m s R loose mean mg mb rest B F KX N T hdis hk hroom hun hret
  refine' enterR (binds := [(Str.ofString "self", .ref x), (Str.ofString "characters", chars), (Str.ofString "opposite", .bool false)]) ?k1 ?k2 ?k3 ?k4 ?k5 ?kd ?kA ?kF ?kK ?k6 ?k7 ?k8 ?k9 ?kB ?_ ?c2 ?c3 ?c4 ?c5
  (case kA => exact rfl); (case kF => exact rfl); (case kK => first | exact rfl | assumption); (case k1 => k_asm); (case k2 => k_asm); (case k3 => k_asm); (case k4 => k_asm); (case k5 => k_asm); (case kd => assumption); (case k6 => k_dflt k_is); (case k7 => k_dflt k_is); (case k8 => k_room); (case k9 => first | exact BindsTo.of_eq rfl | exact binds_K (by k_in) rfl (by k_is) rfl rfl rfl); (case c5 => decide); (case kB => exact locs rfl); (case c2 => exact rfl); (case c3 => exact rfl); (case c4 => exact rfl)
  k_whole
  intro g' L' h' FG' F' N' B' X' T' lt'
  clear N F
  w_on
  w_top on
  w_strict (walk_at "MY steps")
  unfold StopAt
  (with_reducible rename UntilMid _ _ _ _ _ => hM)
  (with_reducible rename Fr _ _ _ _ => F5)
  k_dflt (refine' hM kt x d q nl td tx er hord S hS hsur chars mem false Ob hin hOb st hst hb t6 _ ?m1 ?m2 ?m3 _ _ _ _ _ _ _ _ _ _ _ _ _ _ _ ?kB ?kF ?kX ?kN ?kT ?kr ?ku ?_)
  case kB => k_asm
  case kF => exact F5
  case m1 => rfl
  case m2 => rfl
  case m3 => rfl
  case kX => k_asm
  case kN => k_asm
  case kT => k_asm
  case kr => walk_at "MY room"
  case ku => walk_at "MY units"
  k_whole
  intro h8 tk8 m8 r8 t8 st8 F8 N8 p8
  w_strict (walk_at "MY steps")
  refine' hret _ _ _ _ ?F (news_app ?N ?R) ⟨r8, t8, st8, rfl, rfl, p8⟩
  case F => k_asm
  case N => assumption
  case R => assumption
end
section
variable {prog : Program} {w : World} {A : Around} {E : Value → Shared → Prop} {s : Shared} {env : Env} {h₀ : Heap} {target : Expr} {body : List Stmt} {Q : Flow → Shared → Prop}
theorem core_turns {I : Addr} {fp : List Addr} {n : Nat} {P Md : Nat → Value → Heap → Prop} {St : Nat → Heap → Prop} {m₀ : Str → Option Value} {news : Ledger} (keep : Ledger) (J : Nat → (Str → Option Value) → Ledger → Prop)
    (W : KTurns prog w A target I fp [I] n P Md St) (hI : I = s.heap.objs.size) (hfp : ∀ b ∈ fp, b = I ∨ ∃ o, (b, o) ∈ keep) (hkeep : ∀ p ∈ keep, p ∈ news) (F : Fr h₀ env.locals s.heap m₀) (N : News h₀ env.locals s.heap news) (o : Obj) (hst : St 0 (s.heap.push o)) (hj : J 0 m₀ news)
    (turn : ∀ i v m₁ news₁ h tk own, i < n → P i v h → news₁.map (·.1) = news.map (·.1) → OwnOff own (news.map (·.1)) → (∀ p ∈ keep, p ∈ news₁) → J i m₁ news₁ → Fr h₀ env.locals h m₁ → News h₀ env.locals h (news₁ ++ own) →
      wpAny (model prog w) A (assign target env v) (fun _ s₃ => wpAny (model prog w) A (execs body env) (InvPostN h₀ env.locals (fun m' nx => (∀ p ∈ keep, p ∈ nx) ∧ J (i + 1) m' nx) own (news.map (·.1)) { s with heap := h, toks := tk } Q) E s₃) E { s with heap := h, toks := tk })
    (done : ∀ m₁ news₁ h tk, (∀ p ∈ keep, p ∈ news₁) → J n m₁ news₁ → Fr h₀ env.locals h m₁ → News h₀ env.locals h news₁ → Q .next { s with heap := h, toks := tk }) :
    TurnsAt prog w A h₀ env target body Q E (.ref I) { s with heap := s.heap.push o } := by
  subst hI
  refine ⟨s.heap.objs.size, fp, [s.heap.objs.size], n, P, Md, St, m₀, news, (fun i m nx => nx.map (·.1) = news.map (·.1) ∧ (∀ p ∈ keep, p ∈ nx) ∧ J i m nx), rfl, W, ?_, ?_, ?_, hst, F.push _, (fun p hp => ⟨Heap.get?_push_of_some _ (N p hp).1, (N p hp).2⟩), ⟨rfl, hkeep, hj⟩, ?_, ?_⟩
  · intro hm
    rcases hfp _ hm with e | ⟨o', ho⟩
    · exact absurd F.ns.lt (e ▸ Nat.lt_irrefl _)
    · exact (N _ (hkeep _ ho)).2.1 rfl
  · intro b hb
    rw [List.mem_singleton.mp hb]
    exact next_is_new F
  · intro p hp hI
    exact absurd (Heap.lt_size (N p hp).1) ((List.mem_singleton.mp hI) ▸ Nat.lt_irrefl _)
  · rintro i v m₁ news₁ h₁ tk₁ own hin hP ⟨hadr, hk₁, hJ⟩ hoff hown hget hall hst₁ F₁ N₁
    have hsep : OwnOff (own.filter fun p => decide (p.1 = s.heap.objs.size)) (news.map (·.1)) := by
      intro p hp b hb e
      obtain ⟨q, hq, rfl⟩ := List.mem_map.mp hb
      have h1 : p.1 = s.heap.objs.size := by simpa using (List.mem_filter.mp hp).2
      exact absurd (Heap.lt_size (N q hq).1) (by rw [← e, h1]; exact Nat.lt_irrefl _)
    have N₂ : News h₀ env.locals h₁ (news₁ ++ own.filter fun p => decide (p.1 = s.heap.objs.size)) := fun p hp => N₁ p ((List.mem_append.mp hp).elim (fun h => List.mem_append.mpr (.inr h)) fun h => List.mem_append.mpr (.inl ((List.mem_filter.mp h).1)))
    refine wpAny_mono (turn i v m₁ news₁ h₁ tk₁ _ hin hP hadr hsep hk₁ hJ F₁ N₂) (fun _ s₃ h₃ => wpAny_mono h₃ (fun f s₂ p => ?_) fun _ _ e => e) fun _ _ e => e
    have fin : InvEndN h₀ env.locals (fun m' nx => (∀ p ∈ keep, p ∈ nx) ∧ J (i + 1) m' nx) (own.filter fun p => decide (p.1 = s.heap.objs.size)) (news.map (·.1)) { s with heap := h₁, toks := tk₁ } s₂ →
        LoopStepU h₀ env.locals [s.heap.objs.size] own (fun m nx => nx.map (·.1) = news.map (·.1) ∧ (∀ p ∈ keep, p ∈ nx) ∧ J (i + 1) m nx) { s with heap := h₁, toks := tk₁ } .next s₂ := by
      rintro ⟨h', tk, m', news', nx, e, F', N', hn, ho, ha, hm⟩
      refine ⟨rfl, h', tk, m', nx, e, F', fun p hp => ?_, fun p hp => ?_, ha, hm⟩
      · rcases List.mem_append.mp hp with h | h
        · by_cases hI : p.1 = s.heap.objs.size
          · exact N' p (ho p (List.mem_filter.mpr ⟨h, by simpa using hI⟩))
          · rcases hfp _ (hown p h) with h2 | ⟨o', ho'⟩
            · exact absurd h2 hI
            · have h2 : h₁.get? p.1 = some p.2 := hget p h
              have h4 : h₁.get? p.1 = some o' := (N₁ _ (List.mem_append.mpr (.inr (hk₁ _ ho')))).1
              rw [h2] at h4
              have h3 : p = (p.1, o') := Prod.ext rfl (Option.some.inj h4)
              rw [h3]
              exact N' _ (hn _ (hm.1 _ ho'))
        · exact N' p (hn p h)
      · have h1 : p.1 ∈ nx.map (·.1) := List.mem_map.mpr ⟨p, hp, rfl⟩
        rw [ha] at h1
        obtain ⟨q, hq, e⟩ := List.mem_map.mp h1
        intro hI
        exact absurd (Heap.lt_size (N q hq).1) (by rw [e, List.mem_singleton.mp hI]; exact Nat.lt_irrefl _)
    cases f with
    | ret v => exact .ret p
    | brk => exact .brk p
    | next => exact .next (fin p)
    | cont => exact .cont (fin p)
  · rintro h' tk m' news' F' N' _ ⟨_, hk', hJ⟩
    exact done m' news' h' tk hk' hJ F' N'
theorem for_t {iter : Expr} {pos : Pos} {L : Addr} {m : Str → Option Value} (_F : Fr h₀ L s.heap m)
    (h : wpAny (model prog w) A (eval iter env) (fun xv s₁ => wpAny (model prog w) A (pyIter xv) (fun it s₂ => TurnsAt prog w A h₀ env target body Q (fun _ _ => False) it s₂) (fun _ _ => False) s₁) (fun _ _ => False) s)
    (hs : ∀ x, foldedSetIterable iter env x = pure x) : wpAny (model prog w) A (exec (.For target iter body [] pos) env) Q (fun _ _ => False) s := by
  refine wpAny_For (wpAny_mono h (fun xv s₁ h₁ => wpAny_mono h₁ (fun it s₂ h₂ => ?_) fun _ _ e => e) fun _ _ e => e) hs
  refine' ex_10_11 (h₂) ?_; intro I fp wr n P Md St m news J r910 W hLf hwr hnw hst F N h0 step hQ; subst r910
  exact ktu_loop (R := fun r s' => match r with | .ok f => Q f s' | .error e => cameBackBy (model prog w) A env (fun _ _ => False) e s') W hLf hwr hnw hst F N J h0
    (fun i v m₁ news₁ h₁ tk₁ own a b c d e f g st F₁ N₁ => wpAny_mono (step i v m₁ news₁ h₁ tk₁ own a b c d e f g st F₁ N₁) (fun _ _ x => wpAny_passesOwn PassesOwn.never x) PassesOwn.never) hQ
theorem turn_end {L : Addr} {J : (Str → Option Value) → Ledger → Prop} {m' : Str → Option Value} {own nx : Ledger} {adr : List Addr} {s₁ : Shared} {h' : Heap} {tk : Nat} (F : Fr h₀ L h' m') (hj : J m' nx) (N : News h₀ L h' (nx ++ own)) (ha : nx.map (·.1) = adr) :
    InvEndN h₀ L J own adr s₁ { s₁ with heap := h', toks := tk } := InvEndN.intro F N hj ha (fun _ hp => List.mem_append_left _ hp) (fun _ hp => List.mem_append_right _ hp)
theorem const_int_tk {M : Model} {A : Around} {E : Value → Shared → Prop} {Q : Value → Shared → Prop} {n : Int} {k : Nat} {p : Pos} {heap gens drawn toks os} (h : ∀ tk tk' : Nat, Q (.int n tk) ⟨heap, gens, drawn, tk', os⟩) :
    wpAny M A (eval (.Constant (.int n) k p) env) Q E ⟨heap, gens, drawn, toks, os⟩ := wpAny_Constant_int (h _ _)
theorem const_str_tk {M : Model} {A : Around} {E : Value → Shared → Prop} {Q : Value → Shared → Prop} {n : Str} {k : Nat} {p : Pos} {heap gens drawn toks os} (h : ∀ tk tk' : Nat, Q (.str n tk) ⟨heap, gens, drawn, tk', os⟩) :
    wpAny M A (eval (.Constant (.str n) k p) env) Q E ⟨heap, gens, drawn, toks, os⟩ := wpAny_Constant_str (h _ _)
/-- for over a list of the ledger's -/
theorem list_turns {ax : Addr} {items : Array Value} {nr : Nat} {m₀ : Str → Option Value} {news : Ledger} (J : Nat → (Str → Option Value) → Ledger → Prop)
    (hh : A.handled = none) (hm : (ax, listOf items nr) ∈ news) (F : Fr h₀ env.locals s.heap m₀) (N : News h₀ env.locals s.heap news) (hj : J 0 m₀ news)
    (turn : ∀ i v m₁ news₁ h tk own, items[i]? = some v → news₁.map (·.1) = news.map (·.1) → OwnOff own (news.map (·.1)) → (ax, listOf items nr) ∈ news₁ → J i m₁ news₁ → Fr h₀ env.locals h m₁ → News h₀ env.locals h (news₁ ++ own) → ∀ QQ, QQ = InvPostN h₀ env.locals (fun m' nx => (∀ p ∈ [((ax, listOf items nr) : Addr × Obj)], p ∈ nx) ∧ J (i + 1) m' nx) own (news.map (·.1)) { s with heap := h, toks := tk } Q →
      wpAny (model prog w) A (assign target env v) (fun _ s₃ => wpAny (model prog w) A (execs body env) QQ E s₃) E { s with heap := h, toks := tk })
    (done : ∀ m₁ news₁ h tk, (ax, listOf items nr) ∈ news₁ → J items.size m₁ news₁ → Fr h₀ env.locals h m₁ → News h₀ env.locals h news₁ → Q .next { s with heap := h, toks := tk }) :
    wpAny (model prog w) A (pyIter (.ref ax)) (fun it s₂ => TurnsAt prog w A h₀ env target body Q E it s₂) E s := by
  have hl : s.heap.IsList ax items := ⟨_, (N _ hm).1, rfl, nr, rfl⟩
  have hne : ax ≠ s.heap.objs.size := Nat.ne_of_lt (Heap.lt_size (N _ hm).1)
  refine wpAny_pyIter_list hl ?_
  refine core_turns [((ax, listOf items nr) : Addr × Obj)] J (KTurns.ofWalks (Walks.list hh s.heap.objs.size ax hne items) fun i v s Q E st q => letGo_listiter st.1 q) rfl (fun b hb => ?_) (fun p hp => by rw [List.mem_singleton.mp hp]; exact hm) F N _ ⟨⟨_, Heap.get?_push_size _ rfl, rfl, rfl⟩, hl.at fun o e => Heap.get?_push_of_some _ e⟩ hj
    (fun i v m₁ news₁ h tk own _ hP a b c hJ F₁ N₁ => turn i v m₁ news₁ h tk own hP a b (c _ (.head _)) hJ F₁ N₁ _ rfl) (fun m₁ news₁ h tk c => done m₁ news₁ h tk (c _ (.head _)))
  rcases List.mem_cons.mp hb with e | hb
  · exact .inl e
  · exact .inr ⟨_, by rw [List.mem_singleton.mp hb]; exact .head _⟩
/-- for over a tuple of the ledger's -/
theorem tup_turns {ax : Addr} {items : Array Value} {lo : Obj} {nr : Nat} {m₀ : Str → Option Value} {news : Ledger} (J : Nat → (Str → Option Value) → Ledger → Prop)
    (hh : A.handled = none) (hc : lo.cls = .type "tuple") (hd : lo.data = .seq items nr) (hm : (ax, lo) ∈ news) (F : Fr h₀ env.locals s.heap m₀) (N : News h₀ env.locals s.heap news) (hj : J 0 m₀ news)
    (turn : ∀ i v m₁ news₁ h tk own, items[i]? = some v → news₁.map (·.1) = news.map (·.1) → OwnOff own (news.map (·.1)) → (ax, lo) ∈ news₁ → J i m₁ news₁ → Fr h₀ env.locals h m₁ → News h₀ env.locals h (news₁ ++ own) → ∀ QQ, QQ = InvPostN h₀ env.locals (fun m' nx => (∀ p ∈ [((ax, lo) : Addr × Obj)], p ∈ nx) ∧ J (i + 1) m' nx) own (news.map (·.1)) { s with heap := h, toks := tk } Q →
      wpAny (model prog w) A (assign target env v) (fun _ s₃ => wpAny (model prog w) A (execs body env) QQ E s₃) E { s with heap := h, toks := tk })
    (done : ∀ m₁ news₁ h tk, (ax, lo) ∈ news₁ → J items.size m₁ news₁ → Fr h₀ env.locals h m₁ → News h₀ env.locals h news₁ → Q .next { s with heap := h, toks := tk }) :
    wpAny (model prog w) A (pyIter (.ref ax)) (fun it s₂ => TurnsAt prog w A h₀ env target body Q E it s₂) E s := by
  have hl : s.heap.IsTuple ax items := ⟨_, (N _ hm).1, hc, nr, hd⟩
  have hne : ax ≠ s.heap.objs.size := Nat.ne_of_lt (Heap.lt_size (N _ hm).1)
  refine wpAny_pyIter_tuple hl ?_
  refine core_turns [((ax, lo) : Addr × Obj)] J (KTurns.ofWalks (Walks.tuple hh s.heap.objs.size ax hne items) fun i v s Q E st q => letGo_tupleiter st.1 q) rfl (fun b hb => ?_) (fun p hp => by rw [List.mem_singleton.mp hp]; exact hm) F N _ ⟨⟨_, Heap.get?_push_size _ rfl, rfl, rfl⟩, hl.at fun o e => Heap.get?_push_of_some _ e⟩ hj
    (fun i v m₁ news₁ h tk own _ hP a b c hJ F₁ N₁ => turn i v m₁ news₁ h tk own hP a b (c _ (.head _)) hJ F₁ N₁ _ rfl) (fun m₁ news₁ h tk c => done m₁ news₁ h tk (c _ (.head _)))
  rcases List.mem_cons.mp hb with e | hb
  · exact .inl e
  · exact .inr ⟨_, by rw [List.mem_singleton.mp hb]; exact .head _⟩
end
section
open PyProof.Rows.LCg
section
variable {prog : Program} {w : World} {A : Around} {E : Value → Shared → Prop} {s : Shared} {h₀ : Heap} {L : Addr} {m : Str → Option Value} {env : Env}
/-- a turn's end -/
def CEnd (h₀ : Heap) (L : Addr) (m : Str → Option Value) (s : Shared) (news : Ledger) (P : Prop) (s' : Shared) : Prop := ∃ h' tk', s' = { s with heap := h', toks := tk' } ∧ Fr h₀ L h' m ∧ News h₀ L h' news ∧ P
theorem cEnd {h₀ : Heap} {L : Addr} {m : Str → Option Value} {s : Shared} {news : Ledger} {P : Prop} {h' : Heap} {tk' : Nat} (F : Fr h₀ L h' m) (N : News h₀ L h' news) (p : P) : CEnd h₀ L m s news P { s with heap := h', toks := tk' } := ⟨h', tk', rfl, F, N, p⟩
/-- a comprehension's turns by an invariant, the ledger kept -/
theorem rest_ind {elt : Expr} {x : Str} {scope : Scope} {cl : List (Str × Addr)} {S : Ledger → Prop} {P : Nat → Value → Prop} {Fin : List Value → Ledger → Prop} {n : Nat} {news : Ledger} (J : Nat → List Value → Prop) (hS : S news) (hj : J 0 [])
    (turn : ∀ i v ys I oI C oC D m₂ h tk (E' : Value → Shared → Prop), i < n → P i v → J i ys → NsObj oC m₂ → m₂ x = some v → Fr h₀ L h m → News h₀ L h ((I, oI) :: (C, oC) :: (D, lst ys) :: news) →
      wpAny (model prog w) A (eval elt (compEnvC scope cl C env)) (fun y s' => CEnd h₀ L m s ((I, oI) :: (C, oC) :: (D, lst ys) :: news) (J (i + 1) (ys ++ [y])) s') E' { s with heap := h, toks := tk })
    (fin : ∀ ys, J n ys → Fin ys news) : CompRest prog w A h₀ L m env elt x scope cl s S P Fin n 0 [] news := by
  have all : ∀ k i ys, i + k = n → J i ys → CompRest prog w A h₀ L m env elt x scope cl s S P Fin k i ys news := by
    intro k
    induction k with
    | zero => intro i ys e hJ; exact CompRest.zero (fin ys (by have : i = n := e; rw [← this]; exact hJ))
    | succ k ih =>
      intro i ys e hJ
      refine CompRest.succ fun v I oI C oC D m₂ h tk E' hP hC hx F N off ne => ?_
      refine wpAny_mono (turn i v ys I oI C oC D m₂ h tk E' (by omega) hP hJ hC hx F N) (fun y s' h' => ?_) fun _ _ e => e
      obtain ⟨h1, tk1, rfl, F1, N1, hJ1⟩ := h'
      exact ⟨h1, tk1, news, rfl, F1, N1, off, hS, ih (i + 1) (ys ++ [y]) (by omega) hJ1⟩
  exact all n 0 [] (Nat.zero_add n) hj
/-- the rest of [elt for x in a text] once the text is there -/
def TextK (prog : Program) (w : World) (A : Around) (h₀ : Heap) (L : Addr) (m : Str → Option Value) (env : Env) (elt : Expr) (x : Str) (scope : Scope) (cl : List (Str × Addr)) (Q : Value → Shared → Prop) (xv : Value) (s₁ : Shared) : Prop :=
  ∃ X t, xv = .str X t ∧ X.length ≤ sizeLine ∧ Fr h₀ L s₁.heap m ∧ ∃ (news : Ledger) (J : Nat → List Value → Prop), News h₀ L s₁.heap news ∧ J 0 [] ∧
      (∀ i v ys I oI C oC D m₂ h tk (E' : Value → Shared → Prop), i < X.length → SignAt X i v → J i ys → NsObj oC m₂ → m₂ x = some v → Fr h₀ L h m → News h₀ L h ((I, oI) :: (C, oC) :: (D, lst ys) :: news) →
        wpAny (model prog w) A (eval elt (compEnvC scope cl C env)) (fun y s' => CEnd h₀ L m s₁ ((I, oI) :: (C, oC) :: (D, lst ys) :: news) (J (i + 1) (ys ++ [y])) s') E' { s₁ with heap := h, toks := tk }) ∧
      (∀ D h' tk ys, J X.length ys → Fr h₀ L h' m → News h₀ L h' ((D, lst ys) :: news) → Q (.ref D) { s₁ with heap := h', toks := tk })
/-- [elt for x in a text] -/
theorem comp_text {elt iter : Expr} {x : Str} {px : Pos} {scope : Scope} {cl : List (Str × Addr)} {pos : Pos} {Q : Value → Shared → Prop} (_F₀ : Fr h₀ L s.heap m)
    (hclos : closureFor scope env = pure cl) (hcell : ∀ y ∈ scope.names, y.2 ≠ .cell) (hkind : scope.kind = .function)
    (hnames : ∀ y ∈ scope.names, y.2 = .local → scope.names.lookup y.1 = some .local) (hx : scope.names.lookup x = some .local) (hh : A.handled = none)
    (h : wpAny (model prog w) A (eval iter env) (TextK prog w A h₀ L m env elt x scope cl Q) E s)
    (hs : ∀ x, foldedSetIterable iter env x = pure x := by intro _; rfl) :
    wpAny (model prog w) A (eval (.ListComp elt [⟨.Name x px, iter, [], 0⟩] scope pos) env) Q E s := by
  rw [eval_ListComp]
  refine wpAny_comprehension_free (use := none) rfl hs hclos hkind hnames (wpAny_mono h (fun xv s₁ h₁ => ?_) fun _ _ e => e)
  obtain ⟨X, t, rfl, hsz, F, news, J, N, hj, turn, fin⟩ := h₁
  suffices main : ∀ (o : Obj) (St : Nat → Heap → Prop) (W : ∀ A' : Around, A'.handled = none → Walks prog w A' s₁.heap.objs.size [s₁.heap.objs.size] [s₁.heap.objs.size] X.cps.size (SignAt X) St) (hst : St 0 (s₁.heap.push o)) (hIo : ∀ i h, St i h → ∃ o, h.get? s₁.heap.objs.size = some o),
      wpAny (model prog w) A (newList []) (fun acc s₃ => wpAny (model prog w) A (newFunctionEnv scope env.globals cl [] env.qual none .none (some env)) (fun cenv s₄ =>
        codeAny (model prog w) A (.compStart (.ListComp elt [⟨.Name x px, iter, [], 0⟩] scope pos) 0 (.ref s₁.heap.objs.size) acc { cenv with scope := relabel scope env }) (compPost (model prog w) A E none Q acc cenv.locals) s₄) E s₃) E { s₁ with heap := s₁.heap.push o } by
    cases ha : X.cps.all (· < 128)
    · exact wpAny_pyIter_wide ha (main _ _ (fun A' hA => Walks.strWide hA _ X t) ⟨_, Heap.get?_push_size _ rfl, rfl, rfl⟩ fun i h st => let ⟨o, e, _⟩ := st; ⟨o, e⟩)
    · exact wpAny_pyIter_ascii ha (main _ _ (fun A' hA => Walks.strAscii hA _ X t) ⟨_, Heap.get?_push_size _ rfl, rfl, rfl⟩ fun i h st => let ⟨o, e, _⟩ := st; ⟨o, e⟩)
  intro o St W hst hIo
  have up : ∀ b o', s₁.heap.get? b = some o' → (s₁.heap.push o).get? b = some o' := fun b o' e => Heap.get?_push_of_some _ e
  refine block_U (P := SignAt X) (S := fun _ => True) (news := news) (Fin := fun ys nw => nw = news ∧ J X.length ys) (W A hh) hsz hIo (fun i h h' o' nw st e1 e2 _ _ _ => (W A hh).frame i h h' st (fun b hb o'' e => ?_)) hcell hkind hx hst (fun b hb => ?_)
    (F.keeps up) (N.grown up) (Nat.ne_of_lt F.ns.lt) (next_is_new F) (fun p hp => Nat.ne_of_lt (Heap.lt_size (N p hp).1)) trivial (rest_ind J trivial hj (fun i v ys I oI C oC D m₂ h tk E' hi hP hJ hC hx' F' N' => turn i v ys I oI C oC D m₂ h tk E' hi hP hJ hC hx' F' N') fun ys hJ => ⟨rfl, hJ⟩) ?_
  · rw [List.mem_singleton.mp hb] at e ⊢
    rw [e1] at e; rw [e2, ← e]
  · rw [List.mem_singleton.mp hb]
    show s₁.heap.objs.size < (s₁.heap.push _).objs.size
    rw [Heap.size_push]; exact Nat.lt_succ_self _
  · intro D C h tk m' ys news' F' N' o1 hn hC₀ hD₀ hCL hDL hCD offC fin'
    obtain ⟨rfl, hJ⟩ := fin'
    refine ⟨m', hn, fun h'' hs'' => fin D h'' tk ys hJ (F'.change hs'' hCL hC₀) (fun p hp => ?_)⟩
    refine ⟨hs''.extBut _ _ ?_ (N' p hp).1, (N' p hp).2⟩
    rcases List.mem_cons.mp hp with rfl | hp
    · exact Ne.symm hCD
    · exact offC p hp
end
end
section
open PyProof.Rows.LCg
section
variable {prog : Program} {w : World} {A : Around} {E : Value → Shared → Prop} {s : Shared} {h₀ : Heap} {L : Addr} {m : Str → Option Value} {env : Env}
theorem all_own {h : Heap} (wr : List Addr) : ∃ own : Ledger, (∀ p ∈ own, p.1 ∈ wr ∧ h.get? p.1 = some p.2) ∧ ∀ b ∈ wr, ∀ o, h.get? b = some o → (b, o) ∈ own := by
  refine ⟨wr.filterMap fun b => (h.get? b).map (Prod.mk b), fun p hp => ?_, fun b hb o e => ?_⟩
  · obtain ⟨b, hb, e⟩ := List.mem_filterMap.mp hp
    cases e1 : h.get? b with
    | none => rw [e1] at e; cases e
    | some o => rw [e1] at e; cases e; exact ⟨hb, e1⟩
  · exact List.mem_filterMap.mpr ⟨b, hb, by rw [e]; rfl⟩
/-- the block of [elt for a, b in .. if c] -/
theorem pair_block {elt iter c : Expr} {a b : Str} {pa pb tp : Pos} {kk : Nat} {scope : Scope} {cl : List (Str × Addr)} {pos : Pos} {s₂ : Shared} {I : Addr} {fp wr : List Addr} {n : Nat} {Pt : Nat → Array Value → Prop} {Md : Nat → Value → Heap → Prop} {St : Nat → Heap → Prop} {news : Ledger}
    {RR : Value → Addr → Result → Shared → Prop} (J : Nat → List Value → Prop) (hh : A.handled = none)
    (W : KTurns prog w A (.Tuple [.Name a pa, .Name b pb] kk tp) I fp wr n (fun i v h => ∃ T vals, v = .ref T ∧ Pt i vals ∧ h.IsTuple T vals) Md St)
    (hPt : ∀ i vals, Pt i vals → ∃ x y, vals = #[x, y])
    (self : ∀ Q : Value → Shared → Prop, ∀ s E, St 0 s.heap → Q (.ref I) s → wpAny (model prog w) A (pyIter (.ref I)) Q E s)
    (hsz : n ≤ sizeLine) (hcell : ∀ y ∈ scope.names, y.2 ≠ .cell) (hkind : scope.kind = .function) (hxa : scope.names.lookup a = some .local) (hxb : scope.names.lookup b = some .local) (hab : ¬ a = b)
    (hst : St 0 s₂.heap) (hfp : ∀ x ∈ fp, x < s₂.heap.objs.size) (hfw : ∀ x ∈ fp, x ∈ wr ∨ ∃ o, (x, o) ∈ news)
    (F : Fr h₀ L s₂.heap m) (N : News h₀ L s₂.heap news) (hLw : L ∉ wr) (hw₀ : ∀ x ∈ wr, h₀.get? x = none) (off : ∀ p ∈ news, p.1 ∉ wr) (hj : J 0 [])
    (turn : ∀ i x y ys own C oC D m₂ h tk (E' : Value → Shared → Prop), i < n → Pt i #[x, y] → J i ys → NsObj oC m₂ → m₂ a = some x → m₂ b = some y → Fr h₀ L h m → News h₀ L h ((C, oC) :: (D, lst ys) :: (news ++ own)) →
      wpAny (model prog w) A (isTrue c (compEnvC scope cl C env) (eval c (compEnvC scope cl C env))) (fun okb s₃ => if okb = true then
        wpAny (model prog w) A (eval elt (compEnvC scope cl C env)) (fun y' s' => CEnd h₀ L m s₂ ((C, oC) :: (D, lst ys) :: (news ++ own)) (J (i + 1) (ys ++ [y'])) s') E' s₃
        else CEnd h₀ L m s₂ ((C, oC) :: (D, lst ys) :: (news ++ own)) (J (i + 1) ys) s₃) E' { s₂ with heap := h, toks := tk })
    (hRR : ∀ D C h tk m' ys, Fr h₀ L h m → News h₀ L h ((D, lst ys) :: news) → h.Ns C m' → h₀.get? C = none → C ≠ L → C ≠ D → (∀ p ∈ news, p.1 ≠ C) → (∀ p ∈ news, @LT.lt Nat _ p.1 D) → J n ys → RR (.ref D) C (.ok .next) { s₂ with heap := h, toks := tk }) :
    wpAny (model prog w) A (newList []) (fun acc s₃ => wpAny (model prog w) A (newFunctionEnv scope env.globals cl [] env.qual none .none (some env)) (fun cenv s₄ =>
      codeAny (model prog w) A (.compStart (.ListComp elt [⟨.Tuple [.Name a pa, .Name b pb] kk tp, iter, [c], 0⟩] scope pos) 0 (.ref I) acc { cenv with scope := relabel scope env }) (RR acc cenv.locals) s₄) E s₃) E s₂ := by
  refine wpAny_newObj_type (wpAny_newFunctionEnv hcell (by intro y hy; simp at hy) (fun h₁ hns₁ hsb₁ => ?_) hkind)
  dsimp only at hns₁ hsb₁ ⊢
  generalize hH2 : s₂.heap.push { cls := .type "list", dict := none, data := .seq ([] : List Value).toArray } = H2 at hns₁ hsb₁ ⊢
  have hC : H2.objs.size = s₂.heap.objs.size + 1 := by rw [← hH2, Heap.size_push]
  have hDC : s₂.heap.objs.size ≠ H2.objs.size := by rw [hC]; exact Nat.ne_of_lt (Nat.lt_succ_self _)
  have below : ∀ b, b < s₂.heap.objs.size → b ≠ H2.objs.size ∧ b ≠ s₂.heap.objs.size := fun b hb => ⟨by rw [hC]; exact Nat.ne_of_lt (Nat.lt_succ_of_lt hb), Nat.ne_of_lt hb⟩
  have old : ∀ b o, s₂.heap.get? b = some o → h₁.get? b = some o := fun b o e => hsb₁.extBut b o (below b (Heap.lt_size e)).1 (Heap.get?_push_of_some _ (hH2 ▸ Heap.get?_push_of_some _ e))
  have hacc : h₁.get? s₂.heap.objs.size = some (lst []) := hsb₁.extBut _ _ hDC (Heap.get?_push_of_some _ (hH2 ▸ Heap.get?_push_size _ rfl))
  have fresh₀ : ∀ a, s₂.heap.objs.size ≤ a → h₀.get? a = none := fun a ha => by
    cases e : h₀.get? a with
    | none => rfl
    | some o' => exact absurd (Heap.lt_size (F.keep a o' e)) (Nat.not_lt.mpr ha)
  have hD₀ : h₀.get? s₂.heap.objs.size = none := fresh₀ _ (Nat.le_refl _)
  have hC₀ : h₀.get? H2.objs.size = none := fresh₀ _ (by rw [hC]; exact Nat.le_succ _)
  have hLlt : L < s₂.heap.objs.size := F.ns.lt
  have hDL : s₂.heap.objs.size ≠ L := Ne.symm (below L hLlt).2
  have hCL : H2.objs.size ≠ L := Ne.symm (below L hLlt).1
  have hCw : H2.objs.size ∉ wr := fun hm => (below _ (hfp _ (W.sub _ hm))).1 rfl
  have hDw : s₂.heap.objs.size ∉ wr := fun hm => (below _ (hfp _ (W.sub _ hm))).2 rfl
  have hCf : H2.objs.size ∉ fp := fun hm => (below _ (hfp _ hm)).1 rfl
  have offC : ∀ p ∈ news, p.1 ≠ H2.objs.size ∧ p.1 ≠ s₂.heap.objs.size := fun p hp => below _ (Heap.lt_size (N p hp).1)
  have hst₁ : St 0 h₁ := W.frame 0 _ _ hst fun b _ o e => old b o e
  have loop : ∀ s₃ : Shared, s₃ = { s₂ with heap := h₁, toks := s₂.toks + ([] : List (Str × Value)).length } →
      codeAny (model prog w) A (.compLoop (.ListComp elt [⟨.Tuple [.Name a pa, .Name b pb] kk tp, iter, [c], 0⟩] scope pos) 0 (.ref I) (.ref s₂.heap.objs.size) (compEnvC scope cl H2.objs.size env))
        (RR (.ref s₂.heap.objs.size) H2.objs.size) s₃ := by
    rintro s₃ rfl
    refine kct_loop
      (fun k s' => ∃ h' tk i ys m', s' = { s₂ with heap := h', toks := tk } ∧ i ≤ n ∧ k = n + 1 - i ∧ ys.length ≤ i ∧ St i h' ∧ Fr h₀ L h' m ∧ h'.Ns H2.objs.size m' ∧
        News h₀ L h' ((s₂.heap.objs.size, lst ys) :: news) ∧ J i ys) ?_ (n + 1)
      ⟨h₁, _, 0, [], _, rfl, Nat.zero_le _, rfl, Nat.le_refl _, hst₁, F.keeps old, hns₁, fun p hp => ?_, hj⟩
    · rintro k s' ⟨h', tk, i, ys, m', rfl, hi, rfl, hyl, hst', F', hn', N', hJ⟩
      by_cases hlt : i < n
      · refine W.item i _ _ _ hlt hst' fun v h₂ tk₂ hMd hk₂ => ?_
        refine W.go i v _ _ _ hMd fun h₃ hP hst₃ hk₃ => ?_
        obtain ⟨T, vals, rfl, hpt, hT⟩ := hP
        obtain ⟨x, y, rfl⟩ := hPt i vals hpt
        have up₃ : ∀ c o, c ∉ wr → h'.get? c = some o → h₃.get? c = some o := fun c o hc e => hk₃ c o hc (hk₂ c o hc e)
        refine kcp_assign (env := compEnvC scope cl H2.objs.size env) hh hT (lookup_relabel_local hxa) (lookup_relabel_local hxb) (by simp [compEnvC, relabel, hkind]) (hn'.at' fun o e => up₃ _ o hCw e) fun h₄ tk₄ hn₄ hs₄ => ?_
        have up : ∀ c o, c ∉ wr → c ≠ H2.objs.size → h'.get? c = some o → h₄.get? c = some o := fun c o h1 h2 e => hs₄ c o h2 (up₃ c o h1 e)
        have hst₄ : St (i + 1) h₄ := W.frame _ _ _ hst₃ fun b hb o e => hs₄ b o (fun e' => hCf ((show b = H2.objs.size from e') ▸ hb)) e
        obtain ⟨oC, heC, hoC⟩ := ns_obj hn₄
        obtain ⟨own, ho1, ho2⟩ := all_own (h := h₄) wr
        have F₄ : Fr h₀ L h₄ m := ⟨F'.ns.at' fun o e => up _ o hLw (Ne.symm hCL) e, fun c o e => up c o (fun q => by rw [hw₀ c q] at e; cases e) (fun q => by rw [q, hC₀] at e; cases e) (F'.keep c o e), F'.above⟩
        have N₄ : News h₀ L h₄ ((H2.objs.size, oC) :: (s₂.heap.objs.size, lst ys) :: (news ++ own)) := fun q hq => by
          rcases List.mem_cons.mp hq with rfl | hq
          · exact ⟨heC, hCL, hC₀⟩
          · rcases List.mem_cons.mp hq with rfl | hq
            · have z := N' _ List.mem_cons_self
              exact ⟨up _ _ hDw hDC z.1, z.2⟩
            · rcases List.mem_append.mp hq with hq | hq
              · have z := N' q (List.mem_cons_of_mem _ hq)
                exact ⟨up _ _ (off q hq) (offC q hq).1 z.1, z.2⟩
              · exact ⟨(ho1 q hq).2, fun e => hLw (e ▸ (ho1 q hq).1), hw₀ _ (ho1 q hq).1⟩
        have fin : ∀ (ys' : List Value) (h₅ : Heap) (tk₅ : Nat), ys'.length ≤ i + 1 → Fr h₀ L h₅ m → (h₅.get? H2.objs.size = some oC) → (∀ p ∈ own, h₅.get? p.1 = some p.2) → News h₀ L h₅ ((s₂.heap.objs.size, lst ys') :: news) → J (i + 1) ys' →
            ∃ q', q' < n + 1 - i ∧ (∃ h' tk i ys m', ({ s₂ with heap := h₅, toks := tk₅ } : Shared) = { s₂ with heap := h', toks := tk } ∧ i ≤ n ∧ q' = n + 1 - i ∧ ys.length ≤ i ∧ St i h' ∧ Fr h₀ L h' m ∧ h'.Ns H2.objs.size m' ∧
        News h₀ L h' ((s₂.heap.objs.size, lst ys) :: news) ∧ J i ys) := by
          intro ys' h₅ tk₅ hl F₅ zC zO N₅ hJ₅
          refine ⟨n + 1 - (i + 1), by omega, h₅, tk₅, i + 1, ys', _, rfl, hlt, rfl, hl, W.frame _ _ _ hst₄ fun b hb o e => ?_, F₅, hoC.ns zC, N₅, hJ₅⟩
          rcases hfw b hb with hb | ⟨o', hb⟩
          · exact zO _ (ho2 b hb o e)
          · have e1 := (N₄ (b, o') (by simp [hb])).1
            have e2 : o' = o := Option.some.inj (e1.symm.trans e)
            exact e2 ▸ (N₅ (b, o') (List.mem_cons_of_mem _ hb)).1
        refine wpAny_mono (turn i x y ys own H2.objs.size oC s₂.heap.objs.size _ h₄ _ _ hlt hpt hJ hoC (by simp [hab]) (by simp) F₄ N₄) (fun okb s₅ h₅ => ?_) fun _ _ e => e
        cases okb with
        | false =>
          simp only [Bool.false_eq_true, if_false] at h₅ ⊢
          obtain ⟨h₅, tk₅, rfl, F₅, N₅, hJ₅⟩ := h₅
          exact fin ys h₅ tk₅ (Nat.le_succ_of_le hyl) F₅ (N₅ _ List.mem_cons_self).1 (fun p hp => (N₅ p (by simp [hp])).1) (fun p hp => N₅ p (by
            rcases List.mem_cons.mp hp with rfl | hp
            · simp
            · simp [hp])) hJ₅
        | true =>
          simp only [if_true] at h₅ ⊢
          refine wpAny_mono h₅ (fun y s₆ h₆ => ?_) fun _ _ e => e
          obtain ⟨h₅, tk₅, rfl, F₅, N₅, hJ₅⟩ := h₆
          have zD := (N₅ (s₂.heap.objs.size, lst ys) (by simp)).1
          refine append_at (hsz := by show ys.toArray.size ≤ sizeLine; rw [List.size_toArray]; exact Nat.le_trans hyl (Nat.le_trans hi hsz)) zD fun h₆ hs₆ hD₆ => ?_
          refine fin (ys ++ [y]) h₆ _ (by rw [List.length_append, List.length_singleton]; exact Nat.succ_le_succ hyl) (F₅.change hs₆ hDL hD₀) (hs₆.extBut _ _ (Ne.symm hDC) (N₅ _ List.mem_cons_self).1)
            (fun p hp => hs₆.extBut _ _ (fun e => hDw (e ▸ (ho1 p hp).1)) (N₅ p (by simp [hp])).1) (fun q hq => ?_) hJ₅
          rcases List.mem_cons.mp hq with rfl | hq
          · exact ⟨hD₆.trans (congrArg some (lst_snoc ys y)), hDL, hD₀⟩
          · have z := N₅ q (by simp [hq])
            exact ⟨hs₆.extBut _ _ (offC q hq).2 z.1, z.2⟩
      · have hin : i = n := Nat.le_antisymm hi (Nat.not_lt.mp hlt)
        subst hin
        refine W.done _ _ _ hst' fun h₂ tk₂ hk₂ => ?_
        refine hRR _ _ h₂ tk₂ _ ys ⟨F'.ns.at' fun o e => hk₂ _ o hLw e, fun c o e => hk₂ c o (fun q => by rw [hw₀ c q] at e; cases e) (F'.keep c o e), F'.above⟩ (fun p hp => ⟨hk₂ _ _ ?_ (N' p hp).1, (N' p hp).2⟩) (hn'.at' fun o e => hk₂ _ o hCw e) hC₀ hCL (Ne.symm hDC) (fun p hp => (offC p hp).1) (fun p hp => Heap.lt_size (N p hp).1) hJ
        rcases List.mem_cons.mp hp with rfl | hp
        · exact hDw
        · exact off p hp
    · rcases List.mem_cons.mp hp with rfl | hp
      · exact ⟨hacc, hDL, hD₀⟩
      · exact ⟨old _ _ (N p hp).1, (N p hp).2⟩
  exact codeAny_compStart_list (loop _ rfl) (self _ _ _ hst₁ (loop _ rfl))
theorem kturns_grow {target : Expr} {I : Addr} {fp wr wr' : List Addr} {n : Nat} {P Md : Nat → Value → Heap → Prop} {St : Nat → Heap → Prop} (W : KTurns prog w A target I fp wr n P Md St) (h1 : ∀ b ∈ wr, b ∈ wr') (h2 : ∀ b ∈ wr', b ∈ fp) : KTurns prog w A target I fp wr' n P Md St where
  sub := h2
  frame := W.frame
  item := fun i s Q E hi st hQ => W.item i s Q E hi st fun v h' tk hm hk => hQ v h' tk hm fun b o hb e => hk b o (fun x => hb (h1 b x)) e
  go := fun i v s Q E hm hQ => W.go i v s Q E hm fun h' hP hst hk => hQ h' hP hst fun b o hb e => hk b o (fun x => hb (h1 b x)) e
  done := fun s Q E st hQ => W.done s Q E st fun h' tk hk => hQ h' tk fun b o hb e => hk b o (fun x => hb (h1 b x)) e
theorem zip_apart (S l1 l2 : Nat) (h1 : l1 < S) (h2 : l2 < S) : ZipApart (S + 4) (S + 2) (S + 3) S (S + 1) l1 l2 := ktu_apart _ _ _ h1 h2
/-- the rest of «y = [elt for a, b in .. if c]» once its iterator is there -/
def PairK (prog : Program) (w : World) (A : Around) (E : Value → Shared → Prop) (env : Env) (elt iter c : Expr) (a b y : Str) (pa pb tp py : Pos) (kk : Nat) (scope : Scope) (cl : List (Str × Addr)) (pos : Pos) (Q : Flow → Shared → Prop) (it : Value) (s₂ : Shared) : Prop :=
  wpAny (model prog w) A (newList []) (fun acc s₃ => wpAny (model prog w) A (newFunctionEnv scope env.globals cl [] env.qual none .none (some env)) (fun cenv s₄ =>
      codeAny (model prog w) A (.compStart (.ListComp elt [⟨.Tuple [.Name a pa, .Name b pb] kk tp, iter, [c], 0⟩] scope pos) 0 it acc { cenv with scope := relabel scope env }) (compPost (model prog w) A E (some (assign (.Name y py) env)) (fun _ s' => Q .next s') acc cenv.locals) s₄) E s₃) E s₂
/-- y = [elt for a, b in .. if c] -/
theorem assign_zip {elt iter c : Expr} {a b y : Str} {pa pb tp py : Pos} {kk : Nat} {scope : Scope} {cl : List (Str × Addr)} {pos spos : Pos} {Q : Flow → Shared → Prop}
    (hsw : swapsWith (.ListComp elt [⟨.Tuple [.Name a pa, .Name b pb] kk tp, iter, [c], 0⟩] scope pos) (some (.Name y py)) spos.line env = pure true)
    (hclos : closureFor scope env = pure cl) (hkind : scope.kind = .function)
    (hnames : ∀ z ∈ scope.names, z.2 = .local → scope.names.lookup z.1 = some .local)
    (h : wpAny (model prog w) A (eval iter env) (fun xv s₁ => wpAny (model prog w) A (pyIter xv) (PairK prog w A E env elt iter c a b y pa pb tp py kk scope cl pos Q) E s₁) E s)
    (hs : ∀ x, foldedSetIterable iter env x = pure x := by intro _; rfl) :
    wpAny (model prog w) A (exec (.Assign [.Name y py] (.ListComp elt [⟨.Tuple [.Name a pa, .Name b pb] kk tp, iter, [c], 0⟩] scope pos) spos) env) Q E s := by
  rw [exec_Assign_Name_used _ _ _ _ hsw]
  refine wpAny_bind (wpAny_standAt (wpAny_bind ?_))
  show wpAny _ A (do let _ ← comprehension (.ListComp elt [⟨.Tuple [.Name a pa, .Name b pb] kk tp, iter, [c], 0⟩] scope pos) scope env _ (newList []) false (eval iter env) (some (assign (.Name y py) env))) _ _ s
  exact wpAny_bind (wpAny_mono (wpAny_comprehension_free (use := some (assign (.Name y py) env)) (Q := fun _ s' => Q .next s') rfl hs hclos hkind hnames h) (fun _ s' hq => wpAny_pure (wpAny_pure hq)) fun _ _ e => e)
theorem zip_turns {elt iter c : Expr} {a b y : Str} {pa pb tp py : Pos} {kk : Nat} {scope : Scope} {cl : List (Str × Addr)} {pos : Pos} {Q : Flow → Shared → Prop} {l1 l2 : Addr} {xs ys : Array Value} {n1 n2 : Nat} {news : Ledger} (J : Nat → List Value → Prop) (hh : A.handled = none)
    (hcell : ∀ y ∈ scope.names, y.2 ≠ .cell) (hkind : scope.kind = .function) (hxa : scope.names.lookup a = some .local) (hxb : scope.names.lookup b = some .local) (hab : ¬ a = b)
    (hLe : env.locals = L) (hy : env.kindOf y = some .local) (hp : (env.scope.kind == .class || (env.scope.kind == .module && env.locals != env.globals)) = false)
    (F : Fr h₀ L s.heap m) (N : News h₀ L s.heap news) (hm1 : (l1, listOf xs n1) ∈ news) (hm2 : (l2, listOf ys n2) ∈ news) (hsz : min xs.size ys.size ≤ sizeLine) (hj : J 0 [])
    (turn : ∀ i x y zs own C oC D m₂ h tk (E' : Value → Shared → Prop), xs[i]? = some x → ys[i]? = some y → J i zs → NsObj oC m₂ → m₂ a = some x → m₂ b = some y → Fr h₀ L h m → News h₀ L h ((C, oC) :: (D, lst zs) :: (news ++ own)) →
      wpAny (model prog w) A (isTrue c (compEnvC scope cl C env) (eval c (compEnvC scope cl C env))) (fun okb s₃ => if okb = true then
        wpAny (model prog w) A (eval elt (compEnvC scope cl C env)) (fun y' s' => CEnd h₀ L m s ((C, oC) :: (D, lst zs) :: (news ++ own)) (J (i + 1) (zs ++ [y'])) s') E' s₃
        else CEnd h₀ L m s ((C, oC) :: (D, lst zs) :: (news ++ own)) (J (i + 1) zs) s₃) E' { s with heap := h, toks := tk })
    (fin : ∀ D h' tk zs, J (min xs.size ys.size) zs → (∀ p ∈ news, @LT.lt Nat _ p.1 D) → Fr h₀ L h' (fun z => if z = y then some (.ref D) else m z) → News h₀ L h' ((D, lst zs) :: news) → Q .next { s with heap := h', toks := tk }) :
    wpAny (model prog w) A (call (.type "zip") [.ref l1, .ref l2]) (fun xv s₁ => wpAny (model prog w) A (pyIter xv) (PairK prog w A E env elt iter c a b y pa pb tp py kk scope cl pos Q) E s₁) E s := by
  subst hLe
  have g1 := N _ hm1
  have g2 := N _ hm2
  have hl1 : s.heap.IsList l1 xs := ⟨_, g1.1, rfl, n1, rfl⟩
  have hl2 : s.heap.IsList l2 ys := ⟨_, g2.1, rfl, n2, rfl⟩
  have hlt1 : l1 < s.heap.objs.size := Heap.lt_size g1.1
  have hlt2 : l2 < s.heap.objs.size := Heap.lt_size g2.1
  have hL : env.locals < s.heap.objs.size := F.ns.lt
  have D := zip_apart _ _ _ hlt1 hlt2
  refine call_zip_2 hl1 hl2 fun h' hz hTI hTO hi1 hi2 hsz' hk => ?_
  refine wpAny_pyIter_zip hz ?_
  have W := kturns_grow (wr' := [s.heap.objs.size + 4, s.heap.objs.size + 2, s.heap.objs.size + 3, s.heap.objs.size, s.heap.objs.size + 1]) (KTurns.ofWalksU (elts := [.Name a pa, .Name b pb]) (k := kk) (pos := tp) (WalksT.zip2 (prog := prog) (w := w) hh _ _ _ _ _ _ _ D xs ys).toU)
    (fun b hb => by simp at hb ⊢; rcases hb with h | h | h | h <;> simp [h]) (fun b hb => by simp at hb ⊢; rcases hb with h | h | h | h | h <;> simp [h])
  have lt_all : ∀ x ∈ [s.heap.objs.size + 4, s.heap.objs.size + 2, s.heap.objs.size + 3, s.heap.objs.size, s.heap.objs.size + 1], s.heap.objs.size ≤ x := fun x hx => by
    simp only [List.mem_cons, List.not_mem_nil, or_false] at hx
    rcases hx with rfl | rfl | rfl | rfl | rfl <;> omega
  refine pair_block (s₂ := { s with heap := h' }) (news := news) J hh W (fun i vals hP => ?_) (fun Q s E st q => ?_) hsz hcell hkind hxa hxb hab ⟨hz, hTI, ⟨_, _, hTO⟩, hi1, hi2, hl1.at fun o e => hk _ o e, hl2.at fun o e => hk _ o e⟩ (fun x hx => ?_) (fun x hx => ?_) (F.keeps hk) (N.grown hk)
    (fun hx => absurd hL (Nat.not_lt.mpr (lt_all _ hx))) (fun x hx => ?_) (fun p hp hx => absurd (Heap.lt_size (N p hp).1) (Nat.not_lt.mpr (lt_all _ hx))) hj ?_ ?_
  · obtain ⟨x, y, _, _, e⟩ := hP; exact ⟨x, y, e⟩
  · exact wpAny_pyIter_zip st.1 q
  · show x < h'.objs.size
    rw [hsz']
    simp only [List.mem_cons, List.not_mem_nil, or_false] at hx
    have a1 : @LT.lt Nat _ l1 s.heap.objs.size := hlt1
    have a2 : @LT.lt Nat _ l2 s.heap.objs.size := hlt2
    rcases hx with rfl | rfl | rfl | rfl | rfl | rfl | rfl <;> first | exact Nat.lt_add_right 5 a1 | exact Nat.lt_add_right 5 a2 | exact Nat.add_lt_add_left (by decide) _ | exact Nat.lt_add_of_pos_right (by decide)
  · simp only [List.mem_cons, List.not_mem_nil, or_false] at hx
    rcases hx with rfl | rfl | rfl | rfl | rfl | rfl | rfl
    · exact .inl (by simp)
    · exact .inl (by simp)
    · exact .inl (by simp)
    · exact .inl (by simp)
    · exact .inl (by simp)
    · exact .inr ⟨_, hm1⟩
    · exact .inr ⟨_, hm2⟩
  · have := lt_all x hx
    cases e : h₀.get? x with
    | none => rfl
    | some o => exact absurd (Heap.lt_size (F.keep x o e)) (Nat.not_lt.mpr this)
  · rintro i x y zs own C oC D m₂ h tk E' hi ⟨x', y', e1, e2, e3⟩ hJ hC ha hb F' N'
    have e4 : x' = x ∧ y' = y := by
      have := congrArg Array.toList e3
      simp at this
      exact ⟨this.1.symm, this.2.symm⟩
    rw [e4.1] at e1; rw [e4.2] at e2
    exact turn i x y zs own C oC D m₂ h tk E' e1 e2 hJ hC ha hb F' N'
  · intro D C h tk m' zs F' N' hn hC₀ hCL hCD offC hlt hJ
    show wpAny _ A (assign (.Name y py) env (.ref D)) _ _ _
    refine wpAny_assign_Name (wpAny_storeName_local hy F'.ns (fun h₂ hn₂ hs₂ => ?_) hp)
    have hL₀ : h₀.get? env.locals = none := Heap.get?_none_of_le F'.above
    have F₂ : Fr h₀ env.locals h₂ (fun z => if z = y then some (.ref D) else m z) := ⟨hn₂, fun b o e => hs₂.extBut b o (fun q => by rw [q, hL₀] at e; cases e) (F'.keep b o e), F'.above⟩
    refine ⟨m', hn.sameBut hs₂ hCL, fun h'' hs'' => fin D h'' _ zs hJ hlt (F₂.change hs'' hCL hC₀) (fun p hp => ?_)⟩
    have z : h₂.get? p.1 = some p.2 := hs₂.extBut _ _ (N' p hp).2.1 (N' p hp).1
    refine ⟨hs''.extBut _ _ ?_ z, (N' p hp).2⟩
    rcases List.mem_cons.mp hp with rfl | hp
    · exact Ne.symm hCD
    · exact offC p hp
end
end
local macro_rules | `(tactic| walk_at "exec For Name Call cons nil") => `(tactic| (k_here; (with_reducible rename Fr _ _ _ _ => lF9); (with_reducible refine' for_t ?F9 ?_ ?hs9); (case F9 => k_dflt (exact lF9)); (case hs9 => k_dflt (intro _; rfl))))
local macro_rules | `(tactic| walk_at "exec For Name Name cons nil") => `(tactic| (k_here; (with_reducible rename Fr _ _ _ _ => lF9); (with_reducible refine' for_t ?F9 ?_ ?hs9); (case F9 => k_dflt (exact lF9)); (case hs9 => k_dflt (intro _; rfl))))
local macro_rules | `(tactic| walk_at "exec For Tuple Tuple cons nil") => `(tactic| (k_here; (with_reducible rename Fr _ _ _ _ => lF9); (with_reducible refine' for_t ?F9 ?_ ?hs9); (case F9 => k_dflt (exact lF9)); (case hs9 => k_dflt (intro _; rfl))))
local macro_rules | `(tactic| walk_at "pyIter ref") => `(tactic| (refine stopAt_ ?_))
local macro_rules | `(tactic| walk_at "eval Constant int") => `(tactic| ((try dsimp only); k_dflt (refine' const_int_tk ?_); intro tk8 tk9))
local macro_rules | `(tactic| walk_at "eval Constant str") => `(tactic| ((try dsimp only); k_dflt (refine' const_str_tk ?_); intro tk8 tk9))
section
variable {prog : Program} {w : World} {A : Around} {E : Value → Shared → Prop} {s : Shared} {h₀ : Heap} {L : Addr} {m : Str → Option Value} {news : List (Addr × Obj)}
theorem max_k {a b : Int} {t u : Nat} {Q : Value → Shared → Prop} (hh : A.handled = none) (F : Fr h₀ L s.heap m) (N : News h₀ L s.heap news)
    (h : ∀ h' tk v, Fr h₀ L h' m → News h₀ L h' news → Q (.int (max a b) v) { s with heap := h', toks := tk }) :
    wpAny (model prog w) A (call (.builtin "max") [.int a t, .int b u]) Q E s :=
  max_two_N hh F N fun h' tk F' N' => by
    have e : (if b > a then b else a) = max a b := by
      split <;> omega
    rw [e]; exact h h' tk _ F' N'
theorem min_k {a b : Int} {t u : Nat} {Q : Value → Shared → Prop} (hh : A.handled = none) (F : Fr h₀ L s.heap m) (N : News h₀ L s.heap news)
    (h : ∀ h' tk v, Fr h₀ L h' m → News h₀ L h' news → Q (.int (min a b) v) { s with heap := h', toks := tk }) :
    wpAny (model prog w) A (call (.builtin "min") [.int a t, .int b u]) Q E s :=
  min_two_N hh F N fun h' tk F' N' => by
    have e : (if b < a then b else a) = min a b := by
      split <;> omega
    rw [e]; exact h h' tk _ F' N'
end
local macro_rules | `(tactic| walk_at "call builtin:max") => `(tactic| (k_here; k_dflt (refine' max_k ?h ?F ?N ?_; (case h => rfl); (case F => k_asm); (case N => k_asm); intro h9 tk9 t9 F9 N9; (try dsimp only))))
local macro_rules | `(tactic| walk_at "call builtin:min") => `(tactic| (k_here; k_dflt (refine' min_k ?h ?F ?N ?_; (case h => rfl); (case F => k_asm); (case N => k_asm); intro h9 tk9 t9 F9 N9; (try dsimp only))))
set_option maxRecDepth 100000 in
set_option maxHeartbeats 1000000 in
theorem does_point (w : World) (c : Int) (t : Nat) :
    Does w 1 (.ref 156) [.int c t] [] (fun v E' => E' = [] ∧ ∃ t', v = .int (if c < 55296 then c else c + 2048) t') := by
  unfold Does
  k_fill
  intro dp un gd cn cs a ccd cl outer A₀ base h₀ L m s R loose mean mg mb rest B F KX N T hdis hk hroom hun hret
  refine' enterR (binds := [(Str.ofString "place", .int c t)]) ?k1 ?k2 ?k3 ?k4 ?k5 ?kd ?kA ?kF ?kK ?k6 ?k7 ?k8 ?k9 ?kB ?_ ?c2 ?c3 ?c4 ?c5
  (case kA => exact rfl); (case kF => exact rfl); (case kK => first | exact rfl | assumption); (case k1 => k_asm); (case k2 => k_asm); (case k3 => k_asm); (case k4 => k_asm); (case k5 => k_asm); (case kd => assumption); (case k6 => k_dflt k_is); (case k7 => k_dflt k_is); (case k8 => k_room); (case k9 => first | exact BindsTo.of_eq rfl | exact binds_K (by k_in) rfl (by k_is) rfl rfl rfl); (case c5 => decide); (case kB => exact locs rfl); (case c2 => exact rfl); (case c3 => exact rfl); (case c4 => exact rfl)
  k_whole
  intro g' L' h' FG' F' N' B' X' T' lt'
  clear N F
  w_on
  w_top on
  w_strict (walk_at "MY steps")
  all_goals (
    refine hret _ [] _ _ (by k_asm) (news_app (fun p hp => nomatch hp) (by assumption)) ⟨rfl, ?_⟩
    first | exact ⟨_, congrArg (fun z => Value.int z _) (if_pos (by assumption)).symm⟩ | exact ⟨_, congrArg (fun z => Value.int z _) (if_neg (by assumption)).symm⟩)
def partSum (c : Int) (i : Nat) : Int := ((([(1, 9), (11, 12), (14, 32), (127, 160), (64976, 65008)] : List (Int × Int)).take i).map (fun p => min (max c p.1) p.2 - p.1)).sum
theorem part_add {c B : Int} {i : Nat} {lo hi : Int} (h : ([(1, 9), (11, 12), (14, 32), (127, 160), (64976, 65008)] : List (Int × Int))[i]? = some (lo, hi)) : B + partSum c i + (min (max c lo) hi - lo) = B + partSum c (i + 1) := by
  unfold partSum
  rw [List.take_add_one, h, List.map_append, List.sum_append]
  simp only [Option.toList_some, List.map_cons, List.map_nil, List.sum_cons, List.sum_nil]
  omega
def belowI (c : Int) : Int := 2 * (c.fdiv 65536) + max 0 (c.fmod 65536 - 65534) + partSum c 5
set_option maxRecDepth 100000 in
set_option maxHeartbeats 8000000 in
theorem does_below (w : World) (c : Int) (t : Nat) (h0 : 0 ≤ c) (h1 : c < 1114113) :
    Does w 1 (.ref 163) [.int c t] [] (fun v E' => E' = [] ∧ ∃ t', v = .int (belowI c) t') := by
  unfold Does
  k_fill
  intro dp un gd cn cs a ccd cl outer A₀ base h₀ L m s R loose mean mg mb rest B F KX N T hdis hk hroom hun hret
  refine' enterR (binds := [(Str.ofString "point", .int c t)]) ?k1 ?k2 ?k3 ?k4 ?k5 ?kd ?kA ?kF ?kK ?k6 ?k7 ?k8 ?k9 ?kB ?_ ?c2 ?c3 ?c4 ?c5
  (case kA => exact rfl); (case kF => exact rfl); (case kK => first | exact rfl | assumption); (case k1 => k_asm); (case k2 => k_asm); (case k3 => k_asm); (case k4 => k_asm); (case k5 => k_asm); (case kd => assumption); (case k6 => k_dflt k_is); (case k7 => k_dflt k_is); (case k8 => k_room); (case k9 => first | exact BindsTo.of_eq rfl | exact binds_K (by k_in) rfl (by k_is) rfl rfl rfl); (case c5 => decide); (case kB => exact locs rfl); (case c2 => exact rfl); (case c3 => exact rfl); (case c4 => exact rfl)
  k_whole
  intro g' L' h' FG' F' N' B' X' T' lt'
  clear N F
  refine wpAny_noRaise ?_
  w_on
  w_top on
  w_strict (walk_at "MY steps")
  unfold StopAt
  (with_reducible rename Fr _ _ _ _ => F1)
  (with_reducible rename News _ _ _ _ => N1)
  refine tup_turns (fun i m' nx => nx = _ ∧ m' (Str.ofString "point") = some (.int c t) ∧ ∃ tt, m' (Str.ofString "count") = some (.int (2 * (c.fdiv 65536) + max 0 (c.fmod 65536 - 65534) + partSum c i) tt)) rfl rfl rfl (.head _) F1 N1 ⟨rfl, rfl, _, congrArg (fun z => some (Value.int z _)) (Int.add_zero _).symm⟩ ?turn ?done
  case turn =>
    intro i v m₁ news₁ h tk own hv hadr hoff hmem hJ F2 N2 QQ hQQ
    refine' ex_0_3 (hJ) ?_; intro r90 e1 e7; (try clear hJ); subst r90
    obtain ⟨tt, e2⟩ := e7
    have F3 := fr_know2 e1 e2 F2
    obtain ⟨T, lo, hi, t1, t2, k, rfl, hT, hpart⟩ : ∃ (T : Addr) (lo hi : Int) (t1 t2 k : Nat), v = .ref T ∧ News g' L' h [(T, ({ cls := .type "tuple", data := .seq #[.int lo t1, .int hi t2] k } : Obj))] ∧ ([(1, 9), (11, 12), (14, 32), (127, 160), (64976, 65008)] : List (Int × Int))[i]? = some (lo, hi) := by
      rcases i with _ | _ | _ | _ | _ | i
      case succ.succ.succ.succ.succ => cases hv
      all_goals (
        (simp at hv; subst hv)
        exact ⟨_, _, _, _, _, _, rfl, fun p hp => (List.mem_singleton.mp hp) ▸ N2 _ (by k_mem), rfl⟩)
    have N3 := news_app hT N2
    clear F2 F1 N1 N2 hT hv
    simp only [List.cons_append, List.nil_append] at N3
    w_strict (walk_at "MY steps")
    subst hQQ
    w_strict (walk_at "MY steps")
    (with_reducible rename Fr _ _ _ _ => F9)
    (with_reducible rename News _ _ _ _ => N9)
    exact turn_end F9 ⟨fun p hp => (List.mem_singleton.mp hp) ▸ hmem, rfl, rfl, _, congrArg (fun z => some (Value.int z _)) (part_add hpart)⟩ (fun p hp => N9 p (.tail _ hp)) hadr
  case done =>
    intro m₁ news₁ h tk hmem hJ F2 N2
    refine' ex_0_3 (hJ) ?_; intro r90 e1 e7; (try clear hJ); subst r90
    obtain ⟨tt, e2⟩ := e7
    have F3 := fr_know2 e1 e2 F2
    clear F2 F1 N1
    w_strict (walk_at "MY steps")
    exact hret _ [] _ _ (by k_asm) (news_app (fun p hp => nomatch hp) (by assumption)) ⟨rfl, _, rfl⟩
theorem edges_le : ∀ i : Nat, (0 : Int) ≤ ([1, 9, 11, 12, 14, 32, 127, 160, 55296, 62928, 62960] : List Int).getD i 0 ∧ ([1, 9, 11, 12, 14, 32, 127, 160, 55296, 62928, 62960] : List Int).getD i 0 ≤ 62960
  | 0 => by decide
  | 1 => by decide
  | 2 => by decide
  | 3 => by decide
  | 4 => by decide
  | 5 => by decide
  | 6 => by decide
  | 7 => by decide
  | 8 => by decide
  | 9 => by decide
  | 10 => by decide
  | i + 11 => by simp
theorem start_a (r : Int) : 0 ≤ max 0 (([1, 9, 11, 12, 14, 32, 127, 160, 55296, 62928, 62960] : List Int).getD (r.fmod 11).toNat 0 - (r.fdiv 11).fmod 13) ∧ max 0 (([1, 9, 11, 12, 14, 32, 127, 160, 55296, 62928, 62960] : List Int).getD (r.fmod 11).toNat 0 - (r.fdiv 11).fmod 13) < 1112064 := by
  have h := edges_le (r.fmod 11).toNat
  generalize ([1, 9, 11, 12, 14, 32, 127, 160, 55296, 62928, 62960] : List Int).getD (r.fmod 11).toNat 0 = z at h ⊢
  rw [Int.fmod_eq_emod_of_nonneg _ (by decide : (0 : Int) ≤ 13)]
  omega
theorem start_b (r : Int) : 0 ≤ 63486 + 65536 * r.fmod 17 - (r.fdiv 17).fmod 13 ∧ 63486 + 65536 * r.fmod 17 - (r.fdiv 17).fmod 13 < 1112064 := by
  rw [Int.fmod_eq_emod_of_nonneg _ (by decide : (0 : Int) ≤ 13), Int.fmod_eq_emod_of_nonneg _ (by decide : (0 : Int) ≤ 17)]
  omega
theorem start_c (r : Int) : 0 ≤ r.fmod 1112064 ∧ r.fmod 1112064 < 1112064 := by
  rw [Int.fmod_eq_emod_of_nonneg _ (by decide : (0 : Int) ≤ 1112064)]
  omega
set_option maxRecDepth 100000 in
set_option maxHeartbeats 4000000 in
theorem does_start (w : World) (k r : Int) (t1 t2 : Nat) :
    Does w 2 (.ref 170) [.int k t1, .int r t2] [] (fun v E' => E' = [] ∧ ∃ a t', v = .int a t' ∧ 0 ≤ a ∧ a < 1112064) := by
  unfold Does
  k_fill
  intro dp un gd cn cs a ccd cl outer A₀ base h₀ L m s R loose mean mg mb rest B F KX N T hdis hk hroom hun hret
  refine' enterR (binds := [(Str.ofString "kind", .int k t1), (Str.ofString "rest", .int r t2)]) ?k1 ?k2 ?k3 ?k4 ?k5 ?kd ?kA ?kF ?kK ?k6 ?k7 ?k8 ?k9 ?kB ?_ ?c2 ?c3 ?c4 ?c5
  (case kA => exact rfl); (case kF => exact rfl); (case kK => first | exact rfl | assumption); (case k1 => k_asm); (case k2 => k_asm); (case k3 => k_asm); (case k4 => k_asm); (case k5 => k_asm); (case kd => assumption); (case k6 => k_dflt k_is); (case k7 => k_dflt k_is); (case k8 => k_room); (case k9 => first | exact BindsTo.of_eq rfl | exact binds_K (by k_in) rfl (by k_is) rfl rfl rfl); (case c5 => decide); (case kB => exact locs rfl); (case c2 => exact rfl); (case c3 => exact rfl); (case c4 => exact rfl)
  k_whole
  intro g' L' h' FG' F' N' B' X' T' lt'
  clear N F
  refine wpAny_noRaise ?_
  w_on
  w_top on
  w_strict (walk_at "MY steps")
  · exact hret _ [] _ _ (by k_asm) (news_app (fun p hp => nomatch hp) (by assumption)) ⟨rfl, _, _, rfl, start_a r⟩
  · exact hret _ [] _ _ (by k_asm) (news_app (fun p hp => nomatch hp) (by assumption)) ⟨rfl, _, _, rfl, start_b r⟩
  · exact hret _ [] _ _ (by k_asm) (news_app (fun p hp => nomatch hp) (by assumption)) ⟨rfl, _, _, rfl, start_c r⟩
theorem rsz {a b : Int} {n : Nat} (h : b = a + n ∨ (b ≤ a ∧ n = 0)) : Builtin.Range.rangeSize a b 1 = (n : Int) := by
  unfold Builtin.Range.rangeSize
  rw [if_pos (by decide : (1 : Int) > 0)]
  split <;> omega
theorem rfl_ {i : Int} (h0 : -1000000000 ≤ i) (h1 : i ≤ 1000000000) : Builtin.Range.rangeFitsLong i = true := by
  unfold Builtin.Range.rangeFitsLong
  rw [Bool.and_eq_true]
  exact ⟨decide_eq_true (by omega), decide_eq_true (by omega)⟩
theorem rsmall {a b : Int} {n : Nat} (h : b = a + n ∨ (b ≤ a ∧ n = 0)) (ha : -100000000 ≤ a ∧ a ≤ 100000000) (hb : -100000000 ≤ b ∧ b ≤ 100000000) : Builtin.Range.small a b 1 = true := by
  unfold Builtin.Range.small
  rw [rsz h, rfl_ (by omega) (by omega), rfl_ (by omega) (by omega), rfl_ (by omega) (by omega), rfl_ (by omega) (by omega)]
  rw [if_pos (by decide : (1 : Int) > 0), rfl_ (by omega) (by omega)]
  simp
section
variable {prog : Program} {w : World} {A : Around} {E : Value → Shared → Prop} {s : Shared} {env : Env} {h₀ : Heap} {body : List Stmt} {Q : Flow → Shared → Prop}
theorem iter_turns {r : Addr} {x : Str} {px : Pos} {a b : Int} {t u v : Nat} {n : Nat} {m₀ : Str → Option Value} {news : Ledger} (J : Nat → (Str → Option Value) → Ledger → Prop)
    (hh : A.handled = none) (hr : IsRange s.heap r a b 1 t u v) (hn : b = a + n ∨ (b ≤ a ∧ n = 0)) (ha : -100000000 ≤ a ∧ a ≤ 100000000) (hb : -100000000 ≤ b ∧ b ≤ 100000000) (F : Fr h₀ env.locals s.heap m₀) (N : News h₀ env.locals s.heap news) (hj : J 0 m₀ news)
    (turn : ∀ (i : Nat) tv m₁ news₁ h tk own, i < n → news₁.map (·.1) = news.map (·.1) → OwnOff own (news.map (·.1)) → J i m₁ news₁ → Fr h₀ env.locals h m₁ → News h₀ env.locals h (news₁ ++ own) → ∀ QQ, QQ = InvPostN h₀ env.locals (fun m' nx => (∀ p ∈ ([] : Ledger), p ∈ nx) ∧ J (i + 1) m' nx) own (news.map (·.1)) { s with heap := h, toks := tk } Q →
      wpAny (model prog w) A (assign (.Name x px) env (.int (a + (i : Int)) tv)) (fun _ s₃ => wpAny (model prog w) A (execs body env) QQ E s₃) E { s with heap := h, toks := tk })
    (done : ∀ m₁ news₁ h tk, J n m₁ news₁ → Fr h₀ env.locals h m₁ → News h₀ env.locals h news₁ → Q .next { s with heap := h, toks := tk }) :
    wpAny (model prog w) A (pyIter (.ref r)) (fun it s₂ => TurnsAt prog w A h₀ env (.Name x px) body Q E it s₂) E s := by
  refine wpAny_pyIter_range hr (rsmall hn ha hb) ?_
  rw [rsz hn]
  refine core_turns [] J (KTurns.ofWalks (LCg.range_walks hh a n) fun i v s Q E st q => (by unfold letOwnedTupleGo; exact wpAny_pure q)) rfl (fun b hb => ?_) (fun p hp => nomatch hp) F N _ ?hst hj
    (fun i v m₁ news₁ h tk own hi hP a' b' c hJ F₁ N₁ => ?_) (fun m₁ news₁ h tk c => done m₁ news₁ h tk)
  · exact .inl (List.mem_singleton.mp hb)
  · show IsRangeIter _ _ _ _ _
    simpa using Heap.get?_push_size _ rfl
  · obtain ⟨tv, rfl⟩ := hP
    exact turn i tv m₁ news₁ h tk own hi a' b' hJ F₁ N₁ _ rfl
/-- for x in range(n) -/
theorem range1_turns {x : Str} {px : Pos} {b : Int} {u : Nat} (n : Nat) {m₀ : Str → Option Value} {news : Ledger} (J : Nat → (Str → Option Value) → Ledger → Prop)
    (hh : A.handled = none) (hn : b = (n : Int)) (hb : n ≤ 100000000) (F : Fr h₀ env.locals s.heap m₀) (N : News h₀ env.locals s.heap news) (hj : J 0 m₀ news)
    (turn : ∀ (i : Nat) tv m₁ news₁ h tk own, i < n → news₁.map (·.1) = news.map (·.1) → OwnOff own (news.map (·.1)) → J i m₁ news₁ → Fr h₀ env.locals h m₁ → News h₀ env.locals h (news₁ ++ own) → ∀ QQ, QQ = InvPostN h₀ env.locals (fun m' nx => (∀ p ∈ ([] : Ledger), p ∈ nx) ∧ J (i + 1) m' nx) own (news.map (·.1)) { s with heap := h, toks := tk } Q →
      wpAny (model prog w) A (assign (.Name x px) env (.int (i : Int) tv)) (fun _ s₃ => wpAny (model prog w) A (execs body env) QQ E s₃) E { s with heap := h, toks := tk })
    (done : ∀ m₁ news₁ h tk, J n m₁ news₁ → Fr h₀ env.locals h m₁ → News h₀ env.locals h news₁ → Q .next { s with heap := h, toks := tk }) :
    wpAny (model prog w) A (call (.type "range") [.int b u]) (fun xv s₁ => wpAny (model prog w) A (pyIter xv) (fun it s₂ => TurnsAt prog w A h₀ env (.Name x px) body Q E it s₂) E s₁) E s := by
  refine range1_rows F N fun h' tk t₁ u₁ v₁ hr F' N' up => ?_
  refine iter_turns J hh hr (n := n) (.inl (by omega)) (by omega) (by omega) F' N' hj (fun i tv m₁ news₁ h tk own hi a' b' c F₁ N₁ QQ hQQ => ?_) done
  rw [Int.zero_add]
  exact turn i tv m₁ news₁ h tk own hi a' b' c F₁ N₁ QQ hQQ
/-- for x in range(a, b) -/
theorem range2_turns {x : Str} {px : Pos} {a b : Int} {t u : Nat} (n : Nat) {m₀ : Str → Option Value} {news : Ledger} (J : Nat → (Str → Option Value) → Ledger → Prop)
    (hh : A.handled = none) (hn : b = a + n ∨ (b ≤ a ∧ n = 0)) (ha : -100000000 ≤ a ∧ a ≤ 100000000) (hb : -100000000 ≤ b ∧ b ≤ 100000000) (F : Fr h₀ env.locals s.heap m₀) (N : News h₀ env.locals s.heap news) (hj : J 0 m₀ news)
    (turn : ∀ (i : Nat) tv m₁ news₁ h tk own, i < n → news₁.map (·.1) = news.map (·.1) → OwnOff own (news.map (·.1)) → J i m₁ news₁ → Fr h₀ env.locals h m₁ → News h₀ env.locals h (news₁ ++ own) → ∀ QQ, QQ = InvPostN h₀ env.locals (fun m' nx => (∀ p ∈ ([] : Ledger), p ∈ nx) ∧ J (i + 1) m' nx) own (news.map (·.1)) { s with heap := h, toks := tk } Q →
      wpAny (model prog w) A (assign (.Name x px) env (.int (a + (i : Int)) tv)) (fun _ s₃ => wpAny (model prog w) A (execs body env) QQ E s₃) E { s with heap := h, toks := tk })
    (done : ∀ m₁ news₁ h tk, J n m₁ news₁ → Fr h₀ env.locals h m₁ → News h₀ env.locals h news₁ → Q .next { s with heap := h, toks := tk }) :
    wpAny (model prog w) A (call (.type "range") [.int a t, .int b u]) (fun xv s₁ => wpAny (model prog w) A (pyIter xv) (fun it s₂ => TurnsAt prog w A h₀ env (.Name x px) body Q E it s₂) E s₁) E s := by
  refine range2_rows F N fun h' tk t₁ u₁ v₁ hr F' N' up => ?_
  exact iter_turns J hh hr hn ha hb F' N' hj turn done
end
section
variable {prog : Program} {w : World} {A : Around} {E : Value → Shared → Prop} {s : Shared} {h₀ : Heap} {L : Addr} {m : Str → Option Value} {news : Ledger}
/-- l[:k] of a list of ints -/
theorem cut_ints {value e : Expr} {pos : Pos} {l : Addr} {vs : List Value} {ns : List Int} {k : Int} {t : Nat} {Q : Value → Shared → Prop} (F : Fr h₀ L s.heap m) (N : News h₀ L s.heap news) (hl : s.heap.IsList l vs.toArray) (hi : IntsAre vs ns) (h0 : 0 ≤ k) (hz : vs.length ≤ 1000)
    (h : ∀ D ws h', Fr h₀ L h' m → News h₀ L h' ((D, listOf (List.toArray ws) 0) :: news) → (∀ p ∈ news, @LT.lt Nat _ p.1 D) → IntsAre ws (ns.take k.toNat) → Q (.ref D) { s with heap := h' }) :
    wpAny (model prog w) A (subscriptTail value (.Slice none (some e) none pos) (.ref l) (.ref s.heap.objs.size)) Q E { s with heap := s.heap.push { cls := .type "slice", data := .fields #[.none, .int k t, .none] } } := by
  refine kba_turn (value' := Expr.Name (Str.ofString "_") ⟨0, 0, 0, 0⟩) (fun _ => rfl) ?_
  refine kmk_slice_ints F N hl IsPart.none (IsPart.int _ _) hi (kmk_upto hi h0) rfl (fun D ws h' F' N' l1 h2 _ _ => h D ws h' F' N' l1 h2) ?_ (fun _ => rfl) ?_
  · with_unfolding_all rfl
  · rw [sizeLine_eq, List.size_toArray]; omega
end
section
open PyProof.Rows.LCg PyProof.V PySem.SeqAt
section
variable {prog : Program} {w : World} {A : Around} {E : Value → Shared → Prop} {s : Shared}
/-- lists of texts compared -/
theorem readsAll_of_strs {h : Heap} : ∀ {vs : List Value} {ns : List Str}, StrsAre vs ns → ReadsAll h vs (ns.map PyData.str) []
  | _, _, .nil => .nil
  | _, _, .cons k t r => by
    have := ReadsAll.cons (Reads.str (h := h) k t) (readsAll_of_strs (h := h) r)
    simpa using this
theorem reads_of_strs {h : Heap} {a : Addr} {vs : List Value} {ns : List Str} (hl : h.IsList a vs.toArray) (hi : StrsAre vs ns) : Reads h (.ref a) (.list (ns.map PyData.str)) [a] := by
  obtain ⟨o, ho, hc, n, hd⟩ := hl
  exact Reads.list ho hc hd (by simpa using readsAll_of_strs hi)
theorem canLayAll0_strs : ∀ ns : List Str, (∀ x ∈ ns, PyData.strOk x = true) → PyData.canLayAll0 (ns.map PyData.str) = true
  | [], _ => by simp [PyData.canLayAll0]
  | n :: r, h => by simp [PyData.canLayAll0, PyData.canLay0, h n (.head _), canLayAll0_strs r fun x hx => h x (.tail _ hx)]
theorem depthAll_strs : ∀ ns : List Str, PyData.depthAll (ns.map PyData.str) ≤ 1
  | [] => by simp [PyData.depthAll]
  | n :: r => by
    have := depthAll_strs r
    simp only [List.map_cons, PyData.depthAll, PyData.depth]
    omega
theorem shaped_strs (ns : List Str) (h : ∀ x ∈ ns, PyData.strOk x = true) : shaped (.list (ns.map PyData.str)) = true := by
  have h1 := depthAll_strs ns
  have h2 : PyData.depth (.list (ns.map PyData.str)) ≤ 64 := by simp only [PyData.depth]; omega
  show (PyData.canLay0 (.list (ns.map PyData.str)) && decide (PyData.depth (.list (ns.map PyData.str)) ≤ 64)) = true
  rw [Bool.and_eq_true]
  exact ⟨by simp only [PyData.canLay0]; exact canLayAll0_strs ns h, decide_eq_true h2⟩
theorem noMix_strs : ∀ ns ms : List Str, noMixAll (ns.map PyData.str) (ms.map PyData.str) = true
  | [], [] => by simp [noMixAll]
  | [], _ :: _ => by simp [noMixAll]
  | _ :: _, [] => by simp [noMixAll]
  | _ :: r, _ :: q => by simp [noMixAll, noMix, noMix_strs r q]
theorem same_strs : ∀ ns ms : List Str, PySem.Spec.sameAll (ns.map PyData.str) (ms.map PyData.str) = decide (ns = ms)
  | [], [] => by simp [PySem.Spec.sameAll]
  | [], _ :: _ => by simp [PySem.Spec.sameAll]
  | _ :: _, [] => by simp [PySem.Spec.sameAll]
  | n :: r, k :: q => by
    simp only [List.map_cons, PySem.Spec.sameAll, PySem.Spec.same, same_strs r q]
    by_cases h : n = k <;> simp [h]
theorem eq_strsK {a b : Addr} {vs us : List Value} {ns ms : List Str} {Q : Value → Shared → Prop} (hl : s.heap.IsList a vs.toArray) (hi : StrsAre vs ns) (hl' : s.heap.IsList b us.toArray) (hi' : StrsAre us ms) (ok1 : ∀ x ∈ ns, PyData.strOk x = true) (ok2 : ∀ x ∈ ms, PyData.strOk x = true) (hu : A.units + 64 < cLine)
    (h : Q (.bool (decide (ns = ms))) s) : wpAny (model prog w) A (compareOp .Eq (.ref a) (.ref b)) Q E s :=
  eq_dataH_same (reads_of_strs hl hi) (reads_of_strs hl' hi') (shaped_strs ns ok1) (shaped_strs ms ok2) hu (by simp only [noMix]; exact noMix_strs ns ms) (by simp only [PySem.Spec.same]; rw [same_strs]; exact h)
theorem ne_strsK {a b : Addr} {vs us : List Value} {ns ms : List Str} {Q : Value → Shared → Prop} (hl : s.heap.IsList a vs.toArray) (hi : StrsAre vs ns) (hl' : s.heap.IsList b us.toArray) (hi' : StrsAre us ms) (ok1 : ∀ x ∈ ns, PyData.strOk x = true) (ok2 : ∀ x ∈ ms, PyData.strOk x = true) (hu : A.units + 64 < cLine)
    (h : Q (.bool (!decide (ns = ms))) s) : wpAny (model prog w) A (compareOp .NotEq (.ref a) (.ref b)) Q E s :=
  ne_dataH_same (reads_of_strs hl hi) (reads_of_strs hl' hi') (shaped_strs ns ok1) (shaped_strs ms ok2) hu (by simp only [noMix]; exact noMix_strs ns ms) (by simp only [PySem.Spec.same]; rw [same_strs]; exact h)
/-- the list of bad marks -/
abbrev badS : Str := Str.ofString "invalid-codepoint"
theorem bads_strs {errs : Array Value} (h : Bads errs) : StrsAre errs.toList (List.replicate errs.size badS) := by
  have : ∀ l : List Value, (∀ v ∈ l, ∃ t, v = .str badS t) → StrsAre l (List.replicate l.length badS) := by
    intro l
    induction l with
    | nil => intro _; exact .nil
    | cons v r ih =>
      intro h
      obtain ⟨t, rfl⟩ := h v (.head _)
      exact .cons _ t (ih fun z hz => h z (.tail _ hz))
  have h2 := this errs.toList h
  simpa using h2
theorem bad_ok (k : Nat) : ∀ x ∈ List.replicate k badS, PyData.strOk x = true := fun x hx => by
  rw [List.eq_of_mem_replicate hx]; decide +kernel
theorem rep_strs (t : Nat) (k : Nat) : StrsAre (List.replicate k [Value.str badS t]).flatten (List.replicate k badS) := by
  induction k with
  | zero => exact .nil
  | succ k ih =>
    rw [List.replicate_succ, List.flatten_cons, List.replicate_succ]
    exact .cons _ t ih
end
end
/-- a new stream -/
structure St0 (st : StS) : Prop where
  C : st.C = Str.ofString ""
  o : st.o = 0
  p : st.p = 0
  pl : st.pl = 0
  pc : st.pc = 0
  b : st.b = []
  errs : st.errs = #[]
  U : st.U = []
  bufV : st.bufV = .none
theorem st0_raw {S : Str} {st : StS} (h : St0 st) : rawOf S st = S.cps.toList := by
  unfold rawOf; rw [h.b, h.p]; rfl
theorem st0_rem {S : Str} {st : StS} (h : St0 st) : remOf S st = norm S.cps.toList := by
  unfold remOf; rw [st0_raw h, h.C, h.o]; rfl
theorem bad_le (l : List Nat) : badCount l ≤ l.length := List.length_filter_le _ _
theorem st0_ok {S : Str} {st : StS} (h : St0 st) (hS : S.length ≤ 10000) : StOk S st := by
  refine ⟨by rw [h.o]; exact Nat.zero_le _, by rw [h.p]; exact Nat.zero_le _, ?_, ?_⟩
  · rw [h.C]; decide +kernel
  · rw [st0_raw h, h.errs]
    have := bad_le S.cps.toList
    have hl : S.cps.toList.length = S.length := rfl
    show 0 + _ ≤ _
    omega
theorem st0_buf {st : StS} (h : St0 st) : BufIs st.bufV st.b := .inl ⟨h.b, h.bufV⟩
theorem st0_bads {st : StS} (h : St0 st) : Bads st.errs := by rw [h.errs]; intro v hv; cases hv
theorem ctor_ls {w : World} {text : Str} {t : Nat} {rest : Ledger} {v : Value} {E' : Ledger} (h : ctorPost w text t rest v E') : ∃ (kt : Nat → Nat) (x d q nl td tx er : Nat) (st : StS), (d < x ∧ x < q ∧ q < td ∧ td < tx ∧ tx < er) ∧ (∀ p ∈ rest, @LT.lt Nat _ p.1 d) ∧ v = .ref x ∧
    E' = LS w kt x d q nl td tx er text t st ∧ St0 st := by
  refine' ex_14_4 (h) ?_; intro kt x d q nl td tx er t1 t2 t3 t4 t5 t6 ho hl hv hE; (try clear h)
  exact ⟨kt, x, d, q, nl, td, tx, er, ⟨Str.ofString "", 0, 0, 0, 0, [], #[], [], .none, t1, t2, t3, t4, t5, t6, 0⟩, ho, hl, hv, hE, ⟨rfl, rfl, rfl, rfl, rfl, rfl, rfl, rfl, rfl⟩⟩
theorem ls_dis {d x q td tx er : Nat} {rest E : Ledger} (ho : d < x ∧ x < q ∧ q < td ∧ td < tx ∧ tx < er) (h : ∀ p ∈ rest, @LT.lt Nat _ p.1 d) (he : ∀ r ∈ E, r.1 = er ∨ r.1 = q ∨ r.1 = x ∨ r.1 = d ∨ r.1 = tx ∨ r.1 = td) : ∀ q ∈ rest, ∀ r ∈ E, r.1 ≠ q.1 := by
  intro p hp r hr
  have h1 : @LT.lt Nat _ p.1 d := h p hp
  intro e
  rcases he r hr with h | h | h | h | h | h <;> (rw [h] at e; have e2 : @Eq Nat _ _ := e; omega)
theorem news_move {h₀ h : Heap} {L : Addr} {pre E rest : Ledger} {e : Addr × Obj} (N : News h₀ L h (e :: (pre ++ (E ++ rest)))) : News h₀ L h (pre ++ ((E ++ [e]) ++ rest)) := fun p hp => N p (by
  simp only [List.mem_append, List.mem_cons, List.not_mem_nil, or_false] at hp ⊢
  rcases hp with h | (h | h) | h <;> simp [h])
theorem until_dis {d x q td tx er : Nat} {t : Nat} {o : Obj} {pre rest E : Ledger} (ho : d < x ∧ x < q ∧ q < td ∧ td < tx ∧ tx < er) (h : ∀ p ∈ rest, @LT.lt Nat _ p.1 d) (hpre : ∀ p ∈ pre, @LT.lt Nat _ er p.1 ∧ @LT.lt Nat _ p.1 t) (ht : er < t)
    (he : ∀ r ∈ E, r.1 = er ∨ r.1 = q ∨ r.1 = x ∨ r.1 = d ∨ r.1 = tx ∨ r.1 = td) : ∀ p ∈ pre ++ rest, ∀ r ∈ E ++ [(t, o)], r.1 ≠ p.1 := by
  intro p hp r hr e
  have hr' : @LE.le Nat _ d r.1 ∧ (@LE.le Nat _ r.1 er ∨ @Eq Nat r.1 t) := by
    rcases List.mem_append.mp hr with hr | hr
    · have a : @Eq Nat r.1 er ∨ @Eq Nat r.1 q ∨ @Eq Nat r.1 x ∨ @Eq Nat r.1 d ∨ @Eq Nat r.1 tx ∨ @Eq Nat r.1 td := he r hr
      omega
    · have : @Eq Nat r.1 t := by rw [List.mem_singleton.mp hr]
      omega
  have e' : @Eq Nat r.1 p.1 := e
  rcases List.mem_append.mp hp with hp | hp
  · have := hpre p hp; omega
  · have : @LT.lt Nat _ p.1 d := h p hp; omega
theorem own_off_last {d x q td tx er : Nat} {t : Nat} {o : Obj} (ho : d < x ∧ x < q ∧ q < td ∧ td < tx ∧ tx < er) (ht : er < t) : OwnOff [((t, o) : Addr × Obj)] [er, q, x, d, tx, td] := by
  intro p hp b hb e
  rw [List.mem_singleton.mp hp] at e
  have e' : @Eq Nat t b := e
  have hb' : @Eq Nat b er ∨ @Eq Nat b q ∨ @Eq Nat b x ∨ @Eq Nat b d ∨ @Eq Nat b tx ∨ @Eq Nat b td := by
    simp only [List.mem_cons, List.not_mem_nil, or_false] at hb; exact hb
  omega
theorem norm_nil {l : List Nat} (h : norm l = []) : l = [] := by
  cases l with
  | nil => rfl
  | cons c r =>
    by_cases hs : starts (c :: r)
    · obtain ⟨r', e⟩ := hs
      rw [e] at h
      unfold norm at h
      rw [crlf_starts] at h
      cases h
    · unfold norm at h
      rw [crlf_cons hs] at h
      cases h
theorem in_empty (w : World) (t : Addr) (o : Obj) (hc : o.cls = .type "tuple") {n : Nat} (hd : o.data = .seq #[] n) : InTest w (.ref t) (fun _ => false) [(t, o)] := by
  intro A E s X c u Q hX hO h
  have ht : IsTup s.heap t #[] := ⟨o, hO _ (.head _), hc, n, hd⟩
  exact in_tuple_strs (ys := []) ht .nil (by simpa using h s.toks)
theorem take_true (l : List Nat) : l.takeWhile (fun c => (fun _ : Nat => false) c == false) = l := by
  induction l with
  | nil => rfl
  | cons c r ih => rw [List.takeWhile_cons]; exact congrArg (c :: ·) ih
theorem drop_true (l : List Nat) : l.dropWhile (fun c => (fun _ : Nat => false) c == false) = [] := by
  induction l with
  | nil => rfl
  | cons c r ih => rw [List.dropWhile_cons]; simpa using ih
/-- charsUntil(()) on a new stream -/
theorem until_all {S : Str} {st st' : StS} {r : List Nat} (z : St0 st) (u : UntilR S st (fun c => (fun _ : Nat => false) c == false) r st') : r = norm S.cps.toList ∧ st'.errs.size = badCount S.cps.toList ∧ Bads st'.errs := by
  have h1 := u.r
  rw [take_true, st0_rem z] at h1
  have h2 := u.rem
  rw [drop_true] at h2
  have h3 := (List.append_eq_nil_iff.mp h2).2
  have h4 := u.took.E
  rw [norm_nil h3, st0_raw z, z.errs] at h4
  refine ⟨h1, ?_, u.took.B (st0_bads z)⟩
  have : badCount [] = 0 := rfl
  have e : (#[] : Array Value).size = 0 := rfl
  omega
/-- the line for the class called -/
theorem use_ctor (w : World) (text : Str) (t : Nat) {dp un : Nat} {gd : Option (List Code)} {cn : Str} {cs : Scope} {a : Addr} {ccd : Value} {cl : List (Str × Addr)} {outer : List Env} {A₀ : Around} {base h₀ : Heap} {L : Addr} {m : Str → Option Value} {s : Shared} {Q Er : Value → Shared → Prop}
    {loose : List Str} {mean : ExcName → Option Value} {mg mb : Str → Option Value} {rest : Ledger}
    (B : Below A₀ base outer h₀) (F : Fr h₀ L s.heap m) (KX : (hd.heap_39 w.params).In h₀) (N : News h₀ L s.heap rest) (TT : Top hd.view_39 loose mean mg mb h₀) (hk : cs.kind = .function)
    (hroom : dp + 4 * 3 < recursionLimit) (hun : un + 40 * 3 < cLine)
    (hret : ∀ v E' h' tk', Fr h₀ L h' m → News h₀ L h' (E' ++ rest) → ctorPost w text t rest v E' → Q v { s with heap := h', toks := tk' }) :
    wpAny (model PySem.Challenge.rw_te0024_01.row.prog w) (ktrTop dp un gd cn cs L a ccd cl outer) (call (.ref 138) [.str text t]) Q Er s :=
  make_stream w text t dp un gd cn cs a ccd cl outer A₀ base h₀ L m s Q Er loose mean mg mb rest B F KX N TT hk hroom hun hret
theorem list_of {h₀ h : Heap} {L a : Addr} {news : Ledger} {its : Array Value} {n : Nat} (N : News h₀ L h news) (hm : (a, listOf its n) ∈ news) : h.IsList a its := ⟨_, (N _ hm).1, rfl, _, rfl⟩
theorem ints_get : ∀ {vs : List Value} {ns : List Int} {i : Nat} {x : Value}, IntsAre vs ns → vs[i]? = some x → ∃ k t, ns[i]? = some k ∧ x = .int k t
  | _, _, _, _, .nil, h => by simp at h
  | _, _, 0, _, .cons k t _, h => by
    simp at h
    exact ⟨k, t, rfl, h.symm⟩
  | _, _, i + 1, _, .cons _ _ r, h => by
    have := ints_get r (i := i) (by simpa using h)
    simpa using this
theorem ints_len {vs : List Value} {ns : List Int} (h : IntsAre vs ns) : vs.length = ns.length := by
  induction h with
  | nil => rfl
  | cons _ _ _ ih => rw [List.length_cons, List.length_cons, ih]
theorem ints_snoc {n : Int} {t : Nat} : ∀ {vs : List Value} {ns : List Int}, IntsAre vs ns → IntsAre (vs ++ [.int n t]) (ns ++ [n])
  | _, _, .nil => .cons n t .nil
  | _, _, .cons k t' r => .cons k t' (ints_snoc r)
section
variable {prog : Program} {w : World} {A : Around} {E : Value → Shared → Prop} {s : Shared}
theorem last_item {value slice : Expr} {l : Addr} {vs : List Value} {ns : List Int} {c : Int} {u : Nat} {Q : Value → Shared → Prop} (hl : s.heap.IsList l vs.toArray) (hi : IntsAre vs ns) (hc : ns.getLast? = some c) (h : ∀ t, Q (.int c t) s)
    (hs : subscripted slice false (.ref l) (.int (-1) u) = operate [.ref l, .int (-1) u] (getItem (.ref l) (.int (-1) u))) :
    wpAny (model prog w) A (subscriptTail value slice (.ref l) (.int (-1) u)) Q E s := by
  have e := ints_len hi
  have h1 : ns ≠ [] := by intro h; rw [h] at hc; cases hc
  have h2 : 0 < ns.length := List.length_pos_iff.mpr h1
  have h3 : ns[ns.length - 1]? = some c := by rw [← hc, List.getLast?_eq_getElem?]
  have h4 : vs.length - 1 < vs.length := by omega
  obtain ⟨k, t, h5, h6⟩ := ints_get (i := vs.length - 1) hi (List.getElem?_eq_getElem h4)
  rw [e, h3] at h5
  cases h5
  refine kde_neg hl (by decide) (by decide) (j := vs.length - 1) ?_ (List.getElem?_eq_getElem h4) (h6 ▸ h t) hs
  unfold seqIndex?
  rw [if_pos (by decide : (-1 : Int) < 0)]
  have h7 : (decide (0 ≤ (-1 : Int) + (vs.length : Int)) && decide ((-1 : Int) + (vs.length : Int) < (vs.length : Int))) = true := by
    rw [Bool.and_eq_true]; exact ⟨decide_eq_true (by omega), decide_eq_true (by omega)⟩
  rw [if_pos h7]
  congr 1
  omega
end
section
variable {prog : Program} {w : World} {A : Around} {E : Value → Shared → Prop} {s : Shared} {h₀ : Heap} {L : Addr} {m : Str → Option Value} {news : Ledger}
theorem bads_mul {l : Addr} {t u k n : Nat} {x : Int} {Q : Value → Shared → Prop} (F : Fr h₀ L s.heap m) (N : News h₀ L s.heap news) (hm : (l, listOf #[Value.str badS t] n) ∈ news) (hx : x = (k : Int)) (hk : k ≤ 256)
    (h : ∀ D h' ws, Fr h₀ L h' m → News h₀ L h' ((D, listOf ws.toArray 0) :: news) → StrsAre ws (List.replicate k badS) → (∀ p ∈ news, @LT.lt Nat _ p.1 D) → Q (.ref D) { s with heap := h' }) :
    wpAny (model prog w) A (binaryOp .Mult (.ref l) (.int x u)) Q E s := by
  subst hx
  refine KMa.mul F N (vs := [Value.str badS t]) (list_of N hm) (by omega) (by omega) (by simpa using hk) rfl fun D h' F' N' hl => ?_
  exact h D h' _ F' N' (by simpa using rep_strs t k) hl
theorem eq_bads {er D : Addr} {errs : Array Value} {ws : List Value} {ne n k : Nat} {Q : Value → Shared → Prop} (N : News h₀ L s.heap news) (hm1 : (er, listOf errs ne) ∈ news) (hm2 : (D, listOf ws.toArray n) ∈ news) (hB : Bads errs) (hs : errs.size = k)
    (hw : StrsAre ws (List.replicate k badS)) (hu : A.units + 64 < cLine) (h : Q (.bool true) s) : wpAny (model prog w) A (compareOp .Eq (.ref er) (.ref D)) Q E s := by
  have l1 : s.heap.IsList er errs.toList.toArray := list_of N hm1
  refine eq_strsK l1 (bads_strs hB) (list_of N hm2) hw (bad_ok _) (bad_ok _) hu ?_
  rw [hs, decide_eq_true rfl]; exact h
theorem ne_bads {er D : Addr} {errs : Array Value} {ws : List Value} {ne n k : Nat} {Q : Value → Shared → Prop} (N : News h₀ L s.heap news) (hm1 : (er, listOf errs ne) ∈ news) (hm2 : (D, listOf ws.toArray n) ∈ news) (hB : Bads errs) (hs : errs.size = k)
    (hw : StrsAre ws (List.replicate k badS)) (hu : A.units + 64 < cLine) (h : Q (.bool false) s) : wpAny (model prog w) A (compareOp .NotEq (.ref er) (.ref D)) Q E s := by
  have l1 : s.heap.IsList er errs.toList.toArray := list_of N hm1
  refine ne_strsK l1 (bads_strs hB) (list_of N hm2) hw (bad_ok _) (bad_ok _) hu ?_
  rw [hs, decide_eq_true rfl]; exact h
end
theorem sign_step {X : Str} {i c t : Nat} {ys : List Value} (hc : X.cps[i]? = some c) (hJ : IntsAre ys ((X.cps.toList.take i).map Int.ofNat)) : IntsAre (ys ++ [.int (c : Int) t]) ((X.cps.toList.take (i + 1)).map Int.ofNat) := by
  have h : X.cps.toList[i]? = some c := by rw [Array.getElem?_toList]; exact hc
  rw [List.take_add_one, h, List.map_append]
  exact ints_snoc hJ
theorem sign_end {X : Str} {ys : List Value} {l : List Nat} (h : X.cps.toList = l) (hJ : IntsAre ys ((X.cps.toList.take X.length).map Int.ofNat)) : IntsAre ys (l.map Int.ofNat) := by
  have e : X.cps.toList.take X.length = X.cps.toList := List.take_of_length_le (Nat.le_refl X.cps.toList.length)
  rw [e, h] at hJ
  exact hJ
def dueF (p : Nat × Nat) : Option Nat := if p.2 = 13 ∧ p.1 = 10 then none else some (crf p.1)
/-- due as far as it is made -/
def dueOf (ps : List Nat) (i : Nat) : List Nat := ((ps.zip (0 :: ps)).take i).filterMap dueF
def DueAt (ps : List Nat) (i : Nat) (zs : List Value) : Prop := ∃ ns : List Int, IntsAre zs ns ∧ ns = (dueOf ps i).map Int.ofNat
theorem due_next {ps : List Nat} {i : Nat} {a b : Int} (ha : ([0] ++ ps.map Int.ofNat)[i]? = some a) (hb : (ps.map Int.ofNat)[i]? = some b) : ∃ a' b' : Nat, a = a' ∧ b = b' ∧ dueOf ps (i + 1) = dueOf ps i ++ (dueF (b', a')).toList := by
  have ha' : ((0 :: ps).map Int.ofNat)[i]? = some a := by rw [List.map_cons]; exact ha
  rw [List.getElem?_map] at ha' hb
  obtain ⟨a', h1, rfl⟩ := Option.map_eq_some_iff.mp ha'
  obtain ⟨b', h2, rfl⟩ := Option.map_eq_some_iff.mp hb
  refine ⟨a', b', rfl, rfl, ?_⟩
  unfold dueOf
  have h3 : (ps.zip (0 :: ps))[i]? = some (b', a') := by rw [List.getElem?_zip_eq_some]; exact ⟨h2, h1⟩
  rw [List.take_add_one, h3, List.filterMap_append]
  congr 1
theorem due_y {ps : List Nat} {i : Nat} {a b v : Int} {zs : List Value} {t : Nat} (ha : ([0] ++ ps.map Int.ofNat)[i]? = some a) (hb : (ps.map Int.ofNat)[i]? = some b) (hJ : DueAt ps i zs) (h : ¬ (a = 13 ∧ b = 10)) (hv : v = if b = 13 then 10 else b) : DueAt ps (i + 1) (zs ++ [.int v t]) := by
  obtain ⟨a', b', rfl, rfl, e⟩ := due_next ha hb
  obtain ⟨ns, h1, rfl⟩ := hJ
  refine ⟨_, ints_snoc h1, ?_⟩
  have : dueF (b', a') = some (crf b') := if_neg fun hc => h ⟨by show (a' : Int) = 13; have := hc.1; omega, by show (b' : Int) = 10; have := hc.2; omega⟩
  rw [e, this, List.map_append]
  congr 1
  rw [hv]
  unfold crf
  by_cases hb : b' = 13
  · rw [if_pos (by omega), if_pos hb]; rfl
  · rw [if_neg (by omega), if_neg hb]; rfl
theorem due_n {ps : List Nat} {i : Nat} {a b : Int} {zs : List Value} (ha : ([0] ++ ps.map Int.ofNat)[i]? = some a) (hb : (ps.map Int.ofNat)[i]? = some b) (hJ : DueAt ps i zs) (h1 : a = 13) (h2 : b = 10) : DueAt ps (i + 1) zs := by
  obtain ⟨a', b', rfl, rfl, e⟩ := due_next ha hb
  obtain ⟨ns, h1', rfl⟩ := hJ
  refine ⟨_, h1', ?_⟩
  have : dueF (b', a') = none := if_pos ⟨by dsimp only; omega, by dsimp only; omega⟩
  rw [e, this]
  simp
theorem due_gen : ∀ (n : Nat) (l : List Nat), l.length ≤ n → (∀ x, x ≠ 13 → (l.zip (x :: l)).filterMap dueF = norm l) ∧ ((l.zip (13 :: l)).filterMap dueF = match l with | 10 :: r => norm r | l => norm l)
  | _, [], _ => ⟨fun _ _ => rfl, rfl⟩
  | 0, _ :: _, h => absurd h (Nat.not_succ_le_zero _)
  | n + 1, c :: r, h => by
    have ih := due_gen n r (Nat.le_of_succ_le_succ h)
    have step : ∀ x, ((c :: r).zip (x :: c :: r)).filterMap dueF = (dueF (c, x)).toList ++ (r.zip (c :: r)).filterMap dueF := by
      intro x
      rw [List.zip_cons_cons, List.filterMap_cons]
      cases dueF (c, x) <;> rfl
    have key : crf c :: (r.zip (c :: r)).filterMap dueF = norm (c :: r) := by
      by_cases hs : starts (c :: r)
      · obtain ⟨r', e⟩ := hs
        injection e with e1 e2
        subst e1 e2
        rw [ih.2]
        unfold norm
        rw [crlf_starts]
        rfl
      · have e1 : norm (c :: r) = crf c :: norm r := by unfold norm; rw [crlf_cons hs]; rfl
        rw [e1]
        congr 1
        by_cases hc : c = 13
        · subst hc
          rw [ih.2]
          cases r with
          | nil => rfl
          | cons d r' =>
            have hd : d ≠ 10 := fun hd => hs ⟨r', by rw [hd]⟩
            split
            · rename_i heq; injection heq with h1 _; exact absurd h1 hd
            · rfl
        · exact ih.1 c hc
    refine ⟨fun x hx => ?_, ?_⟩
    · have : dueF (c, x) = some (crf c) := if_neg fun hc => hx hc.1
      rw [step, this]
      exact key
    · rw [step]
      by_cases hc : c = 10
      · subst hc
        have : dueF (10, 13) = none := if_pos ⟨rfl, rfl⟩
        rw [this]
        show (r.zip (10 :: r)).filterMap dueF = norm r
        exact ih.1 10 (by decide)
      · have : dueF (c, 13) = some (crf c) := if_neg fun h => hc h.2
        rw [this]
        refine Eq.trans key ?_
        split
        · rename_i heq; injection heq with h1 _; exact absurd h1 hc
        · rfl
theorem due_all (ps : List Nat) : dueOf ps ps.length = norm ps := by
  unfold dueOf
  rw [List.take_of_length_le (by rw [List.length_zip]; exact Nat.min_le_left ..)]
  exact (due_gen _ ps (Nat.le_refl _)).1 0 (by decide)
theorem due_end {ps : List Nat} {ws vs zs : List Value} (h1 : IntsAre ws ([0] ++ ps.map Int.ofNat)) (h2 : IntsAre vs (ps.map Int.ofNat)) (hJ : ∃ ns : List Int, IntsAre zs ns ∧ ns = ((((ps.zip (0 :: ps)).take (min ws.toArray.size vs.toArray.size)).filterMap dueF)).map Int.ofNat) : IntsAre zs ((norm ps).map Int.ofNat) := by
  obtain ⟨ns, h3, h4⟩ := hJ
  have e1 := ints_len h1
  have e2 := ints_len h2
  simp only [List.length_append, List.length_map, List.length_cons, List.length_nil] at e1 e2
  have e : min ws.toArray.size vs.toArray.size = ps.length := by
    rw [List.size_toArray, List.size_toArray]; omega
  rw [e] at h4
  have h5 := due_all ps
  unfold dueOf at h5
  rw [h5] at h4
  exact h4 ▸ h3
theorem Does.imp {w : World} {lv : Nat} {f : Value} {vs : List Value} {E : Ledger} {post post' : Value → Ledger → Prop} (D : Does w lv f vs E post) (h : ∀ v E', post v E' → post' v E') : Does w lv f vs E post' := by
  intro dp un gd cn cs a ccd cl outer A₀ base h₀ L m s R loose mean mg mb rest B F KX N T hdis hk hr hu k
  exact D dp un gd cn cs a ccd cl outer A₀ base h₀ L m s R loose mean mg mb rest B F KX N T hdis hk hr hu fun v E' h' tk' F' N' hp => k v E' h' tk' F' N' (h v E' hp)
theorem rc_LS (w : World) (kt : Nat → Nat) (x d q nl td tx er : Nat) (hord : d < x ∧ x < q ∧ q < td ∧ td < tx ∧ tx < er) (S : Str) (hS : S.length ≤ 10000) (hsur : noSur S.cps.toList) (st : StS) (ok : StOk S st) (hb : BufIs st.bufV st.b) (t6 n t1 : Nat) (hn : 1 ≤ n) (hn' : n ≤ 20000) :
    Does w 3 (.ref 113) [.ref x, .int (n : Int) t1] (LS w kt x d q nl td tx er S t6 st) (fun v E' => ∃ st', E' = LS w kt x d q nl td tx er S t6 st' ∧ RcNext S n st st' ∧ BufIs st'.bufV st'.b ∧
      ((v = .bool true ∧ rcIn st.b S st.p n ≠ []) ∨ (v = .bool false ∧ rcIn st.b S st.p n = []))) := by
  refine Does.imp (does_readChunk w kt x d q nl td tx er hord st.C S n st.p st.pl st.pc t1 st.ta st.tb st.t4 st.t5 t6 st.t7 (.int (st.o : Int) st.tc) st.bufV st.b st.errs st.ne hn hn' ok.p hS (by have := ok.C; omega) (ok_errs ok) hsur hb) fun v E' h => ?_
  refine' ex_10_6 (rc_either h) ?_; intro R bufV errs ne ta tb tc t4 t5 t7 h1 h2 h3 h4 h5 h6
  exact ⟨nextSt S n st R bufV errs ta tb tc t4 t5 t7 ne, h1, next_rc h2 h4 h5, h3, h6⟩
theorem rc_nothing {S : Str} {st : StS} {n : Nat} (_ok : StOk S st) (hraw : rawOf S st = []) (_hb : BufIs st.bufV st.b) : rcIn st.b S st.p n = [] := by
  unfold rawOf at hraw
  obtain ⟨h1, h2⟩ := List.append_eq_nil_iff.mp hraw
  unfold rcIn
  rw [h1, h2]; simp
theorem told_last {ts : List Int} {ps : List Nat} (h1 : ts.length = ps.length + 1) (h2 : ∀ j, j ≤ ps.length → ts.getD j 0 = (badCount (ps.take j) : Int)) : ts.getLast? = some (badCount ps : Int) := by
  have h3 := h2 ps.length (Nat.le_refl _)
  rw [List.take_length] at h3
  rw [List.getLast?_eq_getElem?, h1, Nat.add_sub_cancel]
  rw [List.getD_eq_getElem?_getD] at h3
  have h4 : ps.length < ts.length := by omega
  rw [List.getElem?_eq_getElem h4] at h3 ⊢
  rw [← h3]; rfl
theorem half_is (n : Nat) : (n : Int).fdiv 2 = ((n / 2 : Nat) : Int) := by
  rw [Int.fdiv_eq_ediv_of_nonneg _ (by decide)]; omega
theorem bad_half (ps : List Nat) (k : Nat) : badCount (ps.drop k) + badCount (ps.take k) = badCount ps := by
  have h := congrArg badCount (List.take_append_drop k ps)
  rw [badCount_append] at h; omega
theorem ls_dis_own {d x q td tx er : Nat} {tail own E : Ledger} {adr : List Addr} (ho : d < x ∧ x < q ∧ q < td ∧ td < tx ∧ tx < er) (h : ∀ p ∈ tail, @LT.lt Nat _ p.1 d) (hoff : OwnOff own adr) (ha : ∀ r ∈ E, r.1 ∈ adr)
    (he : ∀ r ∈ E, r.1 = er ∨ r.1 = q ∨ r.1 = x ∨ r.1 = d ∨ r.1 = tx ∨ r.1 = td) : ∀ p ∈ tail ++ own, ∀ r ∈ E, r.1 ≠ p.1 := by
  intro p hp r hr e
  rcases List.mem_append.mp hp with hp | hp
  · exact ls_dis ho h he p hp r hr e
  · exact hoff p hp r.1 (ha r hr) e.symm
theorem bad_13 : badCount [13] = 0 := by decide
theorem bad_cut (l : List Nat) : badCount (cut13 l).1 = badCount l := by
  have h := congrArg badCount (cut13_cat l)
  rw [badCount_append] at h
  have h2 : badCount (cut13 l).2 = 0 := by
    unfold cut13
    split
    · exact bad_13
    · rfl
  omega
theorem bad_buf {v : Value} {b : List Nat} (h : BufIs v b) : badCount b = 0 := by
  rcases h with ⟨rfl, _⟩ | ⟨rfl, _⟩
  · rfl
  · exact bad_13
section
variable {prog : Program} {w : World} {A : Around} {E : Value → Shared → Prop} {s : Shared} {h₀ : Heap} {L : Addr} {m : Str → Option Value} {news : Ledger}
theorem ne_empty {er D : Addr} {errs : Array Value} {ne n : Nat} {Q : Value → Shared → Prop} (N : News h₀ L s.heap news) (hm1 : (er, listOf errs ne) ∈ news) (hm2 : (D, listOf #[] n) ∈ news) (hs : errs.size = 0)
    (hu : A.units + 64 < cLine) (h : Q (.bool false) s) : wpAny (model prog w) A (compareOp .NotEq (.ref er) (.ref D)) Q E s := by
  have e : errs = #[] := Array.eq_empty_of_size_eq_zero hs
  subst e
  exact ne_intsK (vs := []) (us := []) (list_of N hm1) .nil (list_of N hm2) .nil hu (by simpa using h)
theorem item_at {value slice : Expr} {l : Addr} {vs : List Value} {ns : List Int} {k : Int} {u : Nat} {Q : Value → Shared → Prop} (hl : s.heap.IsList l vs.toArray) (hi : IntsAre vs ns) (j : Nat) (hj : k = (j : Int)) (h1 : j < ns.length) (hf : j < 1000) (h : ∀ t, Q (.int (ns.getD j 0) t) s)
    (hs : subscripted slice false (.ref l) (.int k u) = operate [.ref l, .int k u] (getItem (.ref l) (.int k u))) :
    wpAny (model prog w) A (subscriptTail value slice (.ref l) (.int k u)) Q E s := by
  subst hj
  refine item_anyK hl hi (by omega) (by omega) (by omega) (fun t => ?_) hs
  simpa using h t
end
theorem fr_know5' {h₀ h : Heap} {L : Addr} {m : Str → Option Value} {z1 z2 z3 z4 z5 : Str} {b1 b2 b3 b4 b5 : Value} (h1 : m z1 = some b1) (h2 : m z2 = some b2) (h3 : m z3 = some b3) (h4 : m z4 = some b4) (h5 : m z5 = some b5) (F : Fr h₀ L h m) :
    Fr h₀ L h (fun y => if y = z1 then some b1 else if y = z2 then some b2 else if y = z3 then some b3 else if y = z4 then some b4 else if y = z5 then some b5 else m y) :=
  fr_list [(z1, b1), (z2, b2), (z3, b3), (z4, b4), (z5, b5)] (fun p hp => by
    simp only [List.mem_cons, List.not_mem_nil, or_false] at hp
    rcases hp with rfl | rfl | rfl | rfl | rfl <;> assumption) F
theorem fr_know6' {h₀ h : Heap} {L : Addr} {m : Str → Option Value} {z1 z2 z3 z4 z5 z6 : Str} {b1 b2 b3 b4 b5 b6 : Value} (h1 : m z1 = some b1) (h2 : m z2 = some b2) (h3 : m z3 = some b3) (h4 : m z4 = some b4) (h5 : m z5 = some b5) (h6 : m z6 = some b6) (F : Fr h₀ L h m) :
    Fr h₀ L h (fun y => if y = z1 then some b1 else if y = z2 then some b2 else if y = z3 then some b3 else if y = z4 then some b4 else if y = z5 then some b5 else if y = z6 then some b6 else m y) :=
  fr_list [(z1, b1), (z2, b2), (z3, b3), (z4, b4), (z5, b5), (z6, b6)] (fun p hp => by
    simp only [List.mem_cons, List.not_mem_nil, or_false] at hp
    rcases hp with rfl | rfl | rfl | rfl | rfl | rfl <;> assumption) F
local macro_rules | `(tactic| walk_at "exec Assign cons ListComp") => `(tactic| refine stopAt_ ?_)
local macro_rules | `(tactic| walk_at "eval ListComp") => `(tactic| refine stopAt_ ?_)
local macro_rules | `(tactic| walk_at "call type:zip") => `(tactic| refine stopAt_ ?_)
local macro_rules | `(tactic| walk_at "execs cons") => `(tactic| (k_here; (with_reducible rename StopList _ => T9); k_dflt (refine stop_list T9 ?_)))
local macro_rules | `(tactic| k_lt $h) => `(tactic| (replace $h := allLt_of $h; simp only [AllLt, and_true] at $h:ident; (repeat (have lh9 := And.left $h; replace $h := And.right $h))))
section
local macro_rules | `(tactic| walk_at "compareOp Eq ref ref") => `(tactic| refine stopAt_ ?_)
local macro_rules | `(tactic| walk_at "subscriptTail Name UnaryOp ref int") => `(tactic| refine stopAt_ ?_)
local macro_rules | `(tactic| walk_at "binaryOp Mult ref int") => `(tactic| refine stopAt_ ?_)
local macro_rules | `(tactic| walk_at "call ref") => `(tactic| (k_here; (with_reducible show wpAny _ _ (call (Value.ref 138) _) _ _ _); refine stopAt_ ?_))
local macro_rules | `(tactic| walk_at "call ref") => `(tactic| (k_here; (with_reducible show wpAny _ _ (call (Value.ref 128) _) _ _ _); refine stopAt_ ?_))
/-- the last rows: other, due, return -/
def Seg5 (w : World) (body : List Stmt) (qual : Str) (scope : Scope) (cdv : Value) : Prop :=
  ∀ (S : Str) (tS : Nat) (pa ta : Addr) (vs us : List Value) (n1 n2 : Nat) (ps : List Nat) (ts : List Int) (m : Str → Option Value) (_ : m (Str.ofString "text") = some (.str S tS)) (_ : m (Str.ofString "points") = some (.ref pa)) (_ : m (Str.ofString "told") = some (.ref ta))
    (_ : IntsAre vs (ps.map Int.ofNat)) (_ : IntsAre us ts) (_ : S.cps.toList = ps) (_ : ps.length ≤ 65) (_ : noSur ps) (_ : ts.getLast? = some (badCount ps : Int))
    (fa : Addr) (cd : Value) (dp un : Nat) (gd : Option (List Code)) (outer : List Env) (A₀ : Around) (base h₀ : Heap) (L : Addr) (s : Shared) (Q : Flow → Shared → Prop) (Er : Value → Shared → Prop)
    (loose : List Str) (mean : ExcName → Option Value) (mg mb : Str → Option Value)
    (_ : Below A₀ base outer h₀) (_ : Fr h₀ L s.heap m) (_ : (hd.heap_39 w.params).In h₀) (rest : Ledger) (_ : News h₀ L s.heap ((pa, listOf vs.toArray n1) :: (ta, listOf us.toArray n2) :: rest)) (_ : Top hd.view_39 loose mean mg mb h₀)
    (_ : dp + 4 * 6 < recursionLimit) (_ : un + 40 * 6 < cLine)
    (_ : ∀ (h' : Heap) (tk' : Nat) (m' : Str → Option Value) (N' : Ledger), Fr h₀ L h' m' → News h₀ L h' N' → Q (.ret (.bool true)) { s with heap := h', toks := tk' }),
    wpAny (model PySem.Challenge.rw_te0024_01.row.prog w) (ktrTop dp un gd qual scope L fa cd [] outer) (execs (body.drop 12) (envOf qual scope L fa cd)) Q Er s
set_option maxRecDepth 100000 in
set_option maxHeartbeats 4000000 in
theorem seg5 (w : World) {oc od osl} {name qual : Str} {params : Arguments} {body : List Stmt} {scope : Scope} {dV kV doc pm cdv ct : Value} {an : Option Addr} :
    (hd.heap_39 w.params).lookup 175 = some ⟨oc, od, .func (fnOf name qual params body scope dV kV doc pm an cdv ct), osl⟩ → Seg5 w body qual scope cdv := by
  unfold Seg5
  k_fill
  show _ → Seg5 w body qual scope cdv
  intro ho
  obtain ⟨rfl, rfl, rfl, rfl⟩ := fn_parts ho (show (hd.heap_39 w.params).lookup 175 = some _ by k_is)
  unfold Seg5
  intro S tS pa ta vs us n1 n2 ps ts m hm1 hm2 hm3 hI1 hI2 hS hl hsur hlast fa cd dp un gd outer A₀ base h₀ L s Q Er loose mean mg mb B F KX rest N TT hroom hun hret
  clear ho
  have hSl : S.length ≤ 65 := by rw [← hS] at hl; exact hl
  have hSs : noSur S.cps.toList := by rw [hS]; exact hsur
  have F1 := fr_know3 hm1 hm2 hm3 F
  clear F
  refine wpAny_noRaise ?_
  w_on
  w_top on
  w_strict (walk_at "MY steps")
  unfold StopAt
  (with_reducible rename Fr _ _ _ _ => F5)
  (with_reducible rename News _ _ _ _ => N5)
  refine' use_ctor _ _ _ ?k1 ?k2 ?k3 ?k4 ?k5 ?k6 ?kr ?ku ?_
  case k1 => assumption
  case k2 => exact F5
  case k3 => assumption
  case k4 => exact N5
  case k5 => assumption
  case k6 => rfl
  case kr => walk_at "MY room"
  case ku => walk_at "MY units"
  k_whole
  intro v9 E9 h9 tk9 F9 N9 p9
  refine' ex_9_5 (ctor_ls p9) ?_; intro kt9 x9 d9 q9 nl9 td9 tx9 er9 st9 o9 l9 e9 e8 z9
  refine' ex_0_15 (ord6 o9) ?_; intro g1 g2 g3 g4 g5 g6 g7 g8 g9 g10 g11 g12 g13 g14 g15
  clear p9 N5 F5
  subst e9
  subst e8
  simp only [LS, SX, TL, ent, List.nil_append, List.cons_append] at N9
  w_strict (walk_at "MY steps")
  unfold StopAt
  (refine' assign_zip ?hsw ?hclos ?hkind ?hnames ?_; (case hsw => with_unfolding_all rfl); (case hclos => rfl); (case hkind => rfl); (case hnames => decide))
  w_strict (walk_at "MY steps")
  unfold StopAt
  (with_reducible rename Fr _ _ _ _ => F2)
  (with_reducible rename News _ _ _ _ => N2)
  (with_reducible rename IntsAre _ _ => hI3)
  refine' zip_turns (fun i zs => DueAt ps i zs) ?a1 ?a2 ?a3 ?a4 ?a5 ?a6 ?a7 ?a8 ?a9 ?F ?N ?m1 ?m2 ?hsz ⟨[], .nil, rfl⟩ ?turn ?fin
  case a1 => rfl
  case a2 => decide
  case a3 => rfl
  case a4 => rfl
  case a5 => rfl
  case a6 => decide
  case a7 => rfl
  case a8 => rfl
  case a9 => rfl
  case F => exact F2
  case N => exact N2
  case m1 => k_mem
  case m2 => k_mem
  case hsz =>
    have h1 := ints_len hI1
    rw [List.length_map] at h1
    rw [sizeLine_eq]
    exact Nat.le_trans (Nat.min_le_right ..) (by rw [List.size_toArray]; omega)
  case turn =>
    intro i x y zs own C oC D m₂ h tk E' hx hy hJ hC ha hb F3 N3
    obtain ⟨a, ta', ha1, rfl⟩ := ints_get hI3 (by simpa using hx)
    obtain ⟨b, tb', hb1, rfl⟩ := ints_get hI1 (by simpa using hy)
    have F4 : Fr h₀ L h _ := F3
    have N4 : News h₀ L h _ := N3
    clear N2 F2 F3 N3 hx hy
    simp only [List.cons_append, List.nil_append] at N4
    refine wpAny_noRaise ?_
    w_strict (walk_at "MY steps")
    all_goals (with_reducible rename Fr _ _ _ _ => F9)
    all_goals (with_reducible rename News _ _ _ _ => N9)
    · exact cEnd F9 N9 (due_y ha1 hb1 hJ (by omega) (by omega))
    · exact cEnd F9 N9 (due_y ha1 hb1 hJ (by omega) (by omega))
    · exact cEnd F9 N9 (due_y ha1 hb1 hJ (by omega) (by omega))
    · exact cEnd F9 N9 (due_y ha1 hb1 hJ (by omega) (by omega))
    · exact cEnd F9 N9 (due_n ha1 hb1 hJ (by omega) (by omega))
  case fin =>
    intro D h' tk zs hJ hlt F3 N3
    simp only [List.forall_mem_cons] at hlt
    have F4 : Fr h₀ L h' _ := F3
    have N4 : News h₀ L h' _ := N3
    clear N2 F2 F3 N3
    w_strict (walk_at "MY steps")
    unfold StopAt
    refine' comp_text ?hF ?hclos ?hcell ?hkind ?hnames ?hx ?hh ?_
    case hF => exact F4
    case hclos => rfl
    case hcell => decide
    case hkind => rfl
    case hnames => decide
    case hx => rfl
    case hh => rfl
    w_strict (walk_at "MY steps")
    unfold StopAt
    (with_reducible rename Fr _ _ _ _ => F5)
    (with_reducible rename News _ _ _ _ => N5)
    k_dflt (refine' Does.useP [_, _, _] (does_until _ _ _ _ _ _ _ _ _ ?h1 _ ?h2 ?h3 _ _ [_] ?h4 ?h5 _ ?h6 ?h7 _) ?k1 ?k2 ?k3 ?k4 ?k5 ?kd ?kK ?kr ?ku ?_)
    case k4 =>
      refine' news_move ?hnm
      case hnm => exact N5
    case k1 => assumption
    case k2 => exact F5
    case k3 => assumption
    case k5 => assumption
    case kK => rfl
    case kr => walk_at "MY room"
    case ku => walk_at "MY units"
    case h1 => assumption
    case h2 => omega
    case h3 => assumption
    case h4 => refine' in_empty (n := 0) _ _ _ ?hc9 ?hd9 <;> rfl
    case h6 => exact st0_ok (by assumption) (by omega)
    case h7 => exact st0_buf (by assumption)
    case h5 =>
      refine' own_off_last ?o9 ?t9
      case o9 => assumption
      case t9 => omega
    case kd =>
      refine' until_dis ?o9 ?l9 ?p9 ?t9 ?e9
      case o9 => assumption
      case l9 => assumption
      case p9 =>
        intro p hp
        simp only [List.mem_cons, List.not_mem_nil, or_false] at hp
        rcases hp with rfl | rfl | rfl <;> (dsimp only; omega)
      case t9 => omega
      case e9 => (intro r9 hr9; simp only [LS, SX, TL, List.cons_append, List.nil_append, List.mem_cons, List.not_mem_nil, or_false] at hr9; rcases hr9 with h9 | h9 | h9 | h9 | h9 | h9 <;> (subst h9; simp))
    k_whole
    intro v9 E9 h9 tk9 F9 N9 p9 T9
    refine' ex_3_3 (p9) ?_; intro r9 t9 st8 e9 e8 u9; (try clear p9)
    subst e9
    subst e8
    (try simp only [List.nil_append, List.cons_append, LS, SX, TL, ent] at N9)
    clear N5 F5
    obtain ⟨u1, u2, u3⟩ := until_all (by assumption) u9
    clear u9
    w_strict (walk_at "MY steps")
    rw [hS] at u1 u2
    have hr9 := congrArg List.length u1
    have hr8 := norm_length ps
    have hr7 : r9.cps.toList.length = r9.length := rfl
    refine ⟨r9, t9, rfl, by rw [sizeLine_eq]; omega, F9, _, (fun i ys => IntsAre ys ((r9.cps.toList.take i).map Int.ofNat)), N9, .nil, ?turn2, ?fin2⟩
    case turn2 =>
      intro i v ys I oI C oC D2 m₂ h tk E' hi hP hJ2 hC hx F N
      obtain ⟨c, u, hc, rfl⟩ := hP
      clear F9 N9
      refine wpAny_noRaise ?_
      w_strict (walk_at "MY steps")
      (with_reducible rename Fr _ _ _ _ => F7)
      (with_reducible rename News _ _ _ _ => N7)
      exact cEnd F7 N7 (sign_step hc hJ2)
    case fin2 =>
      intro D2 h7 tk7 ys hJ2 F7 N7
      have hy := sign_end u1 hJ2
      have hz := due_end hI3 hI1 hJ
      clear F9 N9
      w_strict (walk_at "MY steps")
      unfold StopAt
      refine' eq_intsK ?l1 hy ?l2 hz ?u ?_
      case l1 => exact list_of N7 (by k_mem)
      case l2 => exact list_of N7 (by k_mem)
      case u => walk_at "MY units"
      rw [decide_eq_true rfl]
      w_strict (walk_at "MY steps")
      unfold StopAt
      refine' last_item ?k1 hI2 hlast ?_ ?k4
      case k1 => exact list_of (by assumption) (by k_mem)
      case k4 => with_unfolding_all rfl
      intro t9
      w_strict (walk_at "MY steps")
      unfold StopAt
      (with_reducible rename Fr _ _ _ _ => F8)
      (with_reducible rename News _ _ _ _ => N8)
      refine' bads_mul F8 N8 ?hm ?hx ?hk ?_
      case hm => k_mem
      case hx => rfl
      case hk => have := bad_le ps; omega
      k_whole
      intro D3 h8 ws8 F10 N10 hw8 hl8
      clear F8 N8
      w_strict (walk_at "MY steps")
      unfold StopAt
      refine' eq_bads N10 ?m1 ?m2 u3 u2 hw8 ?u ?_
      case m1 => k_mem
      case m2 => k_mem
      case u => walk_at "MY units"
      w_strict (walk_at "MY steps")
      exact hret _ _ _ _ F10 N10
end
section
local macro_rules | `(tactic| walk_at "compareOp Eq ref ref") => `(tactic| refine stopAt_ ?_)
local macro_rules | `(tactic| walk_at "compareOp NotEq ref ref") => `(tactic| refine stopAt_ ?_)
local macro_rules | `(tactic| walk_at "binaryOp Mult ref int") => `(tactic| refine stopAt_ ?_)
local macro_rules | `(tactic| walk_at "subscriptTail Name Name ref int") => `(tactic| refine stopAt_ ?_)
local macro_rules | `(tactic| walk_at "subscriptTail Name UnaryOp ref int") => `(tactic| refine stopAt_ ?_)
local macro_rules | `(tactic| walk_at "call ref") => `(tactic| (k_here; (with_reducible show wpAny _ _ (call (Value.ref 113) _) _ _ _); refine stopAt_ ?_))
local macro_rules | `(tactic| walk_at "call ref") => `(tactic| (k_here; (with_reducible show wpAny _ _ (call (Value.ref 120) _) _ _ _); refine stopAt_ ?_))
/-- behind the loop of the pieces -/
def Seg4 (w : World) (body : List Stmt) (qual : Str) (scope : Scope) (cdv : Value) : Prop :=
  ∀ (kt : Nat → Nat) (x d q nl td tx er : Nat) (_ : d < x ∧ x < q ∧ q < td ∧ td < tx ∧ tx < er) (S : Str) (tS t6 tA : Nat) (pa ta : Nat) (_ : pa < d) (_ : ta < d) (vs us : List Value) (n1 n2 : Nat) (ps : List Nat) (ts : List Int) (st : StS)
    (m : Str → Option Value) (_ : m (Str.ofString "text") = some (.str S tS)) (_ : m (Str.ofString "points") = some (.ref pa)) (_ : m (Str.ofString "told") = some (.ref ta)) (_ : m (Str.ofString "stream") = some (.ref x)) (_ : m (Str.ofString "asked") = some (.int (S.length : Int) tA))
    (_ : IntsAre vs (ps.map Int.ofNat)) (_ : IntsAre us ts) (_ : S.cps.toList = ps) (_ : ps.length ≤ 65) (_ : noSur ps) (_ : ts.length = ps.length + 1) (_ : ∀ j, j ≤ ps.length → ts.getD j 0 = (badCount (ps.take j) : Int))
    (_ : StOk S st) (_ : BufIs st.bufV st.b) (_ : rawOf S st = []) (_ : st.errs.size = 0)
    (fa : Addr) (cd : Value) (dp un : Nat) (gd : Option (List Code)) (outer : List Env) (A₀ : Around) (base h₀ : Heap) (L : Addr) (s : Shared) (Q : Flow → Shared → Prop) (Er : Value → Shared → Prop)
    (loose : List Str) (mean : ExcName → Option Value) (mg mb : Str → Option Value)
    (_ : Below A₀ base outer h₀) (_ : Fr h₀ L s.heap m) (_ : (hd.heap_39 w.params).In h₀) (_ : News h₀ L s.heap (LS w kt x d q nl td tx er S t6 st ++ [(pa, listOf vs.toArray n1), (ta, listOf us.toArray n2)])) (_ : Top hd.view_39 loose mean mg mb h₀)
    (_ : dp + 4 * 6 < recursionLimit) (_ : un + 40 * 6 < cLine)
    (_ : ∀ (h' : Heap) (tk' : Nat) (m' : Str → Option Value) (N' : Ledger), Fr h₀ L h' m' → News h₀ L h' N' → Q (.ret (.bool true)) { s with heap := h', toks := tk' }),
    wpAny (model PySem.Challenge.rw_te0024_01.row.prog w) (ktrTop dp un gd qual scope L fa cd [] outer) (execs (body.drop 8) (envOf qual scope L fa cd)) Q Er s
set_option maxRecDepth 100000 in
set_option maxHeartbeats 4000000 in
theorem seg4 (w : World) {oc od osl} {name qual : Str} {params : Arguments} {body : List Stmt} {scope : Scope} {dV kV doc pm cdv ct : Value} {an : Option Addr} :
    (hd.heap_39 w.params).lookup 175 = some ⟨oc, od, .func (fnOf name qual params body scope dV kV doc pm an cdv ct), osl⟩ → Seg4 w body qual scope cdv := by
  unfold Seg4
  k_fill
  show _ → Seg4 w body qual scope cdv
  intro ho
  have hstop : StopList (body.drop 12) := trivial
  obtain ⟨rfl, rfl, rfl, rfl⟩ := fn_parts ho (show (hd.heap_39 w.params).lookup 175 = some _ by k_is)
  unfold Seg4
  intro kt x d q nl td tx er hord S tS t6 tA pa ta hpa hta vs us n1 n2 ps ts st m hm1 hm2 hm3 hm4 hm5 hI1 hI2 hS hl hsur htl hte ok hb hraw herr fa cd dp un gd outer A₀ base h₀ L s Q Er loose mean mg mb B F KX N TT hroom hun hret
  refine' ex_0_15 (ord6 hord) ?_; intro g1 g2 g3 g4 g5 g6 g7 g8 g9 g10 g11 g12 g13 g14 g15
  have S5 := seg5 w (show (hd.heap_39 w.params).lookup 175 = some _ by k_is)
  clear ho
  have hSl : S.length ≤ 65 := by rw [← hS] at hl; exact hl
  have hSs : noSur S.cps.toList := by rw [hS]; exact hsur
  have hps : ps.length = S.length := by rw [← hS]; rfl
  have F1 := fr_know5' hm1 hm2 hm3 hm4 hm5 F
  clear F
  simp only [LS, SX, TL, ent, List.cons_append, List.nil_append] at N
  w_on
  w_top on
  w_strict (walk_at "MY steps")
  (try any_goals exact absurd rfl (by assumption))
  unfold StopAt
  (with_reducible rename Fr _ _ _ _ => F5)
  (with_reducible rename News _ _ _ _ => N5)
  k_dflt (refine' Does.useP [] (rc_LS _ _ _ _ _ _ _ _ _ ?h1 _ ?h2 ?h3 _ ?h4 ?h5 _ 1 _ ?h6 ?h7) ?k1 ?k2 ?k3 ?k4 ?k5 ?kd ?kK ?kr ?ku ?_)
  case k4 => exact N5
  case k1 => assumption
  case k2 => exact F5
  case k3 => assumption
  case k5 => assumption
  case kK => rfl
  case kr => walk_at "MY room"
  case ku => walk_at "MY units"
  case h1 => assumption
  case h2 => omega
  case h3 => assumption
  case h4 => assumption
  case h5 => assumption
  case h6 => omega
  case h7 => omega
  case kd => walk_at "MY dis"
  k_whole
  intro v9 E9 h9 tk9 F9 N9 p9 T9
  refine' ex_1_4 (p9) ?_; intro st8 e8 rn8 hb8 hv8; (try clear p9)
  subst e8
  simp only [List.nil_append, List.cons_append, LS, SX, TL, ent] at N9
  clear N5 F5
  rcases hv8 with ⟨e8, hD8⟩ | ⟨e8, hD8⟩
  · exact absurd (rc_nothing ok hraw hb) hD8
  subst e8
  have herr8 : st8.errs.size = 0 := by
    have h1 := rn8.E
    rw [hD8] at h1
    have h2 : badCount (cut13 []).1 = 0 := rfl
    omega
  w_strict (walk_at "MY steps")
  unfold StopAt
  refine' ne_empty (by assumption) ?m1 ?m2 herr8 ?u ?_
  case m1 => k_mem
  case m2 => k_mem
  case u => walk_at "MY units"
  w_strict (walk_at "MY steps")
  unfold StopAt
  have hlast := told_last htl hte
  have hh := half_is S.length
  obtain ⟨D, hDe⟩ : ∃ D, D = Txt.slice S (some ((S.length : Int).fdiv 2)) none := ⟨_, rfl⟩
  have hDl : D.cps.toList = ps.drop (S.length / 2) := by
    rw [hDe, hh, slice_tail S (by omega), hS]
  have hD2 : D.length ≤ 65 := by
    have h1 := congrArg List.length hDl
    rw [List.length_drop] at h1
    have h2 : D.cps.toList.length = D.length := rfl
    omega
  rw [← hDe]
  (with_reducible rename Fr _ _ _ _ => F5)
  (with_reducible rename News _ _ _ _ => N5)
  k_dflt (refine' Does.useP [_] (does_charErr _ _ _ _ _ _ _ _ ?h1 _ _ ?h2 _ _ _ _ _ _ _ _ ?h3) ?k1 ?k2 ?k3 ?k4 ?k5 ?kd ?kK ?kr ?ku ?_)
  case k4 => exact N5
  case k1 => assumption
  case k2 => exact F5
  case k3 => assumption
  case k5 => assumption
  case kK => rfl
  case kr => walk_at "MY room"
  case ku => walk_at "MY units"
  case h1 => omega
  case h2 => omega
  case h3 => omega
  case kd => walk_at "MY dis"
  k_whole
  intro v9 E9 h9 tk9 F9 N9 p9 T9
  refine' ex_2_4 (p9) ?_; intro er9 n9 e9 e8 c9 b9; (try clear p9)
  subst e9
  subst e8
  simp only [List.nil_append, List.cons_append, LS, SX, TL, ent] at N9
  clear N5 F5
  w_strict (walk_at "MY steps")
  unfold StopAt
  refine' last_item ?k1 hI2 hlast ?_ ?k4
  case k1 => exact list_of (by assumption) (by k_mem)
  case k4 => with_unfolding_all rfl
  intro t9
  w_strict (walk_at "MY steps")
  unfold StopAt
  refine' item_at ?k1 hI2 (S.length / 2) hh ?k2 ?k3 ?_ ?k4
  case k1 => exact list_of (by assumption) (by k_mem)
  case k2 => omega
  case k3 => omega
  case k4 => with_unfolding_all rfl
  intro t9
  w_strict (walk_at "MY steps")
  unfold StopAt
  (with_reducible rename Fr _ _ _ _ => F8)
  (with_reducible rename News _ _ _ _ => N8)
  have hbh := bad_half ps (S.length / 2)
  have hbl := bad_le (ps.drop (S.length / 2))
  have hte2 := hte (S.length / 2) (by omega)
  rw [List.length_drop] at hbl
  refine' bads_mul F8 N8 (k := badCount (ps.drop (S.length / 2))) ?hm ?hx ?hk ?_
  case hm => k_mem
  case hx => rw [hte2]; omega
  case hk => omega
  k_whole
  intro D3 h8 ws8 F10 N10 hw8 hl8
  clear F8 N8
  w_strict (walk_at "MY steps")
  unfold StopAt
  refine' ne_bads N10 ?m1 ?m2 ?u3 ?u2 hw8 ?u ?_
  case m1 => k_mem
  case m2 => k_mem
  case u3 => exact b9 (by rw [Array.eq_empty_of_size_eq_zero herr8]; intro v hv; cases hv)
  case u2 => rw [c9, herr8, hDl]; omega
  case u => walk_at "MY units"
  w_strict (walk_at "MY steps")
  unfold StopAt
  (with_reducible rename Fr _ _ _ _ => F11)
  (with_reducible rename News _ _ _ _ => N11)
  refine' S5 S tS pa ta vs us n1 n2 ps ts _ ?m1 ?m2 ?m3 hI1 hI2 hS hl hsur hlast _ _ _ _ _ _ _ _ _ _ _ _ _ _ _ _ _ B F11 KX [] ?N TT hroom hun ?ret
  case m1 => rfl
  case m2 => rfl
  case m3 => rfl
  case N =>
    intro p hp
    simp only [List.mem_cons, List.not_mem_nil, or_false] at hp
    refine N11 p ?_
    rcases hp with rfl | rfl <;> simp
  case ret => exact hret
end
section
local macro_rules | `(tactic| walk_at "compareOp NotEq ref ref") => `(tactic| refine stopAt_ ?_)
local macro_rules | `(tactic| walk_at "call builtin:list.pop") => `(tactic| refine stopAt_ ?_)
local macro_rules | `(tactic| walk_at "truthy ref") => `(tactic| refine stopAt_ ?_)
local macro_rules | `(tactic| walk_at "binaryOp Mult ref int") => `(tactic| refine stopAt_ ?_)
local macro_rules | `(tactic| walk_at "subscriptTail Name Name ref int") => `(tactic| refine stopAt_ ?_)
local macro_rules | `(tactic| walk_at "subscriptTail Name BinOp ref int") => `(tactic| refine stopAt_ ?_)
local macro_rules | `(tactic| walk_at "exec While") => `(tactic| refine stopAt_ ?_)
local macro_rules | `(tactic| walk_at "call type:range") => `(tactic| refine stopAt_ ?_)
local macro_rules | `(tactic| walk_at "call ref") => `(tactic| (k_here; (with_reducible show wpAny _ _ (call (Value.ref 113) _) _ _ _); refine stopAt_ ?_))
local macro_rules | `(tactic| walk_at "call ref") => `(tactic| (k_here; (with_reducible show wpAny _ _ (call (Value.ref 138) _) _ _ _); refine stopAt_ ?_))
/-- the stream and the loop of the pieces -/
def Seg3 (w : World) (body : List Stmt) (qual : Str) (scope : Scope) (cdv : Value) : Prop :=
  ∀ (S : Str) (tS : Nat) (pa ta za : Nat) (vs us zvs : List Value) (n1 n2 n3 : Nat) (ps : List Nat) (ts zs : List Int)
    (m : Str → Option Value) (_ : m (Str.ofString "text") = some (.str S tS)) (_ : m (Str.ofString "points") = some (.ref pa)) (_ : m (Str.ofString "told") = some (.ref ta)) (_ : m (Str.ofString "sizes") = some (.ref za))
    (_ : IntsAre vs (ps.map Int.ofNat)) (_ : IntsAre us ts) (_ : IntsAre zvs zs) (_ : S.cps.toList = ps) (_ : ps.length ≤ 65) (_ : noSur ps) (_ : ts.length = ps.length + 1) (_ : ∀ j, j ≤ ps.length → ts.getD j 0 = (badCount (ps.take j) : Int))
    (_ : 1 ≤ zs.length) (_ : zs.length ≤ 5) (_ : ∀ z ∈ zs, 1 ≤ z ∧ z ≤ 8)
    (fa : Addr) (cd : Value) (dp un : Nat) (gd : Option (List Code)) (outer : List Env) (A₀ : Around) (base h₀ : Heap) (L : Addr) (s : Shared) (Q : Flow → Shared → Prop) (Er : Value → Shared → Prop)
    (loose : List Str) (mean : ExcName → Option Value) (mg mb : Str → Option Value)
    (_ : Below A₀ base outer h₀) (_ : Fr h₀ L s.heap m) (_ : (hd.heap_39 w.params).In h₀) (_ : News h₀ L s.heap [(pa, listOf vs.toArray n1), (ta, listOf us.toArray n2), (za, listOf zvs.toArray n3)]) (_ : Top hd.view_39 loose mean mg mb h₀)
    (_ : dp + 4 * 6 < recursionLimit) (_ : un + 40 * 6 < cLine)
    (_ : ∀ (h' : Heap) (tk' : Nat) (m' : Str → Option Value) (N' : Ledger), Fr h₀ L h' m' → News h₀ L h' N' → Q (.ret (.bool true)) { s with heap := h', toks := tk' }),
    wpAny (model PySem.Challenge.rw_te0024_01.row.prog w) (ktrTop dp un gd qual scope L fa cd [] outer) (execs (body.drop 5) (envOf qual scope L fa cd)) Q Er s
theorem ls_dis3 {w : World} {kt : Nat → Nat} {x d q nl td tx er t6 t6' : Nat} {S : Str} {st st0 : StS} {own : Ledger} {a b c : Addr × Obj} (ho : d < x ∧ x < q ∧ q < td ∧ td < tx ∧ tx < er) (ha : @LT.lt Nat _ a.1 d) (hb : @LT.lt Nat _ b.1 d) (hc : @LT.lt Nat _ c.1 d)
    (hoff : OwnOff own ((LS w kt x d q nl td tx er S t6' st0 ++ [a, b, c]).map (·.1))) : ∀ p ∈ [a, b, c] ++ own, ∀ r ∈ LS w kt x d q nl td tx er S t6 st, r.1 ≠ p.1 := by
  have hE : ∀ r ∈ LS w kt x d q nl td tx er S t6 st, r.1 = er ∨ r.1 = q ∨ r.1 = x ∨ r.1 = d ∨ r.1 = tx ∨ r.1 = td := by
    intro r hr
    simp only [LS, SX, TL, List.cons_append, List.nil_append, List.mem_cons, List.not_mem_nil, or_false] at hr
    rcases hr with h | h | h | h | h | h <;> (subst h; simp)
  refine ls_dis_own ho ?_ hoff ?_ hE
  · simp only [List.forall_mem_cons]
    exact ⟨ha, hb, hc, fun _ h => nomatch h⟩
  · intro r hr
    simp only [LS, SX, TL, List.cons_append, List.nil_append, List.map_cons, List.map_nil, List.mem_cons, List.not_mem_nil, or_false]
    rcases hE r hr with h | h | h | h | h | h <;> simp [h]
/-- before turn i -/
def PieceAt (S : Str) (i : Nat) (st : StS) : Prop := StOk S st ∧ BufIs st.bufV st.b ∧ st.errs.size = 0 ∧ (st.p < S.length → i ≤ st.p) ∧ (st.p = S.length → i ≤ S.length + (if st.b = [] then 1 else 0))
theorem piece_bad {S : Str} {n : Nat} {ps : List Nat} {st : StS} (hS : S.cps.toList = ps) (hp : st.p ≤ S.length) (hb : BufIs st.bufV st.b) : badCount (ps.take (min (st.p + n) S.length)) = badCount (ps.take st.p) + badCount (rcIn st.b S st.p n) := by
  unfold rcIn
  rw [badCount_append, bad_buf hb, Nat.zero_add, hS]
  have hl : ps.length = S.length := by rw [← hS]; rfl
  have e : ps.take (min (st.p + n) S.length) = ps.take (st.p + n) := by
    rcases Nat.le_total (st.p + n) S.length with h | h
    · rw [Nat.min_eq_left h]
    · rw [Nat.min_eq_right h, List.take_of_length_le (by omega), List.take_of_length_le (by omega)]
  rw [e, List.take_add, badCount_append]
theorem piece_next {S : Str} {n i ne : Nat} {st st' : StS} (hn : 1 ≤ n) (h : PieceAt S i st) (hD : rcIn st.b S st.p n ≠ []) (rn : RcNext S n st st') (hb' : BufIs st'.bufV st'.b) (ok' : StOk S st') : PieceAt S (i + 1) { st' with errs := #[], ne := ne } := by
  obtain ⟨ok, hb, he, hp1, hp2⟩ := h
  have h1 := ok.p
  have h2 := rn.p
  have hl : S.cps.toList.length = S.length := rfl
  refine ⟨⟨ok'.o, ok'.p, ok'.C, ?_⟩, hb', rfl, fun h3 => ?_, fun h3 => ?_⟩
  · have h3 := ok'.E
    show 0 + badCount (rawOf S st') ≤ 10000
    omega
  · have h3 : st'.p < S.length := h3
    have := hp1 (by omega)
    show i + 1 ≤ st'.p
    omega
  · have h3 : st'.p = S.length := h3
    show i + 1 ≤ S.length + (if st'.b = [] then 1 else 0)
    rcases Nat.lt_or_eq_of_le h1 with h4 | h4
    · have := hp1 h4
      omega
    · have h5 : S.cps.toList.drop st.p = [] := List.drop_of_length_le (by omega)
      have h6 : rcIn st.b S st.p n = st.b := by unfold rcIn; rw [h5]; simp
      rw [h6] at hD
      have h7 := rn.b
      rw [h6] at h7
      have h8 : st'.b = [] := by
        rw [h7]
        have := buf_len hb
        unfold cut13
        rw [if_neg (by omega)]
      rw [if_pos h8]
      have h9 := hp2 h4
      rw [if_neg hD] at h9
      omega
theorem piece_end {S : Str} {n i : Nat} {ps : List Nat} {st st' : StS} (hn : 1 ≤ n) (hp2 : st.p = S.length → i ≤ S.length + (if st.b = [] then 1 else 0)) (_hps : ps.length = S.length) (ok : StOk S st) (_hb : BufIs st.bufV st.b) (hD : rcIn st.b S st.p n = []) (rn : RcNext S n st st') :
    st.p = S.length ∧ rawOf S st' = [] ∧ st'.errs.size = st.errs.size := by
  have hr := raw_empty hn hD
  have hr' := hr
  unfold rawOf at hr
  obtain ⟨h1, h2⟩ := List.append_eq_nil_iff.mp hr
  have hl : S.cps.toList.length = S.length := rfl
  have h3 := List.drop_eq_nil_iff.mp h2
  have h4 := ok.p
  refine ⟨by omega, ?_, ?_⟩
  · have h5 := raw_split rn ok.p
    rw [hr', hD] at h5
    exact (List.append_eq_nil_iff.mp h5.symm).2
  · have h5 := rn.E
    rw [hD] at h5
    have : badCount (cut13 []).1 = 0 := rfl
    omega
set_option maxRecDepth 100000 in
set_option maxHeartbeats 4000000 in
theorem seg3 (w : World) {oc od osl} {name qual : Str} {params : Arguments} {body : List Stmt} {scope : Scope} {dV kV doc pm cdv ct : Value} {an : Option Addr} :
    (hd.heap_39 w.params).lookup 175 = some ⟨oc, od, .func (fnOf name qual params body scope dV kV doc pm an cdv ct), osl⟩ → Seg3 w body qual scope cdv := by
  unfold Seg3
  k_fill
  show _ → Seg3 w body qual scope cdv
  intro ho
  have hstop : StopList (body.drop 8) := trivial
  obtain ⟨rfl, rfl, rfl, rfl⟩ := fn_parts ho (show (hd.heap_39 w.params).lookup 175 = some _ by k_is)
  unfold Seg3
  intro S tS pa ta za vs us zvs n1 n2 n3 ps ts zs m hm1 hm2 hm3 hm4 hI1 hI2 hI3 hS hl hsur htl hte hz1 hz5 hz fa cd dp un gd outer A₀ base h₀ L s Q Er loose mean mg mb B F KX N TT hroom hun hret
  have S4 := seg4 w (show (hd.heap_39 w.params).lookup 175 = some _ by k_is)
  clear ho
  have hSl : S.length ≤ 65 := by rw [← hS] at hl; exact hl
  have hSs : noSur S.cps.toList := by rw [hS]; exact hsur
  have hps : ps.length = S.length := by rw [← hS]; rfl
  have F1 := fr_know4 hm1 hm2 hm3 hm4 F
  clear F
  refine wpAny_noRaise ?_
  w_on
  w_top on
  w_strict (walk_at "MY steps")
  unfold StopAt
  (with_reducible rename Fr _ _ _ _ => F5)
  (with_reducible rename News _ _ _ _ => N5)
  refine' use_ctor _ _ _ ?k1 ?k2 ?k3 ?k4 ?k5 ?k6 ?kr ?ku ?_
  case k1 => assumption
  case k2 => exact F5
  case k3 => assumption
  case k4 => exact N5
  case k5 => assumption
  case k6 => rfl
  case kr => walk_at "MY room"
  case ku => walk_at "MY units"
  k_whole
  intro v9 E9 h9 tk9 F9 N9 p9
  refine' ex_9_5 (ctor_ls p9) ?_; intro kt x d q nl td tx er st0 hord hlt e9 e8 z0
  refine' ex_0_15 (ord6 hord) ?_; intro g1 g2 g3 g4 g5 g6 g7 g8 g9 g10 g11 g12 g13 g14 g15
  clear p9 N5 F5
  subst e9
  subst e8
  simp only [LS, SX, TL, ent, List.nil_append, List.cons_append] at N9
  simp only [List.forall_mem_cons] at hlt
  w_strict (walk_at "MY steps")
  unfold StopAt
  (with_reducible rename Fr _ _ _ _ => F5)
  (with_reducible rename News _ _ _ _ => N5)
  have hp0 : PieceAt S 0 st0 := ⟨st0_ok z0 (by omega), st0_buf z0, by rw [z0.errs]; rfl, fun _ => Nat.zero_le _, fun _ => Nat.zero_le _⟩
  refine' range1_turns (S.length + 2) (fun i m' nx => ∃ st tA, nx = LS w kt x d q nl td tx er S tS st ++ [(pa, listOf vs.toArray n1), (ta, listOf us.toArray n2), (za, listOf zvs.toArray n3)] ∧
    m' (Str.ofString "text") = some (.str S tS) ∧ m' (Str.ofString "points") = some (.ref pa) ∧ m' (Str.ofString "told") = some (.ref ta) ∧ m' (Str.ofString "sizes") = some (.ref za) ∧ m' (Str.ofString "stream") = some (.ref x) ∧ m' (Str.ofString "asked") = some (.int ((st.p : Nat) : Int) tA) ∧ PieceAt S i st)
    ?hh ?hn ?hb ?F ?N ?hj ?turn ?done
  case hh => rfl
  case hn => omega
  case hb => omega
  case F => exact F5
  case N => exact N5
  case hj => exact ⟨st0, _, rfl, rfl, rfl, rfl, rfl, rfl, by rw [z0.p]; rfl, hp0⟩
  case turn =>
    intro i tv m₁ news₁ h tk own hi hadr hoff hJ F2 N2 QQ hQQ
    refine' ex_2_12 (hJ) ?_; intro st tA r92 e1 e2 e3 e4 e5 e6 ok hb he hp1 hp2; (try clear hJ); subst r92
    have F3 := fr_know6' e1 e2 e3 e4 e5 e6 F2
    have F4 : Fr h₀ L h _ := F3
    have N4 : News h₀ L h _ := N2
    clear F2 F3 F5 N5 N2
    simp only [LS, SX, TL, ent, List.cons_append, List.nil_append] at N4
    w_strict (walk_at "MY steps")
    unfold StopAt
    have hj1 : i % zs.length < zs.length := Nat.mod_lt _ (by omega)
    have hj2 : ((i : Int)).fmod (zs.length : Int) = ((i % zs.length : Nat) : Int) := by
      rw [Int.fmod_eq_emod_of_nonneg _ (by omega)]; exact (Int.natCast_emod i zs.length).symm
    obtain ⟨n, hn, hn1, hn8⟩ : ∃ n : Nat, zs.getD (i % zs.length) 0 = (n : Int) ∧ 1 ≤ n ∧ n ≤ 8 := by
      have h1 : zs.getD (i % zs.length) 0 ∈ zs := by
        rw [List.getD_eq_getElem?_getD, List.getElem?_eq_getElem hj1]; exact List.getElem_mem hj1
      have h2 := hz _ h1
      exact ⟨(zs.getD (i % zs.length) 0).toNat, by omega, by omega, by omega⟩
    refine' item_at ?k1 hI3 (i % zs.length) hj2 hj1 ?k3 ?_ ?k4
    case k1 => exact list_of (by assumption) (by k_mem)
    case k3 => omega
    case k4 => with_unfolding_all rfl
    intro t9
    rw [hn]
    w_strict (walk_at "MY steps")
    unfold StopAt
    (with_reducible rename Fr _ _ _ _ => F5)
    (with_reducible rename News _ _ _ _ => N5)
    k_dflt (refine' Does.useP [] (rc_LS _ _ _ _ _ _ _ _ _ ?h1 _ ?h2 ?h3 _ ?h4 ?h5 _ n _ ?h6 ?h7) ?k1 ?k2 ?k3 ?k4 ?k5 ?kd ?kK ?kr ?ku ?_)
    case k4 => exact N5
    case k1 => assumption
    case k2 => exact F5
    case k3 => assumption
    case k5 => assumption
    case kK => rfl
    case kr => walk_at "MY room"
    case ku => walk_at "MY units"
    case h1 => assumption
    case h2 => omega
    case h3 => assumption
    case h4 => assumption
    case h5 => assumption
    case h6 => omega
    case h7 => omega
    case kd => exact ls_dis3 hord (by omega) (by omega) (by omega) hoff
    k_whole
    intro v9 E9 h9 tk9 F9 N9 p9 T9
    refine' ex_1_4 (p9) ?_; intro st8 e8 rn8 hb8 hv8; (try clear p9)
    subst e8
    simp only [List.nil_append, List.cons_append, LS, SX, TL, ent] at N9
    clear N5 F5
    rcases hv8 with ⟨e8, hD8⟩ | ⟨e8, hD8⟩
    case inr =>
      subst e8
      w_strict (walk_at "MY steps")
      subst hQQ
      w_strict (walk_at "MY steps")
      unfold StopAt
      (with_reducible rename Fr _ _ _ _ => F11)
      (with_reducible rename News _ _ _ _ => N11)
      have hfin := piece_end hn1 hp2 hps ok hb hD8 rn8
      have hasked : (st.p : Int) = (S.length : Int) := by omega
      refine' S4 kt x d q nl td tx er hord S tS tS tA pa ta ?hpa ?hta vs us n1 n2 ps ts st8 _ ?m1 ?m2 ?m3 ?m4 ?m5 hI1 hI2 hS hl hsur htl hte ?ok8 hb8 ?raw8 ?er8 _ _ _ _ _ _ _ _ _ _ _ _ _ _ _ _ _ B F11 KX ?N TT hroom hun ?ret
      case hpa => omega
      case hta => omega
      case m1 => rfl
      case m2 => rfl
      case m3 => rfl
      case m4 => rfl
      case m5 => rw [← hasked]; rfl
      case ok8 => exact ok_next rn8 ok (by omega) (buf_len hb)
      case raw8 => exact hfin.2.1
      case er8 => have := hfin.2.2; omega
      case N =>
        intro p hp
        simp only [LS, SX, TL, ent, List.cons_append, List.nil_append, List.mem_cons, List.not_mem_nil, or_false] at hp
        refine N11 p ?_
        rcases hp with rfl | rfl | rfl | rfl | rfl | rfl | rfl | rfl <;> simp
      case ret => exact hret
    case inl =>
      subst e8
      w_strict (walk_at "MY steps")
      unfold StopAt
      have hp' := ok.p
      have hce : (min ((st.p : Int) + (n : Int)) (S.length : Int)) = ((min (st.p + n) S.length : Nat) : Int) := by omega
      have hbc := piece_bad (n := n) hS ok.p hb
      have hbe := rn8.E
      rw [bad_cut] at hbe
      have hte1 := hte (min (st.p + n) S.length) (by omega)
      have hte2 := hte st.p (by omega)
      have hbl := bad_le (rcIn st.b S st.p n)
      have hrl : (rcIn st.b S st.p n).length ≤ 9 := by
        unfold rcIn
        rw [List.length_append, List.length_take]
        have := buf_len hb
        omega
      refine' item_at ?k1 hI2 (min (st.p + n) S.length) hce ?k2 ?k3 ?_ ?k4
      case k1 => exact list_of (by assumption) (by k_mem)
      case k2 => omega
      case k3 => omega
      case k4 => with_unfolding_all rfl
      intro t9
      w_strict (walk_at "MY steps")
      unfold StopAt
      refine' item_at ?k1 hI2 st.p rfl ?k2 ?k3 ?_ ?k4
      case k1 => exact list_of (by assumption) (by k_mem)
      case k2 => omega
      case k3 => omega
      case k4 => with_unfolding_all rfl
      intro t9
      w_strict (walk_at "MY steps")
      unfold StopAt
      (with_reducible rename Fr _ _ _ _ => F8)
      (with_reducible rename News _ _ _ _ => N8)
      refine' bads_mul F8 N8 (k := badCount (rcIn st.b S st.p n)) ?hm ?hx ?hk ?_
      case hm => k_mem
      case hx => rw [hte1, hte2]; omega
      case hk => omega
      k_whole
      intro D3 h8 ws8 F10 N10 hw8 hl8
      clear F8 N8
      w_strict (walk_at "MY steps")
      unfold StopAt
      refine' ne_bads N10 ?m1 ?m2 ?u3 ?u2 hw8 ?u ?_
      case m1 => k_mem
      case m2 => k_mem
      case u3 => exact rn8.B (by rw [Array.eq_empty_of_size_eq_zero he]; intro v hv; cases hv)
      case u2 => omega
      case u => walk_at "MY units"
      w_strict (walk_at "MY steps")
      unfold StopAt
      have hck := ok_next rn8 ok (by omega) (buf_len hb)
      have hbk := rn8.B (by rw [Array.eq_empty_of_size_eq_zero he]; intro v hv; cases hv)
      have hes : st8.errs.size ≤ 9 := by omega
      (with_reducible rename Fr _ _ _ _ => F12)
      (with_reducible rename News _ _ _ _ => N12)
      refine' while_gen (fun nm s' => ∃ (h' : Heap) (tk : Nat) (m' : Str → Option Value) (es : Array Value) (ne : Nat) (tc : Nat), s' = ⟨h', s.gens, s.drawn, tk, s.os⟩ ∧ Fr h₀ L h' m' ∧
        m' (Str.ofString "text") = some (.str S tS) ∧ m' (Str.ofString "points") = some (.ref pa) ∧ m' (Str.ofString "told") = some (.ref ta) ∧ m' (Str.ofString "sizes") = some (.ref za) ∧ m' (Str.ofString "stream") = some (.ref x) ∧ m' (Str.ofString "came") = some (.int ((min (st.p + n) S.length : Nat) : Int) tc) ∧
        News h₀ L h' (LS w kt x d q nl td tx er S tS { st8 with errs := es, ne := ne } ++ ((pa, listOf vs.toArray n1) :: (ta, listOf us.toArray n2) :: (za, listOf zvs.toArray n3) :: own)) ∧ es.size = nm ∧ nm ≤ 9) ?wturn st8.errs.size ?winit
      case winit =>
        refine ⟨_, _, _, st8.errs, st8.ne, _, rfl, F12, rfl, rfl, rfl, rfl, rfl, by rw [← hce]; rfl, ?_, rfl, hes⟩
        intro p hp
        simp only [LS, SX, TL, ent, List.cons_append, List.nil_append] at hp
        exact N12 p (.tail _ (.tail _ hp))
      clear F12 N12
      intro nm s' JJ hJJ hJ
      refine' ex_6_11 (hJ) ?_; intro h' tk m' es ne tc r96 F2 e1 e2 e3 e4 e5 e6 N2 hnm hle; (try clear hJ); subst r96
      have F3 := fr_know6' e1 e2 e3 e4 e5 e6 F2
      simp only [LS, SX, TL, ent, List.cons_append, List.nil_append] at N2
      clear F2
      w_strict (walk_at "MY steps")
      unfold StopAt
      refine' wpAny_truthy_list ?l ?f ?_
      case l => exact list_of N2 (by k_mem)
      case f => omega
      rcases Nat.eq_zero_or_pos es.size with hz0 | hz0
      · have hem : es = #[] := Array.eq_empty_of_size_eq_zero hz0
        subst hem
        rw [if_neg (by simp)]
        clear hJJ
        w_strict (walk_at "MY steps")
        subst hQQ
        w_strict (walk_at "MY steps")
        (with_reducible rename Fr _ _ _ _ => F9)
        (with_reducible rename News _ _ _ _ => N9)
        refine turn_end F9 ⟨fun p hp => absurd hp List.not_mem_nil, { st8 with errs := #[], ne := ne }, tc, rfl, rfl, rfl, rfl, rfl, rfl, ?asked, piece_next hn1 ⟨ok, hb, he, hp1, hp2⟩ hD8 rn8 hb8 hck⟩ N9 rfl
        rw [rn8.p]; rfl
      · obtain ⟨v, r, hvr⟩ : ∃ v r, es = (v :: r).toArray := by
          cases hl : es.toList with
          | nil => have := congrArg List.length hl; rw [Array.length_toList] at this; rw [this] at hz0; exact absurd hz0 (by decide)
          | cons v r => exact ⟨v, r, by rw [← hl]⟩
        subst hvr
        rw [if_pos (by simp)]
        rw [List.size_toArray, List.length_cons] at hnm
        w_strict (walk_at "MY steps")
        unfold StopAt
        (with_reducible rename Fr _ _ _ _ => F9)
        refine' kl_popAt (its := (v :: r).toArray) (n := ne) (k := 0) (p := []) (y := v) (q := r) F9 N2 ?hf ?hk ?e ?U ?hz ?_
        case hf => rfl
        case hk => simp [seqIndex?]
        case e => rfl
        case U => k_upd
        case hz => rw [sizeLine_eq]; simp; omega
        intro h5 F10 N10
        w_strict (walk_at "MY steps")
        subst hJJ
        exact ⟨r.length, by omega, h5, _, _, r.toArray, ne + 1, tc, rfl, F10, rfl, rfl, rfl, rfl, rfl, rfl, N10, by rw [List.size_toArray], by omega⟩
  case done =>
    intro m₁ news₁ h tk hJ F2 N2
    refine' ex_2_12 (hJ) ?_; intro st tA r92 e1 e2 e3 e4 e5 e6 ok hb he hp1 hp2; (try clear hJ); subst r92
    have h1 := ok.p
    exfalso
    rcases Nat.lt_or_eq_of_le h1 with h2 | h2
    · have := hp1 h2; omega
    · have := hp2 h2
      split at this <;> omega
end
section
local macro_rules | `(tactic| walk_at "CompSrc") => `(tactic| refine stopAt_ ?_)
local macro_rules | `(tactic| walk_at "call builtin:str.join") => `(tactic| refine stopAt_ ?_)
/-- the text, the sizes -/
def Seg2 (w : World) (body : List Stmt) (qual : Str) (scope : Scope) (cdv : Value) : Prop :=
  ∀ (pa ta na : Nat) (vs us nvs : List Value) (n1 n2 n3 : Nat) (ps : List Nat) (ts ns : List Int)
    (m : Str → Option Value) (_ : m (Str.ofString "points") = some (.ref pa)) (_ : m (Str.ofString "told") = some (.ref ta)) (_ : m (Str.ofString "numbers") = some (.ref na))
    (_ : IntsAre vs (ps.map Int.ofNat)) (_ : IntsAre us ts) (_ : IntsAre nvs ns) (_ : ps.length ≤ 65) (_ : noSur ps) (_ : ∀ p ∈ ps, p < 1114112) (_ : ts.length = ps.length + 1) (_ : ∀ j, j ≤ ps.length → ts.getD j 0 = (badCount (ps.take j) : Int))
    (_ : 1 ≤ ns.length) (_ : ns.length ≤ 5)
    (fa : Addr) (cd : Value) (dp un : Nat) (gd : Option (List Code)) (outer : List Env) (A₀ : Around) (base h₀ : Heap) (L : Addr) (s : Shared) (Q : Flow → Shared → Prop) (Er : Value → Shared → Prop)
    (loose : List Str) (mean : ExcName → Option Value) (mg mb : Str → Option Value)
    (_ : Below A₀ base outer h₀) (_ : Fr h₀ L s.heap m) (_ : (hd.heap_39 w.params).In h₀) (_ : News h₀ L s.heap [(pa, listOf vs.toArray n1), (ta, listOf us.toArray n2), (na, listOf nvs.toArray n3)]) (_ : Top hd.view_39 loose mean mg mb h₀)
    (_ : dp + 4 * 6 < recursionLimit) (_ : un + 40 * 6 < cLine)
    (_ : ∀ (h' : Heap) (tk' : Nat) (m' : Str → Option Value) (N' : Ledger), Fr h₀ L h' m' → News h₀ L h' N' → Q (.ret (.bool true)) { s with heap := h', toks := tk' }),
    wpAny (model PySem.Challenge.rw_te0024_01.row.prog w) (ktrTop dp un gd qual scope L fa cd [] outer) (execs (body.drop 3) (envOf qual scope L fa cd)) Q Er s
theorem size_step {i : Nat} {k : Int} {t : Nat} {ys : List Value} (hJ : ∃ zs : List Int, IntsAre ys zs ∧ zs.length = i ∧ ∀ z ∈ zs, 1 ≤ z ∧ z ≤ 8) : ∃ zs : List Int, IntsAre (ys ++ [.int (1 + (k.fdiv 3).fmod 8) t]) zs ∧ zs.length = i + 1 ∧ ∀ z ∈ zs, 1 ≤ z ∧ z ≤ 8 := by
  obtain ⟨zs, h1, h2, h3⟩ := hJ
  refine ⟨_, ints_snoc h1, by rw [List.length_append, h2]; rfl, fun z hz => ?_⟩
  rcases List.mem_append.mp hz with hz | hz
  · exact h3 z hz
  · rw [List.mem_singleton.mp hz, Int.fmod_eq_emod_of_nonneg _ (by decide)]
    omega
theorem chr_step {ps : List Nat} {i c tk : Nat} {ys : List Value} (hc : ps[i]? = some c) (hJ : Pieces ys.toArray (ps.take i)) : Pieces (ys ++ [Value.str { cps := #[((c : Int)).toNat] } tk]).toArray (ps.take (i + 1)) := by
  rw [List.take_add_one, hc]
  have e : (ys ++ [Value.str { cps := #[((c : Int)).toNat] } tk]).toArray = ys.toArray.push (.str { cps := #[((c : Int)).toNat] } tk) := by simp
  rw [e]
  exact Pieces.push hJ rfl
set_option maxRecDepth 100000 in
set_option maxHeartbeats 4000000 in
theorem seg2 (w : World) {oc od osl} {name qual : Str} {params : Arguments} {body : List Stmt} {scope : Scope} {dV kV doc pm cdv ct : Value} {an : Option Addr} :
    (hd.heap_39 w.params).lookup 175 = some ⟨oc, od, .func (fnOf name qual params body scope dV kV doc pm an cdv ct), osl⟩ → Seg2 w body qual scope cdv := by
  unfold Seg2
  k_fill
  show _ → Seg2 w body qual scope cdv
  intro ho
  have hstop : StopList (body.drop 5) := trivial
  obtain ⟨rfl, rfl, rfl, rfl⟩ := fn_parts ho (show (hd.heap_39 w.params).lookup 175 = some _ by k_is)
  unfold Seg2
  intro pa ta na vs us nvs n1 n2 n3 ps ts ns m hm1 hm2 hm3 hI1 hI2 hI3 hl hsur hlt htl hte hz1 hz5 fa cd dp un gd outer A₀ base h₀ L s Q Er loose mean mg mb B F KX N TT hroom hun hret
  have S3 := seg3 w (show (hd.heap_39 w.params).lookup 175 = some _ by k_is)
  clear ho
  have F1 := fr_know3 hm1 hm2 hm3 F
  clear F
  refine wpAny_noRaise ?_
  w_on
  w_top on
  w_strict (walk_at "MY steps")
  unfold StopAt
  (with_reducible rename Fr _ _ _ _ => F5)
  refine' LCg.ListComp_U (F₀ := F5) ?hclos ?hcell ?hkind ?hnames ?hx ?_
  case hclos => rfl
  case hcell => decide
  case hkind => rfl
  case hnames => decide
  case hx => rfl
  w_strict (walk_at "MY steps")
  unfold StopAt
  (with_reducible rename Fr _ _ _ _ => F6)
  (with_reducible rename News _ _ _ _ => N6)
  refine' LCg.CompSrc.ledger ?hh F6 N6 ?hm ?hsz (fun g => rest_ind (fun i ys => Pieces ys.toArray (ps.take i) ∧ ys.length = i) ?hS ⟨.nil, rfl⟩ ?turn ?fin)
  case hh => rfl
  case hm => k_mem
  case hsz => rw [sizeLine_eq, List.size_toArray, ints_len hI1, List.length_map]; omega
  case hS => exact .inr ⟨_, by k_mem, rfl, _, rfl⟩
  case turn =>
    intro i v ys I oI C oC D m₂ h tk E' hi hP hJ hC hx F N
    obtain ⟨k, t, hk, rfl⟩ := ints_get hI1 (by simpa using hP)
    rw [List.getElem?_map] at hk
    obtain ⟨c, hc, rfl⟩ := Option.map_eq_some_iff.mp hk
    have hcm := List.mem_of_getElem? hc
    have hc1 := hlt c hcm
    have hc2 := hsur c hcm
    have hc3 : (Int.ofNat c) = (c : Int) := rfl
    rw [hc3] at hx
    clear F6 N6
    refine wpAny_noRaise ?_
    w_strict (walk_at "MY steps")
    exact cEnd F N ⟨chr_step hc hJ.1, by rw [List.length_append, hJ.2]; rfl⟩
  case fin =>
    intro ys hJ
    clear F6 N6
    have hvl : vs.toArray.size = ps.length := by rw [List.size_toArray, ints_len hI1, List.length_map]
    rw [hvl, List.take_length] at hJ
    obtain ⟨hJ, hyl⟩ := hJ
    unfold LCg.FinE
    intro D h tk F N o1
    w_strict (walk_at "MY steps")
    unfold StopAt
    refine' join_pieces N ?hm hJ ?hw ?_
    case hm => k_mem
    case hw => rw [List.size_toArray]; omega
    k_whole
    intro S tS k hS
    w_strict (walk_at "MY steps")
    unfold StopAt
    (with_reducible rename Fr _ _ _ _ => F7)
    (with_reducible rename News _ _ _ _ => N7)
    refine' LCg.Assign_ListComp_U (F₀ := F7) ?hLe ?hsw ?hclos ?hcell ?hkind ?hnames ?hx ?hy ?hp ?_
    case hLe => rfl
    case hsw => with_unfolding_all rfl
    case hclos => rfl
    case hcell => decide
    case hkind => rfl
    case hnames => decide
    case hx => rfl
    case hy => rfl
    case hp => rfl
    w_strict (walk_at "MY steps")
    unfold StopAt
    (with_reducible rename Fr _ _ _ _ => F8)
    (with_reducible rename News _ _ _ _ => N8)
    refine' LCg.CompSrc.ledger ?hh F8 N8 ?hm ?hsz (fun g => rest_ind (fun i ys => ∃ zs : List Int, IntsAre ys zs ∧ zs.length = i ∧ ∀ z ∈ zs, 1 ≤ z ∧ z ≤ 8) ?hS ⟨[], .nil, rfl, fun z hz => absurd hz List.not_mem_nil⟩ ?turn ?fin)
    case hh => rfl
    case hm => k_mem
    case hsz => rw [sizeLine_eq, List.size_toArray, ints_len hI3]; omega
    case hS => exact .inr ⟨_, by k_mem, rfl, _, rfl⟩
    case turn =>
      intro i v ys I oI C oC D m₂ h tk E' hi hP hJ hC hx F N
      obtain ⟨k, t, hk, rfl⟩ := ints_get hI3 (by simpa using hP)
      clear F8 N8
      refine wpAny_noRaise ?_
      w_strict (walk_at "MY steps")
      (with_reducible rename Fr _ _ _ _ => F9)
      (with_reducible rename News _ _ _ _ => N9)
      exact cEnd F9 N9 (size_step hJ)
    case fin =>
      intro zvs hJ
      obtain ⟨zs, hz1', hz2', hz3'⟩ := hJ
      clear F8 N8
      unfold LCg.FinA
      intro D2 h2 tk2 F9 N9 o2
      w_strict (walk_at "MY steps")
      unfold StopAt
      have hN : nvs.toArray.size = ns.length := by rw [List.size_toArray, ints_len hI3]
      refine' S3 S tS pa ta D2 vs us zvs n1 n2 _ ps ts zs _ ?m1 ?m2 ?m3 ?m4 hI1 hI2 hz1' hS hl hsur htl hte ?hl1 ?hl5 hz3' _ _ _ _ _ _ _ _ _ _ _ _ _ _ _ _ _ B F9 KX ?N TT hroom hun ?ret
      case m1 => rfl
      case m2 => rfl
      case m3 => rfl
      case m4 => rfl
      case hl1 => omega
      case hl5 => omega
      case N =>
        intro p hp
        simp only [List.mem_cons, List.not_mem_nil, or_false] at hp
        refine N9 p ?_
        rcases hp with rfl | rfl | rfl
        · simp
        · simp
        · exact .head _
      case ret => exact hret
end
theorem below_form (c : Int) (h0 : 0 ≤ c) : belowI c = 2 * (c / 65536) + max 0 (c % 65536 - 65534) + ((min (max c 1) 9 - 1) + (min (max c 11) 12 - 11) + (min (max c 14) 32 - 14) + (min (max c 127) 160 - 127) + (min (max c 64976) 65008 - 64976)) := by
  unfold belowI partSum
  rw [Int.fdiv_eq_ediv_of_nonneg _ (by decide), Int.fmod_eq_emod_of_nonneg _ (by decide)]
  simp only [List.take, List.map_cons, List.map_nil, List.sum_cons, List.sum_nil]
  omega
def badN (c : Int) : Int := if bad c = true then 1 else 0
theorem bad_iff (c : Int) (hs : ¬ (55296 ≤ c ∧ c ≤ 57343)) : bad c = true ↔ ((1 ≤ c ∧ c ≤ 8) ∨ c = 11 ∨ (14 ≤ c ∧ c ≤ 31) ∨ (127 ≤ c ∧ c ≤ 159) ∨ (64976 ≤ c ∧ c ≤ 65007) ∨ c % 65536 = 65534 ∨ c % 65536 = 65535) := by
  unfold bad
  rw [Int.fmod_eq_emod_of_nonneg _ (by decide)]
  simp only [Bool.or_eq_true, decide_eq_true_eq, beq_iff_eq, hs, or_false, or_assoc]
theorem span_step (c lo hi : Int) (h : lo ≤ hi) : min (max (c + 1) lo) hi - lo = (min (max c lo) hi - lo) + (if lo ≤ c ∧ c < hi then 1 else 0) := by
  split <;> omega
theorem plane_step (c : Int) (h0 : 0 ≤ c) : 2 * ((c + 1) / 65536) + max 0 ((c + 1) % 65536 - 65534) = 2 * (c / 65536) + max 0 (c % 65536 - 65534) + (if c % 65536 = 65534 ∨ c % 65536 = 65535 then 1 else 0) := by
  split <;> omega
theorem or_count {p q : Prop} [Decidable p] [Decidable q] (h : p → ¬ q) : (if p ∨ q then (1 : Int) else 0) = (if p then 1 else 0) + (if q then 1 else 0) := by
  by_cases hp : p
  · rw [if_pos hp, if_pos (.inl hp), if_neg (h hp)]; rfl
  · by_cases hq : q
    · rw [if_neg hp, if_pos hq, if_pos (.inr hq)]; rfl
    · rw [if_neg hp, if_neg hq, if_neg fun h => h.elim hp hq]; rfl
theorem below_step (c : Int) (h0 : 0 ≤ c) (hs : ¬ (55296 ≤ c ∧ c ≤ 57343)) : belowI (c + 1) = belowI c + badN c := by
  rw [below_form c h0, below_form (c + 1) (by clear hs; omega), plane_step c h0, span_step c 1 9 (by decide), span_step c 11 12 (by decide), span_step c 14 32 (by decide), span_step c 127 160 (by decide), span_step c 64976 65008 (by decide)]
  have e : badN c = (if 1 ≤ c ∧ c < 9 then (1 : Int) else 0) + ((if 11 ≤ c ∧ c < 12 then 1 else 0) + ((if 14 ≤ c ∧ c < 32 then 1 else 0) + ((if 127 ≤ c ∧ c < 160 then 1 else 0) + ((if 64976 ≤ c ∧ c < 65008 then 1 else 0) + (if c % 65536 = 65534 ∨ c % 65536 = 65535 then 1 else 0))))) := by
    rw [← or_count (p := 64976 ≤ c ∧ c < 65008) (by omega), ← or_count (p := 127 ≤ c ∧ c < 160) (by omega), ← or_count (p := 14 ≤ c ∧ c < 32) (by omega), ← or_count (p := 11 ≤ c ∧ c < 12) (by omega), ← or_count (p := 1 ≤ c ∧ c < 9) (by omega)]
    unfold badN
    have hb := bad_iff c hs
    by_cases h : bad c = true
    · rw [if_pos h, if_pos]
      exact (hb.mp h).imp (fun h => ⟨h.1, Int.lt_add_one_iff.mpr h.2⟩) (Or.imp (fun h => by rw [h]; decide) (Or.imp (fun h => ⟨h.1, Int.lt_add_one_iff.mpr h.2⟩) (Or.imp (fun h => ⟨h.1, Int.lt_add_one_iff.mpr h.2⟩) (Or.imp (fun h => ⟨h.1, Int.lt_add_one_iff.mpr h.2⟩) id))))
    · rw [if_neg h, if_neg]
      intro h2
      exact h (hb.mpr (h2.imp (fun h => ⟨h.1, Int.lt_add_one_iff.mp h.2⟩) (Or.imp (fun h => Int.le_antisymm (Int.lt_add_one_iff.mp h.2) h.1) (Or.imp (fun h => ⟨h.1, Int.lt_add_one_iff.mp h.2⟩) (Or.imp (fun h => ⟨h.1, Int.lt_add_one_iff.mp h.2⟩) (Or.imp (fun h => ⟨h.1, Int.lt_add_one_iff.mp h.2⟩) id))))))
  rw [e]
  generalize (if 1 ≤ c ∧ c < 9 then (1 : Int) else 0) = i1
  generalize (if 11 ≤ c ∧ c < 12 then (1 : Int) else 0) = i2
  generalize (if 14 ≤ c ∧ c < 32 then (1 : Int) else 0) = i3
  generalize (if 127 ≤ c ∧ c < 160 then (1 : Int) else 0) = i4
  generalize (if 64976 ≤ c ∧ c < 65008 then (1 : Int) else 0) = i5
  generalize (if c % 65536 = 65534 ∨ c % 65536 = 65535 then (1 : Int) else 0) = i6
  generalize min (max c 1) 9 = a1
  generalize min (max c 11) 12 = a2
  generalize min (max c 14) 32 = a3
  generalize min (max c 127) 160 = a4
  generalize min (max c 64976) 65008 = a5
  generalize max 0 (c % 65536 - 65534) = a6
  generalize c / 65536 = a7
  clear e hs h0
  simp only [Int.sub_eq_add_neg, Int.add_assoc, Int.add_comm, Int.add_left_comm]
def ptI (a : Int) : Int := if a < 55296 then a else a + 2048
theorem below_pt (a : Int) (h0 : 0 ≤ a) (h1 : a < 1112064) : belowI (ptI (a + 1)) = belowI (ptI a) + badN (ptI a) := by
  by_cases h : a + 1 = 55296
  · have e : a = 55295 := by omega
    subst e
    decide +kernel
  · have e : ptI (a + 1) = ptI a + 1 := by unfold ptI; split <;> split <;> omega
    rw [e]
    refine below_step _ ?_ ?_ <;> (unfold ptI; split <;> omega)
theorem pt_range (a : Int) (h0 : 0 ≤ a) (h1 : a < 1112064) : ∃ p : Nat, ptI a = (p : Int) ∧ p < 1114112 ∧ ¬ (55296 ≤ p ∧ p ≤ 57343) := by
  refine ⟨(ptI a).toNat, ?_, ?_, ?_⟩ <;> (unfold ptI; split <;> omega)
theorem badCount_snoc (ps : List Nat) (p : Nat) : (badCount (ps ++ [p]) : Int) = badCount ps + badN (p : Int) := by
  rw [badCount_append]
  unfold badN badCount
  by_cases h : bad (p : Int) = true
  · rw [if_pos h, List.filter_cons, if_pos h]; rfl
  · rw [if_neg h, List.filter_cons, if_neg h]; rfl
/-- points and told so far -/
structure Told (ps : List Nat) (ts : List Int) (vs us : List Value) : Prop where
  v : IntsAre vs (ps.map Int.ofNat)
  u : IntsAre us ts
  sur : noSur ps
  lt : ∀ p ∈ ps, p < 1114112
  len : ts.length = ps.length + 1
  at_ : ∀ j, j ≤ ps.length → ts.getD j 0 = (badCount (ps.take j) : Int)
theorem told_nil (t : Nat) : Told [] [0] [] [.int 0 t] :=
  ⟨.nil, .cons 0 t .nil, fun _ h => absurd h List.not_mem_nil, fun _ h => absurd h List.not_mem_nil, rfl, fun j hj => by
    have : j = 0 := Nat.le_zero.mp hj
    subst this; rfl⟩
theorem told_snoc {ps : List Nat} {ts : List Int} {vs us : List Value} {a c : Int} {t u : Nat} (T : Told ps ts vs us) (h0 : 0 ≤ a) (h1 : a < 1112064) (hc : c = (badCount ps : Int) + badN (ptI a)) :
    ∃ p : Nat, ptI a = (p : Int) ∧ Told (ps ++ [p]) (ts ++ [c]) (vs ++ [.int (ptI a) t]) (us ++ [.int c u]) := by
  obtain ⟨p, hp, hp1, hp2⟩ := pt_range a h0 h1
  refine ⟨p, hp, ?_, ints_snoc T.u, ?_, ?_, ?_, ?_⟩
  · rw [List.map_append, hp]; exact ints_snoc T.v
  · intro x hx
    rcases List.mem_append.mp hx with hx | hx
    · exact T.sur x hx
    · rw [List.mem_singleton.mp hx]; exact hp2
  · intro x hx
    rcases List.mem_append.mp hx with hx | hx
    · exact T.lt x hx
    · rw [List.mem_singleton.mp hx]; exact hp1
  · rw [List.length_append, List.length_append, T.len]; rfl
  · intro j hj
    rw [List.length_append] at hj
    have hj : j ≤ ps.length + 1 := hj
    by_cases hjl : j ≤ ps.length
    · rw [List.take_append_of_le_length hjl, ← T.at_ j hjl]
      have : j < ts.length := by have := T.len; omega
      simp only [List.getD_eq_getElem?_getD]
      rw [List.getElem?_append_left this]
    · have e : j = ps.length + 1 := by omega
      subst e
      have e2 : (ps ++ [p]).take (ps.length + 1) = ps ++ [p] := List.take_of_length_le (by rw [List.length_append]; exact Nat.le_refl _)
      rw [e2, badCount_snoc, ← hp, ← hc]
      rw [← T.len, List.getD_eq_getElem?_getD, List.getElem?_append_right (Nat.le_refl _), Nat.sub_self]
      rfl
theorem pt_below (a : Int) (h0 : 0 ≤ a) (h1 : a < 1112064) : belowI (ptI a + 1) = belowI (ptI a) + badN (ptI a) := by
  obtain ⟨p, hp, hp1, hp2⟩ := pt_range a h0 h1
  refine below_step _ ?_ ?_ <;> omega
theorem pt_ge {a : Int} (h0 : 0 ≤ a) : 0 ≤ ptI a := by unfold ptI; split <;> omega
theorem pt_lt {a : Int} (h1 : a < 1112064) : ptI a < 1114112 := by unfold ptI; split <;> omega
theorem does_pt (w : World) (c : Int) (t : Nat) : Does w 1 (.ref 156) [.int c t] [] (fun v E' => E' = [] ∧ ∃ t', v = .int (ptI c) t') := does_point w c t
/-- the inner loop's word -/
def Inner (B a : Int) (ps0 : List Nat) (j : Nat) (ps : List Nat) (ts : List Int) (vs us : List Value) : Prop := Told ps ts vs us ∧ ps.length = ps0.length + j ∧ (badCount ps : Int) = B + belowI (ptI (a + (j : Int)))
theorem inner_next {B a : Int} {ps0 ps : List Nat} {j : Nat} {ts : List Int} {vs us : List Value} {t u : Nat} (h : Inner B a ps0 j ps ts vs us) (h0 : 0 ≤ a) (h1 : a + (j : Int) < 1112064) :
    ∃ ps' ts', Inner B a ps0 (j + 1) ps' ts' (vs ++ [.int (ptI (a + (j : Int))) t]) (us ++ [.int (B + belowI (ptI (a + (j : Int)) + 1)) u]) := by
  obtain ⟨T, hl, hB⟩ := h
  have e1 := pt_below (a + (j : Int)) (by omega) h1
  have e2 := below_pt (a + (j : Int)) (by omega) h1
  obtain ⟨p, hp, T'⟩ := told_snoc (a := a + (j : Int)) (c := B + belowI (ptI (a + (j : Int)) + 1)) (t := t) (u := u) T (by omega) h1 (by rw [e1, hB]; omega)
  refine ⟨_, _, T', by rw [List.length_append, hl]; rfl, ?_⟩
  rw [badCount_snoc, ← hp, hB]
  have e3 : a + ((j + 1 : Nat) : Int) = a + (j : Int) + 1 := by omega
  rw [e3, e2]
  omega
section
local macro_rules | `(tactic| walk_at "call ref") => `(tactic| (k_here; (with_reducible show wpAny _ _ (call (Value.ref 156) _) _ _ _); k_dflt (
  refine' Does.useP [] (does_pt _ _ _) ?k1 ?k2 ?k3 ?k4 ?k5 ?kd ?kK ?kr ?ku ?_
  (case k1 => k_asm); (case k2 => k_asm); (case k3 => k_asm); (case k4 => k_asm); (case k5 => k_asm); (case kK => first | exact rfl | assumption)
  (case kd => walk_at "MY dis")
  (case kr => walk_at "MY room"); (case ku => walk_at "MY units")
  skip
  (k_whole)
  (intro v9 E9 h9 tk9 F9 N9 p9 T9)
  (try dsimp only at T9)
  (try simp only [List.nil_append, List.cons_append] at N9)
  (obtain ⟨e8, t9, e9⟩ := p9; subst e8; subst e9; (try simp only [List.nil_append, List.cons_append] at N9); (try dsimp only)))))
local macro_rules | `(tactic| walk_at "subscriptTail Name UnaryOp ref int") => `(tactic| refine stopAt_ ?_)
local macro_rules | `(tactic| walk_at "call type:range") => `(tactic| refine stopAt_ ?_)
local macro_rules | `(tactic| walk_at "call ref") => `(tactic| (k_here; (with_reducible show wpAny _ _ (call (Value.ref 170) _) _ _ _); refine stopAt_ ?_))
local macro_rules | `(tactic| walk_at "call ref") => `(tactic| (k_here; (with_reducible show wpAny _ _ (call (Value.ref 163) _) _ _ _); refine stopAt_ ?_))
/-- the loop that makes the points -/
def Seg1 (w : World) (body : List Stmt) (qual : Str) (scope : Scope) (cdv : Value) : Prop :=
  ∀ (pa ta na : Nat) (nvs : List Value) (n1 n2 n3 t0 : Nat) (ns : List Int)
    (m : Str → Option Value) (_ : m (Str.ofString "points") = some (.ref pa)) (_ : m (Str.ofString "told") = some (.ref ta)) (_ : m (Str.ofString "numbers") = some (.ref na))
    (_ : pa ≠ ta) (_ : pa ≠ na) (_ : ta ≠ na)
    (_ : IntsAre nvs ns) (_ : 1 ≤ ns.length) (_ : ns.length ≤ 5)
    (fa : Addr) (cd : Value) (dp un : Nat) (gd : Option (List Code)) (outer : List Env) (A₀ : Around) (base h₀ : Heap) (L : Addr) (s : Shared) (Q : Flow → Shared → Prop) (Er : Value → Shared → Prop)
    (loose : List Str) (mean : ExcName → Option Value) (mg mb : Str → Option Value)
    (_ : Below A₀ base outer h₀) (_ : Fr h₀ L s.heap m) (_ : (hd.heap_39 w.params).In h₀) (_ : News h₀ L s.heap [(pa, listOf #[] n1), (ta, listOf #[.int 0 t0] n2), (na, listOf nvs.toArray n3)]) (_ : Top hd.view_39 loose mean mg mb h₀)
    (_ : dp + 4 * 6 < recursionLimit) (_ : un + 40 * 6 < cLine)
    (_ : ∀ (h' : Heap) (tk' : Nat) (m' : Str → Option Value) (N' : Ledger), Fr h₀ L h' m' → News h₀ L h' N' → Q (.ret (.bool true)) { s with heap := h', toks := tk' }),
    wpAny (model PySem.Challenge.rw_te0024_01.row.prog w) (ktrTop dp un gd qual scope L fa cd [] outer) (execs (body.drop 2) (envOf qual scope L fa cd)) Q Er s
set_option maxRecDepth 100000 in
set_option maxHeartbeats 4000000 in
theorem seg1 (w : World) {oc od osl} {name qual : Str} {params : Arguments} {body : List Stmt} {scope : Scope} {dV kV doc pm cdv ct : Value} {an : Option Addr} :
    (hd.heap_39 w.params).lookup 175 = some ⟨oc, od, .func (fnOf name qual params body scope dV kV doc pm an cdv ct), osl⟩ → Seg1 w body qual scope cdv := by
  unfold Seg1
  k_fill
  show _ → Seg1 w body qual scope cdv
  intro ho
  have hstop : StopList (body.drop 3) := trivial
  obtain ⟨rfl, rfl, rfl, rfl⟩ := fn_parts ho (show (hd.heap_39 w.params).lookup 175 = some _ by k_is)
  unfold Seg1
  intro pa ta na nvs n1 n2 n3 t0 ns m hm1 hm2 hm3 hd1 hd2 hd3 hI3 hz1 hz5 fa cd dp un gd outer A₀ base h₀ L s Q Er loose mean mg mb B F KX N TT hroom hun hret
  have S2 := seg2 w (show (hd.heap_39 w.params).lookup 175 = some _ by k_is)
  clear ho
  have F1 := fr_know3 hm1 hm2 hm3 F
  clear F
  refine wpAny_noRaise ?_
  w_on
  w_top on
  w_strict (walk_at "MY steps")
  unfold StopAt
  (with_reducible rename Fr _ _ _ _ => F5)
  (with_reducible rename News _ _ _ _ => N5)
  refine' list_turns (fun i m' nx => ∃ (vsA usA : Array Value) (ps : List Nat) (ts : List Int) (n1 n2 : Nat), nx = [(pa, listOf vsA n1), (ta, listOf usA n2), (na, listOf nvs.toArray n3)] ∧
    m' (Str.ofString "points") = some (.ref pa) ∧ m' (Str.ofString "told") = some (.ref ta) ∧ m' (Str.ofString "numbers") = some (.ref na) ∧ Told ps ts vsA.toList usA.toList ∧ ps.length ≤ 13 * i) ?hh ?hm ?F ?N ?hj ?turn ?done
  case hh => rfl
  case F => exact F5
  case N => exact N5
  case hm => k_mem
  case hj => exact ⟨#[], #[.int 0 t0], [], [0], n1, n2, rfl, rfl, rfl, rfl, told_nil t0, Nat.zero_le _⟩
  case turn =>
    intro i v m₁ news₁ h tk own hv hadr hoff hmem hJ F2 N2 QQ hQQ
    refine' ex_6_6 (hJ) ?_; intro vsA usA ps ts n1 n2 r96 e1 e2 e3 T hpl; (try clear hJ); subst r96
    obtain ⟨k, tv, hk, rfl⟩ := ints_get hI3 (by simpa using hv)
    have hil : i < ns.length := (List.getElem?_eq_some_iff.mp hk).1
    have F3 := fr_know3 e1 e2 e3 F2
    have F4 : Fr h₀ L h _ := F3
    have N4 : News h₀ L h _ := N2
    clear F2 F3 F5 N5 N2
    simp only [List.cons_append, List.nil_append] at N4
    w_strict (walk_at "MY steps")
    unfold StopAt
    (with_reducible rename Fr _ _ _ _ => F5)
    (with_reducible rename News _ _ _ _ => N5)
    k_dflt (refine' Does.useP [] (does_start _ _ _ _ _) ?k1 ?k2 ?k3 ?k4 ?k5 ?kd ?kK ?kr ?ku ?_)
    case k4 => exact N5
    case k1 => assumption
    case k2 => exact F5
    case k3 => assumption
    case k5 => assumption
    case kK => rfl
    case kr => walk_at "MY room"
    case ku => walk_at "MY units"
    case kd => exact fun _ _ _ h9 => absurd h9 List.not_mem_nil
    k_whole
    intro v9 E9 h9 tk9 F9 N9 p9 T9
    clear N5 F5
    refine' ex_0_2 (p9) ?_; intro e8 e7; (try clear p9)
    refine' ex_2_3 (e7) ?_; intro a ta1 e9 ha0 ha1; (try clear e7)
    subst e8
    subst e9
    simp only [List.nil_append] at N9
    w_strict (walk_at "MY steps")
    unfold StopAt
    have hlast := told_last T.len T.at_
    refine' last_item ?k1 T.u hlast ?_ ?k4
    case k1 => exact list_of (by assumption) (by k_mem)
    case k4 => with_unfolding_all rfl
    intro t9
    w_strict (walk_at "MY steps")
    unfold StopAt
    (with_reducible rename Fr _ _ _ _ => F5)
    (with_reducible rename News _ _ _ _ => N5)
    k_dflt (refine' Does.useP [] (does_below _ _ _ (pt_ge ha0) (Int.lt_trans (pt_lt ha1) (by decide))) ?k1 ?k2 ?k3 ?k4 ?k5 ?kd ?kK ?kr ?ku ?_)
    case k4 => exact N5
    case k1 => assumption
    case k2 => exact F5
    case k3 => assumption
    case k5 => assumption
    case kK => rfl
    case kr => walk_at "MY room"
    case ku => walk_at "MY units"
    case kd => exact fun _ _ _ h9 => absurd h9 List.not_mem_nil
    k_whole
    intro v9 E9 h9 tk9 F9 N9 p9 T9
    clear N5 F5
    refine' ex_0_2 (p9) ?_; intro e8 e7; (try clear p9)
    refine' ex_1_1 (e7) ?_; intro t8 e9; (try clear e7)
    subst e8
    subst e9
    simp only [List.nil_append] at N9
    w_strict (walk_at "MY steps")
    unfold StopAt
    (with_reducible rename Fr _ _ _ _ => F6)
    (with_reducible rename News _ _ _ _ => N6)
    have hm13 : 0 ≤ (k.fdiv 24).fmod 13 ∧ (k.fdiv 24).fmod 13 < 13 := by
      rw [Int.fmod_eq_emod_of_nonneg _ (by decide)]; omega
    generalize (k.fdiv 24).fmod 13 = md at hm13
    obtain ⟨hi2, hhi⟩ : ∃ hi2, hi2 = min (a + 1 + md) 1112064 := ⟨_, rfl⟩
    rw [← hhi]
    generalize hB : (badCount ps : Int) - belowI (ptI a) = B at F6
    have hoffA : OwnOff own [pa, ta, na] := hoff
    refine' range2_turns (hi2 - a).toNat (fun j m' nx => ∃ (vsA2 usA2 : Array Value) (ps2 : List Nat) (ts2 : List Int) (n1 n2 tb : Nat), nx = (pa, listOf vsA2 n1) :: (ta, listOf usA2 n2) :: (na, listOf nvs.toArray n3) :: own ∧
      m' (Str.ofString "points") = some (.ref pa) ∧ m' (Str.ofString "told") = some (.ref ta) ∧ m' (Str.ofString "numbers") = some (.ref na) ∧ m' (Str.ofString "before") = some (.int B tb) ∧ Inner B a ps j ps2 ts2 vsA2.toList usA2.toList) ?hh ?hn ?ha ?hb ?F ?N ?hj ?iturn ?idone
    case hh => rfl
    case hn => exact .inl (by omega)
    case ha => exact ⟨by omega, by omega⟩
    case hb => exact ⟨by omega, by omega⟩
    case F => exact F6
    case N => exact N6
    case hj =>
      refine ⟨vsA, usA, ps, ts, n1, n2, _, rfl, rfl, rfl, rfl, rfl, T, rfl, ?_⟩
      have e : a + ((0 : Nat) : Int) = a := by omega
      rw [e]; omega
    case iturn =>
      intro j tv2 m₂ news₂ h2 tk2 own2 hj hadr2 hoff2 hJ F2 N2 QQ2 hQQ2
      refine' ex_7_6 (hJ) ?_; intro vsA2 usA2 ps2 ts2 n12 n22 tb r97 e1 e2 e3 e4 I2; (try clear hJ); subst r97
      have F3 := fr_know4 e1 e2 e3 e4 F2
      have F4 : Fr h₀ L h2 _ := F3
      have N4 : News h₀ L h2 _ := N2
      clear F2 F3 N2 F6 N6
      simp only [List.cons_append, List.nil_append] at N4
      obtain ⟨own3, hown3⟩ : ∃ o, o = own ++ own2 := ⟨_, rfl⟩
      rw [← hown3] at N4
      have hoff3 : OwnOff own3 [pa, ta, na] := by
        rw [hown3]
        intro p hp b hb
        rcases List.mem_append.mp hp with hp | hp
        · exact hoffA p hp b hb
        · refine hoff2 p hp b ?_
          simp only [List.mem_cons, List.not_mem_nil, or_false, List.map_cons] at hb ⊢
          rcases hb with hb | hb | hb <;> simp [hb]
      have hl1 : vsA2.size ≤ 65 := by
        have h1 := ints_len I2.1.v
        have h2 := I2.2.1
        rw [List.length_map, Array.length_toList] at h1
        omega
      have hl2 : usA2.size ≤ 66 := by
        have h1 := ints_len I2.1.u
        have h2 := I2.2.1
        have h3 := I2.1.len
        rw [Array.length_toList] at h1
        omega
      w_strict (walk_at "MY steps")
      have hpl0 : 0 ≤ a + (j : Int) := by omega
      have hpl1 : a + (j : Int) < 1112064 := by omega
      unfold StopAt
      (with_reducible rename Fr _ _ _ _ => F5)
      (with_reducible rename News _ _ _ _ => N5)
      k_dflt (refine' Does.useP [] (does_below _ _ _ (Int.le_trans (pt_ge hpl0) (Int.le_of_lt (Int.lt_succ _))) (Int.add_lt_add_right (pt_lt hpl1) 1)) ?k1 ?k2 ?k3 ?k4 ?k5 ?kd ?kK ?kr ?ku ?_)
      case k4 => exact N5
      case k1 => assumption
      case k2 => exact F5
      case k3 => assumption
      case k5 => assumption
      case kK => rfl
      case kr => walk_at "MY room"
      case ku => walk_at "MY units"
      case kd => exact fun _ _ _ h9 => absurd h9 List.not_mem_nil
      k_whole
      intro v9 E9 h9 tk9 F9 N9 p9 T9
      clear N5 F5
      refine' ex_0_2 (p9) ?_; intro e8 e7; (try clear p9)
      refine' ex_1_1 (e7) ?_; intro t8 e9; (try clear e7)
      subst e8
      subst e9
      simp only [List.nil_append] at N9
      w_strict (walk_at "MY steps")
      subst hQQ2
      w_strict (walk_at "MY steps")
      (with_reducible rename Fr _ _ _ _ => F10)
      (with_reducible rename News _ _ _ _ => N10)
      obtain ⟨ps', ts', I3⟩ := inner_next I2 ha0 hpl1
      subst hown3
      refine turn_end F10 ⟨fun p hp => absurd hp List.not_mem_nil, _, _, ps', ts', _, _, _, rfl, rfl, rfl, rfl, rfl, ?_⟩ N10 rfl
      rw [Array.toList_push, Array.toList_push]
      exact I3
    case idone =>
      intro m₂ news₂ h2 tk2 hJ F2 N2
      refine' ex_7_6 (hJ) ?_; intro vsA2 usA2 ps2 ts2 n12 n22 tb r97 e1 e2 e3 e4 I2; (try clear hJ); subst r97
      have F3 := fr_know4 e1 e2 e3 e4 F2
      have F4 : Fr h₀ L h2 _ := F3
      have N4 : News h₀ L h2 _ := N2
      clear F2 F3 N2 F6 N6
      w_strict (walk_at "MY steps")
      subst hQQ
      w_strict (walk_at "MY steps")
      (with_reducible rename Fr _ _ _ _ => F10)
      (with_reducible rename News _ _ _ _ => N10)
      refine turn_end F10 ⟨fun p hp => ?_, vsA2, usA2, ps2, ts2, n12, n22, rfl, rfl, rfl, rfl, I2.1, ?_⟩ N10 rfl
      · rw [List.mem_singleton.mp hp]; simp
      · have := I2.2.1; omega
  case done =>
    intro m₁ news₁ h tk hmem hJ F2 N2
    refine' ex_6_6 (hJ) ?_; intro vsA usA ps ts n1 n2 r96 e1 e2 e3 T hpl; (try clear hJ); subst r96
    have F3 : Fr h₀ L h _ := F2
    have N3 : News h₀ L h _ := N2
    have hN : nvs.toArray.size = ns.length := by rw [List.size_toArray, ints_len hI3]
    clear F2 N2 F5 N5
    w_strict (walk_at "MY steps")
    unfold StopAt
    refine' S2 pa ta na vsA.toList usA.toList nvs n1 n2 n3 ps ts ns _ e1 e2 e3 T.v T.u hI3 ?hl T.sur T.lt T.len T.at_ hz1 hz5 _ _ _ _ _ _ _ _ _ _ _ _ _ _ _ _ _ B F3 KX N3 TT hroom hun ?ret
    case hl => omega
    case ret => exact hret
end
section
local macro_rules | `(tactic| walk_at "subscriptTail BoolOp") => `(tactic| refine stopAt_ ?_)
local macro_rules | `(tactic| walk_at "execs cons") => `(tactic| (k_here; (with_reducible show wpAny _ _ (execs (PySem.Stmt.For _ _ _ _ _ :: _) _) _ _ _); refine stopAt_ ?_))
theorem news3 {h₀ h : Heap} {L : Addr} {l : Ledger} {a b c : Addr × Obj} (N : News h₀ L h l) (h1 : a ∈ l) (h2 : b ∈ l) (h3 : c ∈ l) : News h₀ L h [a, b, c] := fun p hp => by
  simp only [List.mem_cons, List.not_mem_nil, or_false] at hp
  rcases hp with rfl | rfl | rfl <;> exact N _ (by assumption)
set_option maxRecDepth 100000 in
set_option maxHeartbeats 4000000 in
theorem holds : PySem.Challenge.rw_te0024_01.Holds := hd (by
  k_go0
  all_goals try k_fold
  refine wpAny_noRaise ?_
  w_on
  w_top on
  w_strict (walk_at "MY steps")
  all_goals unfold StopAt
  all_goals (with_reducible rename Fr _ _ _ _ => F5)
  all_goals (with_reducible rename News _ _ _ _ => N5)
  · (with_reducible refine' cut_ints F5 N5 ?l1 ?i1 ?h1 ?z1 ?_)
    case l1 => kmk_list
    case i1 => assumption
    case h1 => decide
    case z1 =>
      (with_reducible rename IntsAre _ _ => hIs)
      have e := ints_len hIs
      omega
    (with_reducible rename IntsAre _ _ => hIs)
    have hIl := ints_len hIs
    intro D ws h1 F1 N1 l1 hI1
    clear F5 N5
    w_strict (walk_at "MY steps")
    unfold StopAt
    (with_reducible rename Fr _ _ _ _ => F2)
    (with_reducible rename News _ _ _ _ => N2)
    (with_reducible rename Top _ _ _ _ _ _ => TT)
    (with_reducible rename Frag.In _ _ => KX)
    (with_reducible rename World => ww)
    have S1 := seg1 ww (show (hd.heap_39 ww.params).lookup 175 = some _ by k_is)
    k_dflt (refine' S1 _ _ _ ws _ _ _ _ _ _ ?m1 ?m2 ?m3 ?d1 ?d2 ?d3 hI1 ?z1 ?z5 _ _ _ _ _ _ _ _ _ _ _ _ _ _ _ _ _ ?B ?F ?K ?N ?T ?room ?un ?ret)
    case F => exact F2
    case K => exact KX
    case T => exact TT
    case m1 => rfl
    case m2 => rfl
    case m3 => rfl
    case d1 => k_ne
    case d2 => k_ne
    case d3 => k_ne
    case z1 =>
      have h5 : Int.toNat 5 = 5 := rfl
      rw [List.length_take, h5]; first | omega | exact Nat.le_of_ble_eq_true rfl
    case z5 =>
      have h5 : Int.toNat 5 = 5 := rfl
      rw [List.length_take, h5]; first | omega | exact Nat.le_of_ble_eq_true rfl
    case B => assumption
    case N =>
      refine' news3 N2 ?a1 ?a2 ?a3
      case a1 => k_mem
      case a2 => k_mem
      case a3 => k_mem
    case room => walk_at "MY room"
    case un => walk_at "MY units"
    case ret =>
      intro h7 tk7 m7 N7 F7 _
      dsimp only
      wrow_close
  · (with_reducible refine' cut_ints (vs := [.int 7782 _, .int 10372 _]) (ns := [7782, 10372]) F5 N5 ?l2 ?i2 ?h2 ?z2 ?_)
    case l2 => exact list_of N5 (by k_mem)
    case i2 => exact .cons _ _ (.cons _ _ .nil)
    case h2 => decide
    case z2 => exact Nat.le_of_ble_eq_true rfl
    intro D ws h1 F1 N1 l1 hI1
    clear F5 N5
    w_strict (walk_at "MY steps")
    unfold StopAt
    (with_reducible rename Fr _ _ _ _ => F2)
    (with_reducible rename News _ _ _ _ => N2)
    (with_reducible rename Top _ _ _ _ _ _ => TT)
    (with_reducible rename Frag.In _ _ => KX)
    (with_reducible rename World => ww)
    have S1 := seg1 ww (show (hd.heap_39 ww.params).lookup 175 = some _ by k_is)
    k_dflt (refine' S1 _ _ _ ws _ _ _ _ _ _ ?m1 ?m2 ?m3 ?d1 ?d2 ?d3 hI1 ?z1 ?z5 _ _ _ _ _ _ _ _ _ _ _ _ _ _ _ _ _ ?B ?F ?K ?N ?T ?room ?un ?ret)
    case F => exact F2
    case K => exact KX
    case T => exact TT
    case m1 => rfl
    case m2 => rfl
    case m3 => rfl
    case d1 => k_ne
    case d2 => k_ne
    case d3 => k_ne
    case z1 =>
      have h5 : Int.toNat 5 = 5 := rfl
      rw [List.length_take, h5]; first | omega | exact Nat.le_of_ble_eq_true rfl
    case z5 =>
      have h5 : Int.toNat 5 = 5 := rfl
      rw [List.length_take, h5]; first | omega | exact Nat.le_of_ble_eq_true rfl
    case B => assumption
    case N =>
      refine' news3 N2 ?a1 ?a2 ?a3
      case a1 => k_mem
      case a2 => k_mem
      case a3 => k_mem
    case room => walk_at "MY room"
    case un => walk_at "MY units"
    case ret =>
      intro h7 tk7 m7 N7 F7 _
      dsimp only
      wrow_close
  )
end
end Mine
set_option maxRecDepth 100000 in
set_option maxHeartbeats 8000000 in
theorem PySem.Challenge.cw_te0024_01_holds : PySem.Challenge.rw_te0024_01.Holds := by
  exact Mine.holds

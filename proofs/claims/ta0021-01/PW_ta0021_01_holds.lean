import PyProof.Rows.All
import Wide.All
import OpenK.AllK
import Wide.FinOn
import Lean
import PySem.Challenge.RW_ta0021_01
set_option Elab.async false
set_option compiler.extract_closed false
open PySem PySem.W PyProof.Rows
namespace Mine
/-- the program's text with the rows that the walk can be told of -/
noncomputable def V0 : Program :=
  let p := (PySem.Challenge.rw_ta0021_01).prog
  { p with main := { p.main with body := (p.main.body.zip [false, true, false, true, true, true, true, true, true, true, false, false, false, true, true, true, true, true, true]).filterMap fun x => match x.2 with | true => some x.1 | false => none } }
section
local macro_rules | `(tactic| o_head $_) => `(tactic| assumption)
set_option maxRecDepth 100000 in
set_option maxHeartbeats 8000000 in
theorem hd (h : (PySem.Challenge.rw_ta0021_01).row.Holds) : (PySem.Challenge.rw_ta0021_01).row.Holds := by k_head
end
end Mine

namespace Mine
section
open PySem PySem.W PyProof.Rows PySem.Spec PySem.Calls

abbrev tup2 (a b : Value) (c : Nat) : Obj := { cls := .type "tuple", data := .seq #[a, b] c }

/-- a def's contract: called with `args` over the ledger `led`, it gives back a value `v` over a ledger `led'`, of which `Ret v led'` holds -/
abbrev Cl (w : World) (d u : Nat) (f : Value) (args : List Value) (led : List (Addr × Obj)) (Ret : Value → List (Addr × Obj) → Prop) : Prop :=
  ∀ (p : Program) (loose : List Str) (mean : ExcName → Option Value) (mg mb : Str → Option Value) (dp un : Nat) (gd : Option (List Code)) (cn : Str) (cs : Scope) (a : Addr) (ccd : Value) (cl : List (Str × Addr)) (outer : List Env)
    (A₀ : Around) (base h₀ : Heap) (L : Addr) (m : Str → Option Value) (s : Shared) (Q E : Value → Shared → Prop),
    Below A₀ base outer h₀ → Fr h₀ L s.heap m → (Mine.hd.heap_1 w.params).In h₀ → News h₀ L s.heap led → Top p loose mean mg mb h₀ → cs.kind = .function → dp + d < recursionLimit → un + u < cLine →
    (∀ v led' h' tk', Fr h₀ L h' m → News h₀ L h' led' → Ret v led' → Q v { s with heap := h', toks := tk' }) →
    wpAny (model PySem.Challenge.rw_ta0021_01.prog w) (ktrTop dp un gd cn cs L a ccd cl outer) (call f args) Q E s

set_option maxRecDepth 100000 in
set_option maxHeartbeats 8000000 in
theorem div2n1n_c (w : World) (x y n : Int) (tx ty tn : Tok) (news : List (Addr × Obj))
    (hx : 0 ≤ x) (hx2 : x < 1099511627776) (hy : 0 < y) (hy2 : y < 1048576) (hn : 0 ≤ n) :
    Cl w 1 8 (.ref 28) [.int x tx, .int y ty, .int n tn] news (fun v led => ∃ q c t1 t2, v = .ref q ∧ led = (q, tup2 (.int (x.fdiv y) t1) (.int (x.fmod y) t2) c) :: news ∧ ∀ p ∈ news, p.1 < q) := by
  unfold Cl
  k_fill
  intro p loose mean mg mb dp un gd cn cs a ccd cl outer A₀ base h₀ L m s Q E B F X N T hk hd hu hret
  have hb : Builtin.Int.intBits x ≤ 64 := intBits_le_64 (by omega) (by omega)
  refine wpAny_call ?_
  k_dflt ktr_enter
  k_steps
  exact hret _ _ _ _ (by k_asm) (by k_asm) ⟨_, _, _, _, rfl, rfl, fun p hp => Heap.lt_size ((by assumption : News _ _ _ news) p hp).1⟩
end
section
open PySem PySem.W PyProof.Rows PySem.Spec PySem.Calls
def Hold (P : Prop) : Prop := P
theorem gp {P : Prop} (h : ∀ G : Prop, (P → G) → G) : P := h P id
theorem Hold.of {P : Prop} (h : Hold P) : P := h
theorem allne_lt {d a : Nat} {l : List (Addr × Obj)} (h : AllLt d l) (hd : d ≤ a) : ∀ p ∈ l, p.1 ≠ a := by
  induction l with
  | nil => intro p hp; cases hp
  | cons x r ih =>
    intro p hp
    rcases List.mem_cons.mp hp with e | hp
    · rw [e]; exact Nat.ne_of_lt (Nat.lt_of_lt_of_le h.1 hd)
    · exact ih h.2 p hp
theorem allLt_mem {d : Nat} {l : List (Addr × Obj)} (h : AllLt d l) : ∀ p ∈ l, p.1 < d := by
  induction l with
  | nil => intro p hp; cases hp
  | cons x r ih =>
    intro p hp
    rcases List.mem_cons.mp hp with e | hp
    · rw [e]; exact h.1
    · exact ih h.2 p hp

theorem Cl.use {w : World} {d u : Nat} {f : Value} {args : List Value} {led : List (Addr × Obj)} {Ret : Value → List (Addr × Obj) → Prop} (C : Cl w d u f args led Ret)
    {p : Program} {loose : List Str} {mean : ExcName → Option Value} {mg mb : Str → Option Value} {dp un : Nat} {gd : Option (List Code)} {cn : Str} {cs : Scope} {a : Addr} {ccd : Value} {cl : List (Str × Addr)} {outer : List Env}
    {A₀ : Around} {base h₀ : Heap} {L : Addr} {m : Str → Option Value} {s : Shared} {Q E : Value → Shared → Prop}
    (B : Below A₀ base outer h₀) (F : Fr h₀ L s.heap m) (X : (Mine.hd.heap_1 w.params).In h₀) (N : News h₀ L s.heap led) (T : Top p loose mean mg mb h₀) (hk : cs.kind = .function) (hd : dp + d < recursionLimit) (hu : un + u < cLine)
    (ret : ∀ v led' h' tk', Fr h₀ L h' m → News h₀ L h' led' → Ret v led' → Q v { s with heap := h', toks := tk' }) :
    wpAny (model PySem.Challenge.rw_ta0021_01.prog w) (ktrTop dp un gd cn cs L a ccd cl outer) (call f args) Q E s := C _ _ _ _ _ _ _ _ _ _ _ _ _ _ _ _ _ _ _ _ _ _ B F X N T hk hd hu ret

theorem claim_call {M : Model} {A : Around} {f : Addr} {args : List Value} {Q E : Value → Shared → Prop} {s : Shared} {h₀ : Heap} {L P : Addr} {o : Obj} {led : List (Addr × Obj)} {g : Obj → List (Addr × Obj)}
    (_N : News h₀ L s.heap led) (_m : (P, o) ∈ led) (_U : UpdF P o led g) (C : Addr → Addr → (Obj → List (Addr × Obj)) → Prop) (hc : C f P g) (k : C f P g → wpAny M A (call (.ref f) args) Q E s) : Hold (wpAny M A (call (.ref f) args) Q E s) := k hc

theorem claim_call1 {M : Model} {A : Around} {f : Addr} {args : List Value} {Q E : Value → Shared → Prop} {s : Shared} {h₀ : Heap} {L : Addr} {led : List (Addr × Obj)}
    (_N : News h₀ L s.heap led) (C : Addr → List (Addr × Obj) → Prop) (hc : C f led) (k : C f led → wpAny M A (call (.ref f) args) Q E s) : Hold (wpAny M A (call (.ref f) args) Q E s) := k hc

theorem memL {α : Type} {a : α} {l : List α} (h : a ∈ l) : List.Mem a l := h
structure EntryLt (d : Nat) (l : List (Addr × Obj)) : Prop where
  h : AllLt d l
theorem allne_entry {d a : Nat} {l : List (Addr × Obj)} (h : EntryLt d l) (hd : d ≤ a) : ∀ p ∈ l, p.1 ≠ a := allne_lt h.h hd

/-- two addresses that differ, hidden from omega -/
structure NeN (a b : Nat) : Prop where
  out : a ≠ b
def DisjL (a b : List (Addr × Obj)) : Prop := ∀ p ∈ a, ∀ q ∈ b, p.1 ≠ q.1

section
variable {M : Model} {A : Around} {E : Value → Shared → Prop} {s : Shared} {h₀ : Heap} {L a : Addr} {m : Str → Option Value} {news : List (Addr × Obj)} {cn : Str} {cs : Scope} {ccd : Value} {cl : List (Str × Addr)} {x : Str} {v : Value} {Q : Unit → Shared → Prop}
theorem storeL (F : Fr h₀ L s.heap m) (N : News h₀ L s.heap news)
    (h : let m' : Str → Option Value := fun y => if y = x then some v else m y; ∀ h', Fr h₀ L h' m' → News h₀ L h' news → Q () { s with heap := h', toks := s.toks + 1 })
    (hk : cs.kind = .function := by rfl) (hx : (envX cn cs L a ccd cl).kindOf x = some .local := by rfl) : wpAny M A (storeName (envX cn cs L a ccd cl) x v) Q E s := storeX_L F N h hk hx
end
theorem ad1 {L a b : Nat} (h : a ≠ b) : L + a ≠ L + b := fun e => h (Nat.add_left_cancel e)
theorem lt1 {c L k : Nat} (h : c < L) : c ≠ L + k := Nat.ne_of_lt (Nat.lt_of_lt_of_le h (Nat.le_add_right _ _))
theorem lt2 {L a b D : Nat} (h : L + b < D) (hab : a ≤ b) : L + a ≠ D := Nat.ne_of_lt (Nat.lt_of_le_of_lt (Nat.add_le_add_left hab L) h)
theorem lt3 {c L b D : Nat} (h : c < L) (h2 : L + b < D) : c ≠ D := Nat.ne_of_lt (Nat.lt_trans (Nat.lt_of_lt_of_le h (Nat.le_add_right _ _)) h2)
theorem ls1 {x D : Nat} (h : x + 1 < D) : x ≠ D := Nat.ne_of_lt (Nat.lt_of_succ_lt h)
theorem ls2 {x D : Nat} (h : x + 1 + 1 < D) : x ≠ D := ls1 (Nat.lt_of_succ_lt h)
theorem ls3 {x D : Nat} (h : x + 1 + 1 + 1 < D) : x ≠ D := ls2 (Nat.lt_of_succ_lt h)
theorem le1 {x D : Nat} (h : x + 1 < D) : x ≤ D := Nat.le_of_lt (Nat.lt_of_succ_lt h)
theorem le2 {x D : Nat} (h : x + 1 + 1 < D) : x ≤ D := le1 (Nat.lt_of_succ_lt h)
theorem le3 {x D : Nat} (h : x + 1 + 1 + 1 < D) : x ≤ D := le2 (Nat.lt_of_succ_lt h)
/-- what the table of a code object that makes one def holds: nothing yet, or that def's code -/
inductive Tb (P : Addr) (ln co : Nat) (qual : Str) : List (Addr × Obj) → Prop
  | fresh : Tb P ln co qual [(P, tabObj #[])]
  | hit (c : Addr) (oc : Obj) (vs : Array Value) (t : Tok) : c ≠ P → oc.data = .fields vs → vs[1]? = some (.str qual t) → Tb P ln co qual [(P, tabObj #[rawInt ln, rawInt co, .ref c]), (c, oc)]
theorem Tb.here {P : Addr} {ln co : Nat} {qual : Str} {tb : List (Addr × Obj)} (h : Tb P ln co qual tb) : ∃ o, (P, o) ∈ tb := by
  cases h with
  | fresh => exact ⟨_, .head _⟩
  | hit => exact ⟨_, .head _⟩

theorem allLt_of_mem {d : Nat} {l : List (Addr × Obj)} (h : ∀ p ∈ l, p.1 < d) : AllLt d l := allLt_of h
theorem EntryLt.right {d : Nat} {a b : List (Addr × Obj)} (h : EntryLt d (a ++ b)) : EntryLt d b := ⟨allLt_of fun p hp => allLt_mem h.h p (List.mem_append_right _ hp)⟩
theorem EntryLt.tab {d P : Nat} {ln co : Nat} {qual : Str} {tb news : List (Addr × Obj)} (h : EntryLt d (tb ++ news)) (hT : Tb P ln co qual tb) : P < d := by
  obtain ⟨o, ho⟩ := hT.here
  exact allLt_mem h.h _ (List.mem_append_left _ ho)

theorem updF_mid {P : Addr} {o : Obj} {pre news : List (Addr × Obj)} (h1 : ∀ q ∈ pre, q.1 ≠ P) (h2 : ∀ q ∈ news, q.1 ≠ P) : UpdF P o (pre ++ (P, o) :: news) (fun o' => pre ++ (P, o') :: news) := by
  induction pre with
  | nil => exact UpdF.head h2
  | cons x r ih => exact UpdF.tail (h1 x (.head _)) (ih fun q hq => h1 q (.tail _ hq))

section
variable {M : Model} {A : Around} {E : Value → Shared → Prop} {s : Shared} {h₀ : Heap} {L a c P : Addr} {m mg mb : Str → Option Value} {cn : Str} {cs : Scope} {ccd : Value} {cl : List (Str × Addr)} {pre tb news : List (Addr × Obj)}
  {p : Program} {loose : List Str} {mean : ExcName → Option Value} {name qual qual' : Str} {params : Arguments} {body : List Stmt} {scope : Scope} {pos : Pos} {firstLine : Nat} {clos : List (Str × Addr)} {L0 : Nat}
theorem nestTb {Q : Value → Shared → Prop} (F : Fr h₀ L s.heap m) (N : News h₀ L s.heap (pre ++ (tb ++ news))) (T : Top p loose mean mg mb h₀) (C : CodeHd h₀ c P) (hcd : ccd = .ref c) (hT : Tb P pos.line pos.col qual' tb) (hq : qual' = qual)
    (hdj : DisjL tb news) (hl0 : EntryLt L0 (tb ++ news)) (hpre : ∀ q ∈ pre, @LT.lt Nat _ L0 q.1)
    (hcl : closureFor scope (envX cn cs L a ccd cl) = pure clos)
    (h : ∀ f c' oc vs t ctv doc h' tk, Fr h₀ L h' m →
      News h₀ L h' ((f, fnMade name qual params body scope clos doc ((mg "__name__").getD .none) c' ctv) :: (pre ++ ([(P, tabObj #[rawInt pos.line, rawInt pos.col, .ref c']), (c', oc)] ++ news))) →
      oc.data = .fields vs → vs[1]? = some (.str qual t) → vs[1]? = some (.str qual' t) → (∀ q ∈ pre, NeN c' q.1) → (∀ q ∈ news, q.1 ≠ c') → @Ne Nat c' P → (∀ q ∈ pre, @LT.lt Nat _ q.1 f) → @LT.lt Nat _ c' f → Q (.ref f) { s with heap := h', toks := tk }) :
    wpAny M A (makeFunction name qual params (.stmts body) scope (envX cn cs L a ccd cl) [] [] [] pos firstLine) Q E s := by
  subst hq
  have hlt := allLt_mem hl0.h
  obtain ⟨oP, hPm⟩ := hT.here
  have hP0 : P < L0 := hlt _ (List.mem_append_left _ hPm)
  have hPp : ∀ q ∈ pre, q.1 ≠ P := fun q hq => Nat.ne_of_gt (Nat.lt_trans hP0 (hpre q hq))
  have hPn : ∀ q ∈ news, q.1 ≠ P := fun q hq => (hdj _ hPm q hq).symm
  cases hT with
  | fresh =>
    refine nest_K (ps := #[]) F N T C hcd (updF_mid hPp hPn) True.intro rfl hcl fun f c' oc vs t ctv doc h' tk F' N' d1 d2 l1 l2 => ?_
    refine h f c' oc vs t ctv doc h' tk F' (fun q hq => N' q ?_) d1 d2 d2 (fun q hq => ⟨Nat.ne_of_gt (l1 q (List.mem_append_left _ hq))⟩) (fun q hq => Nat.ne_of_lt (l1 q (List.mem_append_right _ (.tail _ hq)))) (Nat.ne_of_gt (l1 (P, tabObj #[]) (List.mem_append_right _ (.head _))))
      (fun q hq => Nat.lt_trans (l1 q (List.mem_append_left _ hq)) l2) l2
    rcases List.mem_cons.mp hq with rfl | hq
    · exact .head _
    · refine .tail _ ?_
      rcases List.mem_append.mp hq with hq | hq
      · exact .tail _ (List.mem_append_left _ hq)
      · rcases List.mem_cons.mp hq with rfl | hq
        · exact .tail _ (List.mem_append_right _ (.head _))
        · rcases List.mem_cons.mp hq with rfl | hq
          · exact .head _
          · exact .tail _ (List.mem_append_right _ (.tail _ hq))
  | hit c' oc vs t hne d1 d2 =>
    refine nestHit_K (c' := c') (ps := #[rawInt pos.line, rawInt pos.col, .ref c']) F N T C hcd (List.mem_append_right _ (.head _)) (by simp [TriplesOk, rawInt]) (by simp [codeAmong, rawInt]) hcl fun f ctv doc h' tk F' N' l1 => ?_
    refine h f c' oc vs t ctv doc h' tk F' N' d1 d2 d2 (fun q hq => ⟨Nat.ne_of_lt (Nat.lt_trans (hlt (c', oc) (List.mem_append_left _ (.tail _ (.head _)))) (hpre q hq))⟩) (fun q hq => (hdj (c', oc) (.tail _ (.head _)) q hq).symm) hne
      (fun q hq => l1 q (List.mem_append_left _ hq)) (l1 (c', oc) (List.mem_append_right _ (List.mem_append_left _ (.tail _ (.head _)))))
end
end
section
open PySem PySem.W PyProof.Rows PySem.Spec PySem.Calls
theorem fr_map {h₀ h : Heap} {L : Addr} {m : Str → Option Value} (_F : Fr h₀ L h m) : ∃ m0, m0 = m := ⟨m, rfl⟩
/-- the names of a turn, put in order: the loop's own name, then what the turns store, then the rest as it stood -/
theorem fr_eq {h₀ h : Heap} {L : Addr} {m m' : Str → Option Value} (F : Fr h₀ L h m) (e : ∀ y, m' y = m y) : Fr h₀ L h m' := by
  have : m' = m := funext e
  rw [this]; exact F
section
variable {prog : Program} {w : World} {A : Around} {E : Value → Shared → Prop} {s : Shared} {env : Env} {h₀ : Heap} {x : Str} {body : List Stmt} {Q : Flow → Shared → Prop}
/-- a for over reversed(l), by an invariant over the turn's number, the frame's names and the ledger -/
theorem for_rev {I l : Addr} {vs : List Value} {nn : Nat} {m₀ : Str → Option Value} {news : List (Addr × Obj)} (J : Nat → (Str → Option Value) → List (Addr × Obj) → Prop)
    (hh : A.handled = none) (hl : (l, listOf vs.toArray nn) ∈ news) (F : Fr h₀ env.locals s.heap m₀) (N : News h₀ env.locals s.heap ((I, revObj l ((vs.length : Int) - 1)) :: news)) (hoff : ∀ p ∈ news, p.1 ≠ I) (hj : J 0 m₀ news)
    (turn : ∀ i v m₁ news₁ h tk own, vs.reverse[i]? = some v → OwnOff own (news₁.map (·.1)) → (l, listOf vs.toArray nn) ∈ news₁ → J i m₁ news₁ → Fr h₀ env.locals h (fun y => if y = x then some v else m₁ y) → News h₀ env.locals h (news₁ ++ own) →
      wpAny (model prog w) A (execs body env) (InvPostG h₀ env.locals (fun m' nx => (l, listOf vs.toArray nn) ∈ nx ∧ J (i + 1) m' nx) own { s with heap := h, toks := tk } Q) E { s with heap := h, toks := tk })
    (done : ∀ m₁ news₁ h tk, J vs.length m₁ news₁ → Fr h₀ env.locals h m₁ → News h₀ env.locals h news₁ → Q .next { s with heap := h, toks := tk }) :
    wpAny (model prog w) A (pyIter (.ref I)) (fun it s₂ => LoopAtV prog w A h₀ env x body Q E it s₂) E s := by
  have hIx := N _ (List.mem_cons_self ..)
  have hlx := N _ (List.mem_cons_of_mem _ hl)
  have hls : s.heap.IsList l vs.toArray := ⟨_, hlx.1, rfl, nn, rfl⟩
  have hne : l ≠ I := hoff _ hl
  have hit : s.heap.IsRevIter I l ((vs.length : Int) - 1) := ⟨_, hIx.1, rfl, rfl⟩
  refine wpAny_pyIter_revIter hit ?_
  have W := Walks.listRev (prog := prog) (w := w) hh I l hne vs.toArray
  have hlen : vs.toArray.size = vs.length := by simp
  rw [hlen] at W
  refine ⟨I, _, _, vs.length, _, _, m₀, news, (fun i m nx => (l, listOf vs.toArray nn) ∈ nx ∧ J i m nx), rfl, W, ?_, ?_, ?_, ⟨Nat.zero_le _, ?_, hls⟩, F, (fun p hp => N p (List.mem_cons_of_mem _ hp)), ⟨hl, hj⟩, ?_, ?_⟩
  · intro hm
    rcases List.mem_cons.mp hm with e | hm
    · exact hIx.2.1 e.symm
    · exact hlx.2.1 (List.mem_singleton.mp hm).symm
  · intro b hb
    rw [List.mem_singleton.mp hb]
    exact hIx.2.2
  · intro p hp hI
    exact hoff p hp (List.mem_singleton.mp hI)
  · have e : (vs.length : Int) - 1 - ((0 : Nat) : Int) = (vs.length : Int) - 1 := by omega
    rw [e]
    exact hit
  · rintro i v m₁ news₁ s₁ own ⟨hh', tk', rfl⟩ hin hP ⟨hl₁, hJ⟩ hofs hown hget hfp hst F₁ N₁
    have hP' : vs.reverse[i]? = some v := by
      rw [List.getElem?_reverse hin]
      simpa using hP
    obtain ⟨oI, hoI, _⟩ := hst.2.1
    have hIown : (I, oI) ∈ own.filter fun p => decide (p.1 = I) := List.mem_filter.mpr ⟨hfp _ (List.mem_cons.mpr (.inl rfl)) hIx.2.2 _ hoI, by simp⟩
    have hsep : OwnOff (own.filter fun p => decide (p.1 = I)) (news₁.map (·.1)) := by
      intro p hp b hb e
      obtain ⟨q, hq, rfl⟩ := List.mem_map.mp hb
      have h1 : p.1 = I := by simpa using (List.mem_filter.mp hp).2
      exact hofs q hq (List.mem_singleton.mpr (e ▸ h1))
    have N₂ : News h₀ env.locals hh' (news₁ ++ own.filter fun p => decide (p.1 = I)) := fun p hp => N₁ p ((List.mem_append.mp hp).elim (fun h => List.mem_append.mpr (.inr h)) fun h => List.mem_append.mpr (.inl ((List.mem_filter.mp h).1)))
    have hlo : hh'.get? l = some (listOf vs.toArray nn) := (N₁ _ (List.mem_append.mpr (.inr hl₁))).1
    refine wpAny_mono (turn i v m₁ news₁ hh' tk' _ hP' hsep hl₁ hJ F₁ N₂) (fun f s₂ p => ?_) fun _ _ e => e
    have fin : InvEndG h₀ env.locals (fun m' nx => (l, listOf vs.toArray nn) ∈ nx ∧ J (i + 1) m' nx) (own.filter fun p => decide (p.1 = I)) { s with heap := hh', toks := tk' } s₂ →
        LoopStepU h₀ env.locals [I] own (fun m nx => (l, listOf vs.toArray nn) ∈ nx ∧ J (i + 1) m nx) { s with heap := hh', toks := tk' } .next s₂ := by
      rintro ⟨h', tk, m', news', nx, e, F', N', hn, ho, ha, hm⟩
      refine ⟨rfl, h', tk, m', nx, e, F', fun p hp => ?_, fun p hp hq => ?_, hm⟩
      · rcases List.mem_append.mp hp with h | h
        · by_cases hI : p.1 = I
          · exact N' p (ho p (List.mem_filter.mpr ⟨h, by simpa using hI⟩))
          · have h1 : p.1 = l := by
              rcases List.mem_cons.mp (hown p h) with h2 | h2
              · exact absurd h2 hI
              · exact List.mem_singleton.mp h2
            have h2 : hh'.get? p.1 = some p.2 := hget p h
            rw [h1, hlo] at h2
            have h3 : p = (l, listOf vs.toArray nn) := Prod.ext h1 (Option.some.inj h2).symm
            rw [h3]
            exact N' _ (hn _ hm.1)
        · exact N' p (hn p h)
      · exact ha _ hIown p.1 (List.mem_map.mpr ⟨p, hp, rfl⟩) (List.mem_singleton.mp hq).symm
    cases f with
    | ret v => exact .ret p
    | brk => exact .brk p
    | next => exact .next (fin p)
    | cont => exact .cont (fin p)
  · rintro h' tk m' news' F' N' _ ⟨_, hJ⟩
    exact done m' news' h' tk hJ F' N'
/-- a for over a range by ones, by an invariant over the turn's number, the frame's names and the ledger -/
theorem for_range {r : Addr} {a₀ b₀ : Int} {t₀ u₀ v₀ : Tok} {n : Nat} {m₀ : Str → Option Value} {news : List (Addr × Obj)} (J : Nat → (Str → Option Value) → List (Addr × Obj) → Prop)
    (hh : A.handled = none) (hr : IsRange s.heap r a₀ b₀ 1 t₀ u₀ v₀) (hsmall : Builtin.Range.small a₀ b₀ 1 = true) (hsz : Builtin.Range.rangeSize a₀ b₀ 1 = (n : Int)) (F : Fr h₀ env.locals s.heap m₀) (N : News h₀ env.locals s.heap news) (hj : J 0 m₀ news)
    (turn : ∀ i t m₁ news₁ h tk own, i < n → OwnOff own (news₁.map (·.1)) → J i m₁ news₁ → Fr h₀ env.locals h (fun y => if y = x then some (.int (a₀ + (i : Int)) t) else m₁ y) → News h₀ env.locals h (news₁ ++ own) →
      wpAny (model prog w) A (execs body env) (InvPostG h₀ env.locals (J (i + 1)) own { s with heap := h, toks := tk } Q) E { s with heap := h, toks := tk })
    (done : ∀ m₁ news₁ h tk, J n m₁ news₁ → Fr h₀ env.locals h m₁ → News h₀ env.locals h news₁ → Q .next { s with heap := h, toks := tk }) :
    wpAny (model prog w) A (pyIter (.ref r)) (fun it s₂ => LoopAtV prog w A h₀ env x body Q E it s₂) E s := by
  refine wpAny_pyIter_range hr hsmall ?_
  have W : Walks prog w A s.heap.objs.size [s.heap.objs.size] [s.heap.objs.size] n (fun i v => i < n ∧ ∃ t, v = .int (a₀ + i * 1) t)
      (fun i h => IsRangeIter h s.heap.objs.size (a₀ + (i : Nat) * 1) ((n : Int) - (i : Nat)) 1) := (Walks.range hh _ a₀ 1 n).bound
  refine kdr_loop J W (fun _ h => h) (fun _ h => h) ?_ ?_ ?_ ?_ (by show IsRangeIter _ _ _ _ _; rw [hsz]; simpa using Heap.get?_push_size _ rfl) (F.push _) (fun p hp => ⟨Heap.get?_push_of_some _ (N p hp).1, (N p hp).2⟩) hj ?_ done
  · intro i h hi b hb
    rw [List.mem_singleton.mp hb]
    exact ⟨_, hi⟩
  · intro hm
    exact absurd F.ns.lt ((List.mem_singleton.mp hm) ▸ Nat.lt_irrefl _)
  · intro b hb
    rw [List.mem_singleton.mp hb]
    exact next_is_new F
  · intro p hp hI
    exact absurd (Heap.lt_size (N p hp).1) ((List.mem_singleton.mp hI) ▸ Nat.lt_irrefl _)
  · rintro i v m₁ nx h tk own hi ⟨_, t, rfl⟩ hoff hJ F₁ N₁
    have e1 : a₀ + (i : Int) * 1 = a₀ + (i : Int) := by omega
    rw [e1] at F₁
    exact turn i t m₁ nx h tk own hi hoff hJ F₁ N₁
end
end
section
open PySem PySem.W PyProof.Rows PySem.Spec PySem.Calls
/-- the contract of a def that catches: called from the outermost frame -/
abbrev Cl0 (w : World) (d u : Nat) (f : Value) (args : List Value) (led : List (Addr × Obj)) (Ret : Value → List (Addr × Obj) → Prop) : Prop :=
  ∀ (p : Program) (loose : List Str) (mean : ExcName → Option Value) (mg mb : Str → Option Value) (dp un : Nat) (gd : Option (List Code)) (cn : Str) (cs : Scope) (a : Addr) (ccd : Value) (cl : List (Str × Addr))
    (A₀ : Around) (base h₀ : Heap) (L : Addr) (m : Str → Option Value) (s : Shared) (Q E : Value → Shared → Prop),
    Below A₀ base [] h₀ → Fr h₀ L s.heap m → (Mine.hd.heap_1 w.params).In h₀ → News h₀ L s.heap led → Top p loose mean mg mb h₀ → (Mine.hd.heap_1 w.params).In base → Top p loose mean mg mb base → cs.kind = .function → dp + d < recursionLimit → un + u < cLine →
    (∀ v led' h' tk', Fr h₀ L h' m → News h₀ L h' led' → Ret v led' → Q v { s with heap := h', toks := tk' }) →
    wpAny (model PySem.Challenge.rw_ta0021_01.prog w) (ktrTop dp un gd cn cs L a ccd cl []) (call f args) Q E s

theorem Cl0.use {w : World} {d u : Nat} {f : Value} {args : List Value} {led : List (Addr × Obj)} {Ret : Value → List (Addr × Obj) → Prop} (C : Cl0 w d u f args led Ret)
    {p : Program} {loose : List Str} {mean : ExcName → Option Value} {mg mb : Str → Option Value} {dp un : Nat} {gd : Option (List Code)} {cn : Str} {cs : Scope} {a : Addr} {ccd : Value} {cl : List (Str × Addr)}
    {A₀ : Around} {base h₀ : Heap} {L : Addr} {m : Str → Option Value} {s : Shared} {Q E : Value → Shared → Prop}
    (B : Below A₀ base [] h₀) (F : Fr h₀ L s.heap m) (X : (Mine.hd.heap_1 w.params).In h₀) (N : News h₀ L s.heap led) (T : Top p loose mean mg mb h₀) (XB : (Mine.hd.heap_1 w.params).In base) (TB : Top p loose mean mg mb base) (hk : cs.kind = .function) (hd : dp + d < recursionLimit) (hu : un + u < cLine)
    (ret : ∀ v led' h' tk', Fr h₀ L h' m → News h₀ L h' led' → Ret v led' → Q v { s with heap := h', toks := tk' }) :
    wpAny (model PySem.Challenge.rw_ta0021_01.prog w) (ktrTop dp un gd cn cs L a ccd cl []) (call f args) Q E s := C _ _ _ _ _ _ _ _ _ _ _ _ _ _ _ _ _ _ _ _ _ B F X N T XB TB hk hd hu ret

section
variable {prog : Program} {w : World} {A₀ A : Around} {s : Shared} {base h₀ : Heap} {env : Env} {L : Addr} {m : Str → Option Value} {news : List (Addr × Obj)} {K : Frag} {p : Program} {loose : List Str} {mean : ExcName → Option Value} {mg mb : Str → Option Value}
    {R : Result → Shared → Prop} {name qual : Str} {params : Arguments} {body : List Stmt} {scope : Scope} {dV kV doc pm cdv ct oc : Value} {an od : Option Addr} {osl : Array (Option Value)} {f : Addr} {args : Args} {binds : List (Str × Value)}
theorem mem_fr1 (hf : env.frame = some L) {b : Addr} (h : b ∈ [env].filterMap (·.frame)) : b = L := by
  obtain ⟨e, he, hb⟩ := List.mem_filterMap.mp h
  rcases List.mem_cons.mp he with rfl | he
  · rw [hf] at hb
    exact (Option.some.inj hb).symm
  · cases he
theorem def_S0 (B : Below A₀ base [] h₀) (F : Fr h₀ L s.heap m) (X₀ : K.In h₀) (N : News h₀ L s.heap news) (T : Top p loose mean mg mb h₀) (hA : A.frames = some [env]) (hf : env.frame = some L) (hke : env.scope.kind = .function)
    (ho : K.lookup f = some ⟨oc, od, .func (fnOf name qual params body scope dV kV doc pm an cdv ct), osl⟩) (hcd : codeIn K cdv qual = true) (hroom : A.depth < recursionLimit)
    (hbind : BindsTo s (fnOf name qual params body scope dV kV doc pm an cdv ct) args binds) (hloc : ∀ y ∈ binds, scope.names.lookup y.1 = some .local)
    (h : ∀ g L' h₁, Fr h₀ L g m → Fr g L' h₁ (fun y => binds.reverse.lookup y) → News g L' h₁ news → (∀ p ∈ news, p.1 < L') → Below A base [env] g → K.In g → Top p loose mean mg mb g → KtsDicts ([env].filterMap (·.frame)) g →
      wpAny (model prog w) (A.deeper (envOf qual scope L' f cdv)) (execs body (envOf qual scope L' f cdv))
        (fun fl s' => LeaveS0 ([env].filterMap (·.frame)) h₀ L m g R (match fl with | .ret v => v | _ => .none) s')
        (fun e s' => wpAny (model prog w) (A.deeper (envOf qual scope L' f cdv)) (leaving (envOf qual scope L' f cdv) e) (fun _ s'' => R (.error e) s'') (fun e' s'' => R (.error e') s'') s')
        { s with heap := h₁, toks := s.toks + binds.length })
    (hco : scope.isCoroutine = false) (hgen : scope.isGenerator = false) (hk : scope.kind = .function)
    (hcell : ∀ x ∈ scope.names, x.2 ≠ .cell) : codeAny (model prog w) A (.call (.ref f) args) R s := by
  have X := X₀.keeps F.keep
  obtain ⟨FG, BG, st, lv⟩ := groundX (R := R) B F N hA hf hke
  have nL₀ : h₀.get? L = none := kts_self F
  refine codeAny_call_def (fd := fnOf name qual params body scope dV kV doc pm an cdv ct) (body := body) (binds := binds) hroom (X _ _ ho) rfl (T.nolimit.keeps F.keep) (codeRec_of X hcd) rfl hbind hcell hloc (fun h₁ hns hk₁ => ?_) hco hgen hk
  obtain ⟨oL, es, ep, hL, hLd, hLk, hLf⟩ := F.ns
  have nL : L ∉ news.map (·.1) := fun q => by
    obtain ⟨p, hp, e⟩ := List.mem_map.mp q
    exact (N p hp).2.1 e
  have hLg := hideAll_get (news.map (·.1)) hL nL
  refine wpAny_mono (h _ s.heap.objs.size h₁ FG ⟨hns, fun b o e => hk₁ b o (of_hideAll _ e), Nat.le_of_eq (hideAll_size _ _)⟩
    (fun p hp => ⟨hk₁ _ _ (N p hp).1, Nat.ne_of_lt (Heap.lt_size (N p hp).1), hideAll_none _ (List.mem_map_of_mem hp)⟩) (fun p hp => Heap.lt_size (N p hp).1) BG (X₀.keeps st) (T.keeps st) (fun b hb => by
      rw [mem_fr1 hf hb]
      exact ⟨oL, es, ep, hLg, hLd⟩)) (fun fl s' hl => ?_) fun _ _ y => y
  obtain ⟨g', L', m', news', T', F', N', k⟩ := hl
  obtain ⟨sl, hs⟩ := T'.up hLg
  refine k ⟨⟨_, es, ep, F'.keep _ _ hs, hLd, hLk, hLf⟩, fun b o e => F'.keep b o (T'.other b o (st b o e) (fun q => by
    rw [mem_fr1 hf q, nL₀] at e
    cases e)), F.above⟩ fun p hp => ⟨(N' p hp).1, fun q => ?_, ?_⟩
  · have := (N' p hp).2.2; rw [q, hs] at this; cases this
  · cases q : h₀.get? p.1 with
    | none => rfl
    | some o =>
      obtain ⟨sl', hs'⟩ := T'.up (st _ _ q)
      have := (N' p hp).2.2
      rw [hs'] at this
      cases this
end
end
section
open PySem PySem.W PyProof.Rows PySem.Spec PySem.Calls
section
variable {prog : Program} {w : World} {A : Around} {E : Value → Shared → Prop} {s : Shared} {env : Env} {h₀ : Heap} {x : Str} {body : List Stmt} {Q : Flow → Shared → Prop}
/-- a for over a list of the ledger, by an invariant over the turn's number, the frame's names and the ledger -/
theorem for_list {l : Addr} {vs : List Value} {nn : Nat} {m₀ : Str → Option Value} {news : List (Addr × Obj)} (J : Nat → (Str → Option Value) → List (Addr × Obj) → Prop)
    (hh : A.handled = none) (hl : (l, listOf vs.toArray nn) ∈ news) (F : Fr h₀ env.locals s.heap m₀) (N : News h₀ env.locals s.heap news) (hj : J 0 m₀ news)
    (turn : ∀ i v m₁ news₁ h tk own, vs[i]? = some v → OwnOff own (news₁.map (·.1)) → (l, listOf vs.toArray nn) ∈ news₁ → J i m₁ news₁ → Fr h₀ env.locals h (fun y => if y = x then some v else m₁ y) → News h₀ env.locals h (news₁ ++ own) →
      wpAny (model prog w) A (execs body env) (InvPostG h₀ env.locals (fun m' nx => (l, listOf vs.toArray nn) ∈ nx ∧ J (i + 1) m' nx) own { s with heap := h, toks := tk } Q) E { s with heap := h, toks := tk })
    (done : ∀ m₁ news₁ h tk, J vs.length m₁ news₁ → Fr h₀ env.locals h m₁ → News h₀ env.locals h news₁ → Q .next { s with heap := h, toks := tk }) :
    wpAny (model prog w) A (pyIter (.ref l)) (fun it s₂ => LoopAtV prog w A h₀ env x body Q E it s₂) E s := by
  have hlx := N _ hl
  have hls : s.heap.IsList l vs.toArray := ⟨_, hlx.1, rfl, nn, rfl⟩
  have hlt : l < s.heap.objs.size := Heap.lt_size hlx.1
  have hne : l ≠ s.heap.objs.size := Nat.ne_of_lt hlt
  have hI0 : h₀.get? s.heap.objs.size = none := next_is_new F
  refine wpAny_pyIter_list hls ?_
  have W := Walks.list (prog := prog) (w := w) hh s.heap.objs.size l hne vs.toArray
  have hlen : vs.toArray.size = vs.length := by simp
  rw [hlen] at W
  refine ⟨s.heap.objs.size, _, _, vs.length, _, _, m₀, news, (fun i m nx => (l, listOf vs.toArray nn) ∈ nx ∧ J i m nx), rfl, W, ?_, ?_, ?_, ⟨⟨_, Heap.get?_push_size _ rfl, rfl, rfl⟩, hls.at fun o e => Heap.get?_push_of_some _ e⟩, F.push _, (fun p hp => ⟨Heap.get?_push_of_some _ (N p hp).1, (N p hp).2⟩), ⟨hl, hj⟩, ?_, ?_⟩
  · intro hm
    rcases List.mem_cons.mp hm with e | hm
    · exact absurd F.ns.lt (e ▸ Nat.lt_irrefl _)
    · exact hlx.2.1 (List.mem_singleton.mp hm).symm
  · intro b hb
    rw [List.mem_singleton.mp hb]
    exact hI0
  · intro p hp hI
    exact absurd (Heap.lt_size (N p hp).1) ((List.mem_singleton.mp hI) ▸ Nat.lt_irrefl _)
  · rintro i v m₁ news₁ s₁ own ⟨hh', tk', rfl⟩ hin hP ⟨hl₁, hJ⟩ hofs hown hget hfp hst F₁ N₁
    have hP' : vs[i]? = some v := by
      simpa using hP
    obtain ⟨oI, hoI, _⟩ := hst.1
    have hIown : (s.heap.objs.size, oI) ∈ own.filter fun p => decide (p.1 = s.heap.objs.size) := List.mem_filter.mpr ⟨hfp _ (List.mem_cons.mpr (.inl rfl)) hI0 _ hoI, by simp⟩
    have hsep : OwnOff (own.filter fun p => decide (p.1 = s.heap.objs.size)) (news₁.map (·.1)) := by
      intro p hp b hb e
      obtain ⟨q, hq, rfl⟩ := List.mem_map.mp hb
      have h1 : p.1 = s.heap.objs.size := by simpa using (List.mem_filter.mp hp).2
      exact hofs q hq (List.mem_singleton.mpr (e ▸ h1))
    have N₂ : News h₀ env.locals hh' (news₁ ++ own.filter fun p => decide (p.1 = s.heap.objs.size)) := fun p hp => N₁ p ((List.mem_append.mp hp).elim (fun h => List.mem_append.mpr (.inr h)) fun h => List.mem_append.mpr (.inl ((List.mem_filter.mp h).1)))
    have hlo : hh'.get? l = some (listOf vs.toArray nn) := (N₁ _ (List.mem_append.mpr (.inr hl₁))).1
    refine wpAny_mono (turn i v m₁ news₁ hh' tk' _ hP' hsep hl₁ hJ F₁ N₂) (fun f s₂ p => ?_) fun _ _ e => e
    have fin : InvEndG h₀ env.locals (fun m' nx => (l, listOf vs.toArray nn) ∈ nx ∧ J (i + 1) m' nx) (own.filter fun p => decide (p.1 = s.heap.objs.size)) { s with heap := hh', toks := tk' } s₂ →
        LoopStepU h₀ env.locals [s.heap.objs.size] own (fun m nx => (l, listOf vs.toArray nn) ∈ nx ∧ J (i + 1) m nx) { s with heap := hh', toks := tk' } .next s₂ := by
      rintro ⟨h', tk, m', news', nx, e, F', N', hn, ho, ha, hm⟩
      refine ⟨rfl, h', tk, m', nx, e, F', fun p hp => ?_, fun p hp hq => ?_, hm⟩
      · rcases List.mem_append.mp hp with h | h
        · by_cases hI : p.1 = s.heap.objs.size
          · exact N' p (ho p (List.mem_filter.mpr ⟨h, by simpa using hI⟩))
          · have h1 : p.1 = l := by
              rcases List.mem_cons.mp (hown p h) with h2 | h2
              · exact absurd h2 hI
              · exact List.mem_singleton.mp h2
            have h2 : hh'.get? p.1 = some p.2 := hget p h
            rw [h1, hlo] at h2
            have h3 : p = (l, listOf vs.toArray nn) := Prod.ext h1 (Option.some.inj h2).symm
            rw [h3]
            exact N' _ (hn _ hm.1)
        · exact N' p (hn p h)
      · exact ha _ hIown p.1 (List.mem_map.mpr ⟨p, hp, rfl⟩) (List.mem_singleton.mp hq).symm
    cases f with
    | ret v => exact .ret p
    | brk => exact .brk p
    | next => exact .next (fin p)
    | cont => exact .cont (fin p)
  · rintro h' tk m' news' F' N' _ ⟨_, hJ⟩
    exact done m' news' h' tk hJ F' N'
end
end
section
open PySem PySem.W PyProof.Rows PySem.Spec PySem.Calls
section
variable {prog : Program} {w : World} {A : Around} {E : Value → Shared → Prop} {s : Shared} {env : Env} {h₀ : Heap} {test : PySem.Expr} {body orelse : List Stmt} {Q : Flow → Shared → Prop}
/-- a while, by an invariant over a measure, the frame's names and the ledger -/
theorem while_inv {m₀ : Str → Option Value} {news : List (Addr × Obj)} {pos : Pos} {d₀ : Nat} (J : Nat → (Str → Option Value) → List (Addr × Obj) → Prop) (hE : PassesOwn (model prog w) A env E)
    (F : Fr h₀ env.locals s.heap m₀) (N : News h₀ env.locals s.heap news) (hj : J d₀ m₀ news)
    (turn : ∀ d m₁ n₁ h tk, J d m₁ n₁ → Fr h₀ env.locals h m₁ → News h₀ env.locals h n₁ →
      wpAny (model prog w) A (isTrue test env (eval test env)) (fun b s₂ => WhlIf b (wpAny (model prog w) A (execs body env) (InvPostG h₀ env.locals (fun m' nx => ∃ j, j < d ∧ J j m' nx) [] { s with heap := h, toks := tk } Q) E s₂) (wpAny (model prog w) A (execs orelse env) Q E s₂)) E { s with heap := h, toks := tk }) :
    wpAny (model prog w) A (exec (.While test body orelse pos) env) Q E s := by
  have claim : ∀ d m₁ n₁ h tk, J d m₁ n₁ → Fr h₀ env.locals h m₁ → News h₀ env.locals h n₁ → WhlRest prog w A E env test body orelse Q 1 { s with heap := h, toks := tk } := by
    intro d
    induction d using Nat.strongRecOn with
    | ind d IH =>
      intro m₁ n₁ h tk hJ F₁ N₁
      refine whl_turn (k := 0) hE (wpAny_mono (turn d m₁ n₁ h tk hJ F₁ N₁) (fun b s₂ hb => ?_) fun _ _ e => e)
      have fin : ∀ s₃, InvEndG h₀ env.locals (fun m' nx => ∃ j, j < d ∧ J j m' nx) [] { s with heap := h, toks := tk } s₃ → WhlRest prog w A E env test body orelse Q 0 s₃ := by
        rintro s₃ ⟨h', tk', m', news', nx, rfl, F', N', hn, _, _, j, hjd, hJ'⟩
        exact IH j hjd m' nx h' tk' hJ' F' (cb_drop N' hn)
      cases b with
      | true =>
        unfold WhlIf at hb ⊢
        rw [if_pos rfl] at hb ⊢
        refine wpAny_mono hb (fun f s₃ p => ?_) fun _ _ e => e
        cases f with
        | ret v => exact p
        | brk => exact p
        | next => exact fin s₃ p
        | cont => exact fin s₃ p
      | false =>
        unfold WhlIf at hb ⊢
        rw [if_neg Bool.false_ne_true] at hb ⊢
        exact hb
  exact wpAny_While (claim d₀ m₀ news s.heap s.toks hj F N)
end
/-- the contract of a def that is called with words of its own -/
abbrev ClK (w : World) (d u : Nat) (f : Value) (args : Args) (led : List (Addr × Obj)) (Ret : Value → List (Addr × Obj) → Prop) : Prop :=
  ∀ (p : Program) (loose : List Str) (mean : ExcName → Option Value) (mg mb : Str → Option Value) (dp un : Nat) (gd : Option (List Code)) (cn : Str) (cs : Scope) (a : Addr) (ccd : Value) (cl : List (Str × Addr)) (outer : List Env)
    (A₀ : Around) (base h₀ : Heap) (L : Addr) (m : Str → Option Value) (s : Shared) (R : Result → Shared → Prop),
    Below A₀ base outer h₀ → Fr h₀ L s.heap m → (Mine.hd.heap_1 w.params).In h₀ → News h₀ L s.heap led → Top p loose mean mg mb h₀ → cs.kind = .function → dp + d < recursionLimit → un + u < cLine →
    (∀ v led' h' tk', Fr h₀ L h' m → News h₀ L h' led' → Ret v led' → R (.ok (.ret v)) { s with heap := h', toks := tk' }) →
    codeAny (model PySem.Challenge.rw_ta0021_01.prog w) (ktrTop dp un gd cn cs L a ccd cl outer) (.call f args) R s
end
section
open PySem PySem.W PyProof.Rows PySem.Spec PySem.Calls PyProof.Rows.LCg PyProof.Rows.LCt
section
variable {prog : Program} {w : World} {A : Around} {E : Value → Shared → Prop} {s : Shared} {h₀ : Heap} {L : Addr} {m : Str → Option Value} {env : Env}
theorem rangeC_st {I : Addr} {a c : Int} {n : Nat} : ∀ i (h h' : Heap) (o : Obj) (nw : List (Addr × Obj)), IsRangeIter h I (a + (i : Nat) * c) ((n : Int) - (i : Nat)) c → h.get? I = some o → h'.get? I = some o → (∀ b o, h₀.get? b = some o → h'.get? b = some o) → News h₀ L h' nw → True → IsRangeIter h' I (a + (i : Nat) * c) ((n : Int) - (i : Nat)) c :=
  fun i h h' o nw st e e' _ _ _ => by
    have st' : h.get? I = some _ := st
    show h'.get? I = some _
    rw [e', ← e]; exact st'
/-- a list comprehension with one test over a range of any step, unrolled -/
theorem ListComp_RT {ct elt iter : Expr} {x : Str} {px : Pos} {scope : Scope} {cl : List (Str × Addr)} {pos : Pos} {Q : Value → Shared → Prop} (_F₀ : Fr h₀ L s.heap m)
    (hclos : closureFor scope env = pure cl) (hcell : ∀ y ∈ scope.names, y.2 ≠ .cell) (hkind : scope.kind = .function)
    (hnames : ∀ y ∈ scope.names, y.2 = .local → scope.names.lookup y.1 = some .local) (hx : scope.names.lookup x = some .local)
    (h : wpAny (model prog w) A (eval iter env) (fun xv s₁ => ∃ r a b c t u v n news, xv = .ref r ∧ A.handled = none ∧ Fr h₀ L s₁.heap m ∧ News h₀ L s₁.heap news ∧ IsRange s₁.heap r a b c t u v ∧ Builtin.Range.small a b c = true ∧ Builtin.Range.rangeSize a b c = ((n : Nat) : Int) ∧ n ≤ sizeLine ∧
      ∀ g, CompRestT prog w A h₀ L m env ct elt x scope cl { s₁ with heap := g } (fun _ => True) (fun i v => ∃ t, v = .int (a + (i : Int) * c) t) (FinE h₀ L m { s₁ with heap := g } Q) n 0 [] news) E s)
    (hs : ∀ x, foldedSetIterable iter env x = pure x := by intro _; rfl) :
    wpAny (model prog w) A (eval (.ListComp elt [⟨.Name x px, iter, [ct], 0⟩] scope pos) env) Q E s := by
  rw [eval_ListComp]
  refine wpAny_comprehension_free (use := none) rfl hs hclos hkind hnames (wpAny_mono h (fun xv s₁ h₁ => ?_) fun _ _ e => e)
  obtain ⟨r, a, b, c, t, u, v, n, news, rfl, hh, F, N, hr, hsm, hn, hsz, R⟩ := h₁
  refine wpAny_pyIter_range hr hsm ?_
  refine block_T (Walks.range hh s₁.heap.objs.size a c n) hsz (fun i h st => ⟨_, st⟩) rangeC_st hcell hkind hx (by show IsRangeIter _ _ _ _ _; rw [hn]; simpa using Heap.get?_push_size _ rfl) (fun b hb => ?_)
    (F.keeps fun _ _ e => Heap.get?_push_of_some _ e) (N.grown fun _ _ e => Heap.get?_push_of_some _ e) (Nat.ne_of_lt F.ns.lt) (next_is_new F) (fun p hp => Nat.ne_of_lt (Heap.lt_size (N p hp).1)) trivial (R _) ?_
  · rw [List.mem_singleton.mp hb]
    show s₁.heap.objs.size < (s₁.heap.push _).objs.size
    rw [Heap.size_push]; exact Nat.lt_succ_self _
  · intro D C h tk m' ys news' F' N' o1 hn hC₀ hD₀ hCL hDL hCD offC fin
    refine ⟨m', hn, fun h'' hs'' => fin D h'' tk (F'.change hs'' hCL hC₀) (fun p hp => ?_) o1⟩
    refine ⟨hs''.extBut _ _ ?_ (N' p hp).1, (N' p hp).2⟩
    rcases List.mem_cons.mp hp with rfl | hp
    · exact Ne.symm hCD
    · exact offC p hp
end
end
section
open PySem PySem.W PyProof.Rows PySem.Spec PySem.Calls PyProof.Rows.LCg
abbrev tupo (its : Array Value) (c : Nat) : Obj := { cls := .type "tuple", data := .seq its c }
section
variable {prog : Program} {w : World} {A : Around} {E : Value → Shared → Prop} {s : Shared} {h₀ : Heap} {L : Addr} {m : Str → Option Value} {R : Result → Shared → Prop}
theorem news_upd {h h' : Heap} {a : Addr} {o o' : Obj} {rest : List (Addr × Obj)} (N : News h₀ L h ((a, o) :: rest)) (off : ∀ p ∈ rest, p.1 ≠ a) (hk : ∀ b ob, b ∉ [a] → h.get? b = some ob → h'.get? b = some ob) (ho : h'.get? a = some o') : News h₀ L h' ((a, o') :: rest) := by
  intro p hp
  rcases List.mem_cons.mp hp with rfl | hp
  · exact ⟨ho, (N _ (.head _)).2⟩
  · exact ⟨hk _ _ (by simpa using off p hp) (N p (.tail _ hp)).1, (N p (.tail _ hp)).2⟩
theorem but_of {h h' : Heap} {a : Addr} (hs : Heap.SameBut a h h') : ∀ b ob, b ∉ [a] → h.get? b = some ob → h'.get? b = some ob := fun b ob hb e => hs.extBut b ob (by simpa using hb) e
theorem codeAny_compStart1 {elt t0 i0 t1 i1 scope pos it acc env}
    (h0 : codeAny (model prog w) A (.compLoop (.ListComp elt [⟨t0, i0, [], 0⟩, ⟨t1, i1, [], 0⟩] scope pos) 1 it acc env) R s)
    (h : wpAny (model prog w) A (pyIter it) (fun it' s' => codeAny (model prog w) A (.compLoop (.ListComp elt [⟨t0, i0, [], 0⟩, ⟨t1, i1, [], 0⟩] scope pos) 1 it' acc env) R s')
      (notedBy (model prog w) A env fun x s' => R (.error x) s') s) :
    codeAny (model prog w) A (.compStart (.ListComp elt [⟨t0, i0, [], 0⟩, ⟨t1, i1, [], 0⟩] scope pos) 1 it acc env) R s := by
  refine codeAny_of_tree ?_
  show wpAny _ _ ((compStart (.ListComp elt [⟨t0, i0, [], 0⟩, ⟨t1, i1, [], 0⟩] scope pos) 1 it acc env).onRaise (fun x => do noteFrame x env; standAt theWindowsPlace)) _ _ s
  refine wpAny_notedAt ?_
  unfold compStart
  show wpAny _ _ (ask >>= _) _ _ s
  refine wpAny_bind (wpAny_askSetting (wpAny_ite ?_))
  split
  · first
      | exact wpAny_bind (wpAny_pure (wpAny_pure (And.intro rfl h0)))
      | exact wpAny_pure (And.intro rfl h0)
  · first
      | exact wpAny_bind (wpAny_rule (wpAny_bind (wpAny_standAt (wpAny_bind (wpAny_mono h (fun it' s' h' => wpAny_pure (And.intro rfl h')) fun _ _ x => x)))))
      | (refine wpAny_bind (wpAny_rule ?_); show wpAny _ _ (standAt i1.pos >>= _) _ _ s; exact wpAny_bind (wpAny_standAt (wpAny_bind (wpAny_mono h (fun it' s' h' => wpAny_pure (And.intro rfl h')) fun _ _ x => x))))
theorem compTurn_in (elt t0 i0 t1 i1 : Expr) (scope : Scope) (pos : Pos) (it acc : Value) (env : Env) :
    compTurn (.ListComp elt [⟨t0, i0, [], 0⟩, ⟨t1, i1, [], 0⟩] scope pos) 1 it acc env = (standAt i1.pos >>= fun _ => pyNext it >>= fun r => match r with
      | none => pure (.done .next)
      | some v => letOwnedTupleGo t1 it v >>= fun _ => assign t1 env v >>= fun _ =>
        (eval elt env >>= fun x => call (.builtin "list.append") [acc, x] >>= fun _ => pure ()) >>= fun _ =>
          again (.compLoop (.ListComp elt [⟨t0, i0, [], 0⟩, ⟨t1, i1, [], 0⟩] scope pos) 1 it acc env)) := by rfl
theorem compTurn_out (elt t0 i0 t1 i1 : Expr) (scope : Scope) (pos : Pos) (it acc : Value) (env : Env) :
    compTurn (.ListComp elt [⟨t0, i0, [], 0⟩, ⟨t1, i1, [], 0⟩] scope pos) 0 it acc env = (standAt i0.pos >>= fun _ => pyNext it >>= fun r => match r with
      | none => pure (.done .next)
      | some v => letOwnedTupleGo t0 it v >>= fun _ => assign t0 env v >>= fun _ =>
        eval i1 env >>= fun z => standAt i1.pos >>= fun _ => foldedSetIterable i1 env z >>= fun z => holding [z] (pyIter z) >>= fun z' =>
          runOwn (.compStart (.ListComp elt [⟨t0, i0, [], 0⟩, ⟨t1, i1, [], 0⟩] scope pos) 1 z' acc env) env >>= fun _ =>
          again (.compLoop (.ListComp elt [⟨t0, i0, [], 0⟩, ⟨t1, i1, [], 0⟩] scope pos) 0 it acc env)) := by rfl

/-- what the element is told to do: it gives `G a b`, and changes nothing of the ledger -/
abbrev EltC (prog : Program) (w : World) (A : Around) (h₀ : Heap) (L : Addr) (m : Str → Option Value) (env0 : Env) (elt : Expr) (scope : Scope) (cl : List (Str × Addr)) (x y : Str) (led : List (Addr × Obj)) (as bs : List Int) (G : Int → Int → Int) (s : Shared) : Prop :=
  ∀ C oC mC a b ta tb nw h tk (Q : Value → Shared → Prop) (E : Value → Shared → Prop), NsObj oC mC → mC x = some (.int a ta) → mC y = some (.int b tb) → a ∈ as → b ∈ bs → Fr h₀ L h m → News h₀ L h nw → (C, oC) ∈ nw → (∀ p ∈ led, p ∈ nw) →
    (∀ t h' tk', Fr h₀ L h' m → News h₀ L h' nw → Q (.int (G a b) t) { s with heap := h', toks := tk' }) → wpAny (model prog w) A (eval elt (compEnvC scope cl C env0)) Q E { s with heap := h, toks := tk }
/-- an expression that makes a new tuple of these numbers -/
abbrev TupC (prog : Program) (w : World) (A : Around) (h₀ : Heap) (L : Addr) (m : Str → Option Value) (it : Expr) (env : Env) (bs : List Int) (s : Shared) : Prop :=
  ∀ nw h tk (Q : Value → Shared → Prop) (E : Value → Shared → Prop), Fr h₀ L h m → News h₀ L h nw →
    (∀ T its c h' tk', Fr h₀ L h' m → News h₀ L h' ((T, tupo its c) :: nw) → (∀ p ∈ nw, p.1 ≠ T) → IntsAre its.toList bs → Q (.ref T) { s with heap := h', toks := tk' }) → wpAny (model prog w) A (eval it env) Q E { s with heap := h, toks := tk }
theorem ints_idx {vs : List Value} {ns : List Int} (h : IntsAre vs ns) : ∀ {i : Nat} {v : Value}, vs[i]? = some v → ∃ n t, ns[i]? = some n ∧ v = .int n t := by
  induction h with
  | nil => intro i v e; simp at e
  | cons n t _ ih =>
    intro i v e
    cases i with
    | zero => simp at e; subst e; exact ⟨n, t, rfl, rfl⟩
    | succ i => simp at e; exact ih e
theorem ints_snoc {vs : List Value} {ns : List Int} (h : IntsAre vs ns) (n : Int) (t : Tok) : IntsAre (vs ++ [.int n t]) (ns ++ [n]) := by
  induction h with
  | nil => exact .cons _ _ .nil
  | cons k u _ ih => exact .cons _ _ ih
variable {elt i0 i1 : Expr} {x y : Str} {px py : Pos} {scope : Scope} {pos : Pos} {cl : List (Str × Addr)} {env0 : Env} {led : List (Addr × Obj)} {as bs : List Int} {G : Int → Int → Int}
theorem sw1 (p q : Addr × Obj) (r : List (Addr × Obj)) : ∀ z ∈ p :: q :: r, z ∈ q :: p :: r :=
  List.forall_mem_cons.mpr ⟨.tail _ (.head _), List.forall_mem_cons.mpr ⟨.head _, fun _ h => .tail _ (.tail _ h)⟩⟩
theorem sw2 (p q u : Addr × Obj) (r : List (Addr × Obj)) : ∀ z ∈ u :: p :: q :: r, z ∈ p :: q :: u :: r :=
  List.forall_mem_cons.mpr ⟨.tail _ (.tail _ (.head _)), List.forall_mem_cons.mpr ⟨.head _, List.forall_mem_cons.mpr ⟨.tail _ (.head _), fun _ h => .tail _ (.tail _ (.tail _ h))⟩⟩⟩
theorem sw3 (p q u : Addr × Obj) (r : List (Addr × Obj)) : ∀ z ∈ p :: q :: u :: r, z ∈ u :: p :: q :: r :=
  List.forall_mem_cons.mpr ⟨.tail _ (.head _), List.forall_mem_cons.mpr ⟨.tail _ (.tail _ (.head _)), List.forall_mem_cons.mpr ⟨.head _, fun _ h => .tail _ (.tail _ (.tail _ h))⟩⟩⟩
theorem n6 {C D T2 I : Addr × Obj} {nw : List (Addr × Obj)} : ∀ p ∈ C :: D :: T2 :: I :: nw, p ∈ T2 :: I :: C :: D :: nw :=
  List.forall_mem_cons.mpr ⟨.tail _ (.tail _ (.head _)), List.forall_mem_cons.mpr ⟨.tail _ (.tail _ (.tail _ (.head _))), List.forall_mem_cons.mpr ⟨.head _, List.forall_mem_cons.mpr ⟨.tail _ (.head _), fun _ h => .tail _ (.tail _ (.tail _ (.tail _ h)))⟩⟩⟩⟩
theorem inner_loop (hh : A.handled = none) (hy : scope.names.lookup y = some .local) (hkind : scope.kind = .function) (hxy : x ≠ y) (helt : EltC prog w A h₀ L m env0 elt scope cl x y led as bs G s)
    {J T2 C D : Addr} {its : Array Value} {c : Nat} {a : Int} {ta : Tok} (ha : a ∈ as) (zs : List Int) {nw : List (Addr × Obj)} (hTJ : T2 ≠ J) (hits : IntsAre its.toList bs) (hled : ∀ p ∈ led, p ∈ nw) (hT2 : (T2, tupo its c) ∈ nw) (off : Off3 J C D nw) (nJC : J ≠ C) (nJD : J ≠ D) (nCD : C ≠ D)
    (hsz : zs.length + bs.length ≤ sizeLine)
    (done : ∀ h tk oC mC ys, Fr h₀ L h m → News h₀ L h ((C, oC) :: (D, lst ys) :: nw) → NsObj oC mC → IntsAre ys (zs ++ bs.map (G a)) → R (.ok .next) { s with heap := h, toks := tk })
    {h : Heap} {tk : Tok} {oJ oC : Obj} {mC : Str → Option Value} {ys : List Value} (hit : h.IsTupleIter J T2 0) (F : Fr h₀ L h m) (N : News h₀ L h ((J, oJ) :: (C, oC) :: (D, lst ys) :: nw)) (hC : NsObj oC mC) (hx : mC x = some (.int a ta)) (hys : IntsAre ys zs) :
    codeAny (model prog w) A (.compLoop (.ListComp elt [⟨.Name x px, i0, [], 0⟩, ⟨.Name y py, i1, [], 0⟩] scope pos) 1 (.ref J) (.ref D) (compEnvC scope cl C env0)) R { s with heap := h, toks := tk } := by
  have hlen : its.size = bs.length := by rw [← Array.length_toList, hits.length]
  have offm := off.mem
  have rJ : ∀ oC oD, ∀ p ∈ (C, oC) :: (D, oD) :: nw, p.1 ≠ J := fun oC oD => List.forall_mem_cons.mpr ⟨nJC.symm, List.forall_mem_cons.mpr ⟨nJD.symm, fun p hp => (offm p hp).1⟩⟩
  have rC : ∀ oJ oD, ∀ p ∈ (J, oJ) :: (D, oD) :: nw, p.1 ≠ C := fun oJ oD => List.forall_mem_cons.mpr ⟨nJC, List.forall_mem_cons.mpr ⟨nCD.symm, fun p hp => (offm p hp).2.1⟩⟩
  have rD : ∀ oJ oC, ∀ p ∈ (J, oJ) :: (C, oC) :: nw, p.1 ≠ D := fun oJ oC => List.forall_mem_cons.mpr ⟨nJD, List.forall_mem_cons.mpr ⟨nCD, fun p hp => (offm p hp).2.2⟩⟩
  refine codeAny_loop rfl (fun k s' => ∃ h tk j oJ oC mC ys, s' = { s with heap := h, toks := tk } ∧ j ≤ bs.length ∧ k = bs.length + 1 - j ∧ h.IsTupleIter J T2 j ∧ Fr h₀ L h m ∧ News h₀ L h ((J, oJ) :: (C, oC) :: (D, lst ys) :: nw) ∧ NsObj oC mC ∧ mC x = some (.int a ta) ∧ IntsAre ys (zs ++ (bs.take j).map (G a)))
    (fun k s' hI => ?_) (bs.length + 1) ⟨h, tk, 0, oJ, oC, mC, ys, rfl, Nat.zero_le _, rfl, hit, F, N, hC, hx, by simpa using hys⟩
  refine gp fun G9 k9 => ?_
  obtain ⟨h, tk, j, oJ, oC, mC, ys, rfl, hj, rfl, hit, F, N, hC, hx, hys⟩ := hI
  refine k9 ?_; clear k9 G9
  show wpAny _ A ((compTurn (.ListComp elt [⟨.Name x px, i0, [], 0⟩, ⟨.Name y py, i1, [], 0⟩] scope pos) 1 (.ref J) (.ref D) (compEnvC scope cl C env0)).onRaise (fun x => do noteFrame x (compEnvC scope cl C env0); theTreesLotGoes x)) _ _ _
  refine wpAny_noted ?_
  rw [compTurn_in]
  refine wpAny_bind (wpAny_standAt (wpAny_bind ?_))
  have hT : h.IsTuple T2 its := ⟨_, (N _ (.tail _ (.tail _ (.tail _ hT2)))).1, rfl, _, rfl⟩
  have W := Walks.tuple (prog := prog) (w := w) (A := A) hh J T2 hTJ its
  have nJ := N (J, oJ) (.head _)
  have nC := N (C, oC) (.tail _ (.head _))
  have nD := N (D, lst ys) (.tail _ (.tail _ (.head _)))
  by_cases hlt : j < bs.length
  · refine W.item j _ _ _ (by rw [hlen]; exact hlt) ⟨hit, hT⟩ fun v h₂ tk₂ hv hst₂ hk₂ => ?_
    dsimp only
    have hv' : its.toList[j]? = some v := by simpa using hv
    refine gp fun G9 k9 => ?_
    obtain ⟨b, tb, hb, rfl⟩ := ints_idx hits hv'
    refine k9 ?_; clear k9 G9
    refine wpAny_bind (wpAny_of_eq (show letOwnedTupleGo _ _ _ = pure () from rfl) (wpAny_bind ?_))
    have F₂ : Fr h₀ L h₂ m := fr_but F hk₂ (Ne.symm nJ.2.1) nJ.2.2
    refine gp fun G9 k9 => ?_
    obtain ⟨oJ₂, hoJ₂⟩ : ∃ o, h₂.get? J = some o := by obtain ⟨o, e, _⟩ := hst₂.1; exact ⟨o, e⟩
    refine k9 ?_; clear k9 G9
    have N₂ := news_upd N (rJ _ _) hk₂ hoJ₂
    have nC₂ := N₂ (C, oC) (.tail _ (.head _))
    refine wpAny_assign_Name (wpAny_storeName_local (lookup_relabel_local hy) (hC.ns nC₂.1) (fun h₃ hn₃ hs₃ => ?_) (by simp [compEnvC, relabel, hkind]))
    refine gp fun G9 k9 => ?_
    obtain ⟨oC₃, heC₃, hoC₃⟩ := ns_obj hn₃
    refine k9 ?_; clear k9 G9
    have F₃ : Fr h₀ L h₃ m := F₂.change hs₃ nC.2.1 nC.2.2
    have N₃ := cb_drop (news_upd (cb_drop N₂ (sw1 _ _ _)) (rC _ _) (but_of hs₃) heC₃) (sw1 _ _ _)
    refine wpAny_bind (wpAny_bind ?_)
    refine helt C oC₃ _ a b ta tb _ h₃ _ _ _ hoC₃ (by simp [hxy, hx]) (by simp) ha (List.mem_of_getElem? hb) F₃ N₃ (.tail _ (.head _)) (fun p hp => .tail _ (.tail _ (.tail _ (hled p hp)))) fun t h₄ tk₄ F₄ N₄ => ?_
    refine wpAny_bind ?_
    have nD₄ := N₄ (D, lst ys) (.tail _ (.tail _ (.head _)))
    have hyl : ys.length = zs.length + (bs.take j).length := by rw [hys.length]; simp
    refine append_at (hsz := by show ys.toArray.size ≤ sizeLine; rw [List.size_toArray, hyl, List.length_take]; omega) nD₄.1 fun h₅ hs₅ hD₅ => ?_
    have F₅ : Fr h₀ L h₅ m := F₄.change hs₅ nD.2.1 nD.2.2
    have N₅ := cb_drop (news_upd (cb_drop N₄ (sw2 _ _ _ _)) (rD _ _) (but_of hs₅) (hD₅.trans (congrArg some (lst_snoc ys _)))) (sw3 _ _ _ _)
    refine wpAny_pure (wpAny_pure ⟨rfl, bs.length + 1 - (j + 1), by omega, h₅, _, j + 1, oJ₂, oC₃, _, _, rfl, hlt, rfl, ?_, F₅, N₅, hoC₃, by simp [hxy, hx], ?_⟩)
    · obtain ⟨oj, ej, rest⟩ := hst₂.1
      rw [hoJ₂] at ej
      cases ej
      exact ⟨oJ₂, (N₅ _ (.head _)).1, rest⟩
    · have e : bs.take (j + 1) = bs.take j ++ [b] := by rw [List.take_add_one, hb]; rfl
      rw [e, List.map_append, ← List.append_assoc]
      exact ints_snoc hys _ _
  · obtain rfl : j = bs.length := Nat.le_antisymm hj (Nat.not_lt.mp hlt)
    refine W.done _ _ _ ⟨by rw [hlen]; exact hit, hT⟩ fun h₂ tk₂ hk₂ => ?_
    dsimp only
    have F₂ : Fr h₀ L h₂ m := fr_but F hk₂ (Ne.symm nJ.2.1) nJ.2.2
    have N₂ := news_but (cb_drop N fun p hp => .tail _ hp) hk₂ (rJ oC (lst ys))
    rw [List.take_length] at hys
    exact wpAny_pure (done _ _ _ _ _ F₂ N₂ hC hys)
theorem start_self {t0 t1 : Expr} {acc : Value} {env : Env} {J T2 : Addr} {its : Array Value} (hh : A.handled = none) (hTJ : T2 ≠ J) (hit : s.heap.IsTupleIter J T2 0) (hT : s.heap.IsTuple T2 its)
    (loop : codeAny (model prog w) A (.compLoop (.ListComp elt [⟨t0, i0, [], 0⟩, ⟨t1, i1, [], 0⟩] scope pos) 1 (.ref J) acc env) R s) : codeAny (model prog w) A (.compStart (.ListComp elt [⟨t0, i0, [], 0⟩, ⟨t1, i1, [], 0⟩] scope pos) 1 (.ref J) acc env) R s :=
  codeAny_compStart1 loop ((Walks.tuple (prog := prog) (w := w) (A := A) hh J T2 hTJ its).self 0 _ _ _ ⟨hit, hT⟩ loop)
theorem start_self0 {t0 t1 : Expr} {acc : Value} {env : Env} {J T2 : Addr} {its : Array Value} (hh : A.handled = none) (hTJ : T2 ≠ J) (hit : s.heap.IsTupleIter J T2 0) (hT : s.heap.IsTuple T2 its)
    (loop : codeAny (model prog w) A (.compLoop (.ListComp elt [⟨t0, i0, [], 0⟩, ⟨t1, i1, [], 0⟩] scope pos) 0 (.ref J) acc env) R s) : codeAny (model prog w) A (.compStart (.ListComp elt [⟨t0, i0, [], 0⟩, ⟨t1, i1, [], 0⟩] scope pos) 0 (.ref J) acc env) R s :=
  codeAny_compStart_list loop ((Walks.tuple (prog := prog) (w := w) (A := A) hh J T2 hTJ its).self 0 _ _ _ ⟨hit, hT⟩ loop)
theorem flen (bs : List Int) (G : Int → Int → Int) : ∀ l : List Int, (l.flatMap fun a => bs.map (G a)).length = l.length * bs.length
  | [] => by simp
  | a :: r => by rw [List.flatMap_cons, List.length_append, List.length_map, flen bs G r, List.length_cons, Nat.succ_mul, Nat.add_comm]
theorem outer_loop (hh : A.handled = none) (hx : scope.names.lookup x = some .local) (hy : scope.names.lookup y = some .local) (hkind : scope.kind = .function) (hxy : x ≠ y) (t1 : ∀ C, TupC prog w A h₀ L m i1 (compEnvC scope cl C env0) bs s) (helt : EltC prog w A h₀ L m env0 elt scope cl x y led as bs G s)
    (hs1 : ∀ C z, foldedSetIterable i1 (compEnvC scope cl C env0) z = pure z)
    {I T C D : Addr} {its : Array Value} {c : Nat} {nw : List (Addr × Obj)} (hTI : T ≠ I) (hits : IntsAre its.toList as) (hled : ∀ p ∈ led, p ∈ nw) (hT : (T, tupo its c) ∈ nw) (off : Off3 I C D nw) (nIC : I ≠ C) (nID : I ≠ D) (nCD : C ≠ D)
    (hsz : as.length * bs.length ≤ sizeLine)
    (done : ∀ h tk oC mC ys, Fr h₀ L h m → News h₀ L h ((C, oC) :: (D, lst ys) :: nw) → NsObj oC mC → IntsAre ys (as.flatMap fun a => bs.map (G a)) → R (.ok .next) { s with heap := h, toks := tk })
    {h : Heap} {tk : Tok} {oI oC : Obj} {mC : Str → Option Value} (hit : h.IsTupleIter I T 0) (F : Fr h₀ L h m) (N : News h₀ L h ((I, oI) :: (C, oC) :: (D, lst []) :: nw)) (hC : NsObj oC mC) :
    codeAny (model prog w) A (.compLoop (.ListComp elt [⟨.Name x px, i0, [], 0⟩, ⟨.Name y py, i1, [], 0⟩] scope pos) 0 (.ref I) (.ref D) (compEnvC scope cl C env0)) R { s with heap := h, toks := tk } := by
  have hlen : its.size = as.length := by rw [← Array.length_toList, hits.length]
  have offm := off.mem
  have rI : ∀ oC oD, ∀ p ∈ (C, oC) :: (D, oD) :: nw, p.1 ≠ I := fun oC oD => List.forall_mem_cons.mpr ⟨nIC.symm, List.forall_mem_cons.mpr ⟨nID.symm, fun p hp => (offm p hp).1⟩⟩
  have rC : ∀ oI oD, ∀ p ∈ (I, oI) :: (D, oD) :: nw, p.1 ≠ C := fun oI oD => List.forall_mem_cons.mpr ⟨nIC, List.forall_mem_cons.mpr ⟨nCD.symm, fun p hp => (offm p hp).2.1⟩⟩
  refine codeAny_loop rfl (fun k s' => ∃ h tk i oI oC mC ys, s' = { s with heap := h, toks := tk } ∧ i ≤ as.length ∧ k = as.length + 1 - i ∧ h.IsTupleIter I T i ∧ Fr h₀ L h m ∧ News h₀ L h ((I, oI) :: (C, oC) :: (D, lst ys) :: nw) ∧ NsObj oC mC ∧ IntsAre ys ((as.take i).flatMap fun a => bs.map (G a)))
    (fun k s' hI => ?_) (as.length + 1) ⟨h, tk, 0, oI, oC, mC, [], rfl, Nat.zero_le _, rfl, hit, F, N, hC, .nil⟩
  refine gp fun G9 k9 => ?_
  obtain ⟨h, tk, i, oI, oC, mC, ys, rfl, hi, rfl, hit, F, N, hC, hys⟩ := hI
  refine k9 ?_; clear k9 G9
  show wpAny _ A ((compTurn (.ListComp elt [⟨.Name x px, i0, [], 0⟩, ⟨.Name y py, i1, [], 0⟩] scope pos) 0 (.ref I) (.ref D) (compEnvC scope cl C env0)).onRaise (fun x => do noteFrame x (compEnvC scope cl C env0); theTreesLotGoes x)) _ _ _
  refine wpAny_noted ?_
  rw [compTurn_out]
  refine wpAny_bind (wpAny_standAt (wpAny_bind ?_))
  have hTt : h.IsTuple T its := ⟨_, (N _ (.tail _ (.tail _ (.tail _ hT)))).1, rfl, _, rfl⟩
  have W := Walks.tuple (prog := prog) (w := w) (A := A) hh I T hTI its
  have nI := N (I, oI) (.head _)
  have nC := N (C, oC) (.tail _ (.head _))
  by_cases hlt : i < as.length
  · refine W.item i _ _ _ (by rw [hlen]; exact hlt) ⟨hit, hTt⟩ fun v h₂ tk₂ hv hst₂ hk₂ => ?_
    dsimp only
    have hv' : its.toList[i]? = some v := by simpa using hv
    refine gp fun G9 k9 => ?_
    obtain ⟨a, ta, ha, rfl⟩ := ints_idx hits hv'
    refine k9 ?_; clear k9 G9
    refine wpAny_bind (wpAny_of_eq (show letOwnedTupleGo _ _ _ = pure () from rfl) (wpAny_bind ?_))
    have F₂ : Fr h₀ L h₂ m := fr_but F hk₂ (Ne.symm nI.2.1) nI.2.2
    refine gp fun G9 k9 => ?_
    obtain ⟨oI₂, hoI₂⟩ : ∃ o, h₂.get? I = some o := by obtain ⟨o, e, _⟩ := hst₂.1; exact ⟨o, e⟩
    refine k9 ?_; clear k9 G9
    have N₂ := news_upd N (rI _ _) hk₂ hoI₂
    have nC₂ := N₂ (C, oC) (.tail _ (.head _))
    refine wpAny_assign_Name (wpAny_storeName_local (lookup_relabel_local hx) (hC.ns nC₂.1) (fun h₃ hn₃ hs₃ => ?_) (by simp [compEnvC, relabel, hkind]))
    refine gp fun G9 k9 => ?_
    obtain ⟨oC₃, heC₃, hoC₃⟩ := ns_obj hn₃
    refine k9 ?_; clear k9 G9
    have F₃ : Fr h₀ L h₃ m := F₂.change hs₃ nC.2.1 nC.2.2
    have N₃ := cb_drop (news_upd (cb_drop N₂ (sw1 _ _ _)) (rC _ _) (but_of hs₃) heC₃) (sw1 _ _ _)
    refine wpAny_bind ?_
    refine t1 C _ h₃ _ _ _ F₃ N₃ fun T2 its2 c2 h₄ tk₄ F₄ N₄ offT hits2 => ?_
    refine wpAny_bind (wpAny_standAt (wpAny_bind (wpAny_of_eq (hs1 C _) (wpAny_bind (wpAny_holding ?_)))))
    have nT2 := N₄ (T2, tupo its2 c2) (.head _)
    refine wpAny_pyIter_tuple ⟨_, nT2.1, rfl, _, rfl⟩ ?_
    dsimp only
    have F₅ := F₄.push { cls := .type "tuple_iterator", data := .fields #[.ref T2, .int 0 0] }
    have N₅ : News h₀ L (h₄.push { cls := .type "tuple_iterator", data := .fields #[.ref T2, .int 0 0] }) _ := N₄.grown fun b x e => Heap.get?_push_of_some _ e
    have hJ := Heap.get?_push_size h₄ (o := { cls := .type "tuple_iterator", data := .fields #[.ref T2, .int 0 0] }) rfl
    have hJlt : ∀ p ∈ (T2, tupo its2 c2) :: (I, oI₂) :: (C, oC₃) :: (D, lst ys) :: nw, p.1 ≠ h₄.objs.size := fun p hp => Nat.ne_of_lt (Heap.lt_size (N₄ p hp).1)
    have hJL : h₄.objs.size ≠ L := Ne.symm (Nat.ne_of_lt F₄.ns.lt)
    have hJ0 : h₀.get? h₄.objs.size = none := next_is_new F₄
    generalize hg5 : h₄.push { cls := .type "tuple_iterator", data := .fields #[.ref T2, .int 0 0] } = h₅ at F₅ N₅ hJ ⊢
    generalize h₄.objs.size = J at hJ hJlt hJL hJ0 ⊢
    have hit2 : h₅.IsTupleIter J T2 0 := ⟨_, hJ, rfl, rfl⟩
    have W2 := Walks.tuple (prog := prog) (w := w) (A := A) hh J T2 (hJlt _ (.head _)) its2
    have hT25 : h₅.IsTuple T2 its2 := ⟨_, (N₅ _ (.head _)).1, rfl, _, rfl⟩
    have N₆ : News h₀ L h₅ ((J, { cls := .type "tuple_iterator", data := .fields #[.ref T2, .int 0 0] }) :: (C, oC₃) :: (D, lst ys) :: (T2, tupo its2 c2) :: (I, oI₂) :: nw) := by
      exact List.forall_mem_cons.mpr ⟨⟨hJ, hJL, hJ0⟩, fun p hp => N₅ p (n6 p hp)⟩
    have off6 : Off3 J C D ((T2, tupo its2 c2) :: (I, oI₂) :: nw) := Off3.of fun p hp => by
      rcases List.mem_cons.mp hp with rfl | hp
      · exact ⟨hJlt _ (.head _), (offT _ (.tail _ (.head _))).symm, (offT _ (.tail _ (.tail _ (.head _)))).symm⟩
      · rcases List.mem_cons.mp hp with rfl | hp
        · exact ⟨hJlt _ (.tail _ (.head _)), nIC, nID⟩
        · exact ⟨hJlt _ (.tail _ (.tail _ (.tail _ (.tail _ hp)))), (offm p hp).2⟩
    have hzl : ((as.take i).flatMap fun a => bs.map (G a)).length + bs.length ≤ sizeLine := by
      rw [flen, List.length_take, Nat.min_eq_left hi]
      have : (i + 1) * bs.length ≤ as.length * bs.length := Nat.mul_le_mul_right _ hlt
      rw [Nat.succ_mul] at this
      omega
    refine wpAny_bind (wpAny_runOwn ?_)
    show codeAny _ A _ _ _
    refine start_self hh (hJlt _ (.head _)) hit2 hT25 (inner_loop (ta := ta) hh hy hkind hxy helt (List.mem_of_getElem? ha) ((as.take i).flatMap fun a => bs.map (G a)) (hJlt _ (.head _)) hits2 (fun p hp => .tail _ (.tail _ (hled p hp))) (.head _) off6 (Ne.symm (hJlt _ (.tail _ (.tail _ (.head _))))) (Ne.symm (hJlt _ (.tail _ (.tail _ (.tail _ (.head _)))))) nCD hzl
        (fun h₇ tk₇ oC₇ mC₇ ys₇ F₇ N₇ hC₇ hys₇ => ?_) hit2 F₅ N₆ hoC₃ (by simp) hys)
    · dsimp only
      refine wpAny_pure ⟨rfl, as.length + 1 - (i + 1), by omega, h₇, _, i + 1, oI₂, oC₇, _, ys₇, rfl, hlt, rfl, ?_, F₇, ?_, hC₇, ?_⟩
      · obtain ⟨oj, ej, rest⟩ := hst₂.1
        rw [hoI₂] at ej
        cases ej
        exact ⟨oI₂, (N₇ _ (.tail _ (.tail _ (.tail _ (.head _))))).1, rest⟩
      · refine cb_drop N₇ fun p hp => ?_
        rcases List.mem_cons.mp hp with rfl | hp
        · exact .tail _ (.tail _ (.tail _ (.head _)))
        · rcases List.mem_cons.mp hp with rfl | hp
          · exact .head _
          · rcases List.mem_cons.mp hp with rfl | hp
            · exact .tail _ (.head _)
            · exact .tail _ (.tail _ (.tail _ (.tail _ hp)))
      · have e : as.take (i + 1) = as.take i ++ [a] := by rw [List.take_add_one, ha]; rfl
        rw [e, List.flatMap_append]
        simpa using hys₇
  · obtain rfl : i = as.length := Nat.le_antisymm hi (Nat.not_lt.mp hlt)
    refine W.done _ _ _ ⟨by rw [hlen]; exact hit, hTt⟩ fun h₂ tk₂ hk₂ => ?_
    dsimp only
    have F₂ : Fr h₀ L h₂ m := fr_but F hk₂ (Ne.symm nI.2.1) nI.2.2
    have N₂ := news_but (cb_drop N fun p hp => .tail _ hp) hk₂ (rI oC (lst ys))
    rw [List.take_length] at hys
    exact wpAny_pure (done _ _ _ _ _ F₂ N₂ hC hys)
theorem ListComp_NN (hh : A.handled = none) (F₀ : Fr h₀ L s.heap m) (N₀ : News h₀ L s.heap led) {Q : Value → Shared → Prop}
    (hclos : closureFor scope env0 = pure cl) (hcell : ∀ z ∈ scope.names, z.2 ≠ .cell) (hkind : scope.kind = .function)
    (hnames : ∀ z ∈ scope.names, z.2 = .local → scope.names.lookup z.1 = some .local) (hx : scope.names.lookup x = some .local) (hy : scope.names.lookup y = some .local) (hxy : x ≠ y)
    (t0 : TupC prog w A h₀ L m i0 env0 as s) (t1 : ∀ C, TupC prog w A h₀ L m i1 (compEnvC scope cl C env0) bs s) (helt : EltC prog w A h₀ L m env0 elt scope cl x y led as bs G s)
    (hsz : as.length * bs.length ≤ sizeLine)
    (hs0 : ∀ z, foldedSetIterable i0 env0 z = pure z) (hs1 : ∀ C z, foldedSetIterable i1 (compEnvC scope cl C env0) z = pure z)
    (h : ∀ D ys h' tk', Fr h₀ L h' m → News h₀ L h' ((D, lst ys) :: led) → (∀ p ∈ led, p.1 ≠ D) → IntsAre ys (as.flatMap fun a => bs.map (G a)) → Q (.ref D) { s with heap := h', toks := tk' }) :
    wpAny (model prog w) A (eval (.ListComp elt [⟨.Name x px, i0, [], 0⟩, ⟨.Name y py, i1, [], 0⟩] scope pos) env0) Q E s := by
  rw [eval_ListComp]
  refine wpAny_comprehension_free (use := none) rfl hs0 hclos hkind hnames ?_
  refine t0 led s.heap s.toks _ _ F₀ N₀ fun T its c h1 tk1 F1 N1 offT hits => ?_
  have nT := N1 (T, tupo its c) (.head _)
  refine wpAny_pyIter_tuple ⟨_, nT.1, rfl, _, rfl⟩ ?_
  dsimp only
  refine wpAny_newObj_type (wpAny_newFunctionEnv hcell (by intro y hy; simp at hy) (fun h₂ hns hsb => ?_) hkind)
  dsimp only at hns hsb ⊢
  have g1 : ∀ a, h1.objs.size ≤ a → h₀.get? a = none := fun a ha => by
    cases e : h₀.get? a with
    | none => rfl
    | some o => exact absurd (Heap.lt_size (F1.keep a o e)) (Nat.not_lt.mpr ha)
  have hL1 : @LT.lt Nat _ L h1.objs.size := F1.ns.lt
  have N1lt : ∀ p ∈ (T, tupo its c) :: led, @LT.lt Nat _ p.1 h1.objs.size := fun p hp => Heap.lt_size (N1 p hp).1
  generalize hoI : ({ cls := .type "tuple_iterator", data := .fields #[.ref T, .int 0 0] } : Obj) = oI at hns hsb ⊢
  generalize hH1 : h1.push oI = H1 at hns hsb ⊢
  have sI : H1.get? h1.objs.size = some oI := by rw [← hH1]; exact Heap.get?_push_size _ (by rw [← hoI]; rfl)
  have k1 : ∀ b o, h1.get? b = some o → H1.get? b = some o := fun b o e => by rw [← hH1]; exact Heap.get?_push_of_some _ e
  have z1 : H1.objs.size = h1.objs.size + 1 := by rw [← hH1, Heap.size_push]
  generalize hH2 : H1.push { cls := .type "list", dict := none, data := .seq ([] : List Value).toArray } = H2 at hns hsb ⊢
  have sD : H2.get? H1.objs.size = some (lst []) := by rw [← hH2]; exact Heap.get?_push_size _ rfl
  have k2 : ∀ b o, H1.get? b = some o → H2.get? b = some o := fun b o e => by rw [← hH2]; exact Heap.get?_push_of_some _ e
  have z2 : H2.objs.size = H1.objs.size + 1 := by rw [← hH2, Heap.size_push]
  have k3 : ∀ b o, b < H2.objs.size → H2.get? b = some o → h₂.get? b = some o := fun b o hb e => hsb.extBut b o (Nat.ne_of_lt hb) (Heap.get?_push_of_some _ e)
  obtain ⟨oC, heC, hoC⟩ := ns_obj hns
  have F2 : Fr h₀ L h₂ m := F1.keeps fun b o e => k3 b o (by have : @LT.lt Nat _ b h1.objs.size := Heap.lt_size e; show @LT.lt Nat _ b H2.objs.size; omega) (k2 _ _ (k1 _ _ e))
  have hI2 : h₂.get? h1.objs.size = some oI := k3 _ _ (by omega) (k2 _ _ sI)
  have N2 : News h₀ L h₂ ((h1.objs.size, oI) :: (H2.objs.size, oC) :: (H1.objs.size, lst []) :: (T, tupo its c) :: led) := by
    intro p hp
    rcases List.mem_cons.mp hp with rfl | hp
    · exact ⟨hI2, by show @Ne Nat _ _; omega, g1 _ (Nat.le_refl _)⟩
    · rcases List.mem_cons.mp hp with rfl | hp
      · exact ⟨heC, by show @Ne Nat _ _; dsimp only; omega, g1 _ (by dsimp only; omega)⟩
      · rcases List.mem_cons.mp hp with rfl | hp
        · exact ⟨k3 _ _ (by dsimp only; omega) sD, by show @Ne Nat _ _; dsimp only; omega, g1 _ (by dsimp only; omega)⟩
        · have := N1lt p hp
          exact ⟨k3 _ _ (by show @LT.lt Nat _ _ _; omega) (k2 _ _ (k1 _ _ (N1 p hp).1)), (N1 p hp).2⟩
  have offI : Off3 h1.objs.size H2.objs.size H1.objs.size ((T, tupo its c) :: led) := Off3.of fun p hp => by
    have := N1lt p hp
    exact ⟨by show @Ne Nat _ _; omega, by show @Ne Nat _ _; omega, by show @Ne Nat _ _; omega⟩
  have hit : h₂.IsTupleIter h1.objs.size T 0 := ⟨oI, hI2, by rw [← hoI], by rw [← hoI]; rfl⟩
  have hTI : T ≠ h1.objs.size := Nat.ne_of_lt (N1lt _ (.head _))
  refine start_self0 hh hTI hit ⟨_, (N2 _ (.tail _ (.tail _ (.tail _ (.head _))))).1, rfl, _, rfl⟩ (outer_loop (R := compPost (model prog w) A E none Q (.ref H1.objs.size) H2.objs.size) (i0 := i0) (px := px) (py := py) (pos := pos) (tk := tk1 + ([] : List (Str × Value)).length) hh hx hy hkind hxy t1 helt hs1 (I := h1.objs.size) (C := H2.objs.size) (D := H1.objs.size) hTI hits (fun p hp => .tail _ hp) (.head _) offI (by show @Ne Nat _ _; omega) (by show @Ne Nat _ _; omega) (by show @Ne Nat _ _; omega) hsz
    (fun h₇ tk₇ oC₇ mC₇ ys₇ F₇ N₇ hC₇ hys₇ => ?_) hit F2 N2 hoC)
  · refine ⟨mC₇, hC₇.ns (N₇ _ (.head _)).1, fun h' hs' => ?_⟩
    have nC := N₇ (H2.objs.size, oC₇) (.head _)
    refine h _ ys₇ h' _ (F₇.change hs' nC.2.1 nC.2.2) (fun p hp => ?_) (fun p hp => by have := N1lt p (.tail _ hp); show @Ne Nat _ _; omega) hys₇
    have hp' : p ∈ (H2.objs.size, oC₇) :: (H1.objs.size, lst ys₇) :: (T, tupo its c) :: led := by
      rcases List.mem_cons.mp hp with rfl | hp
      · exact .tail _ (.head _)
      · exact .tail _ (.tail _ (.tail _ hp))
    refine ⟨hs'.extBut _ _ ?_ (N₇ p hp').1, (N₇ p hp').2⟩
    rcases List.mem_cons.mp hp with rfl | hp
    · show @Ne Nat _ _; dsimp only; omega
    · have := N1lt p (.tail _ hp); show @Ne Nat _ _; omega
end
end
section
open PySem PySem.W PyProof.Rows PySem.Spec PySem.Calls
/-- the k lowest digits of x to the base 2^n, the lowest first -/
noncomputable def dg (n : Nat) : Nat → Nat → List Int
  | _, 0 => []
  | x, k + 1 => ((x % 2 ^ n : Nat) : Int) :: dg n (x / 2 ^ n) k
theorem dg_len (n : Nat) : ∀ (k x : Nat), (dg n x k).length = k
  | 0, _ => rfl
  | k + 1, x => by rw [dg, List.length_cons, dg_len n k]
theorem dg_one {n x : Nat} (h : x < 2 ^ n) : dg n x 1 = [(x : Int)] := by
  rw [dg, dg, Nat.mod_eq_of_lt h]
theorem dg_split (n k2 : Nat) : ∀ (k1 x : Nat), dg n x (k1 + k2) = dg n (x % 2 ^ (n * k1)) k1 ++ dg n (x / 2 ^ (n * k1)) k2
  | 0, x => by
    rw [Nat.mul_zero, Nat.pow_zero, Nat.div_one, Nat.zero_add, dg, List.nil_append]
  | k1 + 1, x => by
    have e : k1 + 1 + k2 = (k1 + k2) + 1 := by omega
    have hp : 2 ^ (n * (k1 + 1)) = 2 ^ n * 2 ^ (n * k1) := by rw [Nat.mul_succ, Nat.pow_add, Nat.mul_comm]
    rw [e, dg, dg, dg_split n k2 k1, hp, List.cons_append]
    have e1 : x % (2 ^ n * 2 ^ (n * k1)) % 2 ^ n = x % 2 ^ n := Nat.mod_mul_right_mod x _ _
    have e2 : x % (2 ^ n * 2 ^ (n * k1)) / 2 ^ n = x / 2 ^ n % 2 ^ (n * k1) := Nat.mod_mul_right_div_self x _ _
    have e3 : x / (2 ^ n * 2 ^ (n * k1)) = x / 2 ^ n / 2 ^ (n * k1) := (Nat.div_div_eq_div_mul x _ _).symm
    rw [e1, e2, e3]
/-- a list's part from lo on, written anew -/
noncomputable def wr (ns : List Int) (lo : Nat) (ds : List Int) : List Int := ns.take lo ++ ds ++ ns.drop (lo + ds.length)
theorem wr_len {ns ds : List Int} {lo : Nat} (h : lo + ds.length ≤ ns.length) : (wr ns lo ds).length = ns.length := by
  simp only [wr, List.length_append, List.length_take, List.length_drop]; omega
theorem wr_wr {ns a b : List Int} {lo : Nat} (h : lo + a.length + b.length ≤ ns.length) : wr (wr ns lo a) (lo + a.length) b = wr ns lo (a ++ b) := by
  have h1 : (ns.take lo ++ a).length = lo + a.length := by simp only [List.length_append, List.length_take]; omega
  unfold wr
  rw [List.take_left' h1, List.length_append]
  have h2 : (ns.take lo ++ a ++ ns.drop (lo + a.length)).drop (lo + a.length + b.length) = ns.drop (lo + (a.length + b.length)) := by
    rw [← h1, ← List.drop_drop, List.drop_left, h1, List.drop_drop, Nat.add_assoc]
  rw [h2]
  simp only [List.append_assoc]
theorem wr_one {ns : List Int} {lo : Nat} (x : Int) (h : lo < ns.length) : ns.set lo x = wr ns lo [x] := by
  rw [List.set_eq_take_append_cons_drop, if_pos h]; simp [wr]
theorem wr_all {ns ds : List Int} (h : ds.length = ns.length) : wr ns 0 ds = ds := by
  simp [wr, h]
theorem and_high (x s : Nat) : x &&& (x / 2 ^ s * 2 ^ s) = x / 2 ^ s * 2 ^ s := by
  apply Nat.eq_of_testBit_eq
  intro i
  rw [Nat.testBit_and, Nat.testBit_mul_two_pow, Nat.testBit_div_two_pow]
  by_cases h : s ≤ i
  · rw [Nat.sub_add_cancel h]; simp [h]
  · simp [h]
theorem xor_low {x : Int} (h : 0 ≤ x) (s : Nat) : Builtin.bitXor x (x.fdiv (2 ^ s) * 2 ^ s) = ((x.toNat % 2 ^ s : Nat) : Int) := by
  obtain ⟨y, rfl⟩ := Int.eq_ofNat_of_zero_le h
  have e : ((y : Int).fdiv (2 ^ s) * 2 ^ s) = ((y / 2 ^ s * 2 ^ s : Nat) : Int) := by
    rw [Int.fdiv_eq_ediv_of_nonneg _ (by exact Int.le_of_lt (Int.pow_pos (by decide)))]
    simp
  rw [e, bitXor_and]
  have e2 : Builtin.bitAnd (y : Int) ((y / 2 ^ s * 2 ^ s : Nat) : Int) = ((y / 2 ^ s * 2 ^ s : Nat) : Int) := by
    unfold Builtin.bitAnd
    rw [decide_eq_true (Int.natCast_nonneg _), decide_eq_true (Int.natCast_nonneg _)]
    show (((y : Int).toNat &&& ((y / 2 ^ s * 2 ^ s : Nat) : Int).toNat : Nat) : Int) = _
    rw [Int.toNat_natCast, Int.toNat_natCast, and_high]
  rw [e2, Int.toNat_natCast]
  have := Nat.div_add_mod' y (2 ^ s)
  omega
theorem fdiv_pow {x : Int} (h : 0 ≤ x) (s : Nat) : x.fdiv (2 ^ s) = ((x.toNat / 2 ^ s : Nat) : Int) := by
  obtain ⟨y, rfl⟩ := Int.eq_ofNat_of_zero_le h
  rw [Int.fdiv_eq_ediv_of_nonneg _ (by exact Int.le_of_lt (Int.pow_pos (by decide)))]
  simp
theorem ceil_mul (b n : Nat) (hn : 0 < n) : b ≤ n * ((b + n - 1) / n) := by
  have h := Nat.div_add_mod (b + n - 1) n
  have h2 := Nat.mod_lt (b + n - 1) hn
  omega
theorem bits_room {x n : Int} (hn : 0 < n) : x.toNat < 2 ^ (n.toNat * (((Builtin.Int.intBits x : Int) + n - 1).fdiv n).toNat) := by
  have h1 : x.natAbs < 2 ^ Builtin.Int.intBits x := PySem.intBits_le_iff.mp (Nat.le_refl _)
  obtain ⟨m, rfl⟩ := Int.eq_ofNat_of_zero_le (Int.le_of_lt hn)
  have e : (((Builtin.Int.intBits x : Int) + (m : Int) - 1).fdiv (m : Int)).toNat = (Builtin.Int.intBits x + m - 1) / m := by
    rw [Int.fdiv_eq_ediv_of_nonneg _ (by omega)]
    have e2 : (Builtin.Int.intBits x : Int) + (m : Int) - 1 = ((Builtin.Int.intBits x + m - 1 : Nat) : Int) := by omega
    rw [e2, ← Int.natCast_ediv, Int.toNat_natCast]
  rw [e, Int.toNat_natCast]
  have h2 := Nat.pow_le_pow_right (n := 2) (by decide) (ceil_mul (Builtin.Int.intBits x) m (by omega))
  omega
/-- the number whose digits to the base 2^n are these, the lowest first -/
noncomputable def vl (n : Nat) : List Int → Int
  | [] => 0
  | d :: r => d + 2 ^ n * vl n r
theorem vl_app (n : Nat) (b : List Int) : ∀ a : List Int, vl n (a ++ b) = vl n a + 2 ^ (n * a.length) * vl n b
  | [] => by simp [vl]
  | d :: r => by
    rw [List.cons_append, vl, vl, vl_app n b r, List.length_cons, Nat.mul_succ, Int.pow_add, Int.mul_add]
    have e : (2 : Int) ^ n * (2 ^ (n * r.length) * vl n b) = 2 ^ (n * r.length) * 2 ^ n * vl n b := by
      rw [← Int.mul_assoc, Int.mul_comm ((2 : Int) ^ n)]
    omega
noncomputable def seg (ns : List Int) (lo k : Nat) : List Int := (ns.drop lo).take k
theorem seg_split (ns : List Int) (lo a b : Nat) : seg ns lo (a + b) = seg ns lo a ++ seg ns (lo + a) b := by
  unfold seg
  rw [List.take_add, List.drop_drop]
theorem seg_len {ns : List Int} {lo k : Nat} (h : lo + k ≤ ns.length) : (seg ns lo k).length = k := by
  unfold seg
  rw [List.length_take, List.length_drop]; omega
theorem seg_all (ns : List Int) : seg ns 0 ns.length = ns := by
  unfold seg
  rw [List.drop_zero, List.take_length]
theorem seg_one {ns : List Int} {lo : Nat} (n : Nat) (h : lo < ns.length) : vl n (seg ns lo 1) = ns.getD lo 0 := by
  unfold seg
  rw [List.drop_eq_getElem_cons h, List.take_succ_cons, List.take_zero, vl, vl, List.getD_eq_getElem?_getD, List.getElem?_eq_getElem h]
  simp
theorem vl_bound {n : Nat} : ∀ {ns : List Int}, (∀ d ∈ ns, 0 ≤ d ∧ d < 2 ^ n) → 0 ≤ vl n ns ∧ vl n ns < 2 ^ (n * ns.length)
  | [], _ => by simp [vl]
  | d :: r, h => by
    have h1 := h d (.head _)
    have ⟨h2, h3⟩ := vl_bound (ns := r) fun x hx => h x (.tail _ hx)
    have hp : (0 : Int) < 2 ^ n := Int.pow_pos (by decide)
    rw [vl, List.length_cons, Nat.mul_succ, Int.pow_add]
    have h4 : (2 : Int) ^ n * vl n r ≤ 2 ^ n * (2 ^ (n * r.length) - 1) := Int.mul_le_mul_of_nonneg_left (by omega) (by omega)
    have h5 : 0 ≤ (2 : Int) ^ n * vl n r := Int.mul_nonneg (by omega) h2
    rw [Int.mul_sub, Int.mul_one] at h4
    rw [Int.mul_comm ((2 : Int) ^ (n * r.length))]
    omega
theorem seg_mem {ns : List Int} {lo k : Nat} : ∀ d ∈ seg ns lo k, d ∈ ns := fun _ hd => List.mem_of_mem_drop (List.mem_of_mem_take hd)
theorem vl_bits {n : Nat} {ns : List Int} (h : ∀ d ∈ ns, 0 ≤ d ∧ d < 2 ^ n) : Builtin.Int.intBits (vl n ns) ≤ n * ns.length := by
  have ⟨h1, h2⟩ := vl_bound h
  refine PySem.intBits_le_iff.mpr ?_
  have h3 : ((vl n ns).natAbs : Int) < ((2 ^ (n * ns.length) : Nat) : Int) := by
    rw [Int.natAbs_of_nonneg h1]
    simpa using h2
  exact Int.ofNat_lt.mp h3
theorem vl_dg (n : Nat) : ∀ (k x : Nat), vl n (dg n x k) = ((x % 2 ^ (n * k) : Nat) : Int)
  | 0, x => by simp [dg, vl, Nat.mod_one]
  | k + 1, x => by
    rw [dg, vl, vl_dg n k, Nat.mul_succ, Nat.pow_add, Nat.mul_comm (2 ^ (n * k)), Nat.mod_mul]
    simp
theorem dg_room (n : Nat) : ∀ (k x : Nat), ∀ d ∈ dg n x k, 0 ≤ d ∧ d < 2 ^ n
  | 0, _, d, hd => by cases hd
  | k + 1, x, d, hd => by
    rcases List.mem_cons.mp hd with rfl | hd
    · refine ⟨Int.natCast_nonneg _, ?_⟩
      have h := Nat.mod_lt x (Nat.pow_pos (n := n) (by decide : 0 < 2))
      have : ((x % 2 ^ n : Nat) : Int) < ((2 ^ n : Nat) : Int) := Int.ofNat_lt.mpr h
      simpa using this
    · exact dg_room n k _ d hd
/-- long division, the digits `top` taken, the highest first -/
structure LD (n : Nat) (b : Int) (top qs : List Int) (r : Int) : Prop where
  eq : vl n top.reverse = vl n qs.reverse * b + r
  lo : 0 ≤ r
  hi : r < b
  qd : ∀ q ∈ qs, 0 ≤ q ∧ q < 2 ^ n
theorem LD.step {n : Nat} {b r d : Int} {top qs : List Int} (h : LD n b top qs r) (hd : 0 ≤ d ∧ d < 2 ^ n) :
    LD n b (top ++ [d]) (qs ++ [(r * 2 ^ n + d).fdiv b]) ((r * 2 ^ n + d).fmod b) := by
  have hb : 0 < b := Int.lt_of_le_of_lt h.lo h.hi
  have hp : (0 : Int) < 2 ^ n := Int.pow_pos (by decide)
  have h0 : 0 ≤ r * 2 ^ n + d := by have := Int.mul_nonneg h.lo (Int.le_of_lt hp); omega
  rw [Int.fdiv_eq_ediv_of_nonneg _ (Int.le_of_lt hb), Int.fmod_eq_emod_of_nonneg _ (Int.le_of_lt hb)]
  have hm := Int.mul_ediv_add_emod (r * 2 ^ n + d) b
  have hlt : r * 2 ^ n + d < b * 2 ^ n := by
    have : (r + 1) * 2 ^ n ≤ b * 2 ^ n := Int.mul_le_mul_of_nonneg_right (by have := h.hi; omega) (Int.le_of_lt hp)
    rw [Int.add_mul, Int.one_mul] at this
    omega
  refine ⟨?_, Int.emod_nonneg _ (by omega), Int.emod_lt_of_pos _ hb, fun q hq => ?_⟩
  · rw [List.reverse_append, List.reverse_append, List.reverse_singleton, List.reverse_singleton, List.singleton_append, List.singleton_append, vl, vl, h.eq]
    have e1 : (2 : Int) ^ n * (vl n qs.reverse * b + r) = 2 ^ n * vl n qs.reverse * b + r * 2 ^ n := by
      rw [Int.mul_add, Int.mul_assoc, Int.mul_comm ((2 : Int) ^ n) r]
    rw [e1, Int.add_mul]
    rw [Int.mul_comm] at hm
    omega
  · rcases List.mem_append.mp hq with hq | hq
    · exact h.qd q hq
    · rw [List.mem_singleton.mp hq]
      exact ⟨Int.ediv_nonneg h0 (Int.le_of_lt hb), Int.ediv_lt_of_lt_mul hb (by rw [Int.mul_comm (2 ^ n) b]; exact hlt)⟩
theorem LD.start (n : Nat) {b : Int} (hb : 0 < b) : LD n b [] [] 0 := ⟨by simp [vl], Int.le_refl _, hb, fun _ h => by cases h⟩
theorem LD.done {n : Nat} {b r : Int} {ds qs : List Int} (h : LD n b ds.reverse qs r) : (vl n ds).fdiv b = vl n qs.reverse ∧ (vl n ds).fmod b = r := by
  have hb : 0 < b := Int.lt_of_le_of_lt h.lo h.hi
  have e := h.eq
  rw [List.reverse_reverse] at e
  rw [Int.fdiv_eq_ediv_of_nonneg _ (Int.le_of_lt hb), Int.fmod_eq_emod_of_nonneg _ (Int.le_of_lt hb), e]
  constructor
  · rw [Int.add_comm, Int.add_mul_ediv_right _ _ (by omega), Int.ediv_eq_zero_of_lt h.lo h.hi, Int.zero_add]
  · rw [Int.add_comm, Int.add_mul_emod_self_right, Int.emod_eq_of_lt h.lo h.hi]
theorem bits_20 {b : Int} (h0 : 0 < b) (h : b < 1048576) : Builtin.Int.intBits b ≤ 20 ∧ 0 < Builtin.Int.intBits b ∧ b < 2 ^ Builtin.Int.intBits b := by
  have h1 : Builtin.Int.intBits b ≤ 20 := PySem.intBits_le_iff.mpr (by show b.natAbs < 1048576; omega)
  have h2 : b.natAbs < 2 ^ Builtin.Int.intBits b := PySem.intBits_le_iff.mp (Nat.le_refl _)
  refine ⟨h1, ?_, ?_⟩
  · rcases Nat.eq_zero_or_pos (Builtin.Int.intBits b) with e | e
    · rw [e] at h2; simp at h2; omega
    · exact e
  · have h3 : (b.natAbs : Int) < ((2 ^ Builtin.Int.intBits b : Nat) : Int) := Int.ofNat_lt.mpr h2
    rw [Int.natAbs_of_nonneg (Int.le_of_lt h0)] at h3
    simpa using h3
end
section
open PySem PySem.W PyProof.Rows PySem.Spec PySem.Calls
/-- a line of Euclid's run: a number, and how many times the two heads make it -/
abbrev L3 : Type := Int × Int × Int
noncomputable def nxt (p c : L3) : L3 := (p.1.fmod c.1, p.2.1 - p.1.fdiv c.1 * c.2.1, p.2.2 - p.1.fdiv c.1 * c.2.2)
/-- the quotients of the run -/
noncomputable def eqs : Nat → L3 → L3 → List Int
  | 0, _, _ => []
  | n + 1, p, c => if c.1 = 0 then [] else p.1.fdiv c.1 :: eqs n c (nxt p c)
/-- its lines -/
noncomputable def els : Nat → L3 → L3 → List L3
  | 0, p, c => [p, c]
  | n + 1, p, c => if c.1 = 0 then [p, c] else p :: els n c (nxt p c)
/-- the run ends within so many quotients -/
noncomputable def Ends : Nat → Int → Int → Prop
  | 0, _, c => c = 0
  | k + 1, p, c => c = 0 ∨ Ends k c (p.fmod c)
theorem eqs_zero {n : Nat} {p c : L3} (h : c.1 = 0) : eqs n p c = [] := by
  cases n with
  | zero => rfl
  | succ n => rw [eqs, if_pos h]
theorem els_zero {n : Nat} {p c : L3} (h : c.1 = 0) : els n p c = [p, c] := by
  cases n with
  | zero => rfl
  | succ n => rw [els, if_pos h]
theorem eqs_succ {n : Nat} {p c : L3} (h : c.1 ≠ 0) : eqs (n + 1) p c = p.1.fdiv c.1 :: eqs n c (nxt p c) := by rw [eqs, if_neg h]
theorem els_succ {n : Nat} {p c : L3} (h : c.1 ≠ 0) : els (n + 1) p c = p :: els n c (nxt p c) := by rw [els, if_neg h]
theorem Ends.next {k : Nat} {p c : Int} (h : Ends k p c) (hc : c ≠ 0) : ∃ j, k = j + 1 ∧ Ends j c (p.fmod c) := by
  cases k with
  | zero => exact absurd h hc
  | succ j => exact ⟨j, rfl, h.resolve_left hc⟩
/-- both not below nought, or both not above it; neither too large -/
def SG (a b : Int) : Prop := ((0 ≤ a ∧ 0 ≤ b) ∨ (a ≤ 0 ∧ b ≤ 0)) ∧ -1048576 < a ∧ a < 1048576 ∧ -1048576 < b ∧ b < 1048576
theorem fmod_neg_range {a b : Int} (hb : b < 0) : b < a.fmod b ∧ a.fmod b ≤ 0 := by
  have h1 := Int.fmod_eq_emod_of_nonneg (-a) (b := -b) (by omega)
  have h2 := Int.emod_nonneg (-a) (b := -b) (by omega)
  have h3 := Int.emod_lt_of_pos (-a) (b := -b) (by omega)
  have h4 : -((-a).fmod (-b)) = a.fmod b := by
    have g1 : (-a).fdiv (-b) = a.fdiv b := by
      first | exact Int.neg_fdiv_neg a b | simp
    have e1 := Int.mul_fdiv_add_fmod a b
    have e2 := Int.mul_fdiv_add_fmod (-a) (-b)
    rw [g1, Int.neg_mul] at e2
    omega
  omega
theorem fmod_pos_range {a b : Int} (hb : 0 < b) : 0 ≤ a.fmod b ∧ a.fmod b < b := by
  rw [Int.fmod_eq_emod_of_nonneg a (by omega)]
  exact ⟨Int.emod_nonneg a (by omega), Int.emod_lt_of_pos a hb⟩
theorem SG.next {a b : Int} (h : SG a b) (hb : b ≠ 0) : SG b (a.fmod b) := by
  obtain ⟨h1, h2, h3, h4, h5⟩ := h
  rcases Int.lt_or_gt_of_ne hb with hn | hp
  · have ⟨g1, g2⟩ := fmod_neg_range (a := a) hn
    exact ⟨.inr ⟨by omega, g2⟩, h4, h5, by omega, by omega⟩
  · have ⟨g1, g2⟩ := fmod_pos_range (a := a) hp
    exact ⟨.inl ⟨by omega, g1⟩, h4, h5, by omega, by omega⟩
theorem SG.quot {a b : Int} (h : SG a b) : Builtin.Int.intBits (a.fdiv b) ≤ 64 :=
  Nat.le_trans (PySem.intBits_fdiv_le (m := 20) (PySem.intBits_le_iff.mpr (by obtain ⟨_, h2, h3, _⟩ := h; show a.natAbs < 1048576; omega))) (by decide)

abbrev tup3 (a b c : Value) (n : Nat) : Obj := { cls := .type "tuple", data := .seq #[a, b, c] n }
/-- the ledger bears these lines at these values -/
inductive L3In (tl : List (Addr × Obj)) : List Value → List L3 → Prop
  | nil : L3In tl [] []
  | cons {a : Addr} {x y z : Int} {t1 t2 t3 : Tok} {n : Nat} {vs : List Value} {ls : List L3} : (a, tup3 (.int x t1) (.int y t2) (.int z t3) n) ∈ tl → L3In tl vs ls → L3In tl (.ref a :: vs) ((x, y, z) :: ls)
theorem L3In.mono {tl tl' : List (Addr × Obj)} (hs : ∀ p ∈ tl, p ∈ tl') {vs : List Value} {ls : List L3} (h : L3In tl vs ls) : L3In tl' vs ls := by
  induction h with
  | nil => exact .nil
  | cons hm _ ih => exact .cons (hs _ hm) ih
theorem L3In.length {tl : List (Addr × Obj)} {vs : List Value} {ls : List L3} (h : L3In tl vs ls) : vs.length = ls.length := by
  induction h with
  | nil => rfl
  | cons _ _ ih => simp [ih]
theorem L3In.append {tl : List (Addr × Obj)} {vs ws : List Value} {ls ms : List L3} (h : L3In tl vs ls) (k : L3In tl ws ms) : L3In tl (vs ++ ws) (ls ++ ms) := by
  induction h with
  | nil => exact k
  | cons hm _ ih => exact .cons hm ih
theorem L3In.get {tl : List (Addr × Obj)} {vs : List Value} {ls : List L3} (h : L3In tl vs ls) : ∀ {k : Nat} {l : L3}, ls[k]? = some l → ∃ a t1 t2 t3 n, vs[k]? = some (.ref a) ∧ (a, tup3 (.int l.1 t1) (.int l.2.1 t2) (.int l.2.2 t3) n) ∈ tl := by
  induction h with
  | nil => intro k l e; simp at e
  | cons hm _ ih =>
    intro k l e
    cases k with
    | zero => simp at e; subst e; exact ⟨_, _, _, _, _, rfl, hm⟩
    | succ k => simp at e; exact ih e
end
section
open PySem PySem.W PyProof.Rows PySem.Spec PySem.Calls
local macro_rules | `(tactic| k_lt $h:ident) => `(tactic| (refine gp fun G9 k9 => ?_; replace $h := allLt_of $h; (try simp only [AllLt, and_true] at $h:ident); (repeat (obtain ⟨_, $h⟩ := $h)); refine k9 ?_; clear k9 G9))
local macro_rules | `(tactic| k_all) => `(tactic| first | (with_reducible assumption) | (refine' allne_entry ?kaA ?kaB; (case kaA => with_reducible assumption); (case kaB => (try dsimp only); first | with_reducible exact Nat.le_refl _ | with_reducible exact Nat.le_of_lt (by assumption) | with_reducible exact le1 (by assumption) | with_reducible exact le2 (by assumption) | with_reducible exact le3 (by assumption) | omega)) | (refine' allne_lt ?kaA ?kaB; (case kaA => with_reducible assumption); (case kaB => (try dsimp only); first | with_reducible exact Nat.le_refl _ | with_reducible exact Nat.le_of_lt (by assumption) | omega)))
local macro_rules | `(tactic| k_ne) => `(tactic| (refine neN ?_; (try dsimp only); with_reducible first | (refine NeN.out ?_; assumption) | (refine Ne.symm (NeN.out ?_); assumption) | exact ad1 (by decide) | exact Nat.ne_of_lt (by assumption) | exact (Nat.ne_of_lt (by assumption)).symm | exact lt1 (by assumption) | exact (lt1 (by assumption)).symm | exact lt2 (by assumption) (by decide) | exact (lt2 (by assumption) (by decide)).symm | exact lt3 (by assumption) (by assumption) | exact (lt3 (by assumption) (by assumption)).symm | exact ls1 (by assumption) | exact (ls1 (by assumption)).symm | exact ls2 (by assumption) | exact (ls2 (by assumption)).symm | exact ls3 (by assumption) | exact (ls3 (by assumption)).symm))
local macro_rules | `(tactic| walk_at "MINE enterC") => `(tactic| (k_dflt (refine' code_defC ?k1 ?k2 ?k3 ?k4 ?k5 ?kA ?kF ?kK ?k6 ?k7 ?k8 ?k9 ?kB ?kD ?_ ?c2 ?c3 ?c4; (case kA => exact rfl); (case kF => exact rfl); (case kK => assumption); (case k1 => k_asm); (case k2 => k_asm); (case k3 => k_asm); (case k4 => k_asm); (case k5 => k_asm); (case k6 => k_is); (case k7 => k_is); (case k8 => ktr_room); (case k9 => first | exact BindsTo.of_eq rfl | exact binds_K (by k_in) rfl (by k_is) rfl rfl rfl | fail "k_enter: no rule for these arguments"); (case kB => exact rfl); (case kD => decide +kernel); (case c2 => exact rfl); (case c3 => exact rfl); (case c4 => exact rfl); k_whole; intro g' L' h' tk' cells' FG' F' N' Y' B' X' T' l1; (try k_lt l1); (have lE := EntryLt.mk l1); k_cells Y'; (try simp only [List.cons_append, List.nil_append] at N'); (try dsimp only); (try k_lift B'); (try k_fold))))
local macro_rules | `(tactic| walk_at "MINE nest") => `(tactic| (k_dflt (refine' code_nest ?k1 ?k2 ?k3 ?k4 ?k5 ?kA ?kF ?kK ?k6 ?k7 ?k8 ?k9 ?kB ?_ ?c2 ?c3 ?c4 ?c5; (case kA => exact rfl); (case kF => exact rfl); (case kK => assumption); (case k1 => k_asm); (case k2 => k_asm); (case k3 => k_asm); (case k4 => k_asm); (case k5 => k_asm); (case k6 => k_mem); (case k7 => exact codeRec_news (by k_asm) (by k_mem) (by assumption) (by assumption)); (case k8 => ktr_room); (case k9 => exact BindsTo.of_eq rfl); (case c5 => decide); (case kB => exact locs rfl); (case c2 => exact rfl); (case c3 => exact rfl); (case c4 => exact rfl); k_whole; intro g' L' h' FG' F' N' B' X' T'; (try dsimp only); (try k_lift B'); (try k_fold))))
local macro_rules | `(tactic| walk_at "MINE pre") => `(tactic| ((repeat (refine List.forall_mem_cons.mpr ⟨(by dsimp only; omega), ?_⟩)); exact List.forall_mem_nil _))
local macro_rules | `(tactic| walk_at "exec FunctionDef") => `(tactic| (refine Hold.of ?_))
local macro_rules | `(tactic| walk_at "storeName") => `(tactic| (k_here; k_dflt (refine' storeL ?sF ?sN ?_ ?sa ?sb; (case sF => k_asm); (case sN => k_asm); (case sa => rfl); (case sb => rfl); k_whole); intro m' h' F' N'; (try k_sweep)))
section
open PySem PySem.W PyProof.Rows PySem.Spec PySem.Calls
structure Hid (P : Prop) : Prop where
  out : P
theorem mid_nat {lo hi m : Int} {k : Nat} (h : m = (lo + hi).fdiv (2 ^ Int.toNat 1)) (hh : hi = lo + k) (h0 : 0 ≤ lo) : ∃ a j r : Nat, lo = (a : Int) ∧ k = j + r ∧ m = ((a + j : Nat) : Int) ∧ hi = ((a + j + r : Nat) : Int) ∧ j ≤ r ∧ r ≤ j + 1 := by
  subst h
  have e : (lo + hi).fdiv (2 ^ Int.toNat 1) = (lo + hi) / 2 := Int.fdiv_eq_ediv_of_nonneg _ (by decide)
  refine ⟨lo.toNat, k / 2, k - k / 2, ?_, ?_, ?_, ?_, ?_, ?_⟩ <;> (try rw [e]) <;> omega
theorem sub_nat {a j : Nat} {n : Int} (hn : 0 < n) : (((a + j : Nat) : Int) - (a : Int)) * n = ((n.toNat * j : Nat) : Int) := by
  rw [Int.natCast_mul, Int.toNat_of_nonneg (Int.le_of_lt hn), Int.natCast_add, Int.add_comm, Int.add_sub_cancel, Int.mul_comm]
theorem len_bd {n : Int} {j : Nat} (h1 : n ≤ 64) (h2 : j ≤ 256) : ((n.toNat * j : Nat) : Int) ≤ 1000000 := by
  have := Nat.mul_le_mul (show n.toNat ≤ 64 by omega) h2
  omega
theorem rshift_mid {prog : Program} {w : World} {A : Around} {E : Value → Shared → Prop} {s : Shared} {Q : Value → Shared → Prop} {a m : Int} {t u : Tok} (hm : m = a.fdiv (2 ^ Int.toNat 1)) (h : Q (.int m s.toks) { s with toks := s.toks + 1 }) : wpAny (model prog w) A (binaryOp .RShift (.int a t) (.int 1 u)) Q E s := by
  subst hm
  exact rshift_int (by decide) h
section

local macro_rules | `(tactic| walk_at "binaryOp RShift int int") => `(tactic| (k_here; (with_reducible refine' rshift_mid ?rm1 ?_); (case rm1 => exact Hid.out (by with_reducible assumption))))
local macro_rules | `(tactic| walk_at "call ref") => `(tactic| ((with_reducible show wpAny _ _ (call (Value.ref _) [_, _, _]) _ _ _); refine Hold.of ?_))
set_option maxRecDepth 100000 in
set_option maxHeartbeats 8000000 in
set_option pp.deepTerms false in
set_option pp.deepTerms.threshold 6 in
theorem int2digits_c (w : World) (x n : Int) (tx tn : Tok) (tb news : List (Addr × Obj)) (hT : Tb 37 41 4 (Str.ofString "_int2digits.<locals>.inner") tb) (hdj : DisjL tb news)
    (hx : 0 ≤ x) (hx2 : x < 1099511627776) (hn : 0 < n) (hn2 : n ≤ 64) :
    Cl w 140 1200 (.ref 42) [.int x tx, .int n tn] (tb ++ news) (fun v led => ∃ q vs tb', v = .ref q ∧ led = (q, listOf vs.toArray 0) :: (tb' ++ news) ∧ Tb 37 41 4 (Str.ofString "_int2digits.<locals>.inner") tb' ∧ DisjL ((q, listOf vs.toArray 0) :: tb') news ∧ (∀ p ∈ tb', p.1 ≠ q) ∧
      IntsAre vs (dg n.toNat x.toNat (((Builtin.Int.intBits x : Int) + n - 1).fdiv n).toNat)) := by
  unfold Cl
  k_fill
  intro p loose mean mg mb dp un gd cn cs a ccd cl outer A₀ base h₀ L m s Q E B F X N T hk hd hu hret
  have hb : Builtin.Int.intBits x ≤ 64 := intBits_le_64 (by omega) (by omega)
  have hD : ((Builtin.Int.intBits x : Int) + n - 1).fdiv n ≤ 128 := by
    rw [Int.fdiv_eq_ediv_of_nonneg _ (by omega)]
    exact Int.le_trans (Int.ediv_le_self _ (by omega)) (by omega)
  have hD0 : 0 ≤ ((Builtin.Int.intBits x : Int) + n - 1).fdiv n := Int.fdiv_nonneg (by omega) (by omega)
  have hxD := bits_room (x := x) hn
  refine wpAny_call ?_
  walk_at "MINE enterC"
  have cH : CodeHd _ 41 37 := codeHd_of_K (K := Mine.hd.heap_1 w.params) (by assumption) (by kernel_rfl)
  have lE2 : EntryLt _ news := EntryLt.right (a := tb) (by assumption)
  have lP := EntryLt.tab (news := news) (by assumption) hT
  k_steps
  unfold Hold
  (k_dflt (refine' nestDef_K ?d0 ?k0 ?a0 ?_; (case d0 => exact rfl); (case k0 => exact rfl); (case a0 => exact rfl)))
  (rename AllLt _ (tb ++ news) => lD)
  (k_dflt (refine' nestTb (pre := [_, _, _, _, _]) ?F ?N ?T ?C ?cd ?hT ?hq ?hdj ?l0 ?hpre ?cl ?_; (case F => k_asm); (case N => k_asm); (case T => k_asm); (case cd => exact rfl); (case C => kn_code); (case hT => assumption); (case hq => kernel_rfl); (case hdj => assumption); (case l0 => assumption); (case hpre => walk_at "MINE pre"); (case cl => exact rfl); k_whole))
  intro f c1 oc ws t ct dc h1 tk F1 N1 d1 d2 d3 n1 n2 n3 l1 l2
  simp only [List.cons_append, List.nil_append] at N1
  simp only [List.forall_mem_cons, List.not_mem_nil, false_implies, implies_true, and_true] at n1 l1
  refine gp fun G9 k9 => ?_
  obtain ⟨nD, n4, n5, n6, n7⟩ := n1
  obtain ⟨l4, l5, l6, l7, l8⟩ := l1
  refine k9 ?_; clear k9 G9
  (rename IntsAre _ _ => i1); (rename List.length _ = _ => e1)
  k_steps
  · (rename News _ _ _ _ => N9)
    refine' claim_call (o := listOf (List.replicate _ _).flatten.toArray 0) N9 ?m ?U (fun f D g => ∀ (k : Nat) (x lo hi : Int) (t1 t2 t3 : Tok) (vs : List Value) (ns : List Int), IntsAre vs ns → hi = lo + k → 0 ≤ lo → 0 < k → hi ≤ ns.length → ns.length ≤ 128 → 0 ≤ x → x < 1099511627776 → x.toNat < 2 ^ (n.toNat * k) →
      Cl w k (8 * k) (.ref f) [.int x t1, .int lo t2, .int hi t3] (g (listOf vs.toArray 0)) (fun v led => ∃ vs', v = .none ∧ IntsAre vs' (wr ns lo.toNat (dg n.toNat x.toNat k)) ∧ led = g (listOf vs'.toArray 0))) ?c ?k
    case m => k_mem
    case U => (first | k_updF | fail "U")
    case c =>
      (try dsimp only)
      clear hret hu hd hk T N X F B
      intro k
      induction k using Nat.strongRecOn with
      | ind k IH =>
      intro x lo hi t1 t2 t3 vs ns hvs hhi hlo hk0 hlen hlen2 hx0 hx40 hx9
      unfold Cl
      intro p loose mean mg mb dp un gd cn cs a ccd cl outer A₀ base h₀ L m s Q E B F X N T hk hd hu hret
      refine gp fun G9 k9 => ?_
      obtain ⟨mid, hmid⟩ : ∃ m, m = (lo + hi).fdiv (2 ^ Int.toNat 1) := ⟨_, rfl⟩
      obtain ⟨a', j, r, rfl, rfl, rfl, rfl, hjr, hrj⟩ := mid_nat hmid hhi hlo
      refine k9 ?_; clear k9 G9
      replace hmid := Hid.mk hmid
      clear hhi hlo
      have hlen3 : a' + j + r ≤ ns.length := Int.ofNat_le.mp hlen
      clear hlen
      have hS := sub_nat (a := a') (j := j) hn
      have hS2 : ((((a' + j : Nat) : Int) - (a' : Int)) * n).toNat = n.toNat * j := by rw [hS, Int.toNat_natCast]
      have hS0 : 0 ≤ (((a' + j : Nat) : Int) - (a' : Int)) * n := by rw [hS]; exact Int.natCast_nonneg _
      have hS1 : (((a' + j : Nat) : Int) - (a' : Int)) * n ≤ 1000000 := by rw [hS]; exact len_bd hn2 (by omega)
      have hU : x.fdiv (2 ^ ((((a' + j : Nat) : Int) - (a' : Int)) * n).toNat) = ((x.toNat / 2 ^ ((((a' + j : Nat) : Int) - (a' : Int)) * n).toNat : Nat) : Int) := fdiv_pow hx0 _
      have hx41 : ((x.toNat : Nat) : Int) < 1099511627776 := by rw [Int.toNat_of_nonneg hx0]; exact hx40
      have hU0 : 0 ≤ x.fdiv (2 ^ ((((a' + j : Nat) : Int) - (a' : Int)) * n).toNat) := by rw [hU]; exact Int.natCast_nonneg _
      have hU1 : x.fdiv (2 ^ ((((a' + j : Nat) : Int) - (a' : Int)) * n).toNat) < 1099511627776 := by rw [hU]; exact Int.lt_of_le_of_lt (Int.ofNat_le.mpr (Nat.div_le_self _ _)) hx41
      have hLo := xor_low hx0 ((((a' + j : Nat) : Int) - (a' : Int)) * n).toNat
      have hL1 : ((x.toNat % 2 ^ ((((a' + j : Nat) : Int) - (a' : Int)) * n).toNat : Nat) : Int) < 1099511627776 := Int.lt_of_le_of_lt (Int.ofNat_le.mpr (Nat.mod_le _ _)) hx41
      refine wpAny_call ?_
      walk_at "MINE nest"
      k_steps
      · refine hret _ _ _ _ (by k_asm) (by k_asm) ⟨_, rfl, ?_, rfl⟩
        obtain ⟨rfl, rfl⟩ : j = 0 ∧ r = 1 := by omega
        rw [Nat.mul_one] at hx9
        rw [dg_one hx9, Int.toNat_of_nonneg hx0, Int.toNat_natCast, ← wr_one x (by omega)]
        assumption
      · unfold Hold
        have hj0 : 0 < j := by omega
        have hlt : x.toNat % 2 ^ ((((a' + j : Nat) : Int) - (a' : Int)) * n).toNat < 2 ^ (n.toNat * j) := by
          rw [hS2]; exact Nat.mod_lt _ (Nat.pow_pos (by decide))
        k_dflt (refine' Cl.use (IH j (by omega) _ _ _ _ _ _ vs ns hvs (Int.natCast_add _ _) (Int.natCast_nonneg _) hj0 ?e4 hlen2 ?e6 ?e7 ?e8) ?B ?F ?X ?N ?T ?hk ?hd ?hu ?ret)
        case e4 => exact Int.ofNat_le.mpr (by omega)
        case e6 => rw [hLo]; exact Int.natCast_nonneg _
        case e7 => rw [hLo]; exact hL1
        case e8 => rw [hLo, Int.toNat_natCast]; exact hlt
        case B => k_asm
        case F => k_asm
        case X => k_asm
        case N => k_asm
        case T => k_asm
        case hk => first | exact rfl | assumption
        case hd => ktr_room
        case hu => ktr_units
        case ret =>
        intro v9 led9 h9 tk9 F9 N9 hR9
        refine gp fun G9 k9 => ?_
        obtain ⟨vs9, rfl, hvs9, rfl⟩ := hR9
        refine k9 ?_; clear k9 G9
        rw [hLo, Int.toNat_natCast, Int.toNat_natCast] at hvs9
        (try dsimp only)
        k_steps
        unfold Hold
        have hlw : (wr ns a' (dg n.toNat (x.toNat % 2 ^ ((((a' + j : Nat) : Int) - (a' : Int)) * n).toNat) j)).length = ns.length := wr_len (by rw [dg_len]; omega)
        k_dflt (refine' Cl.use (IH r (by omega) _ _ _ _ _ _ vs9 _ hvs9 (Int.natCast_add _ _) (Int.natCast_nonneg _) (by omega) ?e4 ?e5 hU0 hU1 ?e8) ?B ?F ?X ?N ?T ?hk ?hd ?hu ?ret)
        case e4 => rw [hlw]; exact Int.ofNat_le.mpr hlen3
        case e5 => rw [hlw]; exact hlen2
        case e8 =>
          rw [hU, Int.toNat_natCast, hS2]
          refine Nat.div_lt_of_lt_mul ?_
          rw [← Nat.pow_add, ← Nat.mul_add]
          exact hx9
        case B => k_asm
        case F => k_asm
        case X => k_asm
        case N => k_asm
        case T => k_asm
        case hk => first | exact rfl | assumption
        case hd => ktr_room
        case hu => ktr_units
        case ret =>
        intro v10 led10 h10 tk10 F10 N10 hR10
        refine gp fun G9 k9 => ?_
        obtain ⟨vs10, rfl, hvs10, rfl⟩ := hR10
        refine k9 ?_; clear k9 G9
        (try dsimp only)
        k_steps
        refine hret _ _ _ _ (by k_asm) (by k_asm) ⟨_, rfl, ?_, rfl⟩
        have e2 := dg_split n.toNat r j x.toNat
        rw [← hS2] at e2
        rw [e2, Int.toNat_natCast, ← wr_wr (by rw [dg_len, dg_len]; omega), dg_len]
        rw [hU, Int.toNat_natCast, Int.toNat_natCast] at hvs10
        exact hvs10
    case k =>
      intro hC
      have hl : (List.replicate (((Builtin.Int.intBits x : Int) + n - 1).fdiv n).toNat [(0 : Int)]).flatten.length = (((Builtin.Int.intBits x : Int) + n - 1).fdiv n).toNat := by rw [lm_len_rep_flat, List.length_singleton, Nat.mul_one]
      have hDp : 0 < (((Builtin.Int.intBits x : Int) + n - 1).fdiv n).toNat := by
        rcases Nat.eq_zero_or_pos (((Builtin.Int.intBits x : Int) + n - 1).fdiv n).toNat with e | e
        · rw [e, Nat.mul_zero, Nat.pow_zero] at hxD
          omega
        · exact e
      k_dflt (refine' Cl.use (hC (((Builtin.Int.intBits x : Int) + n - 1).fdiv n).toNat x 0 _ _ _ _ _ _ i1 ?e1 ?e2 ?e3 ?e4 ?e5 ?e6 ?e7 ?e8) ?B ?F ?X ?N ?T ?hk ?hd ?hu ?ret)
      case e1 => rw [← e1, hl]; omega
      case e2 => omega
      case e3 => exact hDp
      case e4 => rw [← e1]; omega
      case e5 => rw [hl]; omega
      case e6 => exact hx
      case e7 => exact hx2
      case e8 => exact hxD
      case B => k_asm
      case F => k_asm
      case X => k_asm
      case N => k_asm
      case T => k_asm
      case hk => first | exact rfl | assumption
      case hd => ktr_room
      case hu => ktr_units
      case ret =>
      intro v10 led10 h10 tk10 F10 N10 hR10
      refine gp fun G9 k9 => ?_
      obtain ⟨vs10, rfl, hvs10, rfl⟩ := hR10
      refine k9 ?_; clear k9 G9
      (try dsimp only)
      k_steps
      refine' hret (.ref _) ((_, listOf vs10.toArray 0) :: ([(37, tabObj #[rawInt (41 : Nat), rawInt (4 : Nat), .ref c1]), (c1, oc)] ++ news)) _ _ ?F ?N ⟨_, vs10, [(37, tabObj #[rawInt (41 : Nat), rawInt (4 : Nat), .ref c1]), (c1, oc)], rfl, rfl, Tb.hit c1 oc ws t n3 d1 d3, ?dj, ?ne, ?hin⟩
      case F => k_asm
      case N =>
        refine' cb_drop ?N1 ?S
        case N1 => assumption
        case S =>
          intro p hp
          rcases List.mem_cons.mp hp with rfl | hp
          · k_mem
          rcases List.mem_cons.mp hp with rfl | hp
          · k_mem
          rcases List.mem_cons.mp hp with rfl | hp
          · k_mem
          · (repeat (refine List.mem_cons_of_mem _ ?_))
            exact hp
      case dj =>
        intro p hp q hq
        rcases List.mem_cons.mp hp with rfl | hp
        · exact Nat.ne_of_gt (allLt_mem lD q (List.mem_append_right _ hq))
        rcases List.mem_cons.mp hp with rfl | hp
        · exact hdj (37, _) hT.here.choose_spec q hq
        rcases List.mem_cons.mp hp with rfl | hp
        · exact (n2 q hq).symm
        · cases hp
      case ne =>
        intro p hp
        rcases List.mem_cons.mp hp with rfl | hp
        · exact Nat.ne_of_lt (by omega)
        rcases List.mem_cons.mp hp with rfl | hp
        · exact nD.out
        · cases hp
      case hin =>
        rw [Int.toNat_zero, wr_all (by rw [dg_len, hl])] at hvs10
        exact hvs10
  · have hx0 : x = 0 := by omega
    have hz : (((Builtin.Int.intBits x : Int) + n - 1).fdiv n).toNat = 0 := by
      refine gp fun G9 k9 => ?_
      subst hx0
      refine k9 ?_; clear k9 G9
      have : Builtin.Int.intBits 0 = 0 := by decide
      rw [this, Int.fdiv_eq_ediv_of_nonneg _ (by omega), Int.natCast_zero, Int.ediv_eq_zero_of_lt (by omega) (by omega)]
      rfl
    refine' hret (.ref _) ((_, listOf (List.replicate (((Builtin.Int.intBits x : Int) + n - 1).fdiv n).toNat [_]).flatten.toArray 0) :: ([(37, tabObj #[rawInt (41 : Nat), rawInt (4 : Nat), .ref c1]), (c1, oc)] ++ news)) _ _ ?F ?N ⟨_, (List.replicate (((Builtin.Int.intBits x : Int) + n - 1).fdiv n).toNat [_]).flatten, [(37, tabObj #[rawInt (41 : Nat), rawInt (4 : Nat), .ref c1]), (c1, oc)], rfl, rfl, Tb.hit c1 oc ws t n3 d1 d3, ?dj, ?ne, ?hin⟩
    case F => k_asm
    case N =>
      refine' cb_drop ?N1 ?S
      case N1 => assumption
      case S =>
        intro p hp
        rcases List.mem_cons.mp hp with rfl | hp
        · k_mem
        rcases List.mem_cons.mp hp with rfl | hp
        · k_mem
        rcases List.mem_cons.mp hp with rfl | hp
        · k_mem
        · (repeat (refine List.mem_cons_of_mem _ ?_))
          exact hp
    case dj =>
      intro p hp q hq
      rcases List.mem_cons.mp hp with rfl | hp
      · exact Nat.ne_of_gt (allLt_mem lD q (List.mem_append_right _ hq))
      rcases List.mem_cons.mp hp with rfl | hp
      · exact hdj (37, _) hT.here.choose_spec q hq
      rcases List.mem_cons.mp hp with rfl | hp
      · exact (n2 q hq).symm
      · cases hp
    case ne =>
      intro p hp
      rcases List.mem_cons.mp hp with rfl | hp
      · exact Nat.ne_of_lt (by omega)
      rcases List.mem_cons.mp hp with rfl | hp
      · exact nD.out
      · cases hp
    case hin =>
      rw [hz] at i1 ⊢
      exact i1
end
end
local macro_rules | `(tactic| is_list) => `(tactic| (refine' News.isList ?n9 ?m9; (case n9 => k_asm); (case m9 => k_dflt k_mem)))
local macro_rules | `(tactic| k_mem) => `(tactic| (refine memL ?_; assumption))
section
open PySem PySem.W PyProof.Rows PySem.Spec PySem.Calls
section

local macro_rules | `(tactic| walk_at "binaryOp RShift int int") => `(tactic| (k_here; (with_reducible refine' rshift_mid ?rm1 ?_); (case rm1 => exact Hid.out (by with_reducible assumption))))
local macro_rules | `(tactic| walk_at "call ref") => `(tactic| ((with_reducible show wpAny _ _ (call (Value.ref _) [_, _]) _ _ _); refine Hold.of ?_))
local macro_rules | `(tactic| walk_at "binaryOp LShift int int") => `(tactic| ((refine lshift_int ?kb0 ?kb1 ?_); (case kb0 => assumption); (case kb1 => assumption)))
set_option maxRecDepth 100000 in
set_option maxHeartbeats 8000000 in
set_option pp.deepTerms false in
set_option pp.deepTerms.threshold 6 in
theorem digits2int_c (w : World) (n : Int) (tn : Tok) (D : Addr) (c0 : Nat) (vs : List Value) (ns : List Int) (tb news : List (Addr × Obj)) (hT : Tb 44 56 4 (Str.ofString "_digits2int.<locals>.inner") tb) (hdj : DisjL tb news)
    (hm : (D, listOf vs.toArray c0) ∈ news) (hi : IntsAre vs ns) (hns : ns.length ≤ 128) (hds : ∀ d ∈ ns, 0 ≤ d ∧ d < 2 ^ n.toNat) (hn : 0 < n) (hn2 : n ≤ 64) :
    Cl w 140 1200 (.ref 49) [.ref D, .int n tn] (tb ++ news) (fun v led => ∃ t tb', v = .int (vl n.toNat ns) t ∧ led = tb' ++ news ∧ Tb 44 56 4 (Str.ofString "_digits2int.<locals>.inner") tb' ∧ DisjL tb' news) := by
  unfold Cl
  k_fill
  intro p loose mean mg mb dp un gd cn cs a ccd cl outer A₀ base h₀ L m s Q E B F X N T hk hd hu hret
  have hmT : (D, listOf vs.toArray c0) ∈ tb ++ news := List.mem_append_right _ hm
  have hlv : vs.length = ns.length := hi.length
  refine wpAny_call ?_
  walk_at "MINE enterC"
  have cH : CodeHd _ 48 44 := codeHd_of_K (K := Mine.hd.heap_1 w.params) (by assumption) (by kernel_rfl)
  have lE2 : EntryLt _ news := EntryLt.right (a := tb) (by assumption)
  have lP := EntryLt.tab (news := news) (by assumption) hT
  k_steps
  unfold Hold
  (k_dflt (refine' nestDef_K ?d0 ?k0 ?a0 ?_; (case d0 => exact rfl); (case k0 => exact rfl); (case a0 => exact rfl)))
  (k_dflt (refine' nestTb (pre := [_, _, _]) ?F ?N ?T ?C ?cd ?hT ?hq ?hdj ?l0 ?hpre ?cl ?_; (case F => k_asm); (case N => k_asm); (case T => k_asm); (case cd => exact rfl); (case C => kn_code); (case hT => assumption); (case hq => kernel_rfl); (case hdj => assumption); (case l0 => assumption); (case hpre => walk_at "MINE pre"); (case cl => exact rfl); k_whole))
  intro f c1 oc ws t ct dc h1 tk F1 N1 d1 d2 d3 n1 n2 n3 l1 l2
  simp only [List.cons_append, List.nil_append] at N1
  simp only [List.forall_mem_cons, List.not_mem_nil, false_implies, implies_true, and_true] at n1 l1
  obtain ⟨n5, n6, n7⟩ := n1
  obtain ⟨l6, l7, l8⟩ := l1
  k_steps
  · (rename News _ _ _ _ => N9)
    refine' claim_call1 N9 (fun f led => ∀ (k : Nat) (lo hi : Int) (t2 t3 : Tok), hi = lo + k → 0 ≤ lo → 0 < k → hi ≤ ns.length →
      Cl w k (8 * k) (.ref f) [.int lo t2, .int hi t3] led (fun v led' => ∃ t, v = .int (vl n.toNat (seg ns lo.toNat k)) t ∧ led' = led)) ?c ?k
    case c =>
      (try dsimp only)
      clear hret hu hd hk T N X F B
      intro k
      induction k using Nat.strongRecOn with
      | ind k IH =>
      intro lo hi t2 t3 hhi hlo hk0 hlen
      unfold Cl
      intro p loose mean mg mb dp un gd cn cs a ccd cl outer A₀ base h₀ L m s Q E B F X N T hk hd hu hret
      refine gp fun G9 k9 => ?_
      obtain ⟨mid, hmid⟩ : ∃ m, m = (lo + hi).fdiv (2 ^ Int.toNat 1) := ⟨_, rfl⟩
      obtain ⟨a', j, r, rfl, rfl, rfl, rfl, hjr, hrj⟩ := mid_nat hmid hhi hlo
      refine k9 ?_; clear k9 G9
      replace hmid := Hid.mk hmid
      clear hhi hlo
      have hlen3 : a' + j + r ≤ ns.length := Int.ofNat_le.mp hlen
      clear hlen
      have hS := sub_nat (a := a') (j := j) hn
      have hS2 : ((((a' + j : Nat) : Int) - (a' : Int)) * n).toNat = n.toNat * j := by rw [hS, Int.toNat_natCast]
      have hS0 : 0 ≤ (((a' + j : Nat) : Int) - (a' : Int)) * n := by rw [hS]; exact Int.natCast_nonneg _
      have hS1 : (((a' + j : Nat) : Int) - (a' : Int)) * n ≤ 1000000 := by rw [hS]; exact len_bd hn2 (by omega)
      refine wpAny_call ?_
      walk_at "MINE nest"
      k_steps
      · refine' hret _ _ _ _ (by k_asm) (by k_asm) ⟨_, congrArg (fun z => Value.int z _) ?e, rfl⟩
        case e =>
        obtain ⟨rfl, rfl⟩ : j = 0 ∧ r = 1 := by omega
        rw [Int.toNat_natCast, Nat.zero_add, seg_one n.toNat (by omega)]
      · unfold Hold
        have hj0 : 0 < j := by omega
        k_dflt (refine' Cl.use (IH r (by omega) _ _ _ _ (Int.natCast_add _ _) (Int.natCast_nonneg _) (by omega) ?e4) ?B ?F ?X ?N ?T ?hk ?hd ?hu ?ret)
        case e4 => exact Int.ofNat_le.mpr hlen3
        case B => k_asm
        case F => k_asm
        case X => k_asm
        case N => k_asm
        case T => k_asm
        case hk => first | exact rfl | assumption
        case hd => ktr_room
        case hu => ktr_units
        case ret =>
        intro v9 led9 h9 tk9 F9 N9 hR9
        refine gp fun G9 k9 => ?_
        obtain ⟨t9, rfl, rfl⟩ := hR9
        refine k9 ?_; clear k9 G9
        have hV : (Builtin.Int.intBits (vl n.toNat (seg ns ((a' + j : Nat) : Int).toNat r)) : Int) + (((a' + j : Nat) : Int) - (a' : Int)) * n ≤ 2 ^ 27 := by
          have h1 := vl_bits (n := n.toNat) (ns := seg ns (a' + j) r) fun d hd => hds d (seg_mem d hd)
          rw [seg_len (by omega)] at h1
          exact Int.le_trans (Int.add_le_add (Int.le_trans (Int.ofNat_le.mpr h1) (len_bd hn2 (by omega))) hS1) (by decide)
        (try dsimp only)
        k_steps
        unfold Hold
        k_dflt (refine' Cl.use (IH j (by omega) _ _ _ _ (Int.natCast_add _ _) (Int.natCast_nonneg _) hj0 ?e4) ?B ?F ?X ?N ?T ?hk ?hd ?hu ?ret)
        case e4 => exact Int.ofNat_le.mpr (by omega)
        case B => k_asm
        case F => k_asm
        case X => k_asm
        case N => k_asm
        case T => k_asm
        case hk => first | exact rfl | assumption
        case hd => ktr_room
        case hu => ktr_units
        case ret =>
        intro v10 led10 h10 tk10 F10 N10 hR10
        refine gp fun G9 k9 => ?_
        obtain ⟨t10, rfl, rfl⟩ := hR10
        refine k9 ?_; clear k9 G9
        (try dsimp only)
        k_steps
        refine' hret _ _ _ _ (by k_asm) (by k_asm) ⟨_, congrArg (fun z => Value.int z _) ?e, rfl⟩
        case e =>
        have e2 := seg_split ns a' j r
        rw [Int.toNat_natCast, Int.toNat_natCast, e2, vl_app, seg_len (by omega), hS2, Int.add_comm, Int.mul_comm]
    case k =>
      intro hC
      have hlp : 0 < ns.length := by omega
      k_dflt (refine' Cl.use (hC ns.length 0 _ _ _ ?e1 ?e2 ?e3 ?e4) ?B ?F ?X ?N ?T ?hk ?hd ?hu ?ret)
      case e1 => omega
      case e2 => omega
      case e3 => exact hlp
      case e4 => omega
      case B => k_asm
      case F => k_asm
      case X => k_asm
      case N => k_asm
      case T => k_asm
      case hk => first | exact rfl | assumption
      case hd => ktr_room
      case hu => ktr_units
      case ret =>
      intro v10 led10 h10 tk10 F10 N10 hR10
      refine gp fun G9 k9 => ?_
      obtain ⟨t10, rfl, rfl⟩ := hR10
      refine k9 ?_; clear k9 G9
      (try dsimp only)
      k_steps
      refine' hret (.int _ _) ([(44, tabObj #[rawInt (56 : Nat), rawInt (4 : Nat), .ref c1]), (c1, oc)] ++ news) _ _ ?F ?N ⟨_, [(44, tabObj #[rawInt (56 : Nat), rawInt (4 : Nat), .ref c1]), (c1, oc)], congrArg (fun z => Value.int z _) ?hv, rfl, Tb.hit c1 oc ws t n3 d1 d3, ?dj⟩
      case F => k_asm
      case N =>
        refine' cb_drop ?N1 ?S
        case N1 => assumption
        case S =>
          intro p hp
          rcases List.mem_cons.mp hp with rfl | hp
          · k_mem
          rcases List.mem_cons.mp hp with rfl | hp
          · k_mem
          · (repeat (refine List.mem_cons_of_mem _ ?_))
            exact hp
      case dj =>
        intro p hp q hq
        rcases List.mem_cons.mp hp with rfl | hp
        · exact hdj (44, _) hT.here.choose_spec q hq
        rcases List.mem_cons.mp hp with rfl | hp
        · exact (n2 q hq).symm
        · cases hp
      case hv =>
        rw [Int.toNat_zero, seg_all]
  · have hl0 : ns = [] := List.eq_nil_of_length_eq_zero (by omega)
    refine gp fun G9 k9 => ?_
    subst hl0
    refine k9 ?_; clear k9 G9
    refine' hret (.int _ _) ([(44, tabObj #[rawInt (56 : Nat), rawInt (4 : Nat), .ref c1]), (c1, oc)] ++ news) _ _ ?F ?N ⟨_, [(44, tabObj #[rawInt (56 : Nat), rawInt (4 : Nat), .ref c1]), (c1, oc)], congrArg (fun z => Value.int z _) ?hv, rfl, Tb.hit c1 oc ws t n3 d1 d3, ?dj⟩
    case F => k_asm
    case N =>
      refine' cb_drop ?N1 ?S
      case N1 => assumption
      case S =>
        intro p hp
        rcases List.mem_cons.mp hp with rfl | hp
        · k_mem
        rcases List.mem_cons.mp hp with rfl | hp
        · k_mem
        · (repeat (refine List.mem_cons_of_mem _ ?_))
          exact hp
    case dj =>
      intro p hp q hq
      rcases List.mem_cons.mp hp with rfl | hp
      · exact hdj (44, _) hT.here.choose_spec q hq
      rcases List.mem_cons.mp hp with rfl | hp
      · exact (n2 q hq).symm
      · cases hp
    case hv =>
      rfl
end
end
section
open PySem PySem.W PyProof.Rows PySem.Spec PySem.Calls
section

local macro_rules | `(tactic| walk_at "call builtin:list.reverse") => `(tactic| (refine Hold.of ?_))
local macro_rules | `(tactic| walk_at "call ref") => `(tactic| ((with_reducible show wpAny _ _ (call (Value.ref _) _) _ _ _); refine Hold.of ?_))
local macro_rules | `(tactic| walk_at "exec For Name Call cons nil") => `(tactic| (refine Hold.of ?_))
local macro_rules | `(tactic| walk_at "pyIter ref") => `(tactic| (refine Hold.of ?_))
set_option maxRecDepth 100000 in
set_option maxHeartbeats 8000000 in
set_option pp.deepTerms false in
set_option pp.deepTerms.threshold 6 in
theorem divmod_pos_c (w : World) (a b : Int) (ta tb : Tok) (t37 t44 news : List (Addr × Obj)) (hT37 : Tb 37 41 4 (Str.ofString "_int2digits.<locals>.inner") t37) (hT44 : Tb 44 56 4 (Str.ofString "_digits2int.<locals>.inner") t44)
    (hd1 : DisjL t37 (t44 ++ news)) (hd2 : DisjL t44 news) (ha : 0 ≤ a) (ha2 : a < 1048576) (hb : 0 < b) (hb2 : b < 1048576) :
    Cl w 150 1300 (.ref 56) [.int a ta, .int b tb] (t37 ++ (t44 ++ news)) (fun v led => ∃ q c t1 t2 t37' t44', v = .ref q ∧ led = (q, tup2 (.int (a.fdiv b) t1) (.int (a.fmod b) t2) c) :: (t37' ++ (t44' ++ news)) ∧
      Tb 37 41 4 (Str.ofString "_int2digits.<locals>.inner") t37' ∧ Tb 44 56 4 (Str.ofString "_digits2int.<locals>.inner") t44' ∧ DisjL t37' (t44' ++ news) ∧ DisjL t44' news ∧ (∀ p ∈ t37' ++ (t44' ++ news), p.1 ≠ q)) := by
  unfold Cl
  k_fill
  intro p loose mean mg mb dp un gd cn cs aa ccd cl outer A₀ base h₀ L m s Q E B F X N T hk hd hu hret
  have hbb : Builtin.Int.intBits b ≤ 64 := intBits_le_64 (by omega) (by omega)
  refine wpAny_call ?_
  k_dflt cell_enter
  k_steps
  unfold Hold
  k_dflt (refine' Cl.use (int2digits_c w a (Builtin.Int.intBits b) _ _ t37 (t44 ++ news) hT37 hd1 ha ?e1 ?e2 ?e3) ?B ?F ?X ?N ?T ?hk ?hd ?hu ?ret)
  case e1 => omega
  case e2 => have := (bits_20 hb hb2).2.1; omega
  case e3 => omega
  case B => k_asm
  case F => k_asm
  case X => k_asm
  case N => k_asm
  case T => k_asm
  case hk => first | exact rfl | assumption
  case hd => ktr_room
  case hu => ktr_units
  case ret =>
  intro v9 led9 h9 tk9 F9 N9 hR9
  refine gp fun G9 k9 => ?_
  obtain ⟨q9, vs9, t37', rfl, rfl, hT37', hd1', hq9, hvs9⟩ := hR9
  refine k9 ?_; clear k9 G9
  (try dsimp only)
  k_steps
  unfold Hold
  (with_unfolding_all refine' For_invVF (by k_asm) ?k1 ?k2 ?_; (case k1 => exact rfl); (case k2 => exact rfl))
  k_steps
  unfold Hold
  rename_i D hx qD lD mY hy I hz F8 N8 DI qI lI
  obtain ⟨hb20, hbp, hblt⟩ := bits_20 hb hb2
  have hnn : ((Builtin.Int.intBits b : Nat) : Int).toNat = Builtin.Int.intBits b := Int.toNat_natCast _
  rw [hnn] at hvs9
  generalize hds : dg (Builtin.Int.intBits b) a.toNat (((Builtin.Int.intBits a : Int) + (Builtin.Int.intBits b : Int) - 1).fdiv (Builtin.Int.intBits b : Int)).toNat = ds at hvs9
  have hdr : ∀ d ∈ ds, 0 ≤ d ∧ d < 2 ^ Builtin.Int.intBits b := by rw [← hds]; exact dg_room _ _ _
  have hlen : vs9.length = ds.length := hvs9.length
  have hdl : ds.length ≤ 100 := by
    rw [← hds, dg_len]
    have h1 : Builtin.Int.intBits a ≤ 20 := PySem.intBits_le_iff.mpr (by show a.natAbs < 1048576; omega)
    have h2 : ((Builtin.Int.intBits a : Int) + (Builtin.Int.intBits b : Int) - 1).fdiv (Builtin.Int.intBits b : Int) ≤ 100 := by
      rw [Int.fdiv_eq_ediv_of_nonneg _ (by omega)]
      exact Int.le_trans (Int.ediv_le_self _ (by omega)) (by omega)
    omega
  obtain ⟨m0, hm0⟩ := fr_map F8
  refine' for_rev (l := q9) (vs := vs9) (nn := 0) (fun i mm led => ∃ r tr qv qs c, IntsAre qv qs ∧ LD (Builtin.Int.intBits b) b (ds.reverse.take i) qs r ∧ qs.length = i ∧ mm (Str.ofString "r") = some (.int r tr) ∧
      (∀ z, z ≠ Str.ofString "r" → z ≠ Str.ofString "q_digit" → z ≠ Str.ofString "a_digit" → mm z = m0 z) ∧ led = (D, listOf qv.toArray c) :: (q9, listOf vs9.toArray 0) :: (t37' ++ (t44 ++ news))) ?hh ?hl (by k_asm) (by k_asm) ?hoff ?hj ?turn ?done
  case hh => exact rfl
  case hl => exact .tail _ (.head _)
  case hoff =>
    intro p hp
    rcases List.mem_cons.mp hp with rfl | hp
    · exact Nat.ne_of_lt DI
    rcases List.mem_cons.mp hp with rfl | hp
    · exact Nat.ne_of_lt qI
    · exact Nat.ne_of_lt (allLt_mem lI p hp)
  case hj => exact ⟨0, _, [], [], 0, .nil, LD.start _ hb, rfl, rfl, fun z _ _ _ => by rw [hm0], rfl⟩
  case turn =>
    intro i v m1 n1 h1 tk1 own hv hoff hmem hJ F1 N1
    refine gp fun G9 k9 => ?_
    obtain ⟨r, tr, qv, qs, c, hqv, hLD, hql, hmr, hmz, rfl⟩ := hJ
    refine k9 ?_; clear k9 G9
    have hdv : ∃ dg td, v = .int dg td ∧ ds.reverse[i]? = some dg := by
      have hi : i < ds.reverse.length := by
        have := (List.getElem?_eq_some_iff.mp hv).1
        rw [List.length_reverse] at this ⊢
        omega
      obtain ⟨t, ht⟩ := hvs9.reverse.get i (ds.reverse[i]) (List.getElem?_eq_getElem hi)
      rw [hv] at ht
      exact ⟨_, t, Option.some.inj ht, List.getElem?_eq_getElem hi⟩
    obtain ⟨dd, td, rfl, hdd⟩ := hdv
    have hdb := hdr dd (by
      have := List.mem_of_getElem? hdd
      exact List.mem_reverse.mp this)
    have hst := hLD.step hdb
    have hpow : (2 : Int) ^ Builtin.Int.intBits b ≤ 2 ^ 20 := by
      have h1 : (2 : Nat) ^ Builtin.Int.intBits b ≤ 2 ^ 20 := Nat.pow_le_pow_right (by decide) hb20
      have h2 : ((2 ^ Builtin.Int.intBits b : Nat) : Int) ≤ ((2 ^ 20 : Nat) : Int) := Int.ofNat_le.mpr h1
      simpa using h2
    have hr0 := hLD.lo
    have hr1 := hLD.hi
    have hX0 : 0 ≤ r * 2 ^ Builtin.Int.intBits b + dd := by
      have h3 : (0 : Int) < 2 ^ Builtin.Int.intBits b := Int.pow_pos (by decide)
      have := Int.mul_nonneg hr0 (Int.le_of_lt h3)
      omega
    have hX1 : r * 2 ^ Builtin.Int.intBits b + dd < 1099511627776 := by
      have h3 : (0 : Int) < 2 ^ Builtin.Int.intBits b := Int.pow_pos (by decide)
      have h4 : (r + 1) * 2 ^ Builtin.Int.intBits b ≤ 1048576 * 2 ^ 20 := Int.mul_le_mul (by omega) hpow (by omega) (by decide)
      rw [Int.add_mul, Int.one_mul] at h4
      omega
    have F2 := fr_eq (m' := fun y => if y = Str.ofString "a_digit" then some (.int dd td) else if y = Str.ofString "r" then some (.int r tr) else if y = Str.ofString "q_digit" then m1 (Str.ofString "q_digit") else m0 y) F1 (by
      intro y
      by_cases h1 : y = Str.ofString "a_digit"
      · rw [if_pos h1, if_pos h1]
      rw [if_neg h1, if_neg h1]
      by_cases h2 : y = Str.ofString "r"
      · rw [if_pos h2, h2, hmr]
      rw [if_neg h2]
      by_cases h3 : y = Str.ofString "q_digit"
      · rw [if_pos h3, h3]
      · rw [if_neg h3, hmz y h2 h3 h1])
    refine gp fun G9 k9 => ?_
    subst hm0
    refine k9 ?_; clear k9 G9
    clear F1
    simp only [List.cons_append, List.append_assoc] at N1
    have hTo : ∀ p ∈ t37' ++ (t44 ++ (news ++ own)), p.1 ≠ D := by
      intro p hp
      have : p ∈ (t37' ++ (t44 ++ news)) ∨ p ∈ own := by
        simp only [List.mem_append] at hp ⊢
        rcases hp with h | h | h | h <;> simp [h]
      rcases this with h | h
      · exact Nat.ne_of_lt (allLt_mem lD p h)
      · exact hoff p h D (.head _)
    k_steps
    unfold Hold
    rw [hnn]
    k_dflt (refine' Cl.use (div2n1n_c w (r * 2 ^ Builtin.Int.intBits b + dd) b (Builtin.Int.intBits b) _ _ _ _ hX0 hX1 hb hb2 ?e1) ?B ?F ?X ?N ?T ?hk ?hd ?hu ?ret)
    case e1 => omega
    case B => k_asm
    case F => k_asm
    case X => k_asm
    case N => k_asm
    case T => k_asm
    case hk => first | exact rfl | assumption
    case hd => ktr_room
    case hu => ktr_units
    case ret =>
    intro v10 led10 h10 tk10 F10 N10 hR10
    refine gp fun G9 k9 => ?_
    obtain ⟨q10, c10, t1, t2, rfl, rfl, hq10⟩ := hR10
    refine k9 ?_; clear k9 G9
    have hil : i < ds.length := by
      have := (List.getElem?_eq_some_iff.mp hdd).1
      rw [List.length_reverse] at this; exact this
    have hsz : qv.toArray.size ≤ sizeLine := by rw [List.size_toArray, hqv.length, hql, sizeLine_eq]; omega
    have lDq : @LT.lt Nat _ D q10 := hq10 _ (.head _)
    have lqq : @LT.lt Nat _ q9 q10 := hq10 _ (.tail _ (.head _))
    (try dsimp only)
    k_steps
    (rename Fr _ _ _ _ => F11); (rename News _ _ _ _ => N11)
    rw [List.push_toArray] at N11
    refine' InvEndG.intro (nx := (D, listOf (qv ++ [Value.int ((r * 2 ^ Builtin.Int.intBits b + dd).fdiv b) t1]).toArray (c + 1)) :: (q9, listOf vs9.toArray 0) :: (t37' ++ (t44 ++ news))) F11 N11 ?hj ?ha ?hn ?ho
    case hj =>
      refine ⟨.tail _ (.head _), (r * 2 ^ Builtin.Int.intBits b + dd).fmod b, t2, _, _, _, hqv.append (.cons _ _ .nil), ?_, ?_, rfl, ?_, rfl⟩
      · rw [List.take_add_one, hdd]
        exact hst
      · rw [List.length_append, hql]; rfl
      · intro z z1 z2 z3
        dsimp +zetaDelta only
        (repeat (first | rw [if_neg z1] | rw [if_neg z2] | rw [if_neg z3]))
    case ha =>
      intro p hp q hq
      exact hoff p hp q (by simpa using hq)
    case hn =>
      intro p hp
      simp only [List.mem_cons, List.mem_append] at hp ⊢
      rcases hp with h | h | h | h | h <;> simp [h]
    case ho =>
      intro p hp
      simp only [List.mem_cons, List.mem_append]
      simp [hp]
  case done =>
    intro m1 n1 h1 tk1 hJ F1 N1
    refine gp fun G9 k9 => ?_
    obtain ⟨r, tr, qv, qs, c, hqv, hLD, hql, hmr, hmz, rfl⟩ := hJ
    refine k9 ?_; clear k9 G9
    have F2 := fr_eq (m' := fun y => if y = Str.ofString "r" then some (.int r tr) else if y = Str.ofString "q_digit" then m1 (Str.ofString "q_digit") else if y = Str.ofString "a_digit" then m1 (Str.ofString "a_digit") else m0 y) F1 (by
      intro y
      by_cases h2 : y = Str.ofString "r"
      · rw [if_pos h2, h2, hmr]
      rw [if_neg h2]
      by_cases h3 : y = Str.ofString "q_digit"
      · rw [if_pos h3, h3]
      rw [if_neg h3]
      by_cases h1 : y = Str.ofString "a_digit"
      · rw [if_pos h1, h1]
      · rw [if_neg h1, hmz y h2 h3 h1])
    refine gp fun G9 k9 => ?_
    subst hm0
    refine k9 ?_; clear k9 G9
    clear F1
    have hTo : ∀ p ∈ t37' ++ (t44 ++ news), p.1 ≠ D := fun p hp => Nat.ne_of_lt (allLt_mem lD p hp)
    (try dsimp only)
    k_steps
    unfold Hold
    (try dsimp only)
    k_dflt (refine' kl_reverse (its := qv.toArray) (l := qv.reverse) ?F ?N ?e ?U ?z ?_)
    case F => k_asm
    case N => k_asm
    case e => simp
    case U => (first | k_upd | fail "U")
    case z => simp only [hqv.length, hql, hlen, sizeLine_eq]; omega
    intro h2 F3 N3
    k_steps
    unfold Hold
    have hq9t : ∀ p ∈ t37', p.1 ≠ q9 := hq9
    have N4 : News _ _ _ (t44 ++ ((D, listOf qv.reverse.toArray c) :: (q9, listOf vs9.toArray 0) :: (t37' ++ news))) := cb_drop N3 (by
      intro p hp
      simp only [List.mem_cons, List.mem_append] at hp ⊢
      rcases hp with h | h | h | h | h <;> simp [h])
    have hdj4 : DisjL t44 ((D, listOf qv.reverse.toArray c) :: (q9, listOf vs9.toArray 0) :: (t37' ++ news)) := by
      intro p hp q hq
      rcases List.mem_cons.mp hq with rfl | hq
      · exact hTo p (List.mem_append_right _ (List.mem_append_left _ hp))
      rcases List.mem_cons.mp hq with rfl | hq
      · exact (hd1' _ (.head _) p (List.mem_append_left _ hp)).symm
      rcases List.mem_append.mp hq with hq | hq
      · exact (hd1' q (.tail _ hq) p (List.mem_append_left _ hp)).symm
      · exact hd2 p hp q hq
    rw [List.take_of_length_le (by rw [List.length_reverse, hlen]; exact Nat.le_refl _)] at hLD
    have hfin := hLD.done
    k_dflt (refine' Cl.use (digits2int_c w (Builtin.Int.intBits b) _ D c qv.reverse qs.reverse t44 _ hT44 hdj4 (.head _) hqv.reverse ?e1 ?e2 ?e3 ?e4) ?B ?F ?X N4 ?T ?hk ?hd ?hu ?ret)
    case e1 => rw [List.length_reverse, hql, hlen]; omega
    case e2 =>
      rw [hnn]
      exact fun d hd => hLD.qd d (List.mem_reverse.mp hd)
    case e3 => omega
    case e4 => omega
    case B => k_asm
    case F => k_asm
    case X => k_asm
    case T => k_asm
    case hk => first | exact rfl | assumption
    case hd => ktr_room
    case hu => ktr_units
    case ret =>
    intro v10 led10 h10 tk10 F10 N10 hR10
    refine gp fun G9 k9 => ?_
    obtain ⟨t10, t44', rfl, rfl, hT44', hdj44⟩ := hR10
    refine k9 ?_; clear k9 G9
    (try dsimp only)
    k_steps
    (rename AllLt _ (t44' ++ _) => lT); (rename News h₀ _ _ _ => kN); (rename Fr h₀ _ _ _ => kF)
    have hval : vl (Builtin.Int.intBits b) ds = a := by
      have hr := bits_room (x := a) (n := (Builtin.Int.intBits b : Int)) (by omega)
      rw [hnn] at hr
      rw [← hds, vl_dg, Nat.mod_eq_of_lt hr, Int.toNat_of_nonneg ha]
    rw [hval] at hfin
    rw [hnn, ← hfin.1, ← hfin.2] at kN
    refine' hret (.ref _) ((_, tup2 (.int (a.fdiv b) t10) (.int (a.fmod b) tr) 0) :: (t37' ++ (t44' ++ news))) _ _ kF ?N ⟨_, 0, _, _, t37', t44', rfl, rfl, hT37', hT44', ?d1, ?d2, ?d3⟩
    case N =>
      refine cb_drop kN ?_
      intro p hp
      rcases List.mem_cons.mp hp with rfl | hp
      · exact .head _
      · refine List.mem_cons_of_mem _ ?_
        simp only [List.mem_cons, List.mem_append] at hp ⊢
        rcases hp with h | h | h <;> simp [h]
    case d1 =>
      intro p hp q hq
      rcases List.mem_append.mp hq with hq | hq
      · exact (hdj44 q hq p (.tail _ (.tail _ (List.mem_append_left _ hp)))).symm
      · exact hd1' p (.tail _ hp) q (List.mem_append_right _ hq)
    case d2 =>
      intro p hp q hq
      exact hdj44 p hp q (.tail _ (.tail _ (List.mem_append_right _ hq)))
    case d3 =>
      intro p hp
      rcases List.mem_append.mp hp with h | h
      · exact Nat.ne_of_lt (allLt_mem lT p (List.mem_append_right _ (.tail _ (.tail _ (List.mem_append_left _ h)))))
      rcases List.mem_append.mp h with h | h
      · exact Nat.ne_of_lt (allLt_mem lT p (List.mem_append_left _ h))
      · exact Nat.ne_of_lt (allLt_mem lT p (List.mem_append_right _ (.tail _ (.tail _ (List.mem_append_right _ h)))))
end
end
section
open PySem PySem.W PyProof.Rows PySem.Spec PySem.Calls
abbrev Q37 : Str := Str.ofString "_int2digits.<locals>.inner"
abbrev Q44 : Str := Str.ofString "_digits2int.<locals>.inner"
/-- the two tables that a division may fill, apart from each other and from the rest -/
structure Tbs (t37 t44 news : List (Addr × Obj)) : Prop where
  a : Tb 37 41 4 Q37 t37
  b : Tb 44 56 4 Q44 t44
  d1 : DisjL t37 (t44 ++ news)
  d2 : DisjL t44 news
abbrev DMRet (a b : Int) (news : List (Addr × Obj)) (v : Value) (led : List (Addr × Obj)) : Prop :=
  ∃ q c t1 t2 t37 t44, v = .ref q ∧ led = (q, tup2 (.int (a.fdiv b) t1) (.int (a.fmod b) t2) c) :: (t37 ++ (t44 ++ news)) ∧ Tbs t37 t44 news ∧ ∀ p ∈ t37 ++ (t44 ++ news), p.1 ≠ q
theorem neg_dm {a b : Int} : (-a).fdiv (-b) = a.fdiv b ∧ -((-a).fmod (-b)) = a.fmod b := by
  have h1 : (-a).fdiv (-b) = a.fdiv b := by
    first | exact Int.neg_fdiv_neg a b | simp
  refine ⟨h1, ?_⟩
  have e1 := Int.mul_fdiv_add_fmod a b
  have e2 := Int.mul_fdiv_add_fmod (-a) (-b)
  rw [h1, Int.neg_mul] at e2
  omega
section

local macro_rules | `(tactic| walk_at "call ref") => `(tactic| ((with_reducible show wpAny _ _ (call (Value.ref _) _) _ _ _); refine Hold.of ?_))
set_option maxRecDepth 100000 in
set_option maxHeartbeats 8000000 in
set_option pp.deepTerms false in
set_option pp.deepTerms.threshold 6 in
theorem int_divmod_p (w : World) (a b : Int) (ta tb : Tok) (t37 t44 news : List (Addr × Obj)) (hT : Tbs t37 t44 news) (ha : 0 ≤ a) (ha2 : a < 1048576) (hb : 0 < b) (hb2 : b < 1048576) :
    Cl w 151 1310 (.ref 63) [.int a ta, .int b tb] (t37 ++ (t44 ++ news)) (DMRet a b news) := by
  unfold Cl
  k_fill
  intro p loose mean mg mb dp un gd cn cs aa ccd cl outer A₀ base h₀ L m s Q E B F X N T hk hd hu hret
  refine wpAny_call ?_
  k_dflt cell_enter
  k_steps
  all_goals (try (exfalso; omega))
  unfold Hold
  k_dflt (refine' Cl.use (divmod_pos_c w a b _ _ t37 t44 news hT.a hT.b hT.d1 hT.d2 ha ha2 hb hb2) ?B ?F ?X ?N ?T ?hk ?hd ?hu ?ret)
  case B => k_asm
  case F => k_asm
  case X => k_asm
  case N => k_asm
  case T => k_asm
  case hk => first | exact rfl | assumption
  case hd => ktr_room
  case hu => ktr_units
  case ret =>
  intro v9 led9 h9 tk9 F9 N9 hR9
  refine gp fun G9 k9 => ?_
  obtain ⟨q, c, t1, t2, t37', t44', rfl, rfl, hA, hB, hC, hD, hE⟩ := hR9
  refine k9 ?_; clear k9 G9
  (try dsimp only)
  k_steps
  exact hret _ _ _ _ (by k_asm) (by k_asm) ⟨q, c, t1, t2, t37', t44', rfl, rfl, ⟨hA, hB, hC, hD⟩, hE⟩
set_option maxRecDepth 100000 in
set_option maxHeartbeats 8000000 in
set_option pp.deepTerms false in
set_option pp.deepTerms.threshold 6 in
theorem int_divmod_n (w : World) (a b : Int) (ta tb : Tok) (t37 t44 news : List (Addr × Obj)) (hT : Tbs t37 t44 news) (ha : a ≤ 0) (ha2 : -1048576 < a) (hb : b < 0) (hb2 : -1048576 < b) :
    Cl w 152 1320 (.ref 63) [.int a ta, .int b tb] (t37 ++ (t44 ++ news)) (DMRet a b news) := by
  unfold Cl
  k_fill
  intro p loose mean mg mb dp un gd cn cs aa ccd cl outer A₀ base h₀ L m s Q E B F X N T hk hd hu hret
  refine wpAny_call ?_
  k_dflt cell_enter
  k_steps
  all_goals (try (exfalso; omega))
  unfold Hold
  k_dflt (refine' Cl.use (int_divmod_p w (-a) (-b) _ _ t37 t44 news hT ?e1 ?e2 ?e3 ?e4) ?B ?F ?X ?N ?T ?hk ?hd ?hu ?ret)
  case e1 => omega
  case e2 => omega
  case e3 => omega
  case e4 => omega
  case B => k_asm
  case F => k_asm
  case X => k_asm
  case N => k_asm
  case T => k_asm
  case hk => first | exact rfl | assumption
  case hd => ktr_room
  case hu => ktr_units
  case ret =>
  intro v9 led9 h9 tk9 F9 N9 hR9
  refine gp fun G9 k9 => ?_
  obtain ⟨q, c, t1, t2, t37', t44', rfl, rfl, hT', hE⟩ := hR9
  refine k9 ?_; clear k9 G9
  (try dsimp only)
  k_steps
  (rename AllLt _ _ => lT); (rename News h₀ _ _ _ => kN); (rename Fr h₀ _ _ _ => kF)
  rw [neg_dm.1, neg_dm.2] at kN
  refine' hret (.ref _) ((_, tup2 (.int (a.fdiv b) _) (.int (a.fmod b) _) 0) :: (t37' ++ (t44' ++ news))) _ _ kF (cb_drop kN ?N) ⟨_, 0, _, _, t37', t44', rfl, rfl, hT', ?d3⟩
  case N =>
    intro p hp
    rcases List.mem_cons.mp hp with rfl | hp
    · exact .head _
    · exact .tail _ (.tail _ hp)
  case d3 => exact fun p hp => Nat.ne_of_lt (allLt_mem lT p hp)
end
end
section
open PySem PySem.W PyProof.Rows PySem.Spec PySem.Calls

theorem Tbs.put {t37 t44 news : List (Addr × Obj)} {x : Addr} {o : Obj} (h : Tbs t37 t44 news) (hn : ∀ p ∈ t37 ++ (t44 ++ news), p.1 ≠ x) : Tbs t37 t44 ((x, o) :: news) := by
  refine ⟨h.a, h.b, fun p hp q hq => ?_, fun p hp q hq => ?_⟩
  · rcases List.mem_append.mp hq with hq | hq
    · exact h.d1 p hp q (List.mem_append_left _ hq)
    rcases List.mem_cons.mp hq with rfl | hq
    · exact hn p (List.mem_append_left _ hp)
    · exact h.d1 p hp q (List.mem_append_right _ hq)
  · rcases List.mem_cons.mp hq with rfl | hq
    · exact hn p (List.mem_append_right _ (List.mem_append_left _ hp))
    · exact h.d2 p hp q hq
theorem Tbs.app {t37 t44 news own : List (Addr × Obj)} (h : Tbs t37 t44 news) (h1 : DisjL t37 own) (h2 : DisjL t44 own) : Tbs t37 t44 (news ++ own) := by
  refine ⟨h.a, h.b, fun p hp q hq => ?_, fun p hp q hq => ?_⟩
  · rcases List.mem_append.mp hq with hq | hq
    · exact h.d1 p hp q (List.mem_append_left _ hq)
    rcases List.mem_append.mp hq with hq | hq
    · exact h.d1 p hp q (List.mem_append_right _ hq)
    · exact h1 p hp q hq
  · rcases List.mem_append.mp hq with hq | hq
    · exact h.d2 p hp q hq
    · exact h2 p hp q hq
theorem Tbs.sub {t37 t44 news news' : List (Addr × Obj)} (h : Tbs t37 t44 news) (hs : ∀ q ∈ news', q ∈ news) : Tbs t37 t44 news' := by
  refine ⟨h.a, h.b, fun p hp q hq => ?_, fun p hp q hq => h.d2 p hp q (hs q hq)⟩
  rcases List.mem_append.mp hq with hq | hq
  · exact h.d1 p hp q (List.mem_append_left _ hq)
  · exact h.d1 p hp q (List.mem_append_right _ (hs q hq))
theorem int_divmod_c (w : World) (a b : Int) (ta tb : Tok) (t37 t44 news : List (Addr × Obj)) (hT : Tbs t37 t44 news) (hs : SG a b) (hb : b ≠ 0) :
    Cl w 152 1320 (.ref 63) [.int a ta, .int b tb] (t37 ++ (t44 ++ news)) (DMRet a b news) := by
  refine gp fun G9 k9 => ?_
  obtain ⟨h1, h2, h3, h4, h5⟩ := hs
  refine k9 ?_; clear k9 G9
  rcases Int.lt_or_gt_of_ne hb with hn | hp
  · exact int_divmod_n w a b ta tb t37 t44 news hT (by omega) h2 hn h4
  · have C := int_divmod_p w a b ta tb t37 t44 news hT (by omega) h3 hp h5
    intro p loose mean mg mb dp un gd cn cs aa ccd cl outer A₀ base h₀ L m s Q E B F X N T hk hd hu hret
    exact C p loose mean mg mb dp un gd cn cs aa ccd cl outer A₀ base h₀ L m s Q E B F X N T hk (by omega) (by omega) hret
section
variable {α : Type} {P : α → Prop} {t a b c n o : List α} {y z q v : α}
theorem app2 (h1 : ∀ x ∈ a, P x) (h2 : ∀ x ∈ b, P x) : ∀ x ∈ a ++ b, P x := fun x h => (List.mem_append.mp h).elim (h1 x) (h2 x)
theorem app3 (h1 : ∀ x ∈ a, P x) (h2 : ∀ x ∈ b, P x) (h3 : ∀ x ∈ c, P x) : ∀ x ∈ a ++ (b ++ c), P x := app2 h1 (app2 h2 h3)
theorem con1 (h1 : P y) (h2 : ∀ x ∈ a, P x) : ∀ x ∈ y :: a, P x := List.forall_mem_cons.mpr ⟨h1, h2⟩
theorem u1 (h : ∀ x ∈ a ++ b, P x) : ∀ x ∈ a, P x := fun x k => h x (List.mem_append_left _ k)
theorem u2 (h : ∀ x ∈ a ++ b, P x) : ∀ x ∈ b, P x := fun x k => h x (List.mem_append_right _ k)
theorem app5 (h : ∀ x ∈ t ++ (a ++ (b ++ n)), P x) (ho : ∀ x ∈ o, P x) : ∀ x ∈ t ++ (a ++ (b ++ (n ++ o))), P x :=
  app2 (u1 h) (app3 (u1 (u2 h)) (u1 (u2 (u2 h))) (app2 (u2 (u2 (u2 h))) ho))
theorem rot (h : ∀ x ∈ t ++ (a ++ (b ++ n)), P x) : ∀ x ∈ a ++ (b ++ (t ++ n)), P x := app3 (u1 (u2 h)) (u1 (u2 (u2 h))) (app2 (u1 h) (u2 (u2 (u2 h))))
theorem rot1 (h : ∀ x ∈ t ++ (a ++ (b ++ n)), P x) (hy : P y) : ∀ x ∈ a ++ (b ++ (y :: (t ++ n))), P x := app3 (u1 (u2 h)) (u1 (u2 (u2 h))) (con1 hy (app2 (u1 h) (u2 (u2 (u2 h)))))
theorem rot2 (h : ∀ x ∈ t ++ (a ++ (b ++ n)), P x) (hy : P y) (hz : P z) : ∀ x ∈ a ++ (b ++ (y :: z :: (t ++ n))), P x := app3 (u1 (u2 h)) (u1 (u2 (u2 h))) (con1 hy (con1 hz (app2 (u1 h) (u2 (u2 (u2 h))))))
theorem un2 (h : ∀ x ∈ a ++ (b ++ (y :: z :: c)), P x) : ∀ x ∈ a ++ (b ++ c), P x := app3 (u1 h) (u1 (u2 h)) fun x k => h x (List.mem_append_right _ (List.mem_append_right _ (.tail _ (.tail _ k))))
theorem un2y (h : ∀ x ∈ a ++ (b ++ (y :: z :: c)), P x) : P y := h _ (List.mem_append_right _ (List.mem_append_right _ (.head _)))
theorem un2z (h : ∀ x ∈ a ++ (b ++ (y :: z :: c)), P x) : P z := h _ (List.mem_append_right _ (List.mem_append_right _ (.tail _ (.head _))))
theorem mid2 (h : ∀ x ∈ t ++ (a ++ (b ++ c)), P x) : ∀ x ∈ t ++ c, P x := app2 (u1 h) (u2 (u2 (u2 h)))
theorem sub45 : ∀ x ∈ t ++ (a ++ (b ++ n)), x ∈ t ++ (a ++ (b ++ (n ++ o))) := by
  intro x hx
  simp only [List.mem_append] at hx ⊢
  rcases hx with h | h | h | h <;> simp [h]
theorem sub2 : ∀ x ∈ q :: y :: z :: (a ++ (b ++ c)), x ∈ q :: (a ++ (b ++ (y :: z :: c))) := by
  intro x hx
  simp only [List.mem_append, List.mem_cons] at hx ⊢
  rcases hx with h | h | h | h | h | h <;> simp [h]
theorem sub6 : ∀ x ∈ t ++ (a ++ (b ++ n)), x ∈ a ++ (b ++ (t ++ (n ++ o))) := by
  intro x hx
  simp only [List.mem_append] at hx ⊢
  rcases hx with h | h | h | h <;> simp [h]
theorem sub8 : ∀ x ∈ a ++ (b ++ (t ++ n)), x ∈ a ++ (b ++ (t ++ (n ++ o))) := by
  intro x hx
  simp only [List.mem_append] at hx ⊢
  rcases hx with h | h | h | h <;> simp [h]
theorem own6 : ∀ x ∈ o, x ∈ a ++ (b ++ (t ++ (n ++ o))) := fun _ h => List.mem_append_right _ (List.mem_append_right _ (List.mem_append_right _ (List.mem_append_right _ h)))
theorem sub7 : ∀ x ∈ t ++ n, x ∈ y :: z :: (t ++ (n ++ o)) := fun _ h => .tail _ (.tail _ ((List.mem_append.mp h).elim (fun k => List.mem_append_left _ k) fun k => List.mem_append_right _ (List.mem_append_left _ k)))
end
/-- what holds between the turns -/
inductive J5 (R Ls : Addr) (u v : Int) (news : List (Addr × Obj)) (m0 : Str → Option Value) (i : Nat) (mm : Str → Option Value) (led : List (Addr × Obj)) : Prop
  | mk (rv : List Value) (qs : List Int) (lv : List Value) (ls : List L3) (c1 c2 : Nat) (tl t37' t44' : List (Addr × Obj)) (pp cc : L3) (k : Nat)
      (h1 : led = (R, listOf rv.toArray c1) :: (Ls, listOf lv.toArray c2) :: (tl ++ (t37' ++ (t44' ++ news)))) (h2 : IntsAre rv qs) (h3 : L3In tl lv (ls ++ [pp, cc])) (h4 : Tbs t37' t44' (tl ++ news)) (h5 : DisjL tl news)
      (h6 : qs ++ eqs (60 - i) pp cc = eqs 60 (u, 1, 0) (v, 0, 1)) (h7 : ls ++ els (60 - i) pp cc = els 60 (u, 1, 0) (v, 0, 1)) (h8 : Ends k pp.1 cc.1) (h9 : k + i = 59) (h10 : SG pp.1 cc.1) (h11 : qs.length = i) (h12 : ls.length = i)
      (h13 : ∀ x ∈ tl ++ (t37' ++ (t44' ++ news)), x.1 ≠ R) (h14 : ∀ x ∈ tl ++ (t37' ++ (t44' ++ news)), x.1 ≠ Ls)
      (h15 : ∀ z, z ≠ Str.ofString "turn" → z ≠ Str.ofString "pair" → mm z = m0 z)
/-- what the run gives back -/
inductive LR (u v : Int) (news : List (Addr × Obj)) (vv : Value) (led : List (Addr × Obj)) : Prop
  | mk (P R Ls : Addr) (c c1 c2 : Nat) (rv lv : List Value) (tl t37' t44' : List (Addr × Obj)) (h1 : vv = .ref P)
      (h2 : led = (P, tup2 (.ref R) (.ref Ls) c) :: (R, listOf rv.toArray c1) :: (Ls, listOf lv.toArray c2) :: (tl ++ (t37' ++ (t44' ++ news))))
      (h3 : IntsAre rv (eqs 60 (u, 1, 0) (v, 0, 1))) (h4 : L3In tl lv (els 60 (u, 1, 0) (v, 0, 1)))
      (h5 : Tbs t37' t44' ((P, tup2 (.ref R) (.ref Ls) c) :: (R, listOf rv.toArray c1) :: (Ls, listOf lv.toArray c2) :: (tl ++ news)))
      (h6 : DisjL ((P, tup2 (.ref R) (.ref Ls) c) :: (R, listOf rv.toArray c1) :: (Ls, listOf lv.toArray c2) :: tl) news)
section

local macro_rules | `(tactic| walk_at "call ref") => `(tactic| ((with_reducible show wpAny _ _ (call (Value.ref _) _) _ _ _); refine Hold.of ?_))
local macro_rules | `(tactic| walk_at "exec For Name Call cons nil") => `(tactic| (refine Hold.of ?_))
local macro_rules | `(tactic| walk_at "pyIter ref") => `(tactic| (refine Hold.of ?_))
local macro_rules | `(tactic| walk_at "subscriptTail Name UnaryOp ref int") => `(tactic| (k_here; (with_unfolding_all refine' kde_neg ?k1 ?k2 ?k3 ?k4 ?k5 ?_ ?k6; (case k2 => decide); (case k3 => decide); (case k1 => is_list); (case k4 => with_reducible assumption); (case k5 => with_reducible assumption); (case k6 => with_unfolding_all rfl); k_whole)))
local macro_rules | `(tactic| walk_at "exec Raise some none") => `(tactic| (k_here; (with_reducible show wpAny _ _ (exec (Stmt.Raise (some (Expr.Name ("ZeroDivisionError" : Str) _)) none _) _) _ _ _); (with_reducible rename Fr _ _ _ _ => kF); k_dflt (refine' Raise_classB ?hh excClass_ZeroDivisionError ?hs ?hx ?_; (case hh => rfl); (case hs => (rw [isSubtype_type]; kernel_rfl)); (case hx => (refine' name_B kF ?k1 ?k2 ?k3 ?k4 ?k5 ?_; (case k1 => k_asm); (case k2 => k_asm); (case k3 => k_is); (case k4 => boot_by_name); (case k5 => decide); exact ⟨rfl, rfl⟩)); intro h' e hx; (try dsimp only))))
set_option maxRecDepth 100000 in
set_option maxHeartbeats 8000000 in
set_option pp.deepTerms false in
set_option pp.deepTerms.threshold 6 in
theorem law_lines_c (w : World) (u v : Int) (tu tv : Tok) (t37 t44 news : List (Addr × Obj)) (hT : Tbs t37 t44 news) (hg : SG u v) (hend : Ends 59 u v) :
    Cl0 w 160 1400 (.ref 91) [.int u tu, .int v tv] (t37 ++ (t44 ++ news)) (LR u v news) := by
  unfold Cl0
  k_fill
  intro p loose mean mg mb dp un gd cn cs aa ccd cl A₀ base h₀ L m s Q E B F X N T XB TB hk hd hu hret
  refine wpAny_call ?_
  k_dflt (refine' def_S0 ?k1 ?k2 ?k3 ?k4 ?k5 ?kA ?kF ?kK ?k6 ?k7 ?k8 ?k9 ?kB ?_ ?c2 ?c3 ?c4 ?c5; (case kA => exact rfl); (case kF => exact rfl); (case kK => assumption); (case k1 => k_asm); (case k2 => k_asm); (case k3 => assumption); (case k4 => k_asm); (case k5 => k_asm); (case k6 => k_is); (case k7 => k_is); (case k8 => ktr_room); (case k9 => exact BindsTo.of_eq rfl); (case kB => exact locs rfl); (case c2 => exact rfl); (case c3 => exact rfl); (case c4 => exact rfl); (case c5 => decide); k_whole; intro g' L' h' FG' F' N' l1 B' X' T' D'; (try k_lt l1); (have lE := EntryLt.mk l1); (try dsimp only); (try k_lift B'); (try k_fold))
  k_steps
  unfold Hold
  (with_unfolding_all refine' For_invVF (by k_asm) ?k1 ?k2 ?_; (case k1 => exact rfl); (case k2 => exact rfl))
  k_steps
  unfold Hold
  rename_i R hA lR T1 hB RT1 lT1 T2 hC T1T2 RT2 lT2 Ls hD T2L T1L RL lL PP hE LP T2P T1P RP lP b1 mm1 b2 mm2 b3 Fa Na hz tkz tz uz vz hRng F8 N8 hkeep
  obtain ⟨m0, hm0⟩ := fr_map F8
  refine' for_range (n := 60) (news := (R, listOf [].toArray 0) :: (Ls, listOf [Value.ref T1, Value.ref T2].toArray 0) :: ([(T1, tup3 (.int u _) (.int 1 _) (.int 0 _) 0), (T2, tup3 (.int v _) (.int 0 _) (.int 1 _) 0)] ++ (t37 ++ (t44 ++ news)))) (J5 R Ls u v news m0) ?hh hRng ?hsm ?hsz F8 (cb_drop N8 ?hS) ?hj ?turn ?done
  case hh => exact rfl
  case hsm => decide
  case hsz => decide
  case hS =>
    intro x hx
    rcases List.mem_cons.mp hx with rfl | hx
    · k_mem
    rcases List.mem_cons.mp hx with rfl | hx
    · k_mem
    rcases List.mem_cons.mp hx with rfl | hx
    · k_mem
    rcases List.mem_cons.mp hx with rfl | hx
    · k_mem
    · exact .tail _ (.tail _ (.tail _ (.tail _ (.tail _ hx))))
  case hj =>
    have dT : ∀ (o1 o2 : Obj) (l : List (Addr × Obj)), (∀ x ∈ l, x ∈ t37 ++ (t44 ++ news)) → DisjL l [(T1, o1), (T2, o2)] := by
      intro o1 o2 l hl x hx q hq
      rcases List.mem_cons.mp hq with rfl | hq
      · exact Nat.ne_of_lt (allLt_mem lT1 x (hl x hx))
      rcases List.mem_cons.mp hq with rfl | hq
      · exact Nat.ne_of_lt (allLt_mem lT2 x (hl x hx))
      · cases hq
    refine ⟨[], [], [.ref T1, .ref T2], [], 0, 0, _, t37, t44, (u, 1, 0), (v, 0, 1), 59, rfl, .nil, .cons (.head _) (.cons (.tail _ (.head _)) .nil), ⟨hT.a, hT.b, ?_, ?_⟩, ?_, rfl, rfl, hend, rfl, hg, rfl, rfl, ?_, ?_, fun z _ _ => by rw [hm0]⟩
    · intro x hx q hq
      rcases List.mem_append.mp hq with hq | hq
      · exact hT.d1 x hx q (List.mem_append_left _ hq)
      rcases List.mem_append.mp hq with hq | hq
      · exact dT _ _ t37 (fun y hy => List.mem_append_left _ hy) x hx q hq
      · exact hT.d1 x hx q (List.mem_append_right _ hq)
    · intro x hx q hq
      rcases List.mem_append.mp hq with hq | hq
      · exact dT _ _ t44 (fun y hy => List.mem_append_right _ (List.mem_append_left _ hy)) x hx q hq
      · exact hT.d2 x hx q hq
    · intro x hx q hq
      exact (dT _ _ news (fun y hy => List.mem_append_right _ (List.mem_append_right _ hy)) q hq x hx).symm
    · intro x hx
      rcases List.mem_cons.mp hx with rfl | hx
      · exact Nat.ne_of_gt RT1
      rcases List.mem_cons.mp hx with rfl | hx
      · exact Nat.ne_of_gt RT2
      · exact Nat.ne_of_lt (allLt_mem lR x hx)
    · intro x hx
      rcases List.mem_cons.mp hx with rfl | hx
      · exact Nat.ne_of_lt T1L
      rcases List.mem_cons.mp hx with rfl | hx
      · exact Nat.ne_of_lt T2L
      · exact Nat.ne_of_lt (allLt_mem lL x hx)
  case turn =>
    intro i tt m1 n1 h1 tk1 own hi hoff hJ F1 N1
    refine gp fun G9 k9 => ?_
    obtain ⟨rv, qs, lv, ls, c1, c2, tl, t37', t44', pp, cc, k, rfl, hrv, hlv, hT', hdj, hqs, hls, hen, hk0, hsg, hql, hll, hR1, hL1, hmz⟩ := hJ
    refine k9 ?_; clear k9 G9
    have F2 := fr_eq (m' := fun y => if y = Str.ofString "turn" then some (.int (0 + (i : Int)) tt) else if y = Str.ofString "pair" then m1 (Str.ofString "pair") else m0 y) F1 (by
      intro y
      by_cases z1 : y = Str.ofString "turn"
      · rw [if_pos z1, if_pos z1]
      rw [if_neg z1, if_neg z1]
      by_cases z2 : y = Str.ofString "pair"
      · rw [if_pos z2, z2]
      · rw [if_neg z2, hmz y z1 z2])
    refine gp fun G9 k9 => ?_
    subst hm0
    refine k9 ?_; clear k9 G9
    clear F1
    have hlen : lv.length = i + 2 := by rw [hlv.length, List.length_append, hll]; rfl
    have hq1 : seqIndex? (-2) lv.length = some i := by rw [hlen, seqIndex_neg (by decide) (by omega)]; congr 1; omega
    have hq2 : seqIndex? (-1) lv.length = some (i + 1) := by rw [hlen, seqIndex_neg (by decide) (by omega)]; congr 1; omega
    refine gp fun G9 k9 => ?_
    obtain ⟨ap, p1, p2, p3, pn, hvp, hmp⟩ := hlv.get (k := i) (l := pp) (by rw [List.getElem?_append_right (by omega), hll]; simp)
    obtain ⟨ac, e1, e2, e3, en, hvc, hmc⟩ := hlv.get (k := i + 1) (l := cc) (by rw [List.getElem?_append_right (by omega), hll]; simp)
    obtain ⟨rest, hrest⟩ : ∃ rest, rest = tl ++ (t37' ++ (t44' ++ (news ++ own))) := ⟨_, rfl⟩
    refine k9 ?_; clear k9 G9
    simp only [List.cons_append, List.append_assoc] at N1
    rw [← hrest] at N1
    have hmpr : (ap, tup3 (.int pp.1 p1) (.int pp.2.1 p2) (.int pp.2.2 p3) pn) ∈ rest := by rw [hrest]; exact List.mem_append_left _ hmp
    have hmcr : (ac, tup3 (.int cc.1 e1) (.int cc.2.1 e2) (.int cc.2.2 e3) en) ∈ rest := by rw [hrest]; exact List.mem_append_left _ hmc
    have hRr : ∀ x ∈ tl ++ (t37' ++ (t44' ++ (news ++ own))), x.1 ≠ R := app5 hR1 fun x h => hoff x h R (.head _)
    have hLr : ∀ x ∈ tl ++ (t37' ++ (t44' ++ (news ++ own))), x.1 ≠ Ls := app5 hL1 fun x h => hoff x h Ls (.tail _ (.head _))
    k_steps
    unfold Hold
    by_cases hz0 : cc.1 = 0
    · rw [hz0]
      refine wpAny_call ?_
      k_dflt (refine' code_def ?k1 ?k2 ?k3 ?k4 ?k5 ?kA ?kF ?kK ?k6 ?k7 ?k8 ?k9 ?kB ?_ ?c2 ?c3 ?c4 ?c5; (case kA => exact rfl); (case kF => exact rfl); (case kK => exact rfl); (case k1 => k_asm); (case k2 => k_asm); (case k3 => k_asm); (case k4 => k_asm); (case k5 => k_asm); (case k6 => k_is); (case k7 => k_is); (case k8 => ktr_room); (case k9 => exact BindsTo.of_eq rfl); (case c5 => decide); (case kB => exact locs rfl); (case c2 => exact rfl); (case c3 => exact rfl); (case c4 => exact rfl); k_whole; intro g' L' h' FG' F' N' B' X' T'; (try dsimp only); (try k_lift B'); (try k_fold))
      k_steps
      (rename AllLt _ _ => lT); (rename News h₀ _ _ _ => kN); (rename Fr h₀ _ _ _ => kF)
      rename_i D1 h6 F6 N6 lRD lLD Tc6 kX6
      have lPr : ∀ x ∈ tl ++ (t37' ++ (t44' ++ news)), x ∈ rest := by rw [hrest]; exact sub45
      have hPx : ∀ x ∈ tl ++ (t37' ++ (t44' ++ news)), x.1 ≠ D1 := fun x hx => Nat.ne_of_lt (allLt_mem lT x (lPr x hx))
      refine' hret (.ref D1) ((D1, tup2 (.ref R) (.ref Ls) 0) :: (R, listOf rv.toArray c1) :: (Ls, listOf lv.toArray c2) :: (tl ++ (t37' ++ (t44' ++ news)))) _ _ kF (cb_drop kN ?zN) ⟨D1, R, Ls, 0, c1, c2, rv, lv, tl, t37', t44', rfl, rfl, ?zq, ?zl, ?zt, ?zd⟩
      case zN =>
        intro x hx
        rcases List.mem_cons.mp hx with rfl | hx
        · exact .head _
        rcases List.mem_cons.mp hx with rfl | hx
        · exact .tail _ (.head _)
        rcases List.mem_cons.mp hx with rfl | hx
        · exact .tail _ (.tail _ (.head _))
        · exact .tail _ (.tail _ (.tail _ (lPr x hx)))
      case zq => rw [← hqs, eqs_zero hz0, List.append_nil]; exact hrv
      case zl => rw [← hls, els_zero hz0]; exact hlv
      case zt =>
        exact ((hT'.put (rot hL1)).put (rot1 hR1 (Nat.ne_of_gt RL))).put (rot2 hPx (Nat.ne_of_lt lRD) (Nat.ne_of_lt lLD))
      case zd =>
        have hPn := u2 (u2 (u2 hPx)); have hRn := u2 (u2 (u2 hR1)); have hLn := u2 (u2 (u2 hL1))
        exact con1 (fun q hq => (hPn q hq).symm) (con1 (fun q hq => (hRn q hq).symm) (con1 (fun q hq => (hLn q hq).symm) hdj))
    · have hOwn : ∀ l : List (Addr × Obj), (∀ x ∈ l, x ∈ tl ++ (t37' ++ (t44' ++ news))) → DisjL l own := fun l hl x hx q hq => (hoff q hq x.1 (List.mem_cons_of_mem _ (List.mem_cons_of_mem _ (List.mem_map_of_mem (hl x hx))))).symm
      have hTo : Tbs t37' t44' (tl ++ (news ++ own)) := by
        rw [← List.append_assoc]
        exact hT'.app (hOwn _ fun x hx => List.mem_append_right _ (List.mem_append_left _ hx)) (hOwn _ fun x hx => List.mem_append_right _ (List.mem_append_right _ (List.mem_append_left _ hx)))
      have hT2 : Tbs t37' t44' ((R, listOf rv.toArray c1) :: (Ls, listOf lv.toArray c2) :: (tl ++ (news ++ own))) := (hTo.put (rot hLr)).put (rot1 hRr (Nat.ne_of_gt RL))
      k_dflt (refine' Cl.use (int_divmod_c w pp.1 cc.1 _ _ t37' t44' ((R, listOf rv.toArray c1) :: (Ls, listOf lv.toArray c2) :: (tl ++ (news ++ own))) hT2 hsg hz0) ?yB ?yF ?yX ?yN ?yT ?yhk ?yhd ?yhu ?yret)
      case yB => k_asm
      case yF => k_asm
      case yX => k_asm
      case yN => exact cb_drop N1 (rot2 (fun x hx => .tail _ (.tail _ (hrest ▸ hx))) (.head _) (.tail _ (.head _)))
      case yT => k_asm
      case yhk => first | exact rfl | assumption
      case yhd => ktr_room
      case yhu => ktr_units
      case yret =>
      intro v9 led9 h9 tk9 F9 N9 hR9
      refine gp fun G9 k9 => ?_
      obtain ⟨q9, c9, s1, s2, u37, u44, rfl, rfl, hT3, hq9⟩ := hR9
      obtain ⟨rest2, hrest2⟩ : ∃ rest2, rest2 = u37 ++ (u44 ++ (tl ++ (news ++ own))) := ⟨_, rfl⟩
      refine k9 ?_; clear k9 G9
      have N10 : News g' L' h9 ((q9, tup2 (.int (pp.1.fdiv cc.1) s1) (.int (pp.1.fmod cc.1) s2) c9) :: (R, listOf rv.toArray c1) :: (Ls, listOf lv.toArray c2) :: rest2) := by
        rw [hrest2]
        exact cb_drop N9 sub2
      clear N9
      have hmpr2 : (ap, tup3 (.int pp.1 p1) (.int pp.2.1 p2) (.int pp.2.2 p3) pn) ∈ rest2 := by rw [hrest2]; exact List.mem_append_right _ (List.mem_append_right _ (List.mem_append_left _ hmp))
      have hmcr2 : (ac, tup3 (.int cc.1 e1) (.int cc.2.1 e2) (.int cc.2.2 e3) en) ∈ rest2 := by rw [hrest2]; exact List.mem_append_right _ (List.mem_append_right _ (List.mem_append_left _ hmc))
      have hqr2 : ∀ x ∈ rest2, x.1 ≠ q9 := by rw [hrest2]; exact un2 hq9
      have hRr2 : ∀ x ∈ rest2, x.1 ≠ R := by
        rw [hrest2]
        exact app3 (fun x h => hT3.d1 x h (R, listOf rv.toArray c1) (List.mem_append_right _ (.head _))) (fun x h => hT3.d2 x h (R, listOf rv.toArray c1) (.head _)) (mid2 hRr)
      have hLr2 : ∀ x ∈ rest2, x.1 ≠ Ls := by
        rw [hrest2]
        exact app3 (fun x h => hT3.d1 x h (Ls, listOf lv.toArray c2) (List.mem_append_right _ (.tail _ (.head _)))) (fun x h => hT3.d2 x h (Ls, listOf lv.toArray c2) (.tail _ (.head _))) (mid2 hLr)
      have hqR : NeN R q9 := ⟨un2y (P := fun x : Addr × Obj => x.1 ≠ q9) hq9⟩
      have hqL : NeN Ls q9 := ⟨un2z (P := fun x : Addr × Obj => x.1 ≠ q9) hq9⟩
      have hsz1 : rv.toArray.size ≤ sizeLine := by rw [List.size_toArray, hrv.length, hql, sizeLine_eq]; omega
      have hsz2 : lv.toArray.size ≤ sizeLine := by rw [List.size_toArray, hlen, sizeLine_eq]; omega
      have hm1 : IntMulOk (pp.1.fdiv cc.1) cc.2.1 := IntMulOk.of_left (hsg.quot)
      have hm2 : IntMulOk (pp.1.fdiv cc.1) cc.2.2 := IntMulOk.of_left (hsg.quot)
      (try dsimp only)
      k_steps
      (rename Fr _ _ _ _ => F11); (rename News _ _ _ _ => N11); (rename AllLt _ rest2 => lT2)
      rename_i D2 h7 lqD lRD lLD h8
      simp only [List.push_toArray] at N11
      have hS2 : ∀ x ∈ tl ++ (u37 ++ (u44 ++ news)), x ∈ rest2 := by rw [hrest2]; exact sub6
      have hO2 : ∀ x ∈ own, x ∈ rest2 := by rw [hrest2]; exact own6
      have hD2 : ∀ x ∈ rest2, x.1 ≠ D2 := fun x hx => Nat.ne_of_lt (allLt_mem lT2 x hx)
      refine' InvEndG.intro (nx := (R, listOf (rv ++ [Value.int (pp.1.fdiv cc.1) s1]).toArray (c1 + 1)) :: (Ls, listOf (lv ++ [Value.ref D2]).toArray (c2 + 1)) :: (((D2, tup3 (.int (pp.1.fmod cc.1) _) (.int (pp.2.1 - pp.1.fdiv cc.1 * cc.2.1) _) (.int (pp.2.2 - pp.1.fdiv cc.1 * cc.2.2) _) _) :: tl) ++ (u37 ++ (u44 ++ news)))) F11 N11 ?ihj ?iha ?ihn ?iho
      case ihn =>
        intro x hx
        rcases List.mem_cons.mp hx with rfl | hx
        · exact .tail _ (.tail _ (.head _))
        rcases List.mem_cons.mp hx with rfl | hx
        · exact .tail _ (.tail _ (.tail _ (.head _)))
        rcases List.mem_cons.mp hx with rfl | hx
        · exact .head _
        · exact .tail _ (.tail _ (.tail _ (.tail _ (hS2 x hx))))
      case iho =>
        intro x hx
        exact .tail _ (.tail _ (.tail _ (.tail _ (hO2 x hx))))
      case iha =>
        intro x hx b hb
        obtain ⟨y, hy, rfl⟩ := List.mem_map.mp hb
        have ho : ∀ y, y ∈ (R, listOf rv.toArray c1) :: (Ls, listOf lv.toArray c2) :: (tl ++ (t37' ++ (t44' ++ news))) → x.1 ≠ y.1 := fun y hy => hoff x hx y.1 (List.mem_map_of_mem hy)
        rcases List.mem_cons.mp hy with rfl | hy
        · exact ho (R, listOf rv.toArray c1) (.head _)
        rcases List.mem_cons.mp hy with rfl | hy
        · exact ho (Ls, listOf lv.toArray c2) (.tail _ (.head _))
        rcases List.mem_cons.mp hy with rfl | hy
        · exact hD2 x (hO2 x hx)
        rcases List.mem_append.mp hy with hy | hy
        · exact ho y (.tail _ (.tail _ (List.mem_append_left _ hy)))
        rcases List.mem_append.mp hy with hy | hy
        · exact (hT3.d1 y hy x (List.mem_append_right _ (.tail _ (.tail _ (List.mem_append_right _ (List.mem_append_right _ hx)))))).symm
        rcases List.mem_append.mp hy with hy | hy
        · exact (hT3.d2 y hy x (.tail _ (.tail _ (List.mem_append_right _ (List.mem_append_right _ hx))))).symm
        · exact ho y (.tail _ (.tail _ (List.mem_append_right _ (List.mem_append_right _ (List.mem_append_right _ hy)))))
      case ihj =>
        obtain ⟨j, hkj, hen2⟩ := hen.next hz0
        refine ⟨_, qs ++ [pp.1.fdiv cc.1], _, ls ++ [pp], _, _, _, u37, u44, cc, nxt pp cc, j, rfl, hrv.append (.cons _ _ .nil), ?_, ?_, ?_, ?_, ?_, hen2, by omega, hsg.next hz0, ?_, ?_, ?_, ?_, ?_⟩
        · have e : ls ++ [pp] ++ [cc, nxt pp cc] = ls ++ [pp, cc] ++ [(pp.1.fmod cc.1, pp.2.1 - pp.1.fdiv cc.1 * cc.2.1, pp.2.2 - pp.1.fdiv cc.1 * cc.2.2)] := by simp [nxt]
          rw [e]
          exact (hlv.mono fun x hx => .tail _ hx).append (.cons (.head _) .nil)
        · exact (hT3.sub sub7).put fun x hx => hD2 x (by rw [hrest2]; exact sub8 x hx)
        · exact con1 (fun y hy => (hD2 y (hS2 y (List.mem_append_right _ (List.mem_append_right _ (List.mem_append_right _ hy))))).symm) hdj
        · rw [← hqs, show 60 - i = (60 - (i + 1)) + 1 by omega, eqs_succ hz0]
          simp
        · rw [← hls, show 60 - i = (60 - (i + 1)) + 1 by omega, els_succ hz0]
          simp
        · simp [hql]
        · simp [hll]
        · intro x hx
          rcases List.mem_cons.mp hx with rfl | hx
          · exact Nat.ne_of_gt lRD
          · exact hRr2 x (hS2 x hx)
        · intro x hx
          rcases List.mem_cons.mp hx with rfl | hx
          · exact Nat.ne_of_gt lLD
          · exact hLr2 x (hS2 x hx)
        · intro z z1 z2
          dsimp +zetaDelta only
          rw [if_neg z2, if_neg z1, if_neg z2]
  case done =>
    intro m1 n1 h1 tk1 hJ F1 N1
    refine gp fun G9 k9 => ?_
    obtain ⟨rv, qs, lv, ls, c1, c2, tl, t37', t44', pp, cc, k, rfl, hrv, hlv, hT', hdj, hqs, hls, hen, hk0, hsg, hql, hll, hR1, hL1, hmz⟩ := hJ
    refine k9 ?_; clear k9 G9
    exact absurd hk0 (by omega)
end
end
section
open PySem PySem.W PyProof.Rows PySem.Spec PySem.Calls
/-- sixteen times a line's number, with two low digits put in -/
noncomputable def vl3 (e f : Int) (l : L3) : Int := 16 * l.1 + e * l.2.1 + f * l.2.2
noncomputable def low (p c : L3) : Int := min (min (vl3 0 15 c) (vl3 0 15 p - vl3 0 15 c - 1)) (min (vl3 15 0 c) (vl3 15 0 p - vl3 15 0 c - 1))
noncomputable def leastA : List L3 → Option Int → List Int
  | [], _ => []
  | [_], _ => []
  | p :: c :: r, none => low p c :: leastA (c :: r) (some (low p c))
  | p :: c :: r, some a => min a (low p c) :: leastA (c :: r) (some (min a (low p c)))
theorem sub_at {prog : Program} {w : World} {A : Around} {E : Value → Shared → Prop} {s : Shared} {value slice : PySem.Expr} {l : Addr} {vs : List Value} {k : Int} {u : Tok} {j : Nat} {v : Value} {Q : Value → Shared → Prop} (hl : s.heap.IsList l vs.toArray) (hj : k = (j : Int)) (hx : vs[j]? = some v) (hz : vs.length ≤ 16384) (h : Q v s)
    (hs : subscripted slice false (.ref l) (.int k u) = operate [.ref l, .int k u] (getItem (.ref l) (.int k u)) := by with_unfolding_all rfl) :
    wpAny (model prog w) A (subscriptTail value slice (.ref l) (.int k u)) Q E s := by
  have hlt := (List.getElem?_eq_some_iff.mp hx).1
  refine tail_any hl.typeIs slot_list_getitem.lookup (wpAny_getItem_list hl (by omega) (by omega) ?_ h) hs
  rw [List.getElem?_toArray, show k.toNat = j by omega]
  exact hx
theorem unrEnd2 {h₀ h' : Heap} {L : Addr} {x1 x2 i : Addr × Obj} {tail : List (Addr × Obj)} {rest : (Str → Option Value) → List (Addr × Obj) → Prop} {s₁ : Shared} {tk : Nat} {m' : Str → Option Value} (F : Fr h₀ L h' m') (N : News h₀ L h' (x1 :: x2 :: i :: tail))
    (o1 : x1.1 ≠ i.1) (o2 : x2.1 ≠ i.1) (o3 : ∀ p ∈ tail, p.1 ≠ i.1) (r : rest m' (x1 :: x2 :: tail)) : UnrEndW h₀ L s₁ [i] rest { s₁ with heap := h', toks := tk } := by
  refine ⟨h', tk, m', x1 :: x2 :: tail, rfl, F, cb_drop N ?_, ?_, r⟩
  · intro p hp
    simp only [List.cons_append, List.nil_append, List.mem_cons] at hp ⊢
    rcases hp with h | h | h | h <;> simp [h]
  · intro p hp q hq
    rw [List.mem_singleton.mp hq]
    rcases List.mem_cons.mp hp with rfl | hp
    · exact o1
    rcases List.mem_cons.mp hp with rfl | hp
    · exact o2
    · exact o3 p hp
theorem drop_cons {α : Type} {ls : List α} {i : Nat} {p : α} (h : ls[i]? = some p) : ls.drop i = p :: ls.drop (i + 1) := by
  obtain ⟨hlt, he⟩ := List.getElem?_eq_some_iff.mp h
  rw [List.drop_eq_getElem_cons hlt, he]
theorem drop_last (fs : List Int) : fs.drop (fs.length - 1) = fs.getLast?.toList := by
  rcases List.eq_nil_or_concat fs with rfl | ⟨a, b, rfl⟩
  · rfl
  · simp
theorem min4le {M x1 x2 x3 x4 : Int} (h : M = x1 ∨ M = x2 ∨ M = x3 ∨ M = x4) : min (min x1 x2) (min x3 x4) ≤ M := by
  rcases h with h | h | h | h <;> rw [h]
  · exact Int.le_trans (Int.min_le_left _ _) (Int.min_le_left _ _)
  · exact Int.le_trans (Int.min_le_left _ _) (Int.min_le_right _ _)
  · exact Int.le_trans (Int.min_le_right _ _) (Int.min_le_left _ _)
  · exact Int.le_trans (Int.min_le_right _ _) (Int.min_le_right _ _)
theorem min4 {M x1 x2 x3 x4 : Int} (h : M = x1 ∨ M = x2 ∨ M = x3 ∨ M = x4) (h1 : M ≤ x1) (h2 : M ≤ x2) (h3 : M ≤ x3) (h4 : M ≤ x4) : min (min x1 x2) (min x3 x4) = M :=
  Int.le_antisymm (min4le h) (Int.le_min.mpr ⟨Int.le_min.mpr ⟨h1, h2⟩, Int.le_min.mpr ⟨h3, h4⟩⟩)
theorem least_step {fs : List Int} {p c : L3} {r : List L3} {M x1 x2 x3 x4 : Int} (hm : M ∈ fs.drop (fs.length - 1) ++ [x1, x2] ++ [x3, x4]) (hl : ∀ a ∈ fs.drop (fs.length - 1) ++ [x1, x2] ++ [x3, x4], M ≤ a)
    (h1 : x1 = vl3 0 15 c) (h2 : x2 = vl3 0 15 p - vl3 0 15 c - 1) (h3 : x3 = vl3 15 0 c) (h4 : x4 = vl3 15 0 p - vl3 15 0 c - 1) : leastA (p :: c :: r) fs.getLast? = M :: leastA (c :: r) (fs ++ [M]).getLast? := by
  rw [drop_last] at hm hl
  have e : (fs ++ [M]).getLast? = some M := by simp
  rw [e]
  have hlow : low p c = min (min x1 x2) (min x3 x4) := by rw [h1, h2, h3, h4]; rfl
  cases q : fs.getLast? with
  | none =>
    rw [q] at hm hl
    simp only [Option.toList, List.nil_append, List.cons_append, List.mem_cons, List.not_mem_nil, or_false] at hm hl
    have : low p c = M := hlow.trans (min4 hm (hl _ (.inl rfl)) (hl _ (.inr (.inl rfl))) (hl _ (.inr (.inr (.inl rfl)))) (hl _ (.inr (.inr (.inr rfl)))))
    rw [leastA, this]
  | some a =>
    rw [q] at hm hl
    simp only [Option.toList, List.nil_append, List.cons_append, List.mem_cons, List.not_mem_nil, or_false] at hm hl
    have : min a (low p c) = M := by
      rw [hlow]
      refine Int.le_antisymm ?_ (Int.le_min.mpr ⟨hl _ (.inl rfl), Int.le_min.mpr ⟨Int.le_min.mpr ⟨hl _ (.inr (.inl rfl)), hl _ (.inr (.inr (.inl rfl)))⟩, Int.le_min.mpr ⟨hl _ (.inr (.inr (.inr (.inl rfl)))), hl _ (.inr (.inr (.inr (.inr rfl))))⟩⟩⟩)
      rcases hm with h | h
      · rw [h]; exact Int.min_le_left _ _
      · exact Int.le_trans (Int.min_le_right _ _) (min4le h)
    rw [leastA, this]
section

local macro_rules | `(tactic| walk_at "exec For Name Call cons nil") => `(tactic| (refine Hold.of ?_))
local macro_rules | `(tactic| walk_at "pyIter ref") => `(tactic| ((with_reducible show wpAny _ _ _ (fun it s₂ => LoopAtV _ _ _ _ _ _ _ _ _ it s₂) _ _); refine Hold.of ?_))
local macro_rules | `(tactic| walk_at "call builtin:len") => `(tactic| (k_here; (with_reducible show wpAny _ _ (call (Value.builtin "len") [Value.ref _]) _ _ _); k_dflt (refine' KM.len_K ?k1 ?k2 ?k3 ?k4 ?_; (case k1 => k_asm); (case k2 => k_mem); (case k3 => with_reducible assumption); (case k4 => omega); k_whole)))
local macro_rules | `(tactic| walk_at "subscriptTail Name Name ref int") => `(tactic| (k_here; (with_unfolding_all refine' sub_at ?k1 ?k2 ?k3 ?k4 ?_ ?k6; (case k1 => is_list); (case k2 => with_reducible assumption); (case k3 => with_reducible assumption); (case k4 => with_reducible assumption); (case k6 => with_unfolding_all rfl); k_whole)))
local macro_rules | `(tactic| walk_at "subscriptTail Name BinOp ref int") => `(tactic| (k_here; (with_unfolding_all refine' sub_at ?k1 ?k2 ?k3 ?k4 ?_ ?k6; (case k1 => is_list); (case k2 => with_reducible assumption); (case k3 => with_reducible assumption); (case k4 => with_reducible assumption); (case k6 => with_unfolding_all rfl); k_whole)))
local macro_rules | `(tactic| walk_at "pyIter ref") => `(tactic| (k_here; (with_reducible show wpAny _ _ (pyIter (Value.ref _)) (fun it s₂ => TurnsAt _ _ _ _ _ _ _ _ _ it s₂) _ _); (rename Fr _ _ _ _ => lF'); (rename News _ _ _ _ => lN'); (with_unfolding_all refine' iter_tupTurns ?h lF' lN' ?m ?c ?d ?_; (case m => k_mem); (case h => exact rfl); (case c => exact rfl); (case d => exact rfl); k_whole); clear lF'; intro i' l1; (try k_lt l1)))
local macro_rules | `(tactic| walk_at "UnrEndW") => `(tactic| ((rename Fr _ _ _ _ => lF'); (rename News _ _ _ _ => lN'); (with_unfolding_all refine' unrEnd2 lF' lN' ?uoA ?uoB ?uoC ⟨⟨?uoD, trivial⟩, ?_⟩; (case uoA => k_ne); (case uoB => k_ne); (case uoC => (repeat (refine List.forall_mem_cons.mpr ⟨(by dsimp only; omega), ?_⟩)); k_all); (case uoD => k_mem)); clear lF'))
set_option maxRecDepth 100000 in
set_option maxHeartbeats 8000000 in
set_option pp.deepTerms false in
set_option pp.deepTerms.threshold 6 in
theorem law_least_c (w : World) (Ls : Addr) (lv : List Value) (c2 : Nat) (ls : List L3) (led : List (Addr × Obj)) (hL : (Ls, listOf lv.toArray c2) ∈ led) (hl : L3In led lv ls) (hn : 2 ≤ ls.length) (hn2 : ls.length ≤ 62) :
    Cl w 5 600 (.ref 98) [.ref Ls] led (fun v led' => ∃ F fv c, v = .ref F ∧ led' = (F, listOf fv.toArray c) :: led ∧ IntsAre fv (leastA ls.tail none) ∧ ∀ p ∈ led, p.1 ≠ F) := by
  unfold Cl
  k_fill
  intro p loose mean mg mb dp un gd cn cs aa ccd cl outer A₀ base h₀ L m s Q E B F X N T hk hd hu hret
  have hlen : lv.length = ls.length := hl.length
  have hsz0 : lv.toArray.size = ls.length := by rw [List.size_toArray]; exact hlen
  refine wpAny_call ?_
  k_dflt cell_enter
  k_steps
  unfold Hold
  (with_unfolding_all refine' For_invVF (by k_asm) ?k1 ?k2 ?_; (case k1 => exact rfl); (case k2 => exact rfl))
  k_steps
  unfold Hold
  rename_i FF hA lF mmA hB F7 N7 hC tk2 t1 t2 t3 hRng F8 N8 hkeep
  obtain ⟨m0, hm0⟩ := fr_map F8
  have hsz9 : lv.length ≤ 16384 := by omega
  refine' for_range (n := ls.length - 2) (news := (FF, listOf [].toArray 0) :: led) (fun i mm ld => ∃ (fv : List Value) (fs : List Int) (c : Nat), ld = (FF, listOf fv.toArray c) :: led ∧ IntsAre fv fs ∧ fs.length = i ∧ fs ++ leastA (ls.drop (i + 1)) fs.getLast? = leastA ls.tail none ∧
      (∀ z, z ≠ Str.ofString "k" → z ≠ Str.ofString "here" → z ≠ Str.ofString "e" → z ≠ Str.ofString "f" → z ≠ Str.ofString "older" → z ≠ Str.ofString "newer" → mm z = m0 z)) ?hh hRng ?hsm ?hsz F8 N8 ?hj ?turn ?done
  case hh => exact rfl
  case hsm => exact PySem.small_one (by omega) (by omega) (by omega) (by omega)
  case hsz =>
    rw [PySem.rangeSize_one]
    split <;> omega
  case hj =>
    refine ⟨[], [], 0, rfl, .nil, rfl, ?_, fun z _ _ _ _ _ _ => by rw [hm0]⟩
    cases ls with
    | nil => rfl
    | cons a r => rfl
  case turn =>
    intro i tt m1 n1 h1 tk1 own hi hoff hJ F1 N1
    refine gp fun G9 k9 => ?_
    obtain ⟨fv, fs, c, rfl, hfv, hfl, hfs, hmz⟩ := hJ
    refine k9 ?_; clear k9 G9
    have F2 := fr_eq (m' := fun y => if y = Str.ofString "k" then some (.int (1 + (i : Int)) tt) else if y = Str.ofString "here" then m1 (Str.ofString "here") else if y = Str.ofString "e" then m1 (Str.ofString "e") else if y = Str.ofString "f" then m1 (Str.ofString "f") else if y = Str.ofString "older" then m1 (Str.ofString "older") else if y = Str.ofString "newer" then m1 (Str.ofString "newer") else m0 y) F1 (by
      intro y
      by_cases z1 : y = Str.ofString "k"
      · rw [if_pos z1, if_pos z1]
      rw [if_neg z1, if_neg z1]
      by_cases z2 : y = Str.ofString "here"
      · rw [if_pos z2, z2]
      rw [if_neg z2]
      by_cases z3 : y = Str.ofString "e"
      · rw [if_pos z3, z3]
      rw [if_neg z3]
      by_cases z4 : y = Str.ofString "f"
      · rw [if_pos z4, z4]
      rw [if_neg z4]
      by_cases z5 : y = Str.ofString "older"
      · rw [if_pos z5, z5]
      rw [if_neg z5]
      by_cases z6 : y = Str.ofString "newer"
      · rw [if_pos z6, z6]
      · rw [if_neg z6, hmz y z1 z2 z3 z4 z5 z6])
    refine gp fun G9 k9 => ?_
    subst hm0
    refine k9 ?_; clear k9 G9
    clear F1
    refine gp fun G9 k9 => ?_
    obtain ⟨p, hp⟩ : ∃ p, ls[i + 1]? = some p := ⟨_, List.getElem?_eq_getElem (by omega)⟩
    obtain ⟨cc, hc⟩ : ∃ cc, ls[i + 2]? = some cc := ⟨_, List.getElem?_eq_getElem (by omega)⟩
    obtain ⟨ap, p1, p2, p3, pn, hvp, hmp⟩ := hl.get hp
    obtain ⟨ac, e1, e2, e3, en, hvc, hmc⟩ := hl.get hc
    refine k9 ?_; clear k9 G9
    have hj1 : (1 + (i : Int)) = ((i + 1 : Nat) : Int) := by omega
    have hj2 : (1 + (i : Int) + 1) = ((i + 2 : Nat) : Int) := by omega
    simp only [List.cons_append] at N1
    have hFl : ∀ x ∈ led, x.1 ≠ FF := fun x hx => Nat.ne_of_lt (allLt_mem lF x hx)
    have hFo : ∀ x ∈ own, x.1 ≠ FF := fun x hx => hoff x hx FF (.head _)
    refine gp fun G9 k9 => ?_
    obtain ⟨rest, hrest⟩ : ∃ rest, rest = led ++ own := ⟨_, rfl⟩
    refine k9 ?_; clear k9 G9
    have hFr : ∀ x ∈ rest, x.1 ≠ FF := by
      intro x hx
      rw [hrest] at hx
      rcases List.mem_append.mp hx with h | h
      · exact hFl x h
      · exact hFo x h
    have hLr : (Ls, listOf lv.toArray c2) ∈ rest := by rw [hrest]; exact List.mem_append_left _ hL
    have hpr := List.mem_append_left own hmp
    have hcr := List.mem_append_left own hmc
    rw [← hrest] at N1 hpr hcr
    have hszf : fv.toArray.size ≤ sizeLine := by rw [List.size_toArray, hfv.length, hfl, sizeLine_eq]; omega
    k_steps
    (rename Fr _ _ _ _ => F11); (rename News _ _ _ _ => N11)
    rename_i M tM kM hMm hMl h9
    simp only [List.push_toArray] at N11
    refine' InvEndG.intro (nx := (FF, listOf (fv ++ [Value.int M tM]).toArray (c + 1)) :: led) F11 N11 ?ihj ?iha ?ihn ?iho
    case ihn =>
      intro x hx
      rcases List.mem_cons.mp hx with rfl | hx
      · repeat (first | exact List.Mem.head _ | refine List.Mem.tail _ ?_)
      · have hx' : x ∈ rest := by rw [hrest]; exact List.mem_append_left _ hx
        repeat (first | exact hx' | refine List.Mem.tail _ ?_)
    case iho =>
      intro x hx
      have hx' : x ∈ rest := by rw [hrest]; exact List.mem_append_right _ hx
      repeat (first | exact hx' | refine List.Mem.tail _ ?_)
    case iha =>
      intro x hx b hb
      exact hoff x hx b hb
    case ihj =>
      refine ⟨_, fs ++ [M], _, rfl, hfv.append (.cons _ _ .nil), by simp [hfl], ?_, ?_⟩
      · rw [← hfs]
        have d1 := drop_cons hp
        have d2 := drop_cons hc
        rw [d1, d2, least_step hMm hMl (by simp only [vl3]) (by simp only [vl3]) (by simp only [vl3]) (by simp only [vl3])]
        simp
      · intro z z1 z2 z3 z4 z5 z6
        simp +zetaDelta only [if_neg z1, if_neg z2, if_neg z3, if_neg z4, if_neg z5, if_neg z6]
  case done =>
    intro m1 n1 h1 tk1 hJ F1 N1
    refine gp fun G9 k9 => ?_
    obtain ⟨fv, fs, c, rfl, hfv, hfl, hfs, hmz⟩ := hJ
    refine k9 ?_; clear k9 G9
    have F2 := fr_eq (m' := fun y => if y = Str.ofString "k" then m1 (Str.ofString "k") else if y = Str.ofString "here" then m1 (Str.ofString "here") else if y = Str.ofString "e" then m1 (Str.ofString "e") else if y = Str.ofString "f" then m1 (Str.ofString "f") else if y = Str.ofString "older" then m1 (Str.ofString "older") else if y = Str.ofString "newer" then m1 (Str.ofString "newer") else m0 y) F1 (by
      intro y
      by_cases z1 : y = Str.ofString "k"
      · rw [if_pos z1, z1]
      rw [if_neg z1]
      by_cases z2 : y = Str.ofString "here"
      · rw [if_pos z2, z2]
      rw [if_neg z2]
      by_cases z3 : y = Str.ofString "e"
      · rw [if_pos z3, z3]
      rw [if_neg z3]
      by_cases z4 : y = Str.ofString "f"
      · rw [if_pos z4, z4]
      rw [if_neg z4]
      by_cases z5 : y = Str.ofString "older"
      · rw [if_pos z5, z5]
      rw [if_neg z5]
      by_cases z6 : y = Str.ofString "newer"
      · rw [if_pos z6, z6]
      · rw [if_neg z6, hmz y z1 z2 z3 z4 z5 z6])
    refine gp fun G9 k9 => ?_
    subst hm0
    refine k9 ?_; clear k9 G9
    clear F1
    have hsz : fv.toArray.size ≤ sizeLine := by rw [List.size_toArray, hfv.length, hfl, sizeLine_eq]; omega
    k_steps
    have hfin : fs = leastA ls.tail none := by
      rw [← hfs, show ls.length - 2 + 1 = ls.length - 1 by omega]
      have e : ∃ x, ls.drop (ls.length - 1) = [x] := by
        have hle : (ls.drop (ls.length - 1)).length = 1 := by rw [List.length_drop]; omega
        exact List.length_eq_one_iff.mp hle
      obtain ⟨x, e⟩ := e
      rw [e, leastA]
      simp
    exact hret (.ref FF) _ _ _ (by k_asm) (by k_asm) ⟨FF, fv, c, rfl, rfl, hfin ▸ hfv, fun x hx => Nat.ne_of_lt (allLt_mem lF x hx)⟩
end
end
section
open PySem PySem.W PyProof.Rows PySem.Spec PySem.Calls
/-- how many quotients of the row the pair's own run makes -/
noncomputable def agr : List Int → Int → Int → Nat
  | [], _, _ => 0
  | q :: r, a, b => if b = 0 ∨ a.fdiv b ≠ q then 0 else agr r b (a.fmod b) + 1
/-- the loop's state after so many turns -/
noncomputable def agrS : List Int → Int → Int → Int × Int
  | [], a, b => (a, b)
  | _ :: r, a, b => agrS r b (a.fmod b)
theorem ints_at {vs : List Value} {ns : List Int} (h : IntsAre vs ns) : ∀ {i : Nat} {v : Value}, vs[i]? = some v → ∃ n t, ns[i]? = some n ∧ v = .int n t := by
  induction h with
  | nil => intro i v e; simp at e
  | cons n t _ ih =>
    intro i v e
    cases i with
    | zero => simp at e; exact ⟨n, t, rfl, e.symm⟩
    | succ i => simp at e; exact ih e
section

local macro_rules | `(tactic| walk_at "exec For Name Name cons nil") => `(tactic| (refine Hold.of ?_))
local macro_rules | `(tactic| walk_at "pyIter ref") => `(tactic| ((with_reducible show wpAny _ _ _ (fun it s₂ => LoopAtV _ _ _ _ _ _ _ _ _ it s₂) _ _); refine Hold.of ?_))
set_option maxRecDepth 100000 in
set_option maxHeartbeats 8000000 in
set_option pp.deepTerms false in
set_option pp.deepTerms.threshold 6 in
theorem law_agree_c (w : World) (R : Addr) (rv : List Value) (qs : List Int) (c1 : Nat) (a b : Int) (ta tb : Tok) (led : List (Addr × Obj)) (hL : (R, listOf rv.toArray c1) ∈ led) (hl : IntsAre rv qs) (hn2 : qs.length ≤ 62)
    (ha : 0 ≤ a) (ha2 : a < 1048576) (hb : 0 ≤ b) (hb2 : b < 1048576) :
    Cl w 5 600 (.ref 105) [.ref R, .int a ta, .int b tb] led (fun v led' => ∃ t, v = .int (agr qs a b : Int) t ∧ led' = led) := by
  unfold Cl
  k_fill
  intro p loose mean mg mb dp un gd cn cs aa ccd cl outer A₀ base h₀ L m s Q E B F X N T hk hd hu hret
  refine wpAny_call ?_
  k_dflt cell_enter
  k_steps
  unfold Hold
  (with_unfolding_all refine' For_invVF (by k_asm) ?k1 ?k2 ?_; (case k1 => exact rfl); (case k2 => exact rfl))
  k_steps
  unfold Hold
  rename_i tk0 D1 hA lD mA hB mB hC mC hD hE F8 N8
  obtain ⟨m0, hm0⟩ := fr_map F8
  have mc : m0 (Str.ofString "count") = some (.int 0 tk0) := by rw [hm0]; rfl
  have ma : m0 (Str.ofString "ahead") = some (.int a ta) := by rw [hm0]; rfl
  have mn : m0 (Str.ofString "newest") = some (.int b tb) := by rw [hm0]; rfl
  refine' for_list (news := led) (fun i mm ld => ∃ (x y : Int) (tc tx ty : Tok), ld = led ∧ 0 ≤ x ∧ x < 1048576 ∧ 0 ≤ y ∧ y < 1048576 ∧ mm (Str.ofString "count") = some (.int (i : Int) tc) ∧ mm (Str.ofString "ahead") = some (.int x tx) ∧ mm (Str.ofString "newest") = some (.int y ty) ∧
      agr qs a b = i + agr (qs.drop i) x y ∧ i ≤ qs.length ∧
      (∀ z, z ≠ Str.ofString "quotient" → z ≠ Str.ofString "count" → z ≠ Str.ofString "ahead" → z ≠ Str.ofString "newest" → mm z = m0 z)) ?hh hL F8 (cb_drop N8 fun _ hp => .tail _ hp) ?hj ?turn ?done
  case hh => exact rfl
  case hj =>
    refine ⟨a, b, tk0, ta, tb, rfl, ha, ha2, hb, hb2, ?_, ?_, ?_, by simp, by omega, fun z _ _ _ _ => by rw [hm0]⟩
    · rfl
    · rfl
    · rfl
  case turn =>
    intro i v m1 n1 h1 tk1 own hv hoff hmem hJ F1 N1
    refine gp fun G9 k9 => ?_
    obtain ⟨x, y, tc, tx, ty, rfl, hx0, hx1, hy0, hy1, hmc, hma, hmn, hag, hile, hmz⟩ := hJ
    refine k9 ?_; clear k9 G9
    obtain ⟨q, tq, hq, rfl⟩ := ints_at hl hv
    have hil : i < qs.length := (List.getElem?_eq_some_iff.mp hq).1
    have F2 := fr_eq (m' := fun z => if z = Str.ofString "quotient" then some (.int q tq) else if z = Str.ofString "count" then some (.int (i : Int) tc) else if z = Str.ofString "ahead" then some (.int x tx) else if z = Str.ofString "newest" then some (.int y ty) else m0 z) F1 (by
      intro z
      by_cases z1 : z = Str.ofString "quotient"
      · rw [if_pos z1, if_pos z1]
      rw [if_neg z1, if_neg z1]
      by_cases z2 : z = Str.ofString "count"
      · rw [if_pos z2, z2, hmc]
      rw [if_neg z2]
      by_cases z3 : z = Str.ofString "ahead"
      · rw [if_pos z3, z3, hma]
      rw [if_neg z3]
      by_cases z4 : z = Str.ofString "newest"
      · rw [if_pos z4, z4, hmn]
      · rw [if_neg z4, hmz z z1 z2 z3 z4])
    clear hmc hma hmn
    refine gp fun G9 k9 => ?_
    subst hm0
    refine k9 ?_; clear k9 G9
    clear F1
    rw [drop_cons hq] at hag
    by_cases hz : y = 0
    · have e : (i : Int) = (agr qs a b : Int) := by
        rw [hag, agr, if_pos (.inl hz)]
        simp
      subst hz
      k_steps
      (rename Fr h₀ _ _ _ => kF); (rename News h₀ _ _ _ => kN)
      exact hret _ _ _ _ kF (cb_drop kN fun p hp => List.mem_append_left _ hp) ⟨tc, by rw [e], rfl⟩
    · by_cases hqq : x.fdiv y = q
      · have e : agr qs a b = i + 1 + agr (qs.drop (i + 1)) y (x.fmod y) := by
          rw [hag, agr, if_neg (by rintro (h | h); exact hz h; exact h hqq)]
          omega
        subst hqq
        k_steps
        all_goals try contradiction
        (rename Fr _ _ _ _ => F11); (rename News _ _ _ _ => N11)
        have hm := fmod_pos_range (a := x) (b := y) (by omega)
        refine' InvEndG.intro (nx := n1) F11 N11 ?ihj ?iha ?ihn ?iho
        case ihj => exact ⟨hmem, y, x.fmod y, _, _, _, rfl, hy0, hy1, hm.1, by omega, rfl, rfl, rfl, by rw [e], by omega, fun z z1 z2 z3 z4 => by simp +zetaDelta only [if_neg z1, if_neg z2, if_neg z3, if_neg z4]⟩
        case iha => exact hoff
        case ihn => exact fun p hp => .tail _ (List.mem_append_left _ hp)
        case iho => exact fun p hp => .tail _ (List.mem_append_right _ hp)
      · have e : (i : Int) = (agr qs a b : Int) := by
          rw [hag, agr, if_pos (.inr hqq)]
          simp
        k_steps
        all_goals try contradiction
        (rename Fr h₀ _ _ _ => kF); (rename News h₀ _ _ _ => kN)
        exact hret _ _ _ _ kF (cb_drop kN fun p hp => List.mem_append_left _ hp) ⟨tc, by rw [e], rfl⟩
  case done =>
    intro m1 n1 h1 tk1 hJ F1 N1
    refine gp fun G9 k9 => ?_
    obtain ⟨x, y, tc, tx, ty, rfl, hx0, hx1, hy0, hy1, hmc, hma, hmn, hag, hile, hmz⟩ := hJ
    refine k9 ?_; clear k9 G9
    have F2 := fr_eq (m' := fun z => if z = Str.ofString "quotient" then m1 (Str.ofString "quotient") else if z = Str.ofString "count" then some (.int (rv.length : Int) tc) else if z = Str.ofString "ahead" then some (.int x tx) else if z = Str.ofString "newest" then some (.int y ty) else m0 z) F1 (by
      intro z
      by_cases z1 : z = Str.ofString "quotient"
      · rw [if_pos z1, z1]
      rw [if_neg z1]
      by_cases z2 : z = Str.ofString "count"
      · rw [if_pos z2, z2, hmc]
      rw [if_neg z2]
      by_cases z3 : z = Str.ofString "ahead"
      · rw [if_pos z3, z3, hma]
      rw [if_neg z3]
      by_cases z4 : z = Str.ofString "newest"
      · rw [if_pos z4, z4, hmn]
      · rw [if_neg z4, hmz z z1 z2 z3 z4])
    clear hmc hma hmn
    refine gp fun G9 k9 => ?_
    subst hm0
    refine k9 ?_; clear k9 G9
    clear F1
    have e : (rv.length : Int) = (agr qs a b : Int) := by
      rw [hag, hl.length, List.drop_length, agr]
      simp
    k_steps
    (rename Fr h₀ _ _ _ => kF); (rename News h₀ _ _ _ => kN)
    exact hret _ _ _ _ kF kN ⟨tc, by rw [e], rfl⟩
end
end
section
open PySem PySem.W PyProof.Rows PySem.Spec PySem.Calls
section

local macro_rules | `(tactic| walk_at "exec For") => `(tactic| (refine Hold.of ?_))
local macro_rules | `(tactic| walk_at "pyIter bytes") => `(tactic| (refine Hold.of ?_))
set_option maxRecDepth 100000 in
set_option maxHeartbeats 8000000 in
set_option pp.deepTerms false in
set_option pp.deepTerms.threshold 6 in
theorem law_head_c (w : World) (bs : Array UInt8) (ks : List Int) (hb : KBw.bInts bs = ks) (hks : ks.length ≤ 16) (tb : Tok) (led : List (Addr × Obj)) :
    Cl w 5 600 (.ref 84) [.bytes bs tb] led (fun v led' => ∃ t, v = .int (ks.dropLast.foldl (fun n k => 16 * n + k - 65) 0) t ∧ led' = led) := by
  unfold Cl
  k_fill
  intro p loose mean mg mb dp un gd cn cs aa ccd cl outer A₀ base h₀ L m s Q E B F X N T hk hd hu hret
  refine wpAny_call ?_
  k_dflt cell_enter
  k_steps
  unfold Hold
  (with_unfolding_all refine' For_invVF (by k_asm) ?k1 ?k2 ?_; (case k1 => exact rfl); (case k2 => exact rfl))
  k_steps
  unfold Hold
  (rename Fr _ _ _ _ => F8); (rename News _ _ _ _ => N8); (rename KBw.bInts (KBy.picked _ _ _) = _ => hbK)
  have hcl : List.take (clipAt ks.length (-1)) ks = ks.dropLast := by
    have e : clipAt ks.length (-1) = ks.length - 1 := by
      unfold clipAt
      simp
      omega
    rw [e, List.dropLast_eq_take]
  rw [hcl] at hbK
  (with_unfolding_all refine' KBw.iterBytes_acc1 (y := Str.ofString "number") (fun n k => 16 * n + k - 65) hbK (by rfl) F8 N8 (by rfl) (fun k' t' a' ta' h' tk' own' hmem' hlo' hhi' hoff' F' N' => ?_) (fun u' t' h' tk' F' N' => ?_))
  · k_steps
    (rename Fr _ _ _ _ => F11); (rename News _ _ _ _ => N11)
    refine InvEndN.intro F11 N11 ⟨rfl, ⟨_, rfl⟩, fun z z1 z2 => ?_⟩ ?_ ?_ ?_
    · simp +zetaDelta only [if_neg z1, if_neg z2]
    · rfl
    · exact fun p hp => List.mem_append_left _ hp
    · exact fun p hp => List.mem_append_right _ hp
  · k_steps
    (rename Fr h₀ _ _ _ => kF); (rename News h₀ _ _ _ => kN)
    exact hret _ _ _ _ kF kN ⟨t', rfl, rfl⟩
end
end
section
open PySem PySem.W PyProof.Rows PySem.Spec PySem.Calls
/-- the letters of a number's hexadecimal digits -/
noncomputable def apw (n : Int) : List Int := if n < 256 then [65 + n / 16 % 16, 65 + n % 16] else [65 + n / 256 % 16, 65 + n / 16 % 16, 65 + n % 16]
abbrev APs : List Int := [65, 66, 67, 68, 69, 70, 71, 72, 73, 74, 75, 76, 77, 78, 79, 80]
theorem ap_at {d : Int} (h0 : 0 ≤ d) (h1 : d < 16) : List.take (clipAt APs.length (d + 1) - clipAt APs.length d) (List.drop (clipAt APs.length d) APs) = [65 + d] := by
  obtain ⟨k, rfl⟩ : ∃ k : Nat, d = k := ⟨d.toNat, by omega⟩
  have hk : k < 16 := by omega
  have : ∀ k : Fin 16, List.take (clipAt APs.length (((k : Nat) : Int) + 1) - clipAt APs.length ((k : Nat) : Int)) (List.drop (clipAt APs.length ((k : Nat) : Int)) APs) = [65 + ((k : Nat) : Int)] := by decide
  exact this ⟨k, hk⟩
theorem fit1 {a n b : Nat} (h : n ≤ 16) : min a (n - b) ≤ 16 := Nat.le_trans (Nat.min_le_right _ _) (Nat.le_trans (Nat.sub_le _ _) h)
theorem fit2 {x y : Nat} (h : x ≤ 16) (h2 : y ≤ 64) : x + y ≤ 16777216 := Nat.le_trans (Nat.add_le_add h h2) (by decide)
theorem fit3 {x y : Nat} (h : x ≤ 16) (h2 : y ≤ 48) : x + y ≤ 64 := Nat.add_le_add h h2
theorem fit4 {x y : Nat} (h : x ≤ 16) (h2 : y ≤ 32) : x + y ≤ 48 := Nat.add_le_add h h2
section

local macro_rules | `(tactic| kba_size) => `(tactic| ((simp only [PySem.sizeOk, PySem.sizeLine_eq, List.size_toArray, List.length_cons, List.length_nil, List.length_append, List.length_take, List.length_drop]); first | exact fit2 (fit1 (by decide)) (Nat.zero_le _) | exact fit2 (fit1 (by decide)) (fit3 (fit1 (by decide)) (Nat.zero_le _)) | exact fit2 (fit1 (by decide)) (fit3 (fit1 (by decide)) (fit4 (fit1 (by decide)) (Nat.zero_le _)))))
local macro_rules | `(tactic| walk_at "exec While") => `(tactic| (refine Hold.of ?_))
local macro_rules | `(tactic| walk_at "WhlIf") => `(tactic| (k_here; first | (refine WhlIf.yes (by simp only [bne_iff_ne]; omega) ?_) | (refine WhlIf.no (by simp only [bne_eq_false_iff_eq]; omega) ?_)))
set_option maxRecDepth 100000 in
set_option maxHeartbeats 8000000 in
set_option pp.deepTerms false in
set_option pp.deepTerms.threshold 6 in
theorem int2ap_c (w : World) (x : Int) (tx : Tok) (led : List (Addr × Obj)) (n : Int) (hx : (if x < 0 then -x else x) = n) (h1 : 16 ≤ n) (h2 : n < 4096) :
    Cl w 5 600 (.ref 21) [.int x tx] led (fun v led' => ∃ t bs, v = .bytes bs t ∧ KBw.bInts bs = apw n ∧ led' = led) := by
  unfold Cl
  k_fill
  intro p loose mean mg mb dp un gd cn cs aa ccd cl outer A₀ base h₀ L m s Q E B F X N T hk hd hu hret
  have hf1 : n.fdiv 16 = n / 16 := Int.fdiv_eq_ediv_of_nonneg _ (by decide)
  have hf2 : (n.fdiv 16).fdiv 16 = n / 16 / 16 := by rw [Int.fdiv_eq_ediv_of_nonneg _ (by decide), hf1]
  have hm1 : n.fmod 16 = n % 16 := Int.fmod_eq_emod_of_nonneg _ (by decide)
  have hm2 : (n.fdiv 16).fmod 16 = n / 16 % 16 := by rw [Int.fmod_eq_emod_of_nonneg _ (by decide), hf1]
  have hf3 : ((n.fdiv 16).fdiv 16).fdiv 16 = n / 16 / 16 / 16 := by rw [Int.fdiv_eq_ediv_of_nonneg _ (by decide), hf2]
  have hm3 : ((n.fdiv 16).fdiv 16).fmod 16 = n / 16 / 16 % 16 := by rw [Int.fmod_eq_emod_of_nonneg _ (by decide), hf2]
  have hAP : KBw.bInts #[65, 66, 67, 68, 69, 70, 71, 72, 73, 74, 75, 76, 77, 78, 79, 80] = [65, 66, 67, 68, 69, 70, 71, 72, 73, 74, 75, 76, 77, 78, 79, 80] := by decide
  refine wpAny_call ?_
  k_dflt cell_enter
  k_steps
  unfold Hold
  (rename Fr _ _ _ _ => F8)
  dsimp +zetaDelta only at F8
  rw [hx] at F8
  by_cases hc : n < 256
  · refine whl_start 9 ?_
    k_steps
    (rename Fr h₀ _ _ _ => kF); (rename News h₀ _ _ _ => kN); (rename KBw.bInts (_ ++ _) = _ => hR)
    refine hret _ _ _ _ kF (cb_drop kN fun p hp => .tail _ (.tail _ hp)) ⟨_, _, rfl, ?_, rfl⟩
    rw [hR, hm1, hm2]
    rw [ap_at (by omega) (by omega), ap_at (by omega) (by omega), apw, if_pos hc]
    rfl
  · refine whl_start 9 ?_
    k_steps
    (rename Fr h₀ _ _ _ => kF); (rename News h₀ _ _ _ => kN); (rename KBw.bInts (_ ++ _) = _ => hR)
    refine hret _ _ _ _ kF (cb_drop kN fun p hp => .tail _ (.tail _ (.tail _ hp))) ⟨_, _, rfl, ?_, rfl⟩
    rw [hR, hm1, hm2, hm3]
    rw [ap_at (by omega) (by omega), ap_at (by omega) (by omega), ap_at (by omega) (by omega), apw, if_neg hc]
    have e : n / 16 / 16 = n / 256 := by omega
    rw [e]
    rfl
end
end
section
open PySem PySem.W PyProof.Rows PySem.Spec PySem.Calls
noncomputable def pickI (ns : List Int) (lo hi st : Option Int) : List Int := List.filterMap (fun x => ns[x]?) (sliceRange (sliceBounds lo hi st ns.length).fst (sliceBounds lo hi st ns.length).snd.fst (sliceBounds lo hi st ns.length).snd.snd)
theorem pick_ints {vs : List Value} {ns : List Int} (h : IntsAre vs ns) (lo hi st : Option Int) : IntsAre (slicePick vs.toArray lo hi st).toList (pickI ns lo hi st) := by
  have hlen : vs.toArray.size = ns.length := by rw [List.size_toArray, h.length]
  unfold slicePick pickI
  rw [hlen]
  show IntsAre (List.filterMap (fun x => vs.toArray[x]?) _) _
  generalize sliceRange _ _ _ = idx
  induction idx with
  | nil => exact .nil
  | cons x r ih =>
    rw [List.filterMap_cons, List.filterMap_cons, List.getElem?_toArray]
    cases e : vs[x]? with
    | none =>
      have e2 : ns[x]? = none := by
        rw [List.getElem?_eq_none_iff] at e ⊢
        rw [← h.length]; exact e
      rw [e2]
      exact ih
    | some v =>
      obtain ⟨n, t, e2, rfl⟩ := ints_at h e
      rw [e2]
      exact .cons n t ih
theorem sumPick {prog : Program} {w : World} {A : Around} {E : Value → Shared → Prop} {s : Shared} {h₀ : Heap} {L : Addr} {m : Str → Option Value} {news : List (Addr × Obj)} {l : Addr} {ys : List Value} {ns : List Int} {lo hi st : Option Int} {c : Nat} {Q : Value → Shared → Prop} (hh : A.handled = none) (F : Fr h₀ L s.heap m) (N : News h₀ L s.heap news)
    (hm : (l, ({ cls := .type "list", data := .seq (slicePick ys.toArray lo hi st) c } : Obj)) ∈ news) (hi' : IntsAre ys ns)
    (h : ∀ h' tk t', Fr h₀ L h' m → News h₀ L h' news → Q (.int (pickI ns lo hi st).sum t') { s with heap := h', toks := tk }) :
    wpAny (model prog w) A (call (.builtin "sum") [.ref l]) Q E s := by
  have hl : s.heap.IsList l (slicePick ys.toArray lo hi st).toList.toArray := by
    rw [Array.toArray_toList]
    exact ⟨_, (N _ hm).1, rfl, c, rfl⟩
  exact sumK hh F N hl (pick_ints hi' lo hi st) h
theorem off1_all {D : Addr} : ∀ {l : List (Addr × Obj)}, LCg.Off1 D l → ∀ p ∈ l, p.1 ≠ D
  | [], _, _, hp => nomatch hp
  | x :: r, h, p, hp => by
    rcases List.mem_cons.mp hp with rfl | hp
    · exact h.1
    · exact off1_all h.2 p hp
section

local macro_rules | `(tactic| omega) => `(tactic| first | exact Int.lt_of_lt_of_le (by with_reducible assumption) (by decide) | omega (config := {}))
local macro_rules | `(tactic| walk_at "call builtin:sum") => `(tactic| (k_here; (with_unfolding_all refine' sumPick ?sp0 ?sp1 ?sp2 ?sp3 ?sp4 ?_; (case sp0 => exact rfl); (case sp1 => k_asm); (case sp2 => k_asm); (case sp3 => k_dflt k_mem); (case sp4 => with_reducible assumption); k_whole); intro h' tk' t' F' N'))
set_option maxRecDepth 100000 in
set_option maxHeartbeats 8000000 in
set_option pp.deepTerms false in
set_option pp.deepTerms.threshold 6 in
theorem law_cells_c (w : World) (S B0 : Addr) (sv : List Value) (ss : List Int) (c2 : Nat) (t1 t2 t3 t4 : Tok) (led : List (Addr × Obj)) (hB : (B0, { cls := .type "tuple", data := .seq #[.int 195 t1, .int 118 t2, .int 9 t3, .int 4 t4] c2 }) ∈ led) (hs : IntsAre sv ss) (hn : ss.length ≤ 63) :
    ∀ (p : Program) (loose : List Str) (mean : ExcName → Option Value) (mg mb : Str → Option Value) (dp un : Nat) (gd : Option (List Code)) (cn : Str) (cs : Scope) (a : Addr) (ccd : Value) (cl : List (Str × Addr)) (outer : List Env)
    (A₀ : Around) (base h₀ : Heap) (L : Addr) (m : Str → Option Value) (s : Shared) (Q E : Value → Shared → Prop),
    Below A₀ base outer h₀ → Fr h₀ L s.heap m → (Mine.hd.heap_1 w.params).In h₀ → News h₀ L s.heap led → Top p loose mean mg mb h₀ → base.IsList S sv.toArray → cs.kind = .function → dp + 5 < recursionLimit → un + 600 < cLine →
    (∀ v led' h' tk', Fr h₀ L h' m → News h₀ L h' led' → (∃ F fv c x0 x1 x2 x3, v = .ref F ∧ led' = (F, listOf fv.toArray c) :: led ∧ IntsAre fv [x0, x1, x2, x3] ∧ ∀ p ∈ led, p.1 ≠ F) → Q v { s with heap := h', toks := tk' }) →
    wpAny (model PySem.Challenge.rw_ta0021_01.prog w) (ktrTop dp un gd cn cs L a ccd cl outer) (call (.ref 77) [.ref S, .ref B0]) Q E s := by
  k_fill
  intro p loose mean mg mb dp un gd cn cs aa ccd cl outer A₀ base h₀ L m s Q E B F X N T hlS hk hd hu hret
  refine wpAny_call ?_
  walk_at "MINE enterC"
  k_steps
  (rename Fr h₀ _ _ _ => kF); (rename News h₀ _ _ _ => kN)
  rename_i hI8 hL8 D9 h9 tk9 F9 N9 o9 Tc9 kX9
  have eL : LCg.lst ys = listOf ys.toArray ys.length := rfl
  rw [eL] at kN
  refine hret (.ref D9) ((D9, listOf ys.toArray ys.length) :: led) _ _ kF (cb_drop kN ?_) ⟨D9, ys, _, _, _, _, _, rfl, rfl, hI8, ?_⟩
  · intro p hp
    rcases List.mem_cons.mp hp with rfl | hp
    · exact .head _
    · exact .tail _ (.tail _ (.tail _ (.tail _ (.tail _ hp))))
  · exact off1_all o9.2.2.2.2
end
end
section
open PySem PySem.W PyProof.Rows PySem.Spec PySem.Calls
theorem ints_to {vs : List Value} {ns : List Int} (h : IntsAre vs ns) {i : Nat} {n : Int} (e : ns[i]? = some n) : ∃ t, vs[i]? = some (.int n t) := by
  have hlt := (List.getElem?_eq_some_iff.mp e).1
  have hv : vs[i]? = some (vs[i]'(by rw [h.length]; exact hlt)) := List.getElem?_eq_getElem _
  obtain ⟨n', t, e', hv'⟩ := ints_at h hv
  rw [e] at e'
  cases e'
  exact ⟨t, by rw [hv, hv']⟩
section

local macro_rules | `(tactic| walk_at "call ref") => `(tactic| ((with_reducible show wpAny _ _ (call (Value.ref _) _) _ _ _); refine Hold.of ?_))
local macro_rules | `(tactic| walk_at "callWith ref") => `(tactic| (k_here; k_dflt (refine' callWith_F ?k1 ?_; (case k1 => exact FnAt.of (by k_asm) (by k_mem)); k_whole)))
local macro_rules | `(tactic| walk_at "FnAt") => `(tactic| (k_dflt (exact FnAt.of (by k_asm) (by k_mem))))
local macro_rules | `(tactic| walk_at "exec While") => `(tactic| (refine Hold.of ?_))
local macro_rules | `(tactic| walk_at "exec While Compare") => `(tactic| (refine Hold.of ?_))
local macro_rules | `(tactic| walk_at "subscriptTail Name Name ref int") => `(tactic| (k_here; (with_unfolding_all refine' sub_at ?k1 ?k2 ?k3 ?k4 ?_ ?k6; (case k1 => is_list); (case k2 => with_reducible assumption); (case k3 => with_reducible assumption); (case k4 => with_reducible assumption); (case k6 => with_unfolding_all rfl); k_whole)))
local macro_rules | `(tactic| walk_at "WhlIf") => `(tactic| (k_here; first | (refine WhlIf.yes (by simp; omega) ?_) | (refine WhlIf.no (by simp; omega) ?_)))
set_option maxRecDepth 100000 in
set_option maxHeartbeats 8000000 in
set_option pp.deepTerms false in
set_option pp.deepTerms.threshold 6 in
theorem bisect_c (w : World) (f A1 : Addr) (av : List Value) (ws : List Int) (c1 : Nat) (t0 : Tok) (led : List (Addr × Obj)) (fc : Value) (fo : Option Addr) (ffd : FuncData) (fsl : Array (Option Value)) (hff : (f, (⟨fc, fo, .func ffd, fsl⟩ : Obj)) ∈ led) (hA1 : (A1, listOf av.toArray c1) ∈ led) (has : IntsAre av ws) (hlen : ws.length ≤ 62)
    (hmono : ∀ (i j : Nat) (x y : Int), i ≤ j → ws[i]? = some x → ws[j]? = some y → y ≤ x) (hkey : ∀ n t, Cl w 1 40 (.ref f) [.int n t] led (fun v led' => ∃ t', v = .int (-n) t' ∧ led' = led)) :
    ClK w 5 600 (.ref 72) ⟨[.ref A1, .int 0 t0], [("key", .ref f)]⟩ led (fun v led' => ∃ (c : Nat) (t : Tok), v = .int (c : Int) t ∧ led' = led ∧ c ≤ ws.length ∧ (∀ (k : Nat) (x : Int), k < c → ws[k]? = some x → 0 ≤ x) ∧ (∀ (k : Nat) (x : Int), c ≤ k → ws[k]? = some x → x < 0)) := by
  unfold ClK
  k_fill
  intro p loose mean mg mb dp un gd cn cs aa ccd cl outer A₀ base h₀ L m s R B F X N T hk hd hu hret
  k_dflt (refine' code_def ?k1 ?k2 ?k3 ?k4 ?k5 ?kA ?kF ?kK ?k6 ?k7 ?k8 ?k9 ?kB ?_ ?c2 ?c3 ?c4 ?c5; (case kA => exact rfl); (case kF => exact rfl); (case kK => assumption); (case k1 => k_asm); (case k2 => k_asm); (case k3 => k_asm); (case k4 => k_asm); (case k5 => k_asm); (case k6 => k_is); (case k7 => k_is); (case k8 => ktr_room); (case k9 => first | exact binds_K (by k_in) rfl (by k_is) rfl rfl rfl | exact BindsTo.of_eq rfl | fail "no binds"); (case c5 => decide); (case kB => exact locs rfl); (case c2 => exact rfl); (case c3 => exact rfl); (case c4 => exact rfl); k_whole; intro g' L' h' FG' F' N' B' X' T'; (try dsimp only); (try k_lift B'); (try k_fold))
  have hlv : av.length = ws.length := has.length
  have hsz0 : av.toArray.size = ws.length := by rw [List.size_toArray]; exact hlv
  k_steps
  unfold Hold
  (rename Fr _ _ _ _ => F8); (rename News _ _ _ _ => N8)
  obtain ⟨m0, hm0⟩ := fr_map F8
  obtain ⟨tl0, mlo⟩ : ∃ t, m0 (Str.ofString "lo") = some (.int (((0 : Nat)) : Int) t) := by
    refine ⟨?_, ?_⟩
    rotate_left
    · rw [hm0]; rfl
  obtain ⟨th0, mhi⟩ : ∃ t, m0 (Str.ofString "hi") = some (.int ((ws.length : Nat) : Int) t) := by
    refine ⟨?_, ?_⟩
    rotate_left
    · rw [hm0]; rfl
  have hsz9 : av.length ≤ 16384 := by omega
  refine' while_inv (d₀ := ws.length) (fun d mm ld => ∃ (lo hi : Nat) (tl th : Tok), ld = led ∧ mm (Str.ofString "lo") = some (.int (lo : Int) tl) ∧ mm (Str.ofString "hi") = some (.int (hi : Int) th) ∧ lo ≤ hi ∧ hi ≤ ws.length ∧ d = hi - lo ∧
      (∀ (k : Nat) (x : Int), k < lo → ws[k]? = some x → 0 ≤ x) ∧ (∀ (k : Nat) (x : Int), hi ≤ k → ws[k]? = some x → x < 0) ∧
      (∀ z, z ≠ Str.ofString "lo" → z ≠ Str.ofString "hi" → z ≠ Str.ofString "mid" → mm z = m0 z)) ?hE F8 N8 ?hj ?turn
  case hE => first | passes_own | with_unfolding_all passes_own
  case hj =>
    refine ⟨0, ws.length, tl0, th0, rfl, ?_, ?_, by omega, by omega, by omega, fun k x hk => absurd hk (by omega), fun k x hk e => ?_, fun z _ _ _ => by rw [hm0]⟩
    · rw [← mlo, hm0]
    · rw [← mhi, hm0]
    · exact absurd (List.getElem?_eq_some_iff.mp e).1 (by omega)
  case turn =>
    intro d m1 n1 h1 tk1 hJ F1 N1
    refine gp fun G9 k9 => ?_
    obtain ⟨lo, hi, tl, th, rfl, hml, hmh, hlh, hhl, hd0, hlow, hhigh, hmz⟩ := hJ
    refine k9 ?_; clear k9 G9
    have F2 := fr_eq (m' := fun z => if z = Str.ofString "lo" then some (.int (lo : Int) tl) else if z = Str.ofString "hi" then some (.int (hi : Int) th) else if z = Str.ofString "mid" then m1 (Str.ofString "mid") else m0 z) F1 (by
      intro z
      by_cases z1 : z = Str.ofString "lo"
      · rw [if_pos z1, z1, hml]
      rw [if_neg z1]
      by_cases z2 : z = Str.ofString "hi"
      · rw [if_pos z2, z2, hmh]
      rw [if_neg z2]
      by_cases z3 : z = Str.ofString "mid"
      · rw [if_pos z3, z3]
      · rw [if_neg z3, hmz z z1 z2 z3])
    clear hml hmh mlo mhi
    refine gp fun G9 k9 => ?_
    subst hm0
    refine k9 ?_; clear k9 G9
    clear F1
    by_cases hc : lo < hi
    · have em : ((lo : Int) + (hi : Int)).fdiv 2 = (((lo + hi) / 2 : Nat) : Int) := by
        rw [Int.fdiv_eq_ediv_of_nonneg _ (by decide)]
        omega
      refine gp fun G9 k9 => ?_
      obtain ⟨x, hx⟩ : ∃ x, ws[(lo + hi) / 2]? = some x := ⟨_, List.getElem?_eq_getElem (by omega)⟩
      refine k9 ?_; clear k9 G9
      obtain ⟨tx, hvx⟩ := ints_to has hx
      k_steps
      unfold Hold
      k_dflt (refine' Cl.use (hkey x tx) ?yB ?yF ?yX ?yN ?yT ?yhk ?yhd ?yhu ?yret)
      case yB => k_asm
      case yF => k_asm
      case yX => k_asm
      case yN => k_asm
      case yT => k_asm
      case yhk => first | exact rfl | assumption
      case yhd => ktr_room
      case yhu => ktr_units
      case yret =>
      intro v9 led9 h9 tk9 F9 N9 hR9
      refine gp fun G9 k9 => ?_
      obtain ⟨t9, rfl, rfl⟩ := hR9
      refine k9 ?_; clear k9 G9
      (try dsimp only)
      by_cases hx0 : x < 0
      · k_steps
        all_goals (try (exfalso; omega))
        (rename Fr g' _ _ _ => F11); (rename News g' _ _ _ => N11)
        refine' InvEndG.intro (nx := led9) F11 N11 ⟨(lo + hi) / 2 - lo, by omega, lo, (lo + hi) / 2, _, _, rfl, rfl, (by rw [← em]; rfl), by omega, by omega, rfl, hlow, fun k y hk e => ?_, fun z z1 z2 z3 => ?_⟩ (fun p hp => nomatch hp) (fun _ h => h) (fun p hp => nomatch hp)
        · have := hmono _ _ _ _ hk hx e
          omega
        · simp +zetaDelta only [if_neg z1, if_neg z2, if_neg z3]
      · k_steps
        all_goals (try (exfalso; omega))
        (rename Fr g' _ _ _ => F11); (rename News g' _ _ _ => N11)
        refine' InvEndG.intro (nx := led9) F11 N11 ⟨hi - ((lo + hi) / 2 + 1), by omega, (lo + hi) / 2 + 1, hi, _, _, rfl, (by rw [show (((lo + hi) / 2 + 1 : Nat) : Int) = ((lo : Int) + (hi : Int)).fdiv 2 + 1 by rw [em]; rfl]; rfl), rfl, by omega, by omega, rfl, fun k y hk e => ?_, hhigh, fun z z1 z2 z3 => ?_⟩ (fun p hp => nomatch hp) (fun _ h => h) (fun p hp => nomatch hp)
        · have := hmono _ _ _ _ (by omega) e hx
          omega
        · simp +zetaDelta only [if_neg z1, if_neg z2, if_neg z3]
    · k_steps
      (rename Fr h₀ _ _ _ => kF); (rename News h₀ _ _ _ => kN)
      exact hret _ _ _ _ kF kN ⟨lo, tl, rfl, rfl, by omega, hlow, fun k x hk => hhigh k x (by omega)⟩
end
end
section
/-- the run's quotients, by the two numbers alone -/
noncomputable def qn (n : Nat) (a b : Int) : List Int := eqs n (a, 1, 0) (b, 0, 1)
theorem eqs_congr : ∀ (n : Nat) {p c p' c' : L3}, p.1 = p'.1 → c.1 = c'.1 → eqs n p c = eqs n p' c'
  | 0, _, _, _, _, _, _ => rfl
  | n + 1, p, c, p', c', h1, h2 => by
    rw [eqs, eqs, h1, h2, eqs_congr n h2 (show (nxt p c).1 = (nxt p' c').1 by simp only [nxt, h1, h2])]
theorem qn_zero {n : Nat} {a b : Int} (h : b = 0) : qn n a b = [] := eqs_zero h
theorem qn_succ {n : Nat} {a b : Int} (h : b ≠ 0) : qn (n + 1) a b = a.fdiv b :: qn n b (a.fmod b) := by
  rw [qn, eqs_succ h, qn]
  exact congrArg _ (eqs_congr n rfl rfl)
theorem eqs_len : ∀ (n : Nat) (p c : L3), (eqs n p c).length ≤ n
  | 0, _, _ => Nat.le_refl _
  | n + 1, p, c => by
    rw [eqs]
    split
    · exact Nat.zero_le _
    · simp only [List.length_cons]
      exact Nat.succ_le_succ (eqs_len n _ _)
theorem els_len : ∀ (n : Nat) (p c : L3), (els n p c).length = (eqs n p c).length + 2
  | 0, _, _ => rfl
  | n + 1, p, c => by
    rw [els, eqs]
    split
    · rfl
    · simp only [List.length_cons, els_len n c (nxt p c)]
/-- its lines begin with the two that it starts from -/
theorem els_two (n : Nat) (p c : L3) : ∃ r, els n p c = p :: c :: r := by
  cases n with
  | zero => exact ⟨[], rfl⟩
  | succ n =>
    rw [els]
    split
    · exact ⟨[], rfl⟩
    · obtain ⟨r, hr⟩ : ∃ r, els n c (nxt p c) = c :: r := by
        cases n with
        | zero => exact ⟨_, rfl⟩
        | succ n => rw [els]; split <;> exact ⟨_, rfl⟩
      exact ⟨r, by rw [hr]⟩

theorem Ends.mono : ∀ {k j : Nat} {p c : Int}, k ≤ j → Ends k p c → Ends j p c
  | 0, 0, _, _, _, h => h
  | 0, _ + 1, _, _, _, h => .inl h
  | _ + 1, 0, _, _, hk, _ => absurd hk (by omega)
  | k + 1, j + 1, p, c, hk, h => h.imp id (Ends.mono (by omega))
theorem fd_eq {a b q : Int} (hb : 0 < b) (h0 : 0 ≤ a - q * b) (h1 : a - q * b < b) : a.fdiv b = q ∧ a.fmod b = a - q * b := by
  have e : a.fdiv b = q := by
    rw [Int.fdiv_eq_ediv_of_nonneg a (by omega)]
    have h2 : a = (a - q * b) + q * b := by omega
    rw [h2, Int.add_mul_ediv_right _ _ (by omega), Int.ediv_eq_zero_of_lt h0 h1]
    omega
  refine ⟨e, ?_⟩
  have := Int.mul_fdiv_add_fmod a b
  rw [e, Int.mul_comm] at this
  omega
theorem fd_spec {a b : Int} (hb : 0 < b) : 0 ≤ a - a.fdiv b * b ∧ a - a.fdiv b * b < b ∧ a.fmod b = a - a.fdiv b * b := by
  have h := fmod_pos_range (a := a) hb
  have e := Int.mul_fdiv_add_fmod a b
  rw [Int.mul_comm] at e
  omega
theorem ends_pow : ∀ (n : Nat) (p c : Int), 0 ≤ c → c < 2 ^ n → Ends (2 * n) p c
  | 0, p, c, h0, h1 => by
    have : c = 0 := by have : (2 : Int) ^ 0 = 1 := rfl; omega
    exact this
  | n + 1, p, c, h0, h1 => by
    show Ends (2 * n + 1 + 1) p c
    by_cases hc : c = 0
    · exact .inl hc
    · refine .inr ?_
      have hr := fmod_pos_range (a := p) (show 0 < c by omega)
      by_cases hr0 : p.fmod c = 0
      · exact .inl hr0
      · refine .inr (ends_pow n _ _ ?_ ?_)
        · exact (fmod_pos_range (by omega)).1
        · have hs := fd_spec (a := c) (b := p.fmod c) (by omega)
          have hm := fmod_pos_range (a := c) (b := p.fmod c) (by omega)
          have hq : 1 ≤ c.fdiv (p.fmod c) := by
            rw [Int.fdiv_eq_ediv_of_nonneg _ (by omega)]
            exact (Int.le_ediv_iff_mul_le (by omega)).mpr (by omega)
          have hle : 1 * p.fmod c ≤ c.fdiv (p.fmod c) * p.fmod c := Int.mul_le_mul_of_nonneg_right hq (by omega)
          have h2 : (2 : Int) ^ (n + 1) = 2 * 2 ^ n := by rw [Int.pow_succ]; omega
          omega
theorem fdiv_neg2 (a b : Int) : (-a).fdiv (-b) = a.fdiv b := by
  first | exact Int.neg_fdiv_neg a b | simp
theorem fmod_neg2 (a b : Int) : (-a).fmod (-b) = -(a.fmod b) := by
  have e1 := Int.mul_fdiv_add_fmod a b
  have e2 := Int.mul_fdiv_add_fmod (-a) (-b)
  rw [fdiv_neg2, Int.neg_mul] at e2
  omega
theorem Ends.neg : ∀ {k : Nat} {p c : Int}, Ends k p c → Ends k (-p) (-c)
  | 0, p, c, h => by
    have : c = 0 := h
    show -c = 0
    omega
  | k + 1, p, c, h => by
    rcases h with h | h
    · exact .inl (by omega)
    · refine .inr ?_
      rw [fmod_neg2]
      exact Ends.neg h
theorem qn_neg : ∀ (n : Nat) (a b : Int), qn n (-a) (-b) = qn n a b
  | 0, _, _ => rfl
  | n + 1, a, b => by
    by_cases hb : b = 0
    · rw [qn_zero hb, qn_zero (by omega)]
    · rw [qn_succ hb, qn_succ (by omega), fdiv_neg2, fmod_neg2, qn_neg n]
theorem qn_fuel : ∀ {k n m : Nat} {a b : Int}, Ends k a b → k ≤ n → k ≤ m → qn n a b = qn m a b
  | 0, n, m, a, b, h, _, _ => by rw [qn_zero h, qn_zero h]
  | k + 1, 0, _, _, _, _, h, _ => absurd h (by omega)
  | k + 1, _, 0, _, _, _, _, h => absurd h (by omega)
  | k + 1, n + 1, m + 1, a, b, h, h1, h2 => by
    by_cases hb : b = 0
    · rw [qn_zero hb, qn_zero hb]
    · rw [qn_succ hb, qn_succ hb, qn_fuel (n := n) (m := m) (h.resolve_left hb) (by omega) (by omega)]

/-- the signs of two lines that follow each other -/
def Sg (p c : L3) : Prop := 0 ≤ p.1 ∧ 0 ≤ c.1 ∧ ((0 ≤ p.2.1 ∧ p.2.2 ≤ 0 ∧ c.2.1 ≤ 0 ∧ 0 ≤ c.2.2) ∨ (p.2.1 ≤ 0 ∧ 0 ≤ p.2.2 ∧ 0 ≤ c.2.1 ∧ c.2.2 ≤ 0))
theorem fdiv_nn {a b : Int} (ha : 0 ≤ a) (hb : 0 ≤ b) : 0 ≤ a.fdiv b := Int.fdiv_nonneg ha hb
theorem Sg.next {p c : L3} (h : Sg p c) (hc : c.1 ≠ 0) : Sg c (nxt p c) := by
  obtain ⟨h1, h2, h3⟩ := h
  have hq := fdiv_nn h1 h2
  have hr := fmod_pos_range (a := p.1) (show 0 < c.1 by omega)
  refine ⟨h2, hr.1, ?_⟩
  rcases h3 with ⟨a, b, d, e⟩ | ⟨a, b, d, e⟩
  · refine .inr ⟨d, e, ?_, ?_⟩
    · have := Int.mul_nonneg hq (show 0 ≤ -c.2.1 by omega)
      rw [Int.mul_neg] at this
      show 0 ≤ p.2.1 - p.1.fdiv c.1 * c.2.1
      omega
    · have := Int.mul_nonneg hq e
      show p.2.2 - p.1.fdiv c.1 * c.2.2 ≤ 0
      omega
  · refine .inl ⟨d, e, ?_, ?_⟩
    · have := Int.mul_nonneg hq d
      show p.2.1 - p.1.fdiv c.1 * c.2.1 ≤ 0
      omega
    · have := Int.mul_nonneg hq (show 0 ≤ -c.2.2 by omega)
      rw [Int.mul_neg] at this
      show 0 ≤ p.2.2 - p.1.fdiv c.1 * c.2.2
      omega
theorem vl3_nxt {p c : L3} (e f : Int) (hc : 0 < c.1) : vl3 e f (nxt p c) = vl3 e f p - p.1.fdiv c.1 * vl3 e f c := by
  have h := (fd_spec (a := p.1) hc).2.2
  simp only [vl3, nxt, h]
  simp only [Int.mul_add, Int.mul_sub, ← Int.mul_assoc]
  have e1 : p.1.fdiv c.1 * 16 * c.1 = 16 * p.1.fdiv c.1 * c.1 := by rw [Int.mul_comm (p.1.fdiv c.1) 16]
  have e2 : p.1.fdiv c.1 * e * c.2.1 = e * p.1.fdiv c.1 * c.2.1 := by rw [Int.mul_comm (p.1.fdiv c.1) e]
  have e3 : p.1.fdiv c.1 * f * c.2.2 = f * p.1.fdiv c.1 * c.2.2 := by rw [Int.mul_comm (p.1.fdiv c.1) f]
  omega
/-- how many steps the heads tell -/
noncomputable def cnt : Nat → L3 → L3 → Nat
  | 0, _, _ => 0
  | n + 1, p, c => if c.1 = 0 then 0 else if low c (nxt p c) < 0 then 0 else cnt n c (nxt p c) + 1

theorem told_cnt : ∀ (n : Nat) (p c : L3) (acc : Option Int) (t : Nat), (∀ a, acc = some a → 0 ≤ a) → t ≤ (leastA (els n p c).tail acc).length →
    (∀ (k : Nat) (x : Int), k < t → (leastA (els n p c).tail acc)[k]? = some x → 0 ≤ x) → (∀ (k : Nat) (x : Int), t ≤ k → (leastA (els n p c).tail acc)[k]? = some x → x < 0) → t = cnt n p c
  | 0, p, c, acc, t, _, ht, _, _ => by
    simp only [els, List.tail, leastA, List.length_nil] at ht
    exact Nat.le_zero.mp ht
  | n + 1, p, c, acc, t, ha, ht, h1, h2 => by
    by_cases hc : c.1 = 0
    · rw [els_zero hc] at ht
      simp only [List.tail, leastA, List.length_nil] at ht
      rw [cnt, if_pos hc]
      exact Nat.le_zero.mp ht
    · rw [els_succ hc] at ht h1 h2
      obtain ⟨r, hr⟩ := els_two n c (nxt p c)
      have et : (els n c (nxt p c)).tail = nxt p c :: r := by rw [hr]; rfl
      obtain ⟨M, hM, hw⟩ : ∃ M, (low c (nxt p c) < 0 ↔ M < 0) ∧ leastA (els n c (nxt p c)) acc = M :: leastA (els n c (nxt p c)).tail (some M) := by
        rw [et, hr]
        cases acc with
        | none => exact ⟨_, Iff.rfl, by rw [leastA]⟩
        | some a =>
          have := ha a rfl
          exact ⟨min a (low c (nxt p c)), by omega, by rw [leastA]⟩
      simp only [List.tail_cons] at ht h1 h2
      rw [hw] at ht h1 h2
      rw [cnt, if_neg hc]
      by_cases hl : low c (nxt p c) < 0
      · rw [if_pos hl]
        cases t with
        | zero => rfl
        | succ t =>
          have := h1 0 M (Nat.zero_lt_succ _) rfl
          have := hM.mp hl
          omega
      · rw [if_neg hl]
        cases t with
        | zero => exact absurd (hM.mpr (h2 0 M (Nat.le_refl _) rfl)) hl
        | succ t =>
          refine congrArg (· + 1) (told_cnt n c (nxt p c) (some M) t ?_ ?_ ?_ ?_)
          · intro a e
            have := Option.some.inj e
            have h3 : ¬ M < 0 := fun q => hl (hM.mpr q)
            omega
          · simp only [List.length_cons] at ht
            omega
          · intro k x hk e
            exact h1 (k + 1) x (by omega) e
          · intro k x hk e
            exact h2 (k + 1) x (by omega) e

theorem least_le : ∀ (l : List L3) (a : Int), ∀ x ∈ leastA l (some a), x ≤ a
  | [], _, _, h => by simp [leastA] at h
  | [_], _, _, h => by simp [leastA] at h
  | p :: c :: r, a, x, h => by
    rw [leastA] at h
    rcases List.mem_cons.mp h with e | h
    · omega
    · have := least_le (c :: r) _ x h
      omega
theorem least_falls : ∀ (l : List L3) (acc : Option Int), (leastA l acc).Pairwise (fun x y => y ≤ x)
  | [], acc => by cases acc <;> simp [leastA]
  | [_], acc => by cases acc <;> simp [leastA]
  | p :: c :: r, none => by
    rw [leastA]
    exact List.pairwise_cons.mpr ⟨fun y hy => least_le _ _ y hy, least_falls (c :: r) _⟩
  | p :: c :: r, some a => by
    rw [leastA]
    exact List.pairwise_cons.mpr ⟨fun y hy => least_le _ _ y hy, least_falls (c :: r) _⟩
theorem least_mono (l : List L3) (acc : Option Int) (i j : Nat) (x y : Int) (hij : i ≤ j) (hx : (leastA l acc)[i]? = some x) (hy : (leastA l acc)[j]? = some y) : y ≤ x := by
  rcases Nat.lt_or_eq_of_le hij with h | h
  · obtain ⟨hi, e1⟩ := List.getElem?_eq_some_iff.mp hx
    obtain ⟨hj, e2⟩ := List.getElem?_eq_some_iff.mp hy
    have := (List.pairwise_iff_getElem.mp (least_falls l acc)) i j hi hj h
    rw [e1, e2] at this
    exact this
  · subst h
    rw [hx] at hy
    have := Option.some.inj hy
    omega
theorem least_len : ∀ (l : List L3) (acc : Option Int), (leastA l acc).length = l.length - 1
  | [], acc => by cases acc <;> simp [leastA]
  | [_], acc => by cases acc <;> simp [leastA]
  | p :: c :: r, none => by rw [leastA]; simp only [List.length_cons, least_len (c :: r)]; omega
  | p :: c :: r, some a => by rw [leastA]; simp only [List.length_cons, least_len (c :: r)]; omega
end
section
theorem bnd {e x : Int} (h0 : 0 ≤ e) (h1 : e ≤ 15) : (0 ≤ x → 0 ≤ e * x ∧ e * x ≤ 15 * x) ∧ (x ≤ 0 → 15 * x ≤ e * x ∧ e * x ≤ 0) := by
  refine ⟨fun hx => ⟨Int.mul_nonneg h0 hx, Int.mul_le_mul_of_nonneg_right h1 hx⟩, fun hx => ⟨?_, ?_⟩⟩
  · exact Int.mul_le_mul_of_nonpos_right h1 hx
  · have := Int.mul_nonneg h0 (show 0 ≤ -x by omega)
    rw [Int.mul_neg] at this
    omega
theorem le_sub1 {x y : Int} : 0 ≤ x - y - 1 ↔ y < x := by omega
theorem low_ge {p c : L3} : ¬ low p c < 0 ↔ (0 ≤ vl3 0 15 c ∧ vl3 0 15 c < vl3 0 15 p) ∧ (0 ≤ vl3 15 0 c ∧ vl3 15 0 c < vl3 15 0 p) := by
  unfold low
  rw [Int.not_lt, Int.le_min, Int.le_min, Int.le_min, le_sub1, le_sub1]
/-- what holds at the two corners holds in the box -/
theorem box {p c : L3} {e f : Int} (h : Sg p c) (hl : ¬ low p c < 0) (e0 : 0 ≤ e) (e1 : e ≤ 15) (f0 : 0 ≤ f) (f1 : f ≤ 15) : 0 ≤ vl3 e f c ∧ vl3 e f c < vl3 e f p := by
  obtain ⟨⟨a1, a2⟩, a3, a4⟩ := low_ge.mp hl
  obtain ⟨h1, h2, h3⟩ := h
  have b1 := bnd (x := c.2.1) e0 e1
  have b2 := bnd (x := c.2.2) f0 f1
  have b3 := bnd (x := p.2.1) e0 e1
  have b4 := bnd (x := p.2.2) f0 f1
  simp only [vl3] at a1 a2 a3 a4 ⊢
  rcases h3 with ⟨s1, s2, s3, s4⟩ | ⟨s1, s2, s3, s4⟩
  · have c1 := b1.2 s3; have c2 := b2.1 s4; have c3 := b3.1 s1; have c4 := b4.2 s2
    omega
  · have c1 := b1.1 s3; have c2 := b2.2 s4; have c3 := b3.2 s1; have c4 := b4.1 s2
    omega
theorem step_eq {p c : L3} {e f : Int} (hc : 0 < c.1) (h0 : 0 ≤ vl3 e f (nxt p c)) (h1 : vl3 e f (nxt p c) < vl3 e f c) : 0 < vl3 e f c ∧ (vl3 e f p).fdiv (vl3 e f c) = p.1.fdiv c.1 ∧ (vl3 e f p).fmod (vl3 e f c) = vl3 e f (nxt p c) := by
  have hv := vl3_nxt (p := p) e f hc
  have hp : 0 < vl3 e f c := by omega
  rw [hv] at h0 h1 ⊢
  exact ⟨hp, fd_eq hp h0 h1⟩
theorem cnt_run (e f K : Int) (e0 : 0 ≤ e) (e1 : e ≤ 15) (f0 : 0 ≤ f) (f1 : f ≤ 15) : ∀ (n : Nat) (p c : L3), Sg p c → 0 ≤ vl3 e f p → vl3 e f p < K → 0 ≤ vl3 e f c → vl3 e f c < K →
    cnt n p c ≤ agr (eqs n p c) (vl3 e f p) (vl3 e f c) ∧ cnt n p c ≤ n ∧
    ∃ a b, (els n p c)[cnt n p c]? = some a ∧ (els n p c)[cnt n p c + 1]? = some b ∧ qn n (vl3 e f p) (vl3 e f c) = (eqs n p c).take (cnt n p c) ++ qn (n - cnt n p c) (vl3 e f a) (vl3 e f b) ∧
      0 ≤ vl3 e f a ∧ vl3 e f a < K ∧ 0 ≤ vl3 e f b ∧ vl3 e f b < K ∧ ∀ k, Ends k (vl3 e f p) (vl3 e f c) → cnt n p c ≤ k ∧ Ends (k - cnt n p c) (vl3 e f a) (vl3 e f b) := by
  intro n
  have zero : ∀ n p c, cnt n p c = 0 → Sg p c → 0 ≤ vl3 e f p → vl3 e f p < K → 0 ≤ vl3 e f c → vl3 e f c < K →
    cnt n p c ≤ agr (eqs n p c) (vl3 e f p) (vl3 e f c) ∧ cnt n p c ≤ n ∧
    ∃ a b, (els n p c)[cnt n p c]? = some a ∧ (els n p c)[cnt n p c + 1]? = some b ∧ qn n (vl3 e f p) (vl3 e f c) = (eqs n p c).take (cnt n p c) ++ qn (n - cnt n p c) (vl3 e f a) (vl3 e f b) ∧
      0 ≤ vl3 e f a ∧ vl3 e f a < K ∧ 0 ≤ vl3 e f b ∧ vl3 e f b < K ∧ ∀ k, Ends k (vl3 e f p) (vl3 e f c) → cnt n p c ≤ k ∧ Ends (k - cnt n p c) (vl3 e f a) (vl3 e f b) := by
    intro n p c h0 hs hp hpk hc hck
    obtain ⟨r, hr⟩ := els_two n p c
    rw [h0, hr]
    exact ⟨Nat.zero_le _, Nat.zero_le _, p, c, rfl, rfl, rfl, hp, hpk, hc, hck, fun k hk => ⟨Nat.zero_le _, hk⟩⟩
  induction n with
  | zero => intro p c hs; exact zero 0 p c rfl hs
  | succ n ih =>
    intro p c hs hp hpk hc hck
    by_cases hc0 : c.1 = 0
    · exact zero _ p c (by rw [cnt, if_pos hc0]) hs hp hpk hc hck
    · by_cases hl : low c (nxt p c) < 0
      · exact zero _ p c (by rw [cnt, if_neg hc0, if_pos hl]) hs hp hpk hc hck
      · have hc1 : 0 < c.1 := by have := hs.2.1; omega
        have hs' := hs.next hc0
        obtain ⟨b1, b2⟩ := box hs' hl e0 e1 f0 f1
        obtain ⟨s1, s2, s3⟩ := step_eq hc1 b1 b2
        obtain ⟨i1, i0, a, b, i2, i3, i4, i5, i6, i7, i8, i9⟩ := ih c (nxt p c) hs' hc hck b1 (by omega)
        have hne : vl3 e f c ≠ 0 := by omega
        have ec : cnt (n + 1) p c = cnt n c (nxt p c) + 1 := by rw [cnt, if_neg hc0, if_neg hl]
        rw [ec, eqs_succ hc0, els_succ hc0, qn_succ hne, s2, s3]
        refine ⟨?_, by omega, a, b, i2, i3, ?_, i5, i6, i7, i8, ?_⟩
        · rw [agr, if_neg (by rw [s2]; omega), s3]
          omega
        · rw [i4, List.take_succ_cons, List.cons_append, show n + 1 - (cnt n c (nxt p c) + 1) = n - cnt n c (nxt p c) by omega]
        · intro k hk
          obtain ⟨j, rfl, hj⟩ := hk.next hne
          rw [s3] at hj
          obtain ⟨j1, j2⟩ := i9 j hj
          exact ⟨by omega, by rw [show j + 1 - (cnt n c (nxt p c) + 1) = j - cnt n c (nxt p c) by omega]; exact j2⟩
theorem agr_nil (a b : Int) : agr [] a b = 0 := rfl
/-- some corner's own run does not go further -/
theorem cnt_corner : ∀ (n : Nat) (p c : L3), Sg p c → 0 ≤ vl3 0 15 p → 0 ≤ vl3 0 15 c → 0 ≤ vl3 15 0 p → 0 ≤ vl3 15 0 c →
    agr (eqs n p c) (vl3 0 15 p) (vl3 0 15 c) ≤ cnt n p c ∨ agr (eqs n p c) (vl3 15 0 p) (vl3 15 0 c) ≤ cnt n p c := by
  intro n
  induction n with
  | zero => intro p c _ _ _ _ _; exact .inl (Nat.zero_le _)
  | succ n ih =>
    intro p c hs hp hc hp' hc'
    by_cases hc0 : c.1 = 0
    · rw [eqs_zero hc0]
      exact .inl (Nat.zero_le _)
    · have hc1 : 0 < c.1 := by have := hs.2.1; omega
      have one : ∀ e f : Int, 0 ≤ vl3 e f c → ¬ (0 ≤ vl3 e f (nxt p c) ∧ vl3 e f (nxt p c) < vl3 e f c) → agr (p.1.fdiv c.1 :: eqs n c (nxt p c)) (vl3 e f p) (vl3 e f c) = 0 := by
        intro e f h0 hn
        rw [agr]
        by_cases hz : vl3 e f c = 0 ∨ (vl3 e f p).fdiv (vl3 e f c) ≠ p.1.fdiv c.1
        · rw [if_pos hz]
        · exfalso
          have hz1 : vl3 e f c ≠ 0 := fun q => hz (.inl q)
          have hz2 : (vl3 e f p).fdiv (vl3 e f c) = p.1.fdiv c.1 := Decidable.not_not.mp fun q => hz (.inr q)
          have h := fd_spec (a := vl3 e f p) (b := vl3 e f c) (by omega)
          rw [hz2] at h
          have hv := vl3_nxt (p := p) e f hc1
          omega
      rw [eqs_succ hc0, cnt, if_neg hc0]
      by_cases hl : low c (nxt p c) < 0
      · rw [if_pos hl]
        have : ¬ ((0 ≤ vl3 0 15 (nxt p c) ∧ vl3 0 15 (nxt p c) < vl3 0 15 c) ∧ (0 ≤ vl3 15 0 (nxt p c) ∧ vl3 15 0 (nxt p c) < vl3 15 0 c)) := fun q => low_ge.mpr q hl
        by_cases hq : 0 ≤ vl3 0 15 (nxt p c) ∧ vl3 0 15 (nxt p c) < vl3 0 15 c
        · exact .inr (Nat.le_of_eq (one 15 0 hc' fun q => this ⟨hq, q⟩))
        · exact .inl (Nat.le_of_eq (one 0 15 hc hq))
      · rw [if_neg hl]
        have hs' := hs.next hc0
        obtain ⟨⟨b1, b2⟩, b3, b4⟩ := low_ge.mp hl
        obtain ⟨s1, s2, s3⟩ := step_eq hc1 b1 b2
        obtain ⟨r1, r2, r3⟩ := step_eq hc1 b3 b4
        rcases ih c (nxt p c) hs' hc b1 hc' b3 with h | h
        · refine .inl ?_
          rw [agr, if_neg (by rw [s2]; omega), s3]
          omega
        · refine .inr ?_
          rw [agr, if_neg (by rw [r2]; omega), r3]
          omega
/-- how many first quotients two runs have in common -/
noncomputable def cpl : List Int → List Int → Nat
  | a :: r, b :: t => if a = b then cpl r t + 1 else 0
  | _, _ => 0
theorem cpl_cons (a b : Int) (r t : List Int) : cpl (a :: r) (b :: t) = if a = b then cpl r t + 1 else 0 := rfl
theorem cpl_nil_left (l : List Int) : cpl [] l = 0 := by cases l <;> rfl
theorem cpl_nil_right (l : List Int) : cpl l [] = 0 := by cases l <;> rfl
theorem between {P C q UL VL UR VR : Int} (hq : 0 ≤ q) (_ : 0 ≤ C) (hUL : 16 * P ≤ UL) (hVL : VL ≤ 16 * C) (hUR : UR ≤ 16 * P) (hVR : 16 * C ≤ VR) (h1 : UL < (q + 1) * VL) (h2 : q * VR ≤ UR) : 0 ≤ P - q * C ∧ P - q * C < C := by
  have a1 : q * (16 * C) ≤ q * VR := Int.mul_le_mul_of_nonneg_left hVR hq
  have a2 : (q + 1) * VL ≤ (q + 1) * (16 * C) := Int.mul_le_mul_of_nonneg_left hVL (by omega)
  have e1 : q * (16 * C) = 16 * (q * C) := by rw [← Int.mul_assoc, Int.mul_comm q 16, Int.mul_assoc]
  have e2 : (q + 1) * (16 * C) = 16 * (q * C) + 16 * C := by rw [Int.add_mul, e1]; omega
  omega
theorem cnt_common : ∀ (n : Nat) (p c : L3), Sg p c → 0 ≤ vl3 0 15 p → 0 ≤ vl3 0 15 c → 0 ≤ vl3 15 0 p → 0 ≤ vl3 15 0 c →
    cpl (qn n (vl3 15 0 p) (vl3 15 0 c)) (qn n (vl3 0 15 p) (vl3 0 15 c)) = cnt n p c := by
  intro n
  induction n with
  | zero => intro p c _ _ _ _ _; rfl
  | succ n ih =>
    intro p c hs hp hc hp' hc'
    by_cases hz : vl3 15 0 c = 0
    · rw [qn_zero hz, cpl_nil_left, cnt]
      by_cases hc0 : c.1 = 0
      · rw [if_pos hc0]
      · rw [if_neg hc0]
        by_cases hl : low c (nxt p c) < 0
        · rw [if_pos hl]
        · have := low_ge.mp hl
          omega
    by_cases hz' : vl3 0 15 c = 0
    · rw [qn_zero hz', cpl_nil_right, cnt]
      by_cases hc0 : c.1 = 0
      · rw [if_pos hc0]
      · rw [if_neg hc0]
        by_cases hl : low c (nxt p c) < 0
        · rw [if_pos hl]
        · have := low_ge.mp hl
          omega
    have hs2 := hs
    obtain ⟨g1, g2, g3⟩ := hs2
    have hc0 : c.1 ≠ 0 := by
      intro q
      simp only [vl3] at hz hz' hc hc'
      rcases g3 with ⟨_, _, _, _⟩ | ⟨_, _, _, _⟩ <;> omega
    have hc1 : 0 < c.1 := by omega
    rw [qn_succ hz, qn_succ hz', cpl_cons, cnt, if_neg hc0]
    by_cases hl : low c (nxt p c) < 0
    · rw [if_pos hl]
      by_cases hq : (vl3 15 0 p).fdiv (vl3 15 0 c) = (vl3 0 15 p).fdiv (vl3 0 15 c)
      · exfalso
        have f1 := fd_spec (a := vl3 15 0 p) (b := vl3 15 0 c) (by omega)
        have f2 := fd_spec (a := vl3 0 15 p) (b := vl3 0 15 c) (by omega)
        have hq0 : 0 ≤ (vl3 15 0 p).fdiv (vl3 15 0 c) := fdiv_nn hp' hc'
        rw [← hq] at f2
        generalize (vl3 15 0 p).fdiv (vl3 15 0 c) = q at f1 f2 hq0
        have hP : 0 ≤ p.1 - q * c.1 ∧ p.1 - q * c.1 < c.1 := by
          have m1 : (q + 1) * vl3 15 0 c = q * vl3 15 0 c + vl3 15 0 c := by rw [Int.add_mul]; omega
          have m2 : (q + 1) * vl3 0 15 c = q * vl3 0 15 c + vl3 0 15 c := by rw [Int.add_mul]; omega
          rcases g3 with ⟨s1, s2, s3, s4⟩ | ⟨s1, s2, s3, s4⟩
          · exact between (UL := vl3 15 0 p) (VL := vl3 15 0 c) (UR := vl3 0 15 p) (VR := vl3 0 15 c) hq0 g2 (by simp only [vl3]; omega) (by simp only [vl3]; omega) (by simp only [vl3]; omega) (by simp only [vl3]; omega) (by omega) (by omega)
          · exact between (UL := vl3 0 15 p) (VL := vl3 0 15 c) (UR := vl3 15 0 p) (VR := vl3 15 0 c) hq0 g2 (by simp only [vl3]; omega) (by simp only [vl3]; omega) (by simp only [vl3]; omega) (by simp only [vl3]; omega) (by omega) (by omega)
        have hq1 := (fd_eq hc1 hP.1 hP.2).1
        have v1 := vl3_nxt (p := p) 0 15 hc1
        have v2 := vl3_nxt (p := p) 15 0 hc1
        rw [hq1] at v1 v2
        refine absurd hl (low_ge.mpr ?_)
        omega
      · rw [if_neg hq]
    · rw [if_neg hl]
      have hs' := hs.next hc0
      obtain ⟨⟨b1, b2⟩, b3, b4⟩ := low_ge.mp hl
      obtain ⟨s1, s2, s3⟩ := step_eq hc1 b1 b2
      obtain ⟨r1, r2, r3⟩ := step_eq hc1 b3 b4
      rw [s2, s3, r2, r3, if_pos rfl, ih c (nxt p c) hs' hc b1 hc' b3]
theorem els_mk (u v : Int) : ∀ (n : Nat) (p c : L3), p.1 = p.2.1 * u + p.2.2 * v → c.1 = c.2.1 * u + c.2.2 * v → ∀ l ∈ els n p c, l.1 = l.2.1 * u + l.2.2 * v
  | 0, p, c, hp, hc, l, hl => by
    rcases List.mem_cons.mp hl with rfl | hl
    · exact hp
    · rcases List.mem_cons.mp hl with rfl | hl
      · exact hc
      · cases hl
  | n + 1, p, c, hp, hc, l, hl => by
    by_cases hc0 : c.1 = 0
    · rw [els_zero hc0] at hl
      rcases List.mem_cons.mp hl with rfl | hl
      · exact hp
      · rcases List.mem_cons.mp hl with rfl | hl
        · exact hc
        · cases hl
    · rw [els_succ hc0] at hl
      rcases List.mem_cons.mp hl with rfl | hl
      · exact hp
      · refine els_mk u v n c (nxt p c) hc ?_ l hl
        have e := Int.mul_fdiv_add_fmod p.1 c.1
        rw [Int.mul_comm] at e
        simp only [nxt]
        rw [Int.sub_mul, Int.sub_mul, Int.mul_assoc, Int.mul_assoc]
        have e2 : p.1.fdiv c.1 * c.1 = p.1.fdiv c.1 * (c.2.1 * u) + p.1.fdiv c.1 * (c.2.2 * v) := by
          rw [← Int.mul_add, ← hc]
        omega
end
section
theorem vA (A e f : Int) : vl3 e f (A, 1, 0) = 16 * A + e := by simp [vl3]
theorem vB (B e f : Int) : vl3 e f (B, 0, 1) = 16 * B + f := by simp [vl3]
theorem sg0 {A B : Int} (hA : 0 ≤ A) (hB : 0 ≤ B) : Sg (A, 1, 0) (B, 0, 1) := ⟨hA, hB, .inl ⟨by simp, by simp, by simp, by simp⟩⟩
section
variable {A B : Int} (hA : 0 ≤ A) (hB : 0 ≤ B)
include hA hB
theorem law_ge {e f : Int} (e0 : 0 ≤ e) (e1 : e ≤ 15) (f0 : 0 ≤ f) (f1 : f ≤ 15) : cnt 60 (A, 1, 0) (B, 0, 1) ≤ agr (eqs 60 (A, 1, 0) (B, 0, 1)) (16 * A + e) (16 * B + f) := by
  have h := (cnt_run e f (16 * A + e + 16 * B + f + 1) e0 e1 f0 f1 60 (A, 1, 0) (B, 0, 1) (sg0 hA hB) (by rw [vA]; omega) (by rw [vA]; omega) (by rw [vB]; omega) (by rw [vB]; omega)).1
  rw [vA, vB] at h
  exact h
theorem law_le : agr (eqs 60 (A, 1, 0) (B, 0, 1)) (16 * A + 0) (16 * B + 15) ≤ cnt 60 (A, 1, 0) (B, 0, 1) ∨ agr (eqs 60 (A, 1, 0) (B, 0, 1)) (16 * A + 15) (16 * B + 0) ≤ cnt 60 (A, 1, 0) (B, 0, 1) := by
  have h := cnt_corner 60 (A, 1, 0) (B, 0, 1) (sg0 hA hB) (by rw [vA]; omega) (by rw [vB]; omega) (by rw [vA]; omega) (by rw [vB]; omega)
  rw [vA, vB, vA, vB] at h
  exact h
theorem law_cpl : cpl (qn 60 (16 * A + 15) (16 * B)) (qn 60 (16 * A) (16 * B + 15)) = cnt 60 (A, 1, 0) (B, 0, 1) := by
  have h := cnt_common 60 (A, 1, 0) (B, 0, 1) (sg0 hA hB) (by rw [vA]; omega) (by rw [vB]; omega) (by rw [vA]; omega) (by rw [vB]; omega)
  rw [vA, vB, vA, vB, Int.add_zero, Int.add_zero] at h
  exact h
theorem law_end {U V e f : Int} (e0 : 0 ≤ e) (e1 : e ≤ 15) (f0 : 0 ≤ f) (f1 : f ≤ 15) (hU : U = 16 * A + e) (hV : V = 16 * B + f) (hU2 : U < 4096) (hV2 : V < 4096) :
    ∃ a b : L3, (els 60 (A, 1, 0) (B, 0, 1))[cnt 60 (A, 1, 0) (B, 0, 1)]? = some a ∧ (els 60 (A, 1, 0) (B, 0, 1))[cnt 60 (A, 1, 0) (B, 0, 1) + 1]? = some b ∧
      qn 60 U V = (eqs 60 (A, 1, 0) (B, 0, 1)).take (cnt 60 (A, 1, 0) (B, 0, 1)) ++ qn 60 (-(a.2.1 * U + a.2.2 * V)) (-(b.2.1 * U + b.2.2 * V)) ∧
      SG (-(a.2.1 * U + a.2.2 * V)) (-(b.2.1 * U + b.2.2 * V)) ∧ Ends 59 (-(a.2.1 * U + a.2.2 * V)) (-(b.2.1 * U + b.2.2 * V)) := by
  obtain ⟨_, _, a, b, ha, hb, hq, ha0, haK, hb0, hbK, hE⟩ := cnt_run e f 4096 e0 e1 f0 f1 60 (A, 1, 0) (B, 0, 1) (sg0 hA hB) (by rw [vA]; omega) (by rw [vA]; omega) (by rw [vB]; omega) (by rw [vB]; omega)
  rw [vA, vB, ← hU, ← hV] at hq hE
  have key : ∀ l : L3, l ∈ els 60 (A, 1, 0) (B, 0, 1) → vl3 e f l = l.2.1 * U + l.2.2 * V := by
    intro l hl
    have h := els_mk A B 60 (A, 1, 0) (B, 0, 1) (by simp) (by simp) l hl
    rw [hU, hV]
    simp only [vl3]
    rw [h, Int.mul_add, Int.mul_add, Int.mul_add, ← Int.mul_assoc, ← Int.mul_assoc, ← Int.mul_assoc, ← Int.mul_assoc, Int.mul_comm l.2.1 16, Int.mul_comm l.2.2 16, Int.mul_comm e, Int.mul_comm f]
    omega
  have ea := key a (List.mem_of_getElem? ha)
  have eb := key b (List.mem_of_getElem? hb)
  obtain ⟨k1, k2⟩ := hE 24 (ends_pow 12 U V (by omega) (by have : (2 : Int) ^ 12 = 4096 := rfl; omega))
  rw [ea, eb] at k2 hq
  rw [ea] at ha0 haK
  rw [eb] at hb0 hbK
  refine ⟨a, b, ha, hb, ?_, ⟨.inr ⟨by omega, by omega⟩, by omega, by omega, by omega, by omega⟩, (Ends.mono (by omega) k2).neg⟩
  rw [hq, qn_neg, qn_fuel (m := 60) k2 (by omega) (by omega)]
end
end
section
open PySem PySem.W PyProof.Rows PySem.Spec PySem.Calls
/-- the law's own record -/
noncomputable def lawFd (w : World) : FuncData := match (Mine.hd.heap_1 w.params).lookup 110 with
  | some ⟨_, _, .func f, _⟩ => f
  | _ => default
noncomputable def lawScope (w : World) : Scope := (lawFd w).scope
noncomputable def lawBody (w : World) : List Stmt := match (lawFd w).body with
  | .stmts b => b
  | _ => []
abbrev lawCl (L : Addr) : List (Str × Addr) := [("right", L + 8), ("left", L + 7), ("row", L + 6), ("number", L + 5), ("lower", L + 4), ("upper", L + 3), ("second", L + 2), ("first", L + 1)]
theorem law_lit {P : Scope → List Stmt → Prop} {w : World} {k : Nat} {name qual : Str} {params : Arguments} {body rest : List Stmt} {scope : Scope} {dV kV doc pm cdv ct oc : Value} {an od : Option Addr} {osl : Array (Option Value)}
    (h : (Mine.hd.heap_1 w.params).lookup 110 = some ⟨oc, od, .func (fnOf name qual params body scope dV kV doc pm an cdv ct), osl⟩) (hd : body.drop k = rest) (hp : P scope rest) : P (lawScope w) ((lawBody w).drop k) := by
  have e : lawFd w = fnOf name qual params body scope dV kV doc pm an cdv ct := by unfold lawFd; rw [h]
  have e1 : lawScope w = scope := by unfold lawScope; rw [e]
  have e2 : lawBody w = body := by unfold lawBody; rw [e]
  rw [e1, e2, hd]
  exact hp
theorem law_til {P : Scope → List Stmt → Prop} {w : World} {k : Nat} {name qual : Str} {params : Arguments} {body rest : List Stmt} {scope : Scope} {dV kV doc pm cdv ct oc : Value} {an od : Option Addr} {osl : Array (Option Value)}
    (hp : P (lawScope w) ((lawBody w).drop k)) (h : (Mine.hd.heap_1 w.params).lookup 110 = some ⟨oc, od, .func (fnOf name qual params body scope dV kV doc pm an cdv ct), osl⟩) (hd : body.drop k = rest) : P scope rest := by
  have e : lawFd w = fnOf name qual params body scope dV kV doc pm an cdv ct := by unfold lawFd; rw [h]
  have e1 : lawScope w = scope := by unfold lawScope; rw [e]
  have e2 : lawBody w = body := by unfold lawBody; rw [e]
  rw [e1, e2, hd] at hp
  exact hp
section
/-- a segment of the law's body, from its k-th row on -/
abbrev SegQ (w : World) (cs : Scope) (body : List Stmt) (VP : Heap → Heap → Addr → (Str → Option Value) → List (Addr × Obj) → Prop) : Prop :=
  ∀ (p : Program) (loose : List Str) (mean : ExcName → Option Value) (mg mb : Str → Option Value) (dp un : Nat) (gd : Option (List Code)) (cn : Str) (a : Addr)
    (A₀ : Around) (base h₀ : Heap) (L : Addr) (m : Str → Option Value) (s : Shared) (Q : Flow → Shared → Prop) (R1 : Value → Shared → Prop) (led : List (Addr × Obj)),
    Below A₀ base [] h₀ → Fr h₀ L s.heap m → (Mine.hd.heap_1 w.params).In h₀ → News h₀ L s.heap led → Top p loose mean mg mb h₀ → (Mine.hd.heap_1 w.params).In base → Top p loose mean mg mb base → CodeHd h₀ 109 107 →
    @LT.lt Nat _ 37 L → @LT.lt Nat _ 44 L → @LT.lt Nat _ 107 L → dp + 250 < recursionLimit → un + 3000 < cLine → VP base h₀ L m led →
    (∀ h' tk' m', Fr h₀ L h' m' → GrownAt 44 h' → GrownAt 37 h' → GrownAt 107 h' → Q (.ret (.bool true)) { s with heap := h', toks := tk' }) →
    wpAny (model PySem.Challenge.rw_ta0021_01.prog w) (ktrTop dp un gd cn cs L a (.ref 109) (lawCl L) []) (execs body (envX cn cs L a (.ref 109) (lawCl L))) Q (fun e s' => wpAny (model PySem.Challenge.rw_ta0021_01.prog w) (ktrTop dp un gd cn cs L a (.ref 109) (lawCl L) []) (leaving (envX cn cs L a (.ref 109) (lawCl L)) e) (fun _ s'' => R1 e s'') (fun e' s'' => R1 e' s'') s') s
end
abbrev cell8 (L : Addr) (o8 o7 o6 o5 o4 o3 o2 o1 : Obj) (r : List (Addr × Obj)) : List (Addr × Obj) := (L + 8, o8) :: (L + 7, o7) :: (L + 6, o6) :: (L + 5, o5) :: (L + 4, o4) :: (L + 3, o3) :: (L + 2, o2) :: (L + 1, o1) :: (44, tabObj #[]) :: (37, tabObj #[]) :: (107, tabObj #[]) :: r
section
variable {A : Around} {E : Value → Shared → Prop} {s : Shared} {Q : Value → Shared → Prop}
theorem pow_lit {prog : Program} {w : World} {a b r : Int} {u v : Tok} (h1 : 0 ≤ b) (h2 : b ≤ 1000000) (h3 : a.natAbs < 2 ^ 64) (e : a ^ b.toNat = r) (h : Q (.int r s.toks) { s with toks := s.toks + 1 }) : wpAny (model prog w) A (binaryOp .Pow (.int a u) (.int b v)) Q E s := by
  subst e
  exact pow_int_small h1 h2 h3 h
end
theorem bytes_inj {b c : Array UInt8} (h : KBw.bInts b = KBw.bInts c) : b = c := by
  unfold KBw.bInts at h
  have key : ∀ (x y : List UInt8), x.map (fun c => (c.toNat : Int)) = y.map (fun c => (c.toNat : Int)) → x = y := by
    intro x
    induction x with
    | nil => intro y hy; cases y with
      | nil => rfl
      | cons a r => simp at hy
    | cons a r ih =>
      intro y hy
      cases y with
      | nil => simp at hy
      | cons a' r' =>
        simp only [List.map_cons, List.cons.injEq] at hy
        have e1 : a = a' := UInt8.toNat_inj.mp (by omega)
        rw [e1, ih r' hy.2]
  have := key _ _ h
  exact Array.toList_inj.mp this
theorem apw_in {n : Int} (h1 : 16 ≤ n) (h2 : n < 4096) : KBa.In (apw n) := by
  intro k hk
  unfold apw at hk
  split at hk
  · simp only [List.mem_cons, List.not_mem_nil, or_false] at hk
    omega
  · simp only [List.mem_cons, List.not_mem_nil, or_false] at hk
    omega
theorem apw_len (n : Int) : (apw n).length ≤ 3 := by
  unfold apw
  split <;> simp
theorem wd2 {n : Int} (h1 : 16 ≤ n) (h2 : n < 256) : [65 + (n.fdiv (16 ^ Int.toNat 1)).fmod 16, 65 + (n.fdiv (16 ^ Int.toNat 0)).fmod 16] = apw n := by
  unfold apw
  rw [if_pos h2, show (16 : Int) ^ Int.toNat 1 = 16 from rfl, show (16 : Int) ^ Int.toNat 0 = 1 from rfl, Int.fdiv_eq_ediv_of_nonneg _ (by decide), Int.fdiv_eq_ediv_of_nonneg _ (by decide), Int.fmod_eq_emod_of_nonneg _ (by decide), Int.fmod_eq_emod_of_nonneg _ (by decide), Int.ediv_one]
theorem wd3 {n : Int} (h2 : 256 ≤ n) : [65 + (n.fdiv (16 ^ Int.toNat 2)).fmod 16, 65 + (n.fdiv (16 ^ Int.toNat 1)).fmod 16, 65 + (n.fdiv (16 ^ Int.toNat 0)).fmod 16] = apw n := by
  unfold apw
  rw [if_neg (by omega), show (16 : Int) ^ Int.toNat 2 = 256 from rfl, show (16 : Int) ^ Int.toNat 1 = 16 from rfl, show (16 : Int) ^ Int.toNat 0 = 1 from rfl, Int.fdiv_eq_ediv_of_nonneg _ (by decide), Int.fdiv_eq_ediv_of_nonneg _ (by decide), Int.fdiv_eq_ediv_of_nonneg _ (by decide), Int.fmod_eq_emod_of_nonneg _ (by decide), Int.fmod_eq_emod_of_nonneg _ (by decide), Int.fmod_eq_emod_of_nonneg _ (by decide), Int.ediv_one]
section
variable {prog : Program} {w : World} {A : Around} {E : Value → Shared → Prop} {s : Shared} {Q : Value → Shared → Prop}
theorem make_word {h₀ : Heap} {L D : Addr} {m : Str → Option Value} {news : List (Addr × Obj)} {ys : List Value} {ns : List Int} {b : Array UInt8} {n : Int} (F : Fr h₀ L s.heap m) (N : News h₀ L s.heap news) (hm : (D, LCg.lst ys) ∈ news) (hh : A.handled = none) (hi : IntsAre ys ns) (e : ns = apw n) (h1 : 16 ≤ n) (h2 : n < 4096) (hb : KBw.bInts b = apw n)
    (h : ∀ h' t' k, Fr h₀ L h' m → News h₀ L h' news → Q (.bytes b t') { s with heap := h', toks := k }) : wpAny (model prog w) A (call (.type "bytes") [.ref D]) Q E s := by
  subst e
  refine KBa.make_K F N hh (vs := ys) ⟨_, (N _ hm).1, rfl, _, rfl⟩ hi (apw_in h1 h2) (by have := apw_len n; omega) fun h' t' k F' N' hIn => ?_
  have : byteArr (apw n) = b := bytes_inj (by rw [KBa.ints_make hIn, hb])
  rw [this]
  exact h h' t' k F' N'
theorem ne_bytes_same {b : Array UInt8} {t u : Tok} (h : Q (.bool false) s) : wpAny (model prog w) A (compareOp .NotEq (.bytes b t) (.bytes b u)) Q E s := by
  refine ne_bytes ?_
  rw [show (b.toList != b.toList) = false by simp]
  exact h
end
structure InB (P : Prop) : Prop where
  out : P
theorem compEnd_pure {h₀ : Heap} {L I C D : Addr} {m : Str → Option Value} {s₁ : Shared} {oI oC oD : Obj} {S : List (Addr × Obj) → Prop} {rest : Value → List (Addr × Obj) → Prop} {y : Value} {h' : Heap} {tk : Nat} {news' : List (Addr × Obj)}
    (F : Fr h₀ L h' m) (N : News h₀ L h' ((I, oI) :: (C, oC) :: (D, oD) :: news')) (off : LCg.Off3 I C D news') (hS : S news') (r : rest y news') :
    LCg.CompEnd h₀ L m s₁ I oI C oC D oD S rest y { s₁ with heap := h', toks := tk } := ⟨h', tk, news', rfl, F, N, off, hS, r⟩
theorem fr_known {h₀ h : Heap} {L : Addr} {m : Str → Option Value} {x : Str} {v : Value} (F : Fr h₀ L h m) (e : m x = some v) : Fr h₀ L h (fun y => if y = x then some v else m y) :=
  fr_eq F fun y => by
    by_cases q : y = x
    · rw [if_pos q, q, e]
    · rw [if_neg q]
/-- the law's numbers -/
structure LawN (A B U V e f : Int) : Prop where
  a0 : 2 ≤ A
  a1 : A ≤ 255
  b0 : 1 ≤ B
  b1 : B ≤ A
  e0 : 0 ≤ e
  e1 : e ≤ 15
  f0 : 0 ≤ f
  f1 : f ≤ 15
  u : U = 16 * A + e
  v : V = 16 * B + f
/-- from the for on -/
inductive Pre5 (_base _h₀ : Heap) (L : Addr) (m : Str → Option Value) (led : List (Addr × Obj)) : Prop
  | mk (o8 o7 o6 o5 o4 o3 o2 o1 : Obj) (W : Addr) (cW : Nat) (bU bV : Array UInt8) (tU tV : Tok) (A B U V e f : Int) (t1 t2 t3 t4 : Tok) (hl : led = cell8 L o8 o7 o6 o5 o4 o3 o2 o1 [(W, listOf #[.bytes bU tU, .bytes bV tV] cW)])
    (c8 : o8.data = .cell none) (c7 : o7.data = .cell none) (c6 : o6.data = .cell none) (c5 : o5.data = .cell none) (c4 : o4.data = .cell (some (.int V t4))) (c3 : o3.data = .cell (some (.int U t3))) (c2 : o2.data = .cell (some (.int B t2))) (c1 : o1.data = .cell (some (.int A t1)))
    (hW : m "words" = some (.ref W)) (hn : LawN A B U V e f) (hbU : KBw.bInts bU = apw U) (hbV : KBw.bInts bV = apw V) (hLW : @LT.lt Nat _ (L + 8) W)
/-- after the for -/
inductive Pre6 (_base _h₀ : Heap) (L : Addr) (m : Str → Option Value) (led : List (Addr × Obj)) : Prop
  | mk (o8 o7 o6 o5 o4 o3 o2 o1 : Obj) (W : Addr) (cW : Nat) (bU bV : Array UInt8) (tU tV : Tok) (A B U V e f : Int) (t1 t2 t3 t4 : Tok) (v5 : Option Value) (hl : led = cell8 L o8 o7 o6 o5 o4 o3 o2 o1 [(W, listOf #[.bytes bU tU, .bytes bV tV] cW)])
    (c8 : o8.data = .cell none) (c7 : o7.data = .cell none) (c6 : o6.data = .cell none) (c5 : o5.data = .cell v5) (c4 : o4.data = .cell (some (.int V t4))) (c3 : o3.data = .cell (some (.int U t3))) (c2 : o2.data = .cell (some (.int B t2))) (c1 : o1.data = .cell (some (.int A t1)))
    (hW : m "words" = some (.ref W)) (hn : LawN A B U V e f) (hbU : KBw.bInts bU = apw U) (hbV : KBw.bInts bV = apw V) (hLW : @LT.lt Nat _ (L + 8) W)
/-- the whole body -/
inductive Pre0 (base _h₀ : Heap) (L : Addr) (m : Str → Option Value) (led : List (Addr × Obj)) : Prop
  | mk (o8 o7 o6 o5 o4 o3 o2 o1 : Obj) (S : Addr) (sv : List Value) (ss : List Int) (hl : led = cell8 L o8 o7 o6 o5 o4 o3 o2 o1 [])
    (c8 : o8.data = .cell none) (c7 : o7.data = .cell none) (c6 : o6.data = .cell none) (c5 : o5.data = .cell none) (c4 : o4.data = .cell none) (c3 : o3.data = .cell none) (c2 : o2.data = .cell none) (c1 : o1.data = .cell none)
    (hS : m "script" = some (.ref S)) (hB : base.IsList S sv.toArray) (hI : IntsAre sv ss) (hn : ss.length ≤ 63)
theorem law_top {w : World} {cs : Scope} {body : List Stmt} {VP : Heap → Heap → Addr → (Str → Option Value) → List (Addr × Obj) → Prop} (C : SegQ w cs body VP)
   {p : Program} {loose : List Str} {mean : ExcName → Option Value} {mg mb : Str → Option Value} {dp un : Nat} {gd : Option (List Code)} {cn : Str} {a : Addr}
    {A₀ : Around} {base h₀ : Heap} {L : Addr} {m : Str → Option Value} {s : Shared} {Q : Flow → Shared → Prop} {R1 : Value → Shared → Prop} {led : List (Addr × Obj)}
    (B : Below A₀ base [] h₀) (F : Fr h₀ L s.heap m) (X : (Mine.hd.heap_1 w.params).In h₀) (N : News h₀ L s.heap led) (T : Top p loose mean mg mb h₀) (XB : (Mine.hd.heap_1 w.params).In base) (TB : Top p loose mean mg mb base) (H : CodeHd h₀ 109 107)
    (h1 : @LT.lt Nat _ 37 L) (h2 : @LT.lt Nat _ 44 L) (h3 : @LT.lt Nat _ 107 L) (hd : dp + 250 < recursionLimit) (hu : un + 3000 < cLine) (hp : VP base h₀ L m led)
    (ret : ∀ h' tk' m', Fr h₀ L h' m' → GrownAt 44 h' → GrownAt 37 h' → GrownAt 107 h' → Q (.ret (.bool true)) { s with heap := h', toks := tk' }) :
    wpAny (model PySem.Challenge.rw_ta0021_01.prog w) (ktrTop dp un gd cn cs L a (.ref 109) (lawCl L) []) (execs body (envX cn cs L a (.ref 109) (lawCl L))) Q (fun e s' => wpAny (model PySem.Challenge.rw_ta0021_01.prog w) (ktrTop dp un gd cn cs L a (.ref 109) (lawCl L) []) (leaving (envX cn cs L a (.ref 109) (lawCl L)) e) (fun _ s'' => R1 e s'') (fun e' s'' => R1 e' s'') s') s :=
  C _ _ _ _ _ _ _ _ _ _ _ _ _ _ _ _ _ _ _ B F X N T XB TB H h1 h2 h3 hd hu hp ret
end
section
open PySem PySem.W PyProof.Rows PySem.Spec PySem.Calls
/-- what of the ledger is not written out: the tables of the two nested defs, and what is done with -/
structure Rest (X Z : List (Addr × Obj)) : Prop where
  ex : ∃ junk t37 t44, Z = junk ++ (t37 ++ t44) ∧ Tbs t37 t44 (X ++ junk) ∧ DisjL junk X
theorem Rest.disj {X Z : List (Addr × Obj)} (h : Rest X Z) : DisjL Z X := by
  obtain ⟨junk, t37, t44, rfl, hT, hj⟩ := h.ex
  intro p hp q hq
  rcases List.mem_append.mp hp with hp | hp
  · exact hj p hp q hq
  · rcases List.mem_append.mp hp with hp | hp
    · exact hT.d1 p hp q (List.mem_append_right _ (List.mem_append_left _ hq))
    · exact hT.d2 p hp q (List.mem_append_left _ hq)
theorem Rest.off {X Z : List (Addr × Obj)} (h : Rest X Z) {a : Addr} {o : Obj} (hm : (a, o) ∈ X) : ∀ p ∈ Z, p.1 ≠ a := fun p hp => h.disj p hp _ hm
theorem Rest.addr {X X' Z : List (Addr × Obj)} (h : Rest X Z) (hs : ∀ p ∈ X', ∃ o, (p.1, o) ∈ X) : Rest X' Z := by
  obtain ⟨junk, t37, t44, rfl, hT, hj⟩ := h.ex
  refine ⟨junk, t37, t44, rfl, ⟨hT.a, hT.b, ?_, ?_⟩, ?_⟩
  · intro p hp q hq
    rcases List.mem_append.mp hq with hq | hq
    · exact hT.d1 p hp q (List.mem_append_left _ hq)
    · rcases List.mem_append.mp hq with hq | hq
      · obtain ⟨o, ho⟩ := hs q hq
        exact hT.d1 p hp (q.1, o) (List.mem_append_right _ (List.mem_append_left _ ho))
      · exact hT.d1 p hp q (List.mem_append_right _ (List.mem_append_right _ hq))
  · intro p hp q hq
    rcases List.mem_append.mp hq with hq | hq
    · obtain ⟨o, ho⟩ := hs q hq
      exact hT.d2 p hp (q.1, o) (List.mem_append_left _ ho)
    · exact hT.d2 p hp q (List.mem_append_right _ hq)
  · intro p hp q hq
    obtain ⟨o, ho⟩ := hs q hq
    exact hj p hp (q.1, o) ho
theorem Rest.put {X Z : List (Addr × Obj)} {x : Addr} {o : Obj} (h : Rest X Z) (hn : ∀ p ∈ Z, p.1 ≠ x) : Rest ((x, o) :: X) Z := by
  obtain ⟨junk, t37, t44, rfl, hT, hj⟩ := h.ex
  refine ⟨junk, t37, t44, rfl, ⟨hT.a, hT.b, ?_, ?_⟩, ?_⟩
  · intro p hp q hq
    rcases List.mem_append.mp hq with hq | hq
    · exact hT.d1 p hp q (List.mem_append_left _ hq)
    · rcases List.mem_cons.mp hq with rfl | hq
      · exact hn p (List.mem_append_right _ (List.mem_append_left _ hp))
      · exact hT.d1 p hp q (List.mem_append_right _ hq)
  · intro p hp q hq
    rcases List.mem_cons.mp hq with rfl | hq
    · exact hn p (List.mem_append_right _ (List.mem_append_right _ hp))
    · exact hT.d2 p hp q hq
  · intro p hp q hq
    rcases List.mem_cons.mp hq with rfl | hq
    · exact hn p (List.mem_append_left _ hp)
    · exact hj p hp q hq
theorem Rest.fresh {X : List (Addr × Obj)} (h1 : ∀ p ∈ X, p.1 ≠ 37) (h2 : ∀ p ∈ X, p.1 ≠ 44) : Rest X [(37, tabObj #[]), (44, tabObj #[])] := by
  refine ⟨[], [(37, tabObj #[])], [(44, tabObj #[])], rfl, ⟨.fresh, .fresh, ?_, ?_⟩, fun p hp => by cases hp⟩
  · intro p hp q hq
    rw [List.mem_singleton.mp hp]
    rcases List.mem_append.mp hq with hq | hq
    · rw [List.mem_singleton.mp hq]
      decide
    · rw [List.append_nil] at hq
      exact (h1 q hq).symm
  · intro p hp q hq
    rw [List.mem_singleton.mp hp]
    rw [List.append_nil] at hq
    exact (h2 q hq).symm
theorem tb_obj {P : Addr} {ln co : Nat} {q : Str} {tb : List (Addr × Obj)} (h : Tb P ln co q tb) : ∃ ps, (P, tabObj ps) ∈ tb := by
  cases h with
  | fresh => exact ⟨_, .head _⟩
  | hit => exact ⟨_, .head _⟩
theorem Rest.grown {X Z : List (Addr × Obj)} {h₀ h : Heap} {L : Addr} (hR : Rest X Z) (N : News h₀ L h (X ++ Z)) : GrownAt 44 h ∧ GrownAt 37 h := by
  obtain ⟨junk, t37, t44, rfl, hT, hj⟩ := hR.ex
  obtain ⟨p1, h1⟩ := tb_obj hT.a
  obtain ⟨p2, h2⟩ := tb_obj hT.b
  exact ⟨⟨p2, (N _ (List.mem_append_right _ (List.mem_append_right _ (List.mem_append_right _ h2)))).1⟩, ⟨p1, (N _ (List.mem_append_right _ (List.mem_append_right _ (List.mem_append_left _ h1)))).1⟩⟩
theorem L3In.filter {tl : List (Addr × Obj)} {f : Addr × Obj → Bool} {vs : List Value} {ls : List L3} (h : L3In tl vs ls) (hk : ∀ a x y z t1 t2 t3 n, (a, tup3 (.int x t1) (.int y t2) (.int z t3) n) ∈ tl → f (a, tup3 (.int x t1) (.int y t2) (.int z t3) n) = true) : L3In (tl.filter f) vs ls := by
  induction h with
  | nil => exact .nil
  | cons hm _ ih => exact .cons (List.mem_filter.mpr ⟨hm, hk _ _ _ _ _ _ _ _ hm⟩) ih
theorem tb_no3 {P : Addr} {ln co : Nat} {q : Str} {tb : List (Addr × Obj)} (h : Tb P ln co q tb) {a : Addr} {x y z : Value} {n : Nat} (hm : (a, tup3 x y z n) ∈ tb) : False := by
  cases h with
  | fresh =>
    have e := congrArg (fun p : Addr × Obj => p.2.cls) (List.mem_singleton.mp hm)
    simp [tabObj] at e
  | hit c oc vs t h1 h2 h3 =>
    rcases List.mem_cons.mp hm with e | hm
    · have e := congrArg (fun p : Addr × Obj => p.2.cls) e
      simp [tabObj] at e
    · have e := congrArg (fun p : Addr × Obj => p.2.data) (List.mem_singleton.mp hm)
      simp [h2] at e
theorem keepL3 {junk t37 t44 Z : List (Addr × Obj)} {P1 P2 : Addr} {l1 l2 k1 k2 : Nat} {q1 q2 : Str} (h1 : Tb P1 l1 k1 q1 t37) (h2 : Tb P2 l2 k2 q2 t44) (hZ : ∀ p ∈ junk, p ∈ Z) {vs : List Value} {ls : List L3} (h : L3In (junk ++ (t37 ++ t44)) vs ls) : L3In Z vs ls := by
  induction h with
  | nil => exact .nil
  | cons hm _ ih =>
    rcases List.mem_append.mp hm with h3 | h3
    · exact .cons (hZ _ h3) ih
    · exfalso
      rcases List.mem_append.mp h3 with h3 | h3
      · exact tb_no3 h1 h3
      · exact tb_no3 h2 h3
/-- what the run of two numbers gives back -/
inductive LZ (u v : Int) (X Z : List (Addr × Obj)) (vv : Value) (led : List (Addr × Obj)) : Prop
  | mk (P R Ls : Addr) (c c1 c2 : Nat) (rv lv : List Value) (Z' : List (Addr × Obj)) (h1 : vv = .ref P)
      (h2 : led = (P, tup2 (.ref R) (.ref Ls) c) :: (R, listOf rv.toArray c1) :: (Ls, listOf lv.toArray c2) :: (X ++ Z'))
      (h3 : IntsAre rv (eqs 60 (u, 1, 0) (v, 0, 1))) (h4 : L3In Z' lv (els 60 (u, 1, 0) (v, 0, 1)))
      (h5 : Rest ((P, tup2 (.ref R) (.ref Ls) c) :: (R, listOf rv.toArray c1) :: (Ls, listOf lv.toArray c2) :: X) Z') (h6 : ∀ vs ls, L3In Z vs ls → L3In Z' vs ls) (h7 : ∀ a ∈ X.map Prod.fst, NeN a P) (h8 : ∀ a ∈ X.map Prod.fst, NeN a R) (h9 : ∀ a ∈ X.map Prod.fst, NeN a Ls)
theorem law_linesZ (w : World) (u v : Int) (tu tv : Tok) (X Z : List (Addr × Obj)) (hR : Rest X Z) (hg : SG u v) (hend : Ends 59 u v) :
    Cl0 w 160 1400 (.ref 91) [.int u tu, .int v tv] (X ++ Z) (LZ u v X Z) := by
  obtain ⟨junk, t37, t44, rfl, hT, hj⟩ := hR.ex
  unfold Cl0
  intro p loose mean mg mb dp un gd cn cs a ccd cl A₀ base h₀ L m s Q E B F XX N T XB TB hk hd hu ret
  refine Cl0.use (law_lines_c w u v tu tv t37 t44 (X ++ junk) hT hg hend) B F XX (cb_drop N ?_) T XB TB hk hd hu ?_
  · intro p hp
    simp only [List.mem_append] at hp ⊢
    rcases hp with h | h | h | h
    · exact .inr (.inr (.inl h))
    · exact .inr (.inr (.inr h))
    · exact .inl h
    · exact .inr (.inl h)
  · intro vv led' h' tk' F' N' hret
    obtain ⟨P, R, Ls, c, c1, c2, rv, lv, tl, t37', t44', rfl, rfl, hrv, hlv, hT', hD⟩ := hret
    let f : Addr × Obj → Bool := fun p => decide (p.1 ≠ P) && decide (p.1 ≠ R) && decide (p.1 ≠ Ls)
    have hsub : ∀ p ∈ tl.filter f, p ∈ tl := fun p hp => (List.mem_filter.mp hp).1
    have gP := (N' (P, tup2 (.ref R) (.ref Ls) c) (.head _)).1
    have gR := (N' (R, listOf rv.toArray c1) (.tail _ (.head _))).1
    have gL := (N' (Ls, listOf lv.toArray c2) (.tail _ (.tail _ (.head _)))).1
    have hlv' : L3In (tl.filter f) lv (els 60 (u, 1, 0) (v, 0, 1)) := by
      refine hlv.filter fun a x y z t1 t2 t3 n hm => ?_
      have ga := (N' _ (.tail _ (.tail _ (.tail _ (List.mem_append_left _ hm))))).1
      have n1 : a ≠ P := by
        rintro rfl
        rw [gP] at ga
        injection ga with e
        have := congrArg Obj.data e
        simp at this
      have n2 : a ≠ R := by
        rintro rfl
        rw [gR] at ga
        injection ga with e
        have := congrArg Obj.cls e
        simp [PySem.W.listOf] at this
      have n3 : a ≠ Ls := by
        rintro rfl
        rw [gL] at ga
        injection ga with e
        have := congrArg Obj.cls e
        simp [PySem.W.listOf] at this
      simp [f, n1, n2, n3]
    refine ret _ ((P, tup2 (.ref R) (.ref Ls) c) :: (R, listOf rv.toArray c1) :: (Ls, listOf lv.toArray c2) :: (X ++ ((tl.filter f ++ junk) ++ (t37' ++ t44')))) _ _ F' (cb_drop N' ?_) ⟨P, R, Ls, c, c1, c2, rv, lv, _, rfl, rfl, hrv, ?_, ⟨tl.filter f ++ junk, t37', t44', rfl, ?_, ?_⟩, fun vs ls h3 => keepL3 hT.a hT.b (fun p hp => List.mem_append_left _ (List.mem_append_right _ hp)) h3, ?_, ?_, ?_⟩
    · intro p hp
      simp only [List.mem_cons, List.mem_append] at hp ⊢
      rcases hp with h | h | h | h | (h | h) | h | h
      · exact .inl h
      · exact .inr (.inl h)
      · exact .inr (.inr (.inl h))
      · exact .inr (.inr (.inr (.inr (.inr (.inr (.inl h))))))
      · exact .inr (.inr (.inr (.inl (hsub p h))))
      · exact .inr (.inr (.inr (.inr (.inr (.inr (.inr h))))))
      · exact .inr (.inr (.inr (.inr (.inl h))))
      · exact .inr (.inr (.inr (.inr (.inr (.inl h)))))
    · exact hlv'.mono fun p hp => List.mem_append_left _ (List.mem_append_left _ hp)
    · refine hT'.sub fun q hq => ?_
      simp only [List.cons_append, List.mem_cons, List.mem_append] at hq ⊢
      rcases hq with h | h | h | h | h | h
      · exact .inl h
      · exact .inr (.inl h)
      · exact .inr (.inr (.inl h))
      · exact .inr (.inr (.inr (.inr (.inl h))))
      · exact .inr (.inr (.inr (.inl (hsub q h))))
      · exact .inr (.inr (.inr (.inr (.inr h))))
    · intro p hp q hq
      have hj' : p ∈ junk → p.1 ≠ q.1 := by
        intro h
        rcases List.mem_cons.mp hq with e | hq
        · exact e ▸ (hD _ (.head _) p (List.mem_append_right _ h)).symm
        · rcases List.mem_cons.mp hq with e | hq
          · exact e ▸ (hD _ (.tail _ (.head _)) p (List.mem_append_right _ h)).symm
          · rcases List.mem_cons.mp hq with e | hq
            · exact e ▸ (hD _ (.tail _ (.tail _ (.head _))) p (List.mem_append_right _ h)).symm
            · exact hj p h q hq
      rcases List.mem_append.mp hp with hp | hp
      · obtain ⟨h1, h2⟩ := List.mem_filter.mp hp
        simp only [f, Bool.and_eq_true, decide_eq_true_eq] at h2
        rcases List.mem_cons.mp hq with e | hq
        · exact e ▸ h2.1.1
        · rcases List.mem_cons.mp hq with e | hq
          · exact e ▸ h2.1.2
          · rcases List.mem_cons.mp hq with e | hq
            · exact e ▸ h2.2
            · exact hD p (.tail _ (.tail _ (.tail _ h1))) q (List.mem_append_left _ hq)
      · exact hj' hp
    · intro a ha
      obtain ⟨p, hp, rfl⟩ := List.mem_map.mp ha
      exact ⟨(hD _ (.head _) p (List.mem_append_left _ hp)).symm⟩
    · intro a ha
      obtain ⟨p, hp, rfl⟩ := List.mem_map.mp ha
      exact ⟨(hD _ (.tail _ (.head _)) p (List.mem_append_left _ hp)).symm⟩
    · intro a ha
      obtain ⟨p, hp, rfl⟩ := List.mem_map.mp ha
      exact ⟨(hD _ (.tail _ (.tail _ (.head _))) p (List.mem_append_left _ hp)).symm⟩
theorem head_val {n a : Int} (h1 : 16 ≤ n) (h2 : n < 4096) (ha : n / 16 = a) : (apw n).dropLast.foldl (fun n k => 16 * n + k - 65) 0 = a := by
  unfold apw
  split
  · simp only [List.dropLast, List.foldl]
    omega
  · simp only [List.dropLast, List.foldl]
    omega
theorem ends59 {u v : Int} (h0 : 0 ≤ v) (h1 : v < 4096) : Ends 59 u v := Ends.mono (by decide) (ends_pow 12 u v h0 (by have : (2 : Int) ^ 12 = 4096 := rfl; omega))
theorem ends24 {u v : Int} (h0 : 0 ≤ v) (h1 : v < 4096) : Ends 24 u v := ends_pow 12 u v h0 (by have : (2 : Int) ^ 12 = 4096 := rfl; omega)
abbrev cellX (L : Addr) (o8 o7 o6 o5 o4 o3 o2 o1 : Obj) (ps : Array Value) (r : List (Addr × Obj)) : List (Addr × Obj) := (L + 8, o8) :: (L + 7, o7) :: (L + 6, o6) :: (L + 5, o5) :: (L + 4, o4) :: (L + 3, o3) :: (L + 2, o2) :: (L + 1, o1) :: (107, tabObj ps) :: r
abbrev cellA (L : Addr) : List Addr := [L + 8, L + 7, L + 6, L + 5, L + 4, L + 3, L + 2, L + 1, 107]
theorem off8 {L R : Addr} (h : ∀ a ∈ cellA L, NeN a R) : NeN (L + 8) R := h _ (.head _)
theorem off7 {L R : Addr} (h : ∀ a ∈ cellA L, NeN a R) : NeN (L + 7) R := h _ (.tail _ (.head _))
theorem off6 {L R : Addr} (h : ∀ a ∈ cellA L, NeN a R) : NeN (L + 6) R := h _ (.tail _ (.tail _ (.head _)))
theorem off0 {L R : Addr} (h : ∀ a ∈ cellA L, NeN a R) : NeN 107 R := h _ (.tail _ (.tail _ (.tail _ (.tail _ (.tail _ (.tail _ (.tail _ (.tail _ (.head _)))))))))
/-- what stands of the cells and the lines from the seventh row on -/
structure LawM (L : Addr) (o8 o7 o6 o5 o4 o3 o2 o1 : Obj) (ps : Array Value) (R Ls : Addr) (c1 c2 : Nat) (rv lv : List Value) (Z : List (Addr × Obj)) (A B U V e f : Int) (t1 t2 t3 t4 : Tok) : Prop where
  d6 : o6.data = .cell (some (.ref R))
  d4 : o4.data = .cell (some (.int V t4))
  d3 : o3.data = .cell (some (.int U t3))
  d2 : o2.data = .cell (some (.int B t2))
  d1 : o1.data = .cell (some (.int A t1))
  n : LawN A B U V e f
  hr : IntsAre rv (eqs 60 (A, 1, 0) (B, 0, 1))
  hl : L3In Z lv (els 60 (A, 1, 0) (B, 0, 1))
  rest : Rest (cellX L o8 o7 o6 o5 o4 o3 o2 o1 ps [(R, listOf rv.toArray c1), (Ls, listOf lv.toArray c2)]) Z
  offR : ∀ a ∈ cellA L, NeN a R
  offL : ∀ a ∈ cellA L, NeN a Ls
inductive Pre7 (_base _h₀ : Heap) (L : Addr) (m : Str → Option Value) (led : List (Addr × Obj)) : Prop
  | mk (o8 o7 o6 o5 o4 o3 o2 o1 : Obj) (R Ls : Addr) (c1 c2 : Nat) (rv lv : List Value) (Z : List (Addr × Obj)) (A B U V e f : Int) (t1 t2 t3 t4 : Tok) (v5 : Option Value) (h : led = cellX L o8 o7 o6 o5 o4 o3 o2 o1 #[] ((R, listOf rv.toArray c1) :: (Ls, listOf lv.toArray c2) :: Z))
    (d8 : o8.data = .cell none) (d7 : o7.data = .cell none) (d5 : o5.data = .cell v5) (hLs : m "lines" = some (.ref Ls)) (hM : LawM L o8 o7 o6 o5 o4 o3 o2 o1 #[] R Ls c1 c2 rv lv Z A B U V e f t1 t2 t3 t4)
/-- from the check of told on -/
inductive Pre9 (_base _h₀ : Heap) (L : Addr) (m : Str → Option Value) (led : List (Addr × Obj)) : Prop
  | mk (o8 o7 o6 o5 o4 o3 o2 o1 : Obj) (ps : Array Value) (R Ls : Addr) (c1 c2 : Nat) (rv lv : List Value) (Z : List (Addr × Obj)) (A B U V e f : Int) (t1 t2 t3 t4 t5 : Tok) (h : led = cellX L o8 o7 o6 o5 o4 o3 o2 o1 ps ((R, listOf rv.toArray c1) :: (Ls, listOf lv.toArray c2) :: Z))
    (d8 : o8.data = .cell none) (d7 : o7.data = .cell none) (hLs : m "lines" = some (.ref Ls)) (hTo : m "told" = some (.int (cnt 60 (A, 1, 0) (B, 0, 1) : Nat) t5)) (hM : LawM L o8 o7 o6 o5 o4 o3 o2 o1 ps R Ls c1 c2 rv lv Z A B U V e f t1 t2 t3 t4)
/-- from the check of the common quotients on -/
inductive Pre11 (_base _h₀ : Heap) (L : Addr) (m : Str → Option Value) (led : List (Addr × Obj)) : Prop
  | mk (o8 o7 o6 o5 o4 o3 o2 o1 : Obj) (ps : Array Value) (R Ls : Addr) (c1 c2 : Nat) (rv lv : List Value) (Z : List (Addr × Obj)) (A B U V e f : Int) (t1 t2 t3 t4 t5 : Tok) (RA RB : Addr) (ca cb : Nat) (ra rb : List Value)
    (h : led = cellX L o8 o7 o6 o5 o4 o3 o2 o1 ps ((R, listOf rv.toArray c1) :: (Ls, listOf lv.toArray c2) :: (RA, listOf ra.toArray ca) :: (RB, listOf rb.toArray cb) :: Z))
    (d8 : o8.data = .cell (some (.ref RB))) (d7 : o7.data = .cell (some (.ref RA))) (hLs : m "lines" = some (.ref Ls)) (hTo : m "told" = some (.int (cnt 60 (A, 1, 0) (B, 0, 1) : Nat) t5)) (hM : LawM L o8 o7 o6 o5 o4 o3 o2 o1 ps R Ls c1 c2 rv lv Z A B U V e f t1 t2 t3 t4)
    (hra : IntsAre ra (qn 60 (16 * A + 15) (16 * B))) (hrb : IntsAre rb (qn 60 (16 * A) (16 * B + 15)))
end
section
open PySem PySem.W PyProof.Rows PySem.Spec PySem.Calls
section
variable {prog : Program} {w : World} {A : Around} {s : Shared} {h₀ : Heap} {L : Addr} {m : Str → Option Value} {env : Env} {ct elt : PySem.Expr} {x : Str} {scope : Scope} {cl : List (Str × Addr)} {S : List (Addr × Obj) → Prop} {P : Nat → Value → Prop} {Fin : List Value → List (Addr × Obj) → Prop} {news : List (Addr × Obj)}
theorem compRest_ind {n : Nat} (Inv : Nat → List Value → Prop) (h0 : Inv 0 [])
    (turn : ∀ i ys v I oI C oC D m₂ h tk (E' : Value → Shared → Prop), i < n → Inv i ys → P i v → LCg.NsObj oC m₂ → m₂ x = some v → Fr h₀ L h m → News h₀ L h ((I, oI) :: (C, oC) :: (D, LCg.lst ys) :: news) → LCg.Off3 I C D news → InB ((@Ne Nat I C) ∧ (@Ne Nat I D) ∧ (@Ne Nat C D)) →
      wpAny (model prog w) A (isTrue ct (compEnvC scope cl C env) (eval ct (compEnvC scope cl C env))) (fun ok s' => if ok = true then
        wpAny (model prog w) A (eval elt (compEnvC scope cl C env)) (LCg.CompEnd h₀ L m { s with heap := h, toks := tk } I oI C oC D (LCg.lst ys) S (fun y news' => news' = news ∧ Inv (i + 1) (ys ++ [y]))) E' s'
        else LCg.CompEnd h₀ L m { s with heap := h, toks := tk } I oI C oC D (LCg.lst ys) S (fun _ news' => news' = news ∧ Inv (i + 1) ys) Value.none s') E' { s with heap := h, toks := tk })
    (done : ∀ ys, Inv n ys → Fin ys news) : LCt.CompRestT prog w A h₀ L m env ct elt x scope cl s S P Fin n 0 [] news := by
  have key : ∀ (j i : Nat) (ys : List Value), i + j = n → Inv i ys → LCt.CompRestT prog w A h₀ L m env ct elt x scope cl s S P Fin j i ys news := by
    intro j
    induction j with
    | zero =>
      intro i ys e hI
      have : i = n := by omega
      subst this
      exact LCt.CompRestT.zero (done ys hI)
    | succ j ih =>
      intro i ys e hI
      refine LCt.CompRestT.succ ?_
      intro v I oI C oC D m₂ h tk E' hP hC hx F N off ne
      refine wpAny_mono (turn i ys v I oI C oC D m₂ h tk E' (by omega) hI hP hC hx F N off ⟨ne⟩) (fun ok s' hk => ?_) fun _ _ e => e
      cases ok with
      | true =>
        rw [if_pos rfl] at hk ⊢
        refine wpAny_mono hk (fun y s'' hy => ?_) fun _ _ e => e
        obtain ⟨h', tk', news', e1, F', N', off', hS, e2, hI'⟩ := hy
        subst e2
        exact ⟨h', tk', _, e1, F', N', off', hS, ih (i + 1) _ (by omega) hI'⟩
      | false =>
        rw [if_neg Bool.false_ne_true] at hk ⊢
        obtain ⟨h', tk', news', e1, F', N', off', hS, e2, hI'⟩ := hk
        subst e2
        exact ⟨h', tk', _, e1, F', N', off', hS, ih (i + 1) _ (by omega) hI'⟩
  exact key n 0 [] (by omega) h0
end
/-- from the last two lines on -/
inductive Pre12 (_base _h₀ : Heap) (L : Addr) (m : Str → Option Value) (led : List (Addr × Obj)) : Prop
  | mk (o8 o7 o6 o5 o4 o3 o2 o1 : Obj) (ps : Array Value) (R Ls : Addr) (c1 c2 : Nat) (rv lv : List Value) (Z : List (Addr × Obj)) (A B U V e f : Int) (t1 t2 t3 t4 t5 : Tok) (h : led = cellX L o8 o7 o6 o5 o4 o3 o2 o1 ps ((R, listOf rv.toArray c1) :: (Ls, listOf lv.toArray c2) :: Z))
    (hLs : m "lines" = some (.ref Ls)) (hTo : m "told" = some (.int (cnt 60 (A, 1, 0) (B, 0, 1) : Nat) t5)) (hM : LawM L o8 o7 o6 o5 o4 o3 o2 o1 ps R Ls c1 c2 rv lv Z A B U V e f t1 t2 t3 t4)
theorem cpl_take : ∀ (a b : List Int) (i : Nat), i < a.length → i < b.length → (a.take (i + 1) = b.take (i + 1) ↔ i < cpl a b)
  | [], _, i, h, _ => absurd h (Nat.not_lt_zero i)
  | _ :: _, [], i, _, h => absurd h (Nat.not_lt_zero i)
  | x :: a, y :: b, i, h1, h2 => by
    rw [cpl_cons, List.take_succ_cons, List.take_succ_cons]
    by_cases e : x = y
    · subst e
      rw [if_pos rfl]
      cases i with
      | zero => simp
      | succ i =>
        simp only [List.cons.injEq, true_and]
        have h1' : i < a.length := by simp at h1; omega
        have h2' : i < b.length := by simp at h2; omega
        rw [cpl_take a b i h1' h2']
        omega
    · rw [if_neg e]
      simp [e]
theorem cpl_le : ∀ (a b : List Int), cpl a b ≤ a.length ∧ cpl a b ≤ b.length
  | [], b => by rw [cpl_nil_left]; exact ⟨Nat.zero_le _, Nat.zero_le _⟩
  | _ :: _, [] => by rw [cpl_nil_right]; exact ⟨Nat.zero_le _, Nat.zero_le _⟩
  | x :: a, y :: b => by
    rw [cpl_cons]
    have := cpl_le a b
    split <;> simp <;> omega
theorem pick2 {vs : List Value} {t : Nat} {a b : Value} (ha : vs[t]? = some a) (hb : vs[t + 1]? = some b) : (slicePick vs.toArray (some (t : Int)) (some ((t : Int) + 2)) none).toList = [a, b] := by
  have l1 := (List.getElem?_eq_some_iff.mp hb).1
  have e : sliceBounds (some (t : Int)) (some ((t : Int) + 2)) none vs.toArray.size = (((t : Nat) : Int), ((t + 2 : Nat) : Int), 1) := by
    simp only [sliceBounds, Option.getD_none, show (1 : Int) > 0 by decide, if_true, if_neg (show ¬ ((t : Int) < 0) by omega), if_neg (show ¬ ((t : Int) + 2 < 0) by omega), List.size_toArray]
    congr 1
    · omega
    · congr 1
      omega
  rw [kmk_pick_nat _ e]
  have e2 : vs.drop t = a :: b :: vs.drop (t + 1 + 1) := by
    rw [List.drop_eq_getElem_cons (by omega), List.drop_eq_getElem_cons l1]
    rw [List.getElem?_eq_some_iff] at ha hb
    obtain ⟨_, ha⟩ := ha
    obtain ⟨_, hb⟩ := hb
    rw [ha, hb]
  show ((vs.drop t).take (t + 2 - t)) = [a, b]
  rw [e2, show t + 2 - t = 2 by omega]
  rfl
end
section
local macro_rules | `(tactic| walk_at "call ref") => `(tactic| ((with_reducible show wpAny _ _ (call (Value.ref _) _) _ _ _); refine Hold.of ?_))
local macro_rules | `(tactic| walk_at "subscriptTail Name Constant ref int") => `(tactic| (k_here; (with_unfolding_all refine' sub_at ?sa1 ?sa2 ?sa3 ?sa4 ?_ ?sa6; (case sa1 => is_list); (case sa2 => first | exact (rfl : (0 : Int) = ((0 : Nat) : Int)) | exact (rfl : (1 : Int) = ((1 : Nat) : Int)) | exact (rfl : (2 : Int) = ((2 : Nat) : Int)) | exact (rfl : (3 : Int) = ((3 : Nat) : Int))); (case sa3 => exact rfl); (case sa4 => (first | decide | (simp; done))); (case sa6 => with_unfolding_all rfl); k_whole)))
local macro_rules | `(tactic| walk_at "eval ListComp") => `(tactic| (refine Hold.of ?_))
local macro_rules | `(tactic| walk_at "CompRestT") => `(tactic| (with_unfolding_all first
  | (refine LCt.CompRestT.succ ?_; intro v' I' oI' C' oC' D' m' h' tk' E' hv' hC' hx' F' N' off' ne'; refine gp fun G9 k9 => ?_; obtain ⟨t9', hv9'⟩ := hv'; (try (first | rw [show (2 : Int) + ((0 : Nat) : Int) * (-1) = 2 from rfl] at hv9' | rw [show (2 : Int) + ((0 + 1 : Nat) : Int) * (-1) = 1 from rfl] at hv9' | rw [show (2 : Int) + ((0 + 1 + 1 : Nat) : Int) * (-1) = 0 from rfl] at hv9')); subst hv9'; refine k9 ?_; clear k9 G9; replace ne' := InB.mk ne')
  | refine LCt.CompRestT.zero ?_))
local macro_rules | `(tactic| walk_at "CompEnd") => `(tactic| (with_unfolding_all refine' compEnd_pure ?zc1 ?zc2 ?zc3 True.intro ?_; (case zc1 => k_asm); (case zc2 => k_asm); (case zc3 => assumption); (try dsimp only)))
local macro_rules | `(tactic| walk_at "ite") => `(tactic| (refine PyProof.Rows.split_dec ?_ ?_ <;> intro hq9 <;> (try simp only [show (16 : Int) ^ Int.toNat 2 = 256 from rfl, show (16 : Int) ^ Int.toNat 1 = 16 from rfl, show (16 : Int) ^ Int.toNat 0 = 1 from rfl] at hq9) <;> (try (exfalso; omega))))
local macro_rules | `(tactic| walk_at "FinE") => `(tactic| ((unfold LCg.FinE); intro D' h' tk' F' N' o1'; (try simp only [LCg.Off1, and_true] at o1'); (refine gp fun G9 k9 => ?_); (repeat (obtain ⟨ox', o1'⟩ := o1'; replace ox' := NeN.mk ox')); (replace o1' := NeN.mk o1'); (refine k9 ?_; clear k9 G9); (try simp only [List.nil_append, List.cons_append] at N'); (try dsimp only)))
local macro_rules | `(tactic| walk_at "call type:bytes") => `(tactic| (refine Hold.of ?_))
local macro_rules | `(tactic| walk_at "binaryOp FloorDiv int int") => `(tactic| (with_reducible refine floordiv_int (by decide) ?_ (Or.inl (PyProof.noPylong_small (by decide)))))
local macro_rules | `(tactic| walk_at "binaryOp Mod int int") => `(tactic| (with_reducible refine mod_int' (by decide) ?_))
local macro_rules | `(tactic| walk_at "compareOp NotEq bytes bytes") => `(tactic| (refine ne_bytes_same ?_))
local macro_rules | `(tactic| walk_at "Exists") => `(tactic| (refine Hold.of ?_))
theorem fresh_seg12 : True := by first | (walk1; done) | exact True.intro
section
open PySem PySem.W PyProof.Rows PySem.Spec PySem.Calls
section

local macro_rules | `(tactic| walk_at "CompEnd") => `(tactic| (refine Hold.of ?_))
set_option maxRecDepth 100000 in
set_option maxHeartbeats 8000000 in
set_option pp.deepTerms false in
set_option pp.deepTerms.threshold 6 in
theorem seg12 (w : World) : SegQ w (lawScope w) ((lawBody w).drop 12) Pre12 := by
  refine' law_lit (P := fun a b => SegQ w a b Pre12) ?h ?hd ?p
  case h => with_unfolding_all exact rfl
  case hd => exact rfl
  dsimp only [SegQ]
  k_fill
  intro p loose mean mg mb dp un gd cn aa A₀ base h₀ L m s Q R1 led B F X N T XB TB H l1 l2 l3 hd hu hP hret
  refine gp fun G9 k9 => ?_
  obtain ⟨o8, o7, o6, o5, o4, o3, o2, o1, ps, R, Ls, c1, c2, rv, lv, Z, A, B', U, V, e, f, t1, t2, t3, t4, t5, rfl, hLs, hTo, hM⟩ := hP
  refine k9 ?_; clear k9 G9
  dsimp only [cellX] at N
  replace XB := InB.mk XB; replace TB := InB.mk TB
  replace F := fr_known (fr_known F hLs) (v := .int (cnt 60 (A, 1, 0) (B', 0, 1) : Nat) t5) (x := "told") (by simp only [hTo]; rfl)
  have d6 := hM.d6; have d4 := hM.d4; have d3 := hM.d3; have d2 := hM.d2; have d1 := hM.d1
  have hr := hM.hr
  have hl := hM.hl
  have hn := hM.n
  have hU2 : U < 4096 := by have := hn.a1; have := hn.u; have := hn.e1; omega
  have hV2 : V < 4096 := by have := hn.a1; have := hn.b1; have := hn.v; have := hn.f1; omega
  obtain ⟨la, lb, hla, hlb, hqn, hsg, hend⟩ := law_end (A := A) (B := B') (by have := hn.a0; omega) (by have := hn.b0; omega) hn.e0 hn.e1 hn.f0 hn.f1 hn.u hn.v hU2 hV2
  refine gp fun G9 k9 => ?_
  obtain ⟨aa1, ta1, ta2, ta3, na1, hva, hma⟩ := hl.get hla
  obtain ⟨ab1, tb1, tb2, tb3, nb1, hvb, hmb⟩ := hl.get hlb
  refine k9 ?_; clear k9 G9
  have hU0 : 0 ≤ U := by have := hn.a0; have := hn.u; have := hn.e0; omega
  have hV0 : 0 ≤ V := by have := hn.b0; have := hn.v; have := hn.f0; omega
  have mm1 : IntMulOk la.2.1 U := IntMulOk.of_right (PySem.intBits_le_64 (by omega) (by omega))
  have mm2 : IntMulOk la.2.2 V := IntMulOk.of_right (PySem.intBits_le_64 (by omega) (by omega))
  have mm3 : IntMulOk lb.2.1 U := IntMulOk.of_right (PySem.intBits_le_64 (by omega) (by omega))
  have mm4 : IntMulOk lb.2.2 V := IntMulOk.of_right (PySem.intBits_le_64 (by omega) (by omega))
  have hsz0 := els_len 60 (A, 1, 0) (B', 0, 1)
  have hsz1 := eqs_len 60 (A, 1, 0) (B', 0, 1)
  have hsz2 : lv.length = (els 60 (A, 1, 0) (B', 0, 1)).length := hl.length
  have hpk := pick2 hva hvb
  replace N : News h₀ L s.heap ((aa1, tup3 (.int la.1 ta1) (.int la.2.1 ta2) (.int la.2.2 ta3) na1) :: (ab1, tup3 (.int lb.1 tb1) (.int lb.2.1 tb2) (.int lb.2.2 tb3) nb1) :: _) := cb_drop N fun q hq => by
    rcases List.mem_cons.mp hq with rfl | hq
    · repeat (first | exact hma | refine List.Mem.tail _ ?_)
    · rcases List.mem_cons.mp hq with rfl | hq
      · repeat (first | exact hmb | refine List.Mem.tail _ ?_)
      · exact hq
  k_steps
  unfold Hold
  k_dflt (refine LCg.ListComp_U (F₀ := by k_asm) (by with_unfolding_all rfl) (by decide) (by rfl) (by decide) (by rfl) ?_)
  k_steps
  (rename Fr h₀ _ _ _ => F8); (rename News h₀ _ _ _ => N8)
  k_dflt (refine' kmk_slice_lit (zs := [.ref aa1, .ref ab1]) F8 N8 ?g1 ?g2 ?g3 hpk ?_ ?g5 ?g6 ?g7)
  case g1 => exact ⟨_, (N8 (Ls, listOf lv.toArray c2) (by (repeat (first | exact List.Mem.head _ | refine List.Mem.tail _ ?_)))).1, rfl, _, rfl⟩
  case g2 => exact .int _ _
  case g3 => exact .int _ _
  case g5 => with_unfolding_all rfl
  case g6 => kmk_pure
  case g7 => rw [List.size_toArray, PySem.sizeLine_eq]; omega
  intro DS hS FS NS lS
  clear F8 N8
  k_dflt (refine LCg.CompSrc.ledger rfl FS NS (.head _) (show 2 ≤ sizeLine by decide) ?_)
  intro g
  refine LCg.CompRest.succ (k := 1) ?_
  intro v I oI C oC D m₂ hT tkT E' hv hC hx FT NT offT neT
  have ev : v = .ref aa1 := by simpa using hv.symm
  refine gp fun G9 k9 => ?_
  subst ev
  refine k9 ?_; clear k9 G9
  clear hv FS NS
  replace neT := InB.mk neT
  k_steps
  unfold Hold
  (rename Fr h₀ _ _ _ => F8); (rename News h₀ _ _ _ => N8)
  refine compEnd_pure F8 N8 offT (.inr ⟨_, .head _, rfl, _, rfl⟩) ?_
  refine LCg.CompRest.succ (k := 0) ?_
  clear F8 N8 hC hx offT neT
  intro v I oI C oC D m₂ hT tkT E' hv hC hx FT NT offT neT
  have ev : v = .ref ab1 := by simpa using hv.symm
  refine gp fun G9 k9 => ?_
  subst ev
  refine k9 ?_; clear k9 G9
  clear hv
  replace neT := InB.mk neT
  k_steps
  unfold Hold
  (rename Fr h₀ _ _ _ => F8); (rename News h₀ _ _ _ => N8)
  refine compEnd_pure F8 N8 offT (.inr ⟨_, .head _, rfl, _, rfl⟩) ?_
  refine LCg.CompRest.zero ?_
  clear F8 N8 hC hx offT neT
  unfold LCg.FinE
  intro DF hF tkF FF NF offF
  clear offF
  (try dsimp only)
  dsimp only [LCg.lst, List.nil_append, List.cons_append] at NF
  k_steps
  unfold Hold
  (try clear FF NF)
  (rename Fr h₀ _ _ _ => F8); (rename News h₀ _ _ _ => N8)
  with_unfolding_all refine' Cl0.use (law_linesZ _ U V _ _ _ _ hM.rest ?r1 ?r2) B F8 X (cb_drop N8 ?rsub) T XB.out TB.out ?rk ?rd ?ru ?rret
  case r1 => exact ⟨.inl ⟨by omega, by omega⟩, by omega, by omega, by omega, by omega⟩
  case r2 => exact ends59 (by omega) (by omega)
  case rsub =>
    dsimp only [cellX, List.cons_append, List.nil_append]
    intro q hq
    rcases List.mem_cons.mp hq with rfl | hq
    · (repeat (first | with_reducible exact List.Mem.head _ | refine List.Mem.tail _ ?_))
    rcases List.mem_cons.mp hq with rfl | hq
    · (repeat (first | with_reducible exact List.Mem.head _ | refine List.Mem.tail _ ?_))
    rcases List.mem_cons.mp hq with rfl | hq
    · (repeat (first | with_reducible exact List.Mem.head _ | refine List.Mem.tail _ ?_))
    rcases List.mem_cons.mp hq with rfl | hq
    · (repeat (first | with_reducible exact List.Mem.head _ | refine List.Mem.tail _ ?_))
    rcases List.mem_cons.mp hq with rfl | hq
    · (repeat (first | with_reducible exact List.Mem.head _ | refine List.Mem.tail _ ?_))
    rcases List.mem_cons.mp hq with rfl | hq
    · (repeat (first | with_reducible exact List.Mem.head _ | refine List.Mem.tail _ ?_))
    rcases List.mem_cons.mp hq with rfl | hq
    · (repeat (first | with_reducible exact List.Mem.head _ | refine List.Mem.tail _ ?_))
    rcases List.mem_cons.mp hq with rfl | hq
    · (repeat (first | with_reducible exact List.Mem.head _ | refine List.Mem.tail _ ?_))
    rcases List.mem_cons.mp hq with rfl | hq
    · (repeat (first | with_reducible exact List.Mem.head _ | refine List.Mem.tail _ ?_))
    rcases List.mem_cons.mp hq with rfl | hq
    · (repeat (first | with_reducible exact List.Mem.head _ | refine List.Mem.tail _ ?_))
    rcases List.mem_cons.mp hq with rfl | hq
    · (repeat (first | with_reducible exact List.Mem.head _ | refine List.Mem.tail _ ?_))
    repeat (first | exact hq | refine List.Mem.tail _ ?_)
  case rk => exact rfl
  case rd => omega
  case ru => omega
  case rret =>
  intro v12 led12 h12 tk12 F12 N12 hR12
  refine gp fun G9 k9 => ?_
  obtain ⟨PA, RU, LA, cPA, cu, cla, ru, lu, ZA, rfl, rfl, hru, _, hRA, _, _, _, _⟩ := hR12
  refine k9 ?_; clear k9 G9
  (try dsimp only)
  clear F8 N8
  dsimp only [cellX, List.cons_append, List.nil_append] at N12
  clear hma hmb mm1 mm2 mm3 mm4
  k_steps
  unfold Hold
  rename_i D9 ws9 h9 F9 N9 hI9 hC9 hL9 x1 x2 x3 x4 x5 x6 x7 x8 x9 x10 x11 x12 x13 x14 lz9
  have hoD : ∀ p ∈ ZA, p.1 ≠ D9 := fun p hp => Nat.ne_of_lt (allLt_mem lz9 p hp)
  with_unfolding_all refine' Cl0.use (law_linesZ _ (-(la.2.1 * U + la.2.2 * V)) (-(lb.2.1 * U + lb.2.2 * V)) _ _ _ _ (hRA.put (o := listOf ws9.toArray 0) hoD) hsg hend) B F9 X N9 T XB.out TB.out ?tk ?td ?tu ?tret
  case tk => exact rfl
  case td => omega
  case tu => omega
  case tret =>
  intro v13 led13 h13 tk13 F13 N13 hR13
  refine gp fun G9 k9 => ?_
  obtain ⟨PB, RW, LB, cPB, cw, clb, rw9, lw, ZB, rfl, rfl, hrw, _, hRB, _, _, _, _⟩ := hR13
  refine k9 ?_; clear k9 G9
  (try dsimp only)
  (try clear F9 N9)
  dsimp only [cellX, List.cons_append, List.nil_append] at N13
  have hq7 : eqs 60 (U, 1, 0) (V, 0, 1) = (eqs 60 (A, 1, 0) (B', 0, 1)).take ((cnt 60 (A, 1, 0) (B', 0, 1) : Nat) : Int).toNat ++ eqs 60 (-(la.2.1 * U + la.2.2 * V), 1, 0) (-(lb.2.1 * U + lb.2.2 * V), 0, 1) := by
    rw [Int.toNat_natCast]
    exact hqn
  have hlq1 := eqs_len 60 (U, 1, 0) (V, 0, 1)
  have hlq2 := eqs_len 60 (-(la.2.1 * U + la.2.2 * V), 1, 0) (-(lb.2.1 * U + lb.2.2 * V), 0, 1)
  clear hqn hend hsg hla hlb hva hvb hpk
  k_steps
  rw [decide_eq_true hq7]
  (rename Fr h₀ _ _ _ => F8); (rename News h₀ _ _ _ => N8)
  have hg := hRB.grown (cb_drop N8 fun q hq => .tail _ hq)
  exact hret _ _ _ F8 hg.1 hg.2 ⟨ps, (N8 (107, tabObj ps) (by (repeat (first | exact List.Mem.head _ | refine List.Mem.tail _ ?_)))).1⟩
end
end
theorem fresh_seg11 : True := by first | (walk1; done) | exact True.intro
section
open PySem PySem.W PyProof.Rows PySem.Spec PySem.Calls
section

local macro_rules | `(tactic| walk_at "execs cons") => `(tactic| ((with_reducible show wpAny _ _ (execs (Stmt.Assign _ _ _ :: _) _) _ _ _); refine Hold.of ?_))
local macro_rules | `(tactic| walk_at "call builtin:len") => `(tactic| (k_here; (with_reducible show wpAny _ _ (call (Value.builtin "len") [Value.ref _]) _ _ _); k_dflt (refine' KM.len_K ?k1 ?k2 ?k3 ?k4 ?_; (case k1 => k_asm); (case k2 => k_mem); (case k3 => with_reducible assumption); (case k4 => omega); k_whole)))
set_option maxRecDepth 100000 in
set_option maxHeartbeats 8000000 in
set_option pp.deepTerms false in
set_option pp.deepTerms.threshold 6 in
theorem seg11 (w : World) : SegQ w (lawScope w) ((lawBody w).drop 11) Pre11 := by
  refine' law_lit (P := fun a b => SegQ w a b Pre11) ?h ?hd ?p
  case h => with_unfolding_all exact rfl
  case hd => exact rfl
  dsimp only [SegQ]
  k_fill
  intro p loose mean mg mb dp un gd cn aa A₀ base h₀ L m s Q R1 led B F X N T XB TB H l1 l2 l3 hd hu hP hret
  refine gp fun G9 k9 => ?_
  obtain ⟨o8, o7, o6, o5, o4, o3, o2, o1, ps, R, Ls, c1, c2, rv, lv, Z, A, B', U, V, e, f, t1, t2, t3, t4, t5, RA, RB, ca, cb, ra, rb, rfl, d8, d7, hLs, hTo, hM, hra, hrb⟩ := hP
  refine k9 ?_; clear k9 G9
  dsimp only [cellX] at N
  replace XB := InB.mk XB; replace TB := InB.mk TB
  replace F := fr_known (fr_known F hLs) (v := .int (cnt 60 (A, 1, 0) (B', 0, 1) : Nat) t5) (x := "told") (by simp only [hTo]; rfl)
  have d6 := hM.d6; have d4 := hM.d4; have d3 := hM.d3; have d2 := hM.d2; have d1 := hM.d1
  have hr := hM.hr
  have hA0 : 0 ≤ A := by have := hM.n.a0; omega
  have hA1 : A ≤ 255 := hM.n.a1
  have hB0 : 0 ≤ B' := by have := hM.n.b0; omega
  have hB1 : B' ≤ 255 := by have := hM.n.b1; omega
  have hql := eqs_len 60 (A, 1, 0) (B', 0, 1)
  have hla := eqs_len 60 (16 * A + 15, 1, 0) (16 * B', 0, 1)
  have hlb := eqs_len 60 (16 * A, 1, 0) (16 * B' + 15, 0, 1)
  have hc := law_cpl (A := A) (B := B') (by have := hM.n.a0; omega) (by have := hM.n.b0; omega)
  have hA0 : 2 ≤ A := hM.n.a0
  have hA1 : A ≤ 255 := hM.n.a1
  have hB0 : 1 ≤ B' := hM.n.b0
  have hB1 : B' ≤ 255 := by have := hM.n.b1; omega
  change (qn 60 (16 * A + 15) (16 * B')).length ≤ 60 at hla
  change (qn 60 (16 * A) (16 * B' + 15)).length ≤ 60 at hlb
  generalize qn 60 (16 * A + 15) (16 * B') = qa at hra hla hc
  generalize qn 60 (16 * A) (16 * B' + 15) = qb at hrb hlb hc
  obtain ⟨na, hna⟩ : ∃ n : Nat, n = qa.length := ⟨_, rfl⟩
  obtain ⟨nb, hnb⟩ : ∃ n : Nat, n = qb.length := ⟨_, rfl⟩
  have hsA : ra.toArray.size = na := by rw [List.size_toArray, hra.length, hna]
  have hsB : rb.toArray.size = nb := by rw [List.size_toArray, hrb.length, hnb]
  k_steps
  unfold Hold
  k_dflt (refine ListComp_RT (by k_asm) (by with_unfolding_all rfl) (by decide) (by rfl) (by decide) (by rfl) ?_)
  k_steps
  unfold Hold
  refine ⟨_, _, _, _, _, _, _, min na nb, _, rfl, (by first | trivial | rfl), by k_asm, by k_asm, by assumption, ?w1, ?w2, ?w3, ?_⟩
  case w1 => exact PySem.small_one (by omega) (by omega) (by split <;> omega) (by split <;> omega)
  case w2 =>
    rw [PySem.rangeSize_one]
    repeat' split
    all_goals omega
  case w3 => rw [PySem.sizeLine_eq]; omega
  intro g
  refine compRest_ind (fun i ys => ys.length = min i (cnt 60 (A, 1, 0) (B', 0, 1))) (by simp) ?turn ?done
  case turn =>
    intro i ys v I oI C oC D m₂ h9 tk9 E' hi hys hv hC hx F9 N9 off9 ne9
    refine gp fun G9 k9 => ?_
    obtain ⟨t9, rfl⟩ := hv
    refine k9 ?_; clear k9 G9
    have hie : (0 + (i : Int) * 1 + 1).toNat = i + 1 := by omega
    have hct := cpl_take qa qb i (by omega) (by omega)
    k_steps
    · (rename Fr h₀ _ _ _ => F8); (rename News h₀ _ _ _ => N8)
      rename_i hq8
      rw [hie] at hq8
      have hq7 := hct.mp hq8
      refine compEnd_pure F8 (cb_drop N8 fun q hq => .tail _ (.tail _ hq)) off9 True.intro ⟨rfl, ?_⟩
      rw [List.length_append, List.length_singleton, hys]
      omega
    · (rename Fr h₀ _ _ _ => F8); (rename News h₀ _ _ _ => N8)
      rename_i hq8
      rw [hie] at hq8
      have hq7 : ¬ i < cpl qa qb := fun q => hq8 (hct.mpr q)
      refine compEnd_pure F8 (cb_drop N8 fun q hq => .tail _ (.tail _ hq)) off9 True.intro ⟨rfl, ?_⟩
      rw [hys]
      omega
  case done =>
    intro ys hys
    have hcl := cpl_le qa qb
    unfold LCg.FinE
    intro D8 h8 tk8 F8 N8 o8'
    rw [show LCg.lst ys = listOf ys.toArray ys.length from rfl] at N8
    have hy : ys.toArray.size = cnt 60 (A, 1, 0) (B', 0, 1) := by rw [List.size_toArray, hys]; omega
    clear o8'
    (try dsimp only)
    k_steps
    · exfalso; omega
    unfold Hold
    with_unfolding_all refine' law_top (VP := Pre12) (led := cellX L o8 o7 o6 o5 o4 o3 o2 o1 ps ((R, listOf rv.toArray c1) :: (Ls, listOf lv.toArray c2) :: Z)) ?C12 B F8 X (cb_drop N8 ?sub12) T XB.out TB.out H l1 l2 l3 hd hu ?hp12 hret
    case C12 => exact law_til (k := 12) (P := fun a b => SegQ _ a b Pre12) (seg12 _) (by with_unfolding_all exact rfl) rfl
    case sub12 =>
      dsimp only [cellX]
      intro q hq
      rcases List.mem_cons.mp hq with rfl | hq
      · (repeat (first | with_reducible exact List.Mem.head _ | refine List.Mem.tail _ ?_))
      rcases List.mem_cons.mp hq with rfl | hq
      · (repeat (first | with_reducible exact List.Mem.head _ | refine List.Mem.tail _ ?_))
      rcases List.mem_cons.mp hq with rfl | hq
      · (repeat (first | with_reducible exact List.Mem.head _ | refine List.Mem.tail _ ?_))
      rcases List.mem_cons.mp hq with rfl | hq
      · (repeat (first | with_reducible exact List.Mem.head _ | refine List.Mem.tail _ ?_))
      rcases List.mem_cons.mp hq with rfl | hq
      · (repeat (first | with_reducible exact List.Mem.head _ | refine List.Mem.tail _ ?_))
      rcases List.mem_cons.mp hq with rfl | hq
      · (repeat (first | with_reducible exact List.Mem.head _ | refine List.Mem.tail _ ?_))
      rcases List.mem_cons.mp hq with rfl | hq
      · (repeat (first | with_reducible exact List.Mem.head _ | refine List.Mem.tail _ ?_))
      rcases List.mem_cons.mp hq with rfl | hq
      · (repeat (first | with_reducible exact List.Mem.head _ | refine List.Mem.tail _ ?_))
      rcases List.mem_cons.mp hq with rfl | hq
      · (repeat (first | with_reducible exact List.Mem.head _ | refine List.Mem.tail _ ?_))
      rcases List.mem_cons.mp hq with rfl | hq
      · (repeat (first | with_reducible exact List.Mem.head _ | refine List.Mem.tail _ ?_))
      rcases List.mem_cons.mp hq with rfl | hq
      · (repeat (first | with_reducible exact List.Mem.head _ | refine List.Mem.tail _ ?_))
      repeat (first | exact hq | refine List.Mem.tail _ ?_)
    case hp12 => exact ⟨_, _, _, _, _, _, _, _, _, _, _, _, _, _, _, _, _, _, _, _, _, _, _, _, _, _, _, rfl, rfl, rfl, hM⟩
end
end
theorem fresh_seg10 : True := by first | (walk1; done) | exact True.intro
section
open PySem PySem.W PyProof.Rows PySem.Spec PySem.Calls
section

local macro_rules | `(tactic| walk_at "execs cons") => `(tactic| ((with_reducible show wpAny _ _ (execs (Stmt.If _ _ _ _ :: _) _) _ _ _); refine Hold.of ?_))
set_option maxRecDepth 100000 in
set_option maxHeartbeats 8000000 in
set_option pp.deepTerms false in
set_option pp.deepTerms.threshold 6 in
theorem seg10 (w : World) : SegQ w (lawScope w) ((lawBody w).drop 10) Pre9 := by
  refine' law_lit (P := fun a b => SegQ w a b Pre9) ?h ?hd ?p
  case h => with_unfolding_all exact rfl
  case hd => exact rfl
  dsimp only [SegQ]
  k_fill
  intro p loose mean mg mb dp un gd cn aa A₀ base h₀ L m s Q R1 led B F X N T XB TB H l1 l2 l3 hd hu hP hret
  refine gp fun G9 k9 => ?_
  obtain ⟨o8, o7, o6, o5, o4, o3, o2, o1, ps, R, Ls, c1, c2, rv, lv, Z, A, B', U, V, e, f, t1, t2, t3, t4, t5, rfl, d8, d7, hLs, hTo, hM⟩ := hP
  refine k9 ?_; clear k9 G9
  dsimp only [cellX] at N
  replace XB := InB.mk XB; replace TB := InB.mk TB
  replace F := fr_known (fr_known F hLs) (v := .int (cnt 60 (A, 1, 0) (B', 0, 1) : Nat) t5) (x := "told") (by simp only [hTo]; rfl)
  have d6 := hM.d6; have d4 := hM.d4; have d3 := hM.d3; have d2 := hM.d2; have d1 := hM.d1
  have hr := hM.hr
  have a81 := off8 hM.offR; have a82 := off8 hM.offL; have a71 := off7 hM.offR; have a72 := off7 hM.offL
  have hA0 : 0 ≤ A := by have := hM.n.a0; omega
  have hA1 : A ≤ 255 := hM.n.a1
  have hB0 : 0 ≤ B' := by have := hM.n.b0; omega
  have hB1 : B' ≤ 255 := by have := hM.n.b1; omega
  have hql := eqs_len 60 (A, 1, 0) (B', 0, 1)
  k_steps
  unfold Hold
  (rename Fr h₀ _ _ _ => F8); (rename News h₀ _ _ _ => N8)
  with_unfolding_all refine' Cl0.use (law_linesZ _ (16 * A + 15) (16 * B') _ _ _ _ hM.rest ?r1 ?r2) B F8 X N8 T XB.out TB.out ?rk ?rd ?ru ?rret
  case r1 => exact ⟨.inl ⟨by omega, by omega⟩, by omega, by omega, by omega, by omega⟩
  case r2 => exact ends59 (by omega) (by omega)
  case rk => exact rfl
  case rd => omega
  case ru => omega
  case rret =>
  intro v12 led12 h12 tk12 F12 N12 hR12
  refine gp fun G9 k9 => ?_
  obtain ⟨PA, RA, LA, cPA, ca, cla, ra, la, ZA, rfl, rfl, hra, hla, hRA, hkA, hnA1, hnA2, hnA3⟩ := hR12
  refine k9 ?_; clear k9 G9
  (try dsimp only)
  clear F8 N8
  dsimp only [cellX, List.cons_append, List.nil_append] at N12
  have b81 : NeN (L + 8) PA := hnA1 _ (.head _)
  have b82 : NeN (L + 8) RA := hnA2 _ (.head _)
  have b83 : NeN (L + 8) LA := hnA3 _ (.head _)
  have b71 : NeN (L + 7) PA := hnA1 _ (.tail _ (.head _))
  have b72 : NeN (L + 7) RA := hnA2 _ (.tail _ (.head _))
  have b73 : NeN (L + 7) LA := hnA3 _ (.tail _ (.head _))
  k_steps
  unfold Hold
  (rename Fr h₀ _ _ _ => F8); (rename News h₀ _ _ _ => N8)
  with_unfolding_all refine' Cl0.use (law_linesZ _ (16 * A) (16 * B' + 15) _ _ _ _ hRA ?s1 ?s2) B F8 X N8 T XB.out TB.out ?sk ?sd ?su ?sret
  case s1 => exact ⟨.inl ⟨by omega, by omega⟩, by omega, by omega, by omega, by omega⟩
  case s2 => exact ends59 (by omega) (by omega)
  case sk => exact rfl
  case sd => omega
  case su => omega
  case sret =>
  intro v13 led13 h13 tk13 F13 N13 hR13
  refine gp fun G9 k9 => ?_
  obtain ⟨PB, RB, LB, cPB, cb, clb, rb, lb, ZB, rfl, rfl, hrb, hlb, hRB, hkB, hnB1, hnB2, hnB3⟩ := hR13
  refine k9 ?_; clear k9 G9
  (try dsimp only)
  clear F8 N8
  dsimp only [cellX, List.cons_append, List.nil_append] at N13
  have e81 : NeN (L + 8) PB := hnB1 _ (.tail _ (.tail _ (.tail _ (.head _))))
  have e82 : NeN (L + 8) RB := hnB2 _ (.tail _ (.tail _ (.tail _ (.head _))))
  have e83 : NeN (L + 8) LB := hnB3 _ (.tail _ (.tail _ (.tail _ (.head _))))
  have e71 : NeN (L + 7) PB := hnB1 _ (.tail _ (.tail _ (.tail _ (.tail _ (.head _)))))
  have e72 : NeN (L + 7) RB := hnB2 _ (.tail _ (.tail _ (.tail _ (.tail _ (.head _)))))
  have e73 : NeN (L + 7) LB := hnB3 _ (.tail _ (.tail _ (.tail _ (.tail _ (.head _)))))
  have z8 := hRB.off (a := L + 8) (o := o8) (by (repeat (first | exact List.Mem.head _ | refine List.Mem.tail _ ?_)))
  have z7 := hRB.off (a := L + 7) (o := o7) (by (repeat (first | exact List.Mem.head _ | refine List.Mem.tail _ ?_)))
  k_steps
  unfold Hold
  (rename Fr h₀ _ _ _ => F8); (rename News h₀ _ _ _ => N8)
  rename_i o7' d7' x7' o8' d8'
  with_unfolding_all refine' law_top (VP := Pre11) (led := cellX L o8' o7' o6 o5 o4 o3 o2 o1 ps ((R, listOf rv.toArray c1) :: (Ls, listOf lv.toArray c2) :: (RA, listOf ra.toArray ca) :: (RB, listOf rb.toArray cb) :: ZB)) ?C11 B F8 X (cb_drop N8 ?sub11) T XB.out TB.out H l1 l2 l3 hd hu ?hp11 hret
  case C11 => exact law_til (k := 11) (P := fun a b => SegQ _ a b Pre11) (seg11 _) (by with_unfolding_all exact rfl) rfl
  case sub11 =>
    dsimp only [cellX]
    intro q hq
    rcases List.mem_cons.mp hq with rfl | hq
    · (repeat (first | with_reducible exact List.Mem.head _ | refine List.Mem.tail _ ?_))
    rcases List.mem_cons.mp hq with rfl | hq
    · (repeat (first | with_reducible exact List.Mem.head _ | refine List.Mem.tail _ ?_))
    rcases List.mem_cons.mp hq with rfl | hq
    · (repeat (first | with_reducible exact List.Mem.head _ | refine List.Mem.tail _ ?_))
    rcases List.mem_cons.mp hq with rfl | hq
    · (repeat (first | with_reducible exact List.Mem.head _ | refine List.Mem.tail _ ?_))
    rcases List.mem_cons.mp hq with rfl | hq
    · (repeat (first | with_reducible exact List.Mem.head _ | refine List.Mem.tail _ ?_))
    rcases List.mem_cons.mp hq with rfl | hq
    · (repeat (first | with_reducible exact List.Mem.head _ | refine List.Mem.tail _ ?_))
    rcases List.mem_cons.mp hq with rfl | hq
    · (repeat (first | with_reducible exact List.Mem.head _ | refine List.Mem.tail _ ?_))
    rcases List.mem_cons.mp hq with rfl | hq
    · (repeat (first | with_reducible exact List.Mem.head _ | refine List.Mem.tail _ ?_))
    rcases List.mem_cons.mp hq with rfl | hq
    · (repeat (first | with_reducible exact List.Mem.head _ | refine List.Mem.tail _ ?_))
    rcases List.mem_cons.mp hq with rfl | hq
    · (repeat (first | with_reducible exact List.Mem.head _ | refine List.Mem.tail _ ?_))
    rcases List.mem_cons.mp hq with rfl | hq
    · (repeat (first | with_reducible exact List.Mem.head _ | refine List.Mem.tail _ ?_))
    rcases List.mem_cons.mp hq with rfl | hq
    · (repeat (first | with_reducible exact List.Mem.head _ | refine List.Mem.tail _ ?_))
    rcases List.mem_cons.mp hq with rfl | hq
    · (repeat (first | with_reducible exact List.Mem.head _ | refine List.Mem.tail _ ?_))
    repeat (first | exact hq | refine List.Mem.tail _ ?_)
  case hp11 =>
    refine ⟨_, _, _, _, _, _, _, _, _, _, _, _, _, _, _, _, _, _, _, _, _, _, _, _, _, _, _, RA, RB, ca, cb, ra, rb, rfl, d8', d7', rfl, rfl, ⟨d6, d4, d3, d2, d1, hM.n, hr, hkB _ _ (hkA _ _ hM.hl), ?_, hM.offR, hM.offL⟩, hra, hrb⟩
    · refine hRB.addr ?_
      dsimp only [cellX]
      simp only [List.forall_mem_cons, List.not_mem_nil, false_implies, implies_true, and_true]; (repeat' (refine And.intro ?_ ?_)); all_goals ((try dsimp only); first | exact ⟨_, (.head _)⟩ | exact ⟨_, (.tail _ (.head _))⟩ | exact ⟨_, (.tail _ (.tail _ (.head _)))⟩ | exact ⟨_, (.tail _ (.tail _ (.tail _ (.head _))))⟩ | exact ⟨_, (.tail _ (.tail _ (.tail _ (.tail _ (.head _)))))⟩ | exact ⟨_, (.tail _ (.tail _ (.tail _ (.tail _ (.tail _ (.head _))))))⟩ | exact ⟨_, (.tail _ (.tail _ (.tail _ (.tail _ (.tail _ (.tail _ (.head _)))))))⟩ | exact ⟨_, (.tail _ (.tail _ (.tail _ (.tail _ (.tail _ (.tail _ (.tail _ (.head _))))))))⟩ | exact ⟨_, (.tail _ (.tail _ (.tail _ (.tail _ (.tail _ (.tail _ (.tail _ (.tail _ (.head _)))))))))⟩ | exact ⟨_, (.tail _ (.tail _ (.tail _ (.tail _ (.tail _ (.tail _ (.tail _ (.tail _ (.tail _ (.head _))))))))))⟩ | exact ⟨_, (.tail _ (.tail _ (.tail _ (.tail _ (.tail _ (.tail _ (.tail _ (.tail _ (.tail _ (.tail _ (.head _)))))))))))⟩ | exact ⟨_, (.tail _ (.tail _ (.tail _ (.tail _ (.tail _ (.tail _ (.tail _ (.tail _ (.tail _ (.tail _ (.tail _ (.head _))))))))))))⟩ | exact ⟨_, (.tail _ (.tail _ (.tail _ (.tail _ (.tail _ (.tail _ (.tail _ (.tail _ (.tail _ (.tail _ (.tail _ (.tail _ (.head _)))))))))))))⟩ | exact ⟨_, (.tail _ (.tail _ (.tail _ (.tail _ (.tail _ (.tail _ (.tail _ (.tail _ (.tail _ (.tail _ (.tail _ (.tail _ (.tail _ (.head _))))))))))))))⟩ | exact ⟨_, (.tail _ (.tail _ (.tail _ (.tail _ (.tail _ (.tail _ (.tail _ (.tail _ (.tail _ (.tail _ (.tail _ (.tail _ (.tail _ (.tail _ (.head _)))))))))))))))⟩ | exact ⟨_, (.tail _ (.tail _ (.tail _ (.tail _ (.tail _ (.tail _ (.tail _ (.tail _ (.tail _ (.tail _ (.tail _ (.tail _ (.tail _ (.tail _ (.tail _ (.head _))))))))))))))))⟩ | exact ⟨_, (.tail _ (.tail _ (.tail _ (.tail _ (.tail _ (.tail _ (.tail _ (.tail _ (.tail _ (.tail _ (.tail _ (.tail _ (.tail _ (.tail _ (.tail _ (.tail _ (.head _)))))))))))))))))⟩ | exact ⟨_, (.tail _ (.tail _ (.tail _ (.tail _ (.tail _ (.tail _ (.tail _ (.tail _ (.tail _ (.tail _ (.tail _ (.tail _ (.tail _ (.tail _ (.tail _ (.tail _ (.tail _ (.head _))))))))))))))))))⟩ | exact ⟨_, (.tail _ (.tail _ (.tail _ (.tail _ (.tail _ (.tail _ (.tail _ (.tail _ (.tail _ (.tail _ (.tail _ (.tail _ (.tail _ (.tail _ (.tail _ (.tail _ (.tail _ (.tail _ (.head _)))))))))))))))))))⟩ | exact ⟨_, (.tail _ (.tail _ (.tail _ (.tail _ (.tail _ (.tail _ (.tail _ (.tail _ (.tail _ (.tail _ (.tail _ (.tail _ (.tail _ (.tail _ (.tail _ (.tail _ (.tail _ (.tail _ (.tail _ (.head _))))))))))))))))))))⟩ | exact ⟨_, (.tail _ (.tail _ (.tail _ (.tail _ (.tail _ (.tail _ (.tail _ (.tail _ (.tail _ (.tail _ (.tail _ (.tail _ (.tail _ (.tail _ (.tail _ (.tail _ (.tail _ (.tail _ (.tail _ (.tail _ (.head _)))))))))))))))))))))⟩ | exact ⟨_, (.tail _ (.tail _ (.tail _ (.tail _ (.tail _ (.tail _ (.tail _ (.tail _ (.tail _ (.tail _ (.tail _ (.tail _ (.tail _ (.tail _ (.tail _ (.tail _ (.tail _ (.tail _ (.tail _ (.tail _ (.tail _ (.head _))))))))))))))))))))))⟩)
end
end
theorem fresh_seg9 : True := by first | (walk1; done) | exact True.intro
section
open PySem PySem.W PyProof.Rows PySem.Spec PySem.Calls
section

local macro_rules | `(tactic| walk_at "execs cons") => `(tactic| ((with_reducible show wpAny _ _ (execs (Stmt.Assign _ _ _ :: _) _) _ _ _); refine Hold.of ?_))
set_option maxRecDepth 100000 in
set_option maxHeartbeats 8000000 in
set_option pp.deepTerms false in
set_option pp.deepTerms.threshold 6 in
theorem seg9 (w : World) : SegQ w (lawScope w) ((lawBody w).drop 9) Pre9 := by
  refine' law_lit (P := fun a b => SegQ w a b Pre9) ?h ?hd ?p
  case h => with_unfolding_all exact rfl
  case hd => exact rfl
  dsimp only [SegQ]
  k_fill
  intro p loose mean mg mb dp un gd cn aa A₀ base h₀ L m s Q R1 led B F X N T XB TB H l1 l2 l3 hd hu hP hret
  refine gp fun G9 k9 => ?_
  obtain ⟨o8, o7, o6, o5, o4, o3, o2, o1, ps, R, Ls, c1, c2, rv, lv, Z, A, B', U, V, e, f, t1, t2, t3, t4, t5, rfl, d8, d7, hLs, hTo, hM⟩ := hP
  refine k9 ?_; clear k9 G9
  dsimp only [cellX] at N
  replace XB := InB.mk XB; replace TB := InB.mk TB
  replace F := fr_known (fr_known F hLs) (v := .int (cnt 60 (A, 1, 0) (B', 0, 1) : Nat) t5) (x := "told") (by simp only [hTo]; rfl)
  have d6 := hM.d6; have d4 := hM.d4; have d3 := hM.d3; have d2 := hM.d2; have d1 := hM.d1
  have hr := hM.hr
  have hA0 : 0 ≤ A := by have := hM.n.a0; omega
  have hA1 : A ≤ 255 := hM.n.a1
  have hB0 : 0 ≤ B' := by have := hM.n.b0; omega
  have hB1 : B' ≤ 255 := by have := hM.n.b1; omega
  have hql := eqs_len 60 (A, 1, 0) (B', 0, 1)
  k_steps
  unfold Hold
  (rename Fr h₀ _ _ _ => F8); (rename News h₀ _ _ _ => N8)
  k_dflt (refine' ListComp_NN (as := [0, 15]) (bs := [0, 15]) (G := fun e f => (agr (eqs 60 (A, 1, 0) (B', 0, 1)) (16 * A + e) (16 * B' + f) : Int)) ?y1 F8 N8 ?y2 ?y3 ?y4 ?y5 ?y6 ?y7 ?y8 ?y9 ?y10 ?y11 ?y12 ?y13 ?y14 ?y15)
  case y1 => with_unfolding_all exact rfl
  case y2 => with_unfolding_all exact rfl
  case y3 => decide
  case y4 => exact rfl
  case y5 => decide
  case y6 => exact rfl
  case y7 => exact rfl
  case y8 => decide
  case y12 => decide
  case y13 => intro z; exact rfl
  case y14 => intro C z; exact rfl
  case y9 =>
    intro nw9 h9 tk9 Q9 E9 F9 N9 k9
    k_steps
    (rename Fr h₀ _ _ _ => F8); (rename News h₀ _ _ _ => N8); rename_i lz9
    exact k9 _ #[.int 0 _, .int 15 _] _ _ _ F8 N8 (allLt_mem lz9 |> fun q p hp => Nat.ne_of_lt (q p hp)) (.cons _ _ (.cons _ _ .nil))
  case y10 =>
    intro C9 nw9 h9 tk9 Q9 E9 F9 N9 k9
    k_steps
    (rename Fr h₀ _ _ _ => F8); (rename News h₀ _ _ _ => N8); rename_i lz9
    exact k9 _ #[.int 0 _, .int 15 _] _ _ _ F8 N8 (allLt_mem lz9 |> fun q p hp => Nat.ne_of_lt (q p hp)) (.cons _ _ (.cons _ _ .nil))
  case y11 =>
    intro C9 oC9 mC9 a9 b9 ta9 tb9 nw9 h9 tk9 Q9 E9 hC9 hx9 hy9 ha9 hb9 F9 N9 hCn hsub k9
    have m6 : (L + 6, o6) ∈ nw9 := hsub _ (by (repeat (first | exact List.Mem.head _ | refine List.Mem.tail _ ?_)))
    have m2 : (L + 2, o2) ∈ nw9 := hsub _ (by (repeat (first | exact List.Mem.head _ | refine List.Mem.tail _ ?_)))
    have m1 : (L + 1, o1) ∈ nw9 := hsub _ (by (repeat (first | exact List.Mem.head _ | refine List.Mem.tail _ ?_)))
    have mR : (R, listOf rv.toArray c1) ∈ nw9 := hsub _ (by (repeat (first | exact List.Mem.head _ | refine List.Mem.tail _ ?_)))
    have ha1 : 0 ≤ a9 ∧ a9 ≤ 15 := by
      simp only [List.mem_cons, List.not_mem_nil, or_false] at ha9
      omega
    have hb1 : 0 ≤ b9 ∧ b9 ≤ 15 := by
      simp only [List.mem_cons, List.not_mem_nil, or_false] at hb9
      omega
    clear N8 F8 hsub
    k_steps
    unfold Hold
    (rename Fr h₀ _ _ _ => F8); (rename News h₀ _ _ _ => N8)
    with_unfolding_all refine' Cl.use (law_agree_c _ R rv (eqs 60 (A, 1, 0) (B', 0, 1)) c1 (16 * A + a9) (16 * B' + b9) _ _ nw9 mR hr ?g1 ?g2 ?g3 ?g4 ?g5) B F8 X N8 T ?gk ?gd ?gu ?gret
    case g1 => omega
    case g2 => omega
    case g3 => omega
    case g4 => omega
    case g5 => omega
    case gk => exact rfl
    case gd => omega
    case gu => omega
    case gret =>
      rintro v led' h tk F N ⟨t, rfl, rfl⟩
      exact k9 t _ _ F N
  case y15 =>
    intro D9 ys9 h9 tk9 F9 N9 off9 hys9
    clear F8 N8
    replace hys9 : IntsAre ys9 [(agr (eqs 60 (A, 1, 0) (B', 0, 1)) (16 * A + 0) (16 * B' + 0) : Int), (agr (eqs 60 (A, 1, 0) (B', 0, 1)) (16 * A + 0) (16 * B' + 15) : Int), (agr (eqs 60 (A, 1, 0) (B', 0, 1)) (16 * A + 15) (16 * B' + 0) : Int), (agr (eqs 60 (A, 1, 0) (B', 0, 1)) (16 * A + 15) (16 * B' + 15) : Int)] := hys9
    have e1 := law_ge hA0 hB0 (e := 0) (f := 0) (by decide) (by decide) (by decide) (by decide)
    have e2 := law_ge hA0 hB0 (e := 0) (f := 15) (by decide) (by decide) (by decide) (by decide)
    have e3 := law_ge hA0 hB0 (e := 15) (f := 0) (by decide) (by decide) (by decide) (by decide)
    have e4 := law_ge hA0 hB0 (e := 15) (f := 15) (by decide) (by decide) (by decide) (by decide)
    have e5 := law_le hA0 hB0
    generalize agr (eqs 60 (A, 1, 0) (B', 0, 1)) (16 * A + 0) (16 * B' + 0) = g00 at *
    generalize agr (eqs 60 (A, 1, 0) (B', 0, 1)) (16 * A + 0) (16 * B' + 15) = g0f at *
    generalize agr (eqs 60 (A, 1, 0) (B', 0, 1)) (16 * A + 15) (16 * B' + 0) = gf0 at *
    generalize agr (eqs 60 (A, 1, 0) (B', 0, 1)) (16 * A + 15) (16 * B' + 15) = gff at *
    refine gp fun G9 k9 => ?_
    cases hys9 with | cons _ ty0 hys9 => ?_
    cases hys9 with | cons _ ty1 hys9 => ?_
    cases hys9 with | cons _ ty2 hys9 => ?_
    cases hys9 with | cons _ ty3 hys9 => ?_
    cases hys9
    refine k9 ?_; clear k9 G9
    dsimp only [LCg.lst] at N9
    k_steps
    · exfalso; omega
    unfold Hold
    (rename Fr h₀ _ _ _ => F8); (rename News h₀ _ _ _ => N8)
    with_unfolding_all refine' law_top (VP := Pre9) (led := cellX L o8 o7 o6 o5 o4 o3 o2 o1 ps ((R, listOf rv.toArray c1) :: (Ls, listOf lv.toArray c2) :: Z)) ?C10 B F8 X (cb_drop N8 ?sub10) T XB.out TB.out H l1 l2 l3 hd hu ?hp10 hret
    case C10 => exact law_til (k := 10) (P := fun a b => SegQ _ a b Pre9) (seg10 _) (by with_unfolding_all exact rfl) rfl
    case sub10 =>
      dsimp only [cellX]
      (intro q hq; simp only [List.mem_cons] at hq ⊢; repeat' (refine Or.elim hq (fun hq => ?_) (fun hq => ?_))); all_goals (repeat (first | with_reducible exact hq | with_reducible exact Or.inl hq | refine Or.inr ?_))
    case hp10 => exact ⟨_, _, _, _, _, _, _, _, _, _, _, _, _, _, _, _, _, _, _, _, _, _, _, _, _, _, _, rfl, d8, d7, rfl, rfl, hM⟩
end
end
theorem fresh_seg7 : True := by first | (walk1; done) | exact True.intro
section
open PySem PySem.W PyProof.Rows PySem.Spec PySem.Calls
section

local macro_rules | `(tactic| walk_at "execs cons") => `(tactic| ((with_reducible show wpAny _ _ (execs (Stmt.If (Expr.Compare (Expr.Name (Str.ofString "told") _) _ _ _) _ _ _ :: _) _) _ _ _); refine Hold.of ?_))
set_option maxRecDepth 100000 in
set_option maxHeartbeats 8000000 in
set_option pp.deepTerms false in
set_option pp.deepTerms.threshold 6 in
theorem seg7 (w : World) : SegQ w (lawScope w) ((lawBody w).drop 7) Pre7 := by
  refine' law_lit (P := fun a b => SegQ w a b Pre7) ?h ?hd ?p
  case h => with_unfolding_all exact rfl
  case hd => exact rfl
  dsimp only [SegQ]
  k_fill
  intro p loose mean mg mb dp un gd cn aa A₀ base h₀ L m s Q R1 led B F X N T XB TB H l1 l2 l3 hd hu hP hret
  refine gp fun G9 k9 => ?_
  obtain ⟨o8, o7, o6, o5, o4, o3, o2, o1, R, Ls, c1, c2, rv, lv, Z, A, B', U, V, e, f, t1, t2, t3, t4, v5, rfl, d8, d7, d5, hLs, hM⟩ := hP
  refine k9 ?_; clear k9 G9
  dsimp only [cellX] at N
  replace XB := InB.mk XB; replace TB := InB.mk TB
  replace F := fr_known F hLs
  have d6 := hM.d6; have d4 := hM.d4; have d3 := hM.d3; have d2 := hM.d2; have d1 := hM.d1
  have hr := hM.hr
  have hb : eqs 60 (A, 1, 0) (B', 0, 1) ≠ [] := by
    rw [eqs_succ (n := 59) (by have := hM.n.b0; show B' ≠ 0; omega)]
    exact List.cons_ne_nil _ _
  k_steps
  unfold Hold
  (rename Fr h₀ _ _ _ => F8); (rename News h₀ _ _ _ => N8)
  have hl := hM.hl
  have hq := eqs_len 60 (A, 1, 0) (B', 0, 1)
  have hq2 := els_len 60 (A, 1, 0) (B', 0, 1)
  with_unfolding_all refine' Cl.use (law_least_c _ Ls lv c2 (els 60 (A, 1, 0) (B', 0, 1)) _ ?p1 ?p2 ?p3 ?p4) B F8 X N8 T ?pk ?pd ?pu ?pret
  case p1 => (repeat (first | exact List.Mem.head _ | refine List.Mem.tail _ ?_))
  case p2 => exact hl.mono fun q hq => by repeat (first | exact hq | refine List.Mem.tail _ ?_)
  case p3 => omega
  case p4 => omega
  case pk => exact rfl
  case pd => omega
  case pu => omega
  case pret =>
  intro v10 led10 h10 tk10 F10 N10 hR10
  refine gp fun G9 k9 => ?_
  obtain ⟨FF, fv, c10, rfl, rfl, hfv, hFF⟩ := hR10
  refine k9 ?_; clear k9 G9
  (try dsimp only)
  clear F8 N8
  have n9 : NeN 107 FF := ⟨hFF (107, tabObj #[]) (by (repeat (first | exact List.Mem.head _ | refine List.Mem.tail _ ?_)))⟩
  have a01 := off0 hM.offR; have a02 := off0 hM.offL
  have z107 := hM.rest.off (a := 107) (o := tabObj #[]) (by (repeat (first | exact List.Mem.head _ | refine List.Mem.tail _ ?_)))
  k_steps
  refine wpAny_call ?_
  rename_i f9 c9 oc9 vs9 t9 ct9 h9 tk9 F9 N9 e1 e2 q1 q2 q3 q4 q5 q6 q7 q8 q9 q10 q11 q12 q13 q14 q15
  with_unfolding_all refine' (bisect_c _ f9 FF fv (leastA (els 60 (A, 1, 0) (B', 0, 1)).tail none) c10 _ _ _ _ _ _ ?hff ?hA1 hfv ?hlen ?hmono ?hkey) _ _ _ _ _ _ _ _ _ _ _ _ _ _ _ _ _ _ _ _ _ B F9 X N9 T ?bk ?bd ?bu ?bret
  case hff => with_unfolding_all exact List.Mem.head _
  case hA1 => (repeat (first | exact List.Mem.head _ | refine List.Mem.tail _ ?_))
  case hlen => rw [least_len, List.length_tail]; omega
  case hmono => exact fun i j x y => least_mono _ _ i j x y
  case hkey =>
    clear F9 hret hM hl hfv hLs d8 d7 d5 d6 d4 d3 d2 d1 XB TB
    intro n t
    unfold Cl
    intro p9 loose9 mean9 mg9 mb9 dp9 un9 gd9 cn9 cs9 aa9 ccd9 cl9 outer9 A9 base9 h9' L9 m9 s9 Q9 E9 B9 F9 X9 N9' T9 hk9 hd9 hu9 hret9
    refine wpAny_call ?_
    refine' kla_code B9 F9 X9 N9' T9 rfl rfl hk9 ?k6 ?k7 ?k8 ?k9 ?kB ?_ ?c2 ?c3 ?c4 ?c5
    case k6 => with_unfolding_all exact List.Mem.head _
    case k7 => exact codeRec_news N9' (List.Mem.tail _ (List.Mem.head _)) e1 e2
    case k8 => ktr_room
    case k9 => exact rfl
    case c5 => decide
    case kB => exact locs rfl
    case c2 => exact rfl
    case c3 => exact rfl
    case c4 => exact rfl
    intro g' L' h' FG' F' N' B' X' T'
    (try dsimp only)
    k_steps
    exact hret9 _ _ _ _ (by k_asm) (by k_asm) ⟨_, rfl, rfl⟩
  case bk => exact rfl
  case bd => omega
  case bu => omega
  case bret =>
  intro v12 led12 h12 tk12 F12 N12 hR12
  refine gp fun G9 k9 => ?_
  obtain ⟨kk, t5, rfl, rfl, hk1, hk2, hk3⟩ := hR12
  refine k9 ?_; clear k9 G9
  have hcnt := told_cnt 60 (A, 1, 0) (B', 0, 1) none kk (fun _ h => nomatch h) hk1 hk2 hk3
  refine gp fun G9 k9 => ?_
  subst hcnt
  refine k9 ?_; clear k9 G9
  clear F9 N9
  (try dsimp only)
  k_steps
  unfold Hold
  (rename Fr h₀ _ _ _ => F8); (rename News h₀ _ _ _ => N8)
  with_unfolding_all refine' law_top (VP := Pre9) (led := cellX L o8 o7 o6 o5 o4 o3 o2 o1 (#[] ++ #[rawInt ((156 : Nat) : Int), rawInt ((50 : Nat) : Int), .ref c9]) ((R, listOf rv.toArray c1) :: (Ls, listOf lv.toArray c2) :: Z)) ?C9 B F8 X (cb_drop N8 ?sub9) T XB.out TB.out H l1 l2 l3 hd hu ?hp9 hret
  case C9 => exact law_til (k := 9) (P := fun a b => SegQ _ a b Pre9) (seg9 _) (by with_unfolding_all exact rfl) rfl
  case sub9 =>
    dsimp only [cellX]
    intro q hq
    rcases List.mem_cons.mp hq with rfl | hq
    · (repeat (first | with_reducible exact List.Mem.head _ | refine List.Mem.tail _ ?_))
    rcases List.mem_cons.mp hq with rfl | hq
    · (repeat (first | with_reducible exact List.Mem.head _ | refine List.Mem.tail _ ?_))
    rcases List.mem_cons.mp hq with rfl | hq
    · (repeat (first | with_reducible exact List.Mem.head _ | refine List.Mem.tail _ ?_))
    rcases List.mem_cons.mp hq with rfl | hq
    · (repeat (first | with_reducible exact List.Mem.head _ | refine List.Mem.tail _ ?_))
    rcases List.mem_cons.mp hq with rfl | hq
    · (repeat (first | with_reducible exact List.Mem.head _ | refine List.Mem.tail _ ?_))
    rcases List.mem_cons.mp hq with rfl | hq
    · (repeat (first | with_reducible exact List.Mem.head _ | refine List.Mem.tail _ ?_))
    rcases List.mem_cons.mp hq with rfl | hq
    · (repeat (first | with_reducible exact List.Mem.head _ | refine List.Mem.tail _ ?_))
    rcases List.mem_cons.mp hq with rfl | hq
    · (repeat (first | with_reducible exact List.Mem.head _ | refine List.Mem.tail _ ?_))
    rcases List.mem_cons.mp hq with rfl | hq
    · (repeat (first | with_reducible exact List.Mem.head _ | refine List.Mem.tail _ ?_))
    rcases List.mem_cons.mp hq with rfl | hq
    · (repeat (first | with_reducible exact List.Mem.head _ | refine List.Mem.tail _ ?_))
    rcases List.mem_cons.mp hq with rfl | hq
    · (repeat (first | with_reducible exact List.Mem.head _ | refine List.Mem.tail _ ?_))
    repeat (first | exact hq | refine List.Mem.tail _ ?_)
  case hp9 =>
    refine ⟨_, _, _, _, _, _, _, _, _, _, _, _, _, _, _, _, _, _, _, _, _, _, _, _, _, _, _, rfl, d8, d7, rfl, rfl, ⟨d6, d4, d3, d2, d1, hM.n, hr, hl, ?_, hM.offR, hM.offL⟩⟩
    · refine hM.rest.addr ?_
      dsimp only [cellX]
      simp only [List.forall_mem_cons, List.not_mem_nil, false_implies, implies_true, and_true]; (repeat' (refine And.intro ?_ ?_)); all_goals ((try dsimp only); first | exact ⟨_, (.head _)⟩ | exact ⟨_, (.tail _ (.head _))⟩ | exact ⟨_, (.tail _ (.tail _ (.head _)))⟩ | exact ⟨_, (.tail _ (.tail _ (.tail _ (.head _))))⟩ | exact ⟨_, (.tail _ (.tail _ (.tail _ (.tail _ (.head _)))))⟩ | exact ⟨_, (.tail _ (.tail _ (.tail _ (.tail _ (.tail _ (.head _))))))⟩ | exact ⟨_, (.tail _ (.tail _ (.tail _ (.tail _ (.tail _ (.tail _ (.head _)))))))⟩ | exact ⟨_, (.tail _ (.tail _ (.tail _ (.tail _ (.tail _ (.tail _ (.tail _ (.head _))))))))⟩ | exact ⟨_, (.tail _ (.tail _ (.tail _ (.tail _ (.tail _ (.tail _ (.tail _ (.tail _ (.head _)))))))))⟩ | exact ⟨_, (.tail _ (.tail _ (.tail _ (.tail _ (.tail _ (.tail _ (.tail _ (.tail _ (.tail _ (.head _))))))))))⟩ | exact ⟨_, (.tail _ (.tail _ (.tail _ (.tail _ (.tail _ (.tail _ (.tail _ (.tail _ (.tail _ (.tail _ (.head _)))))))))))⟩ | exact ⟨_, (.tail _ (.tail _ (.tail _ (.tail _ (.tail _ (.tail _ (.tail _ (.tail _ (.tail _ (.tail _ (.tail _ (.head _))))))))))))⟩ | exact ⟨_, (.tail _ (.tail _ (.tail _ (.tail _ (.tail _ (.tail _ (.tail _ (.tail _ (.tail _ (.tail _ (.tail _ (.tail _ (.head _)))))))))))))⟩ | exact ⟨_, (.tail _ (.tail _ (.tail _ (.tail _ (.tail _ (.tail _ (.tail _ (.tail _ (.tail _ (.tail _ (.tail _ (.tail _ (.tail _ (.head _))))))))))))))⟩ | exact ⟨_, (.tail _ (.tail _ (.tail _ (.tail _ (.tail _ (.tail _ (.tail _ (.tail _ (.tail _ (.tail _ (.tail _ (.tail _ (.tail _ (.tail _ (.head _)))))))))))))))⟩ | exact ⟨_, (.tail _ (.tail _ (.tail _ (.tail _ (.tail _ (.tail _ (.tail _ (.tail _ (.tail _ (.tail _ (.tail _ (.tail _ (.tail _ (.tail _ (.tail _ (.head _))))))))))))))))⟩ | exact ⟨_, (.tail _ (.tail _ (.tail _ (.tail _ (.tail _ (.tail _ (.tail _ (.tail _ (.tail _ (.tail _ (.tail _ (.tail _ (.tail _ (.tail _ (.tail _ (.tail _ (.head _)))))))))))))))))⟩ | exact ⟨_, (.tail _ (.tail _ (.tail _ (.tail _ (.tail _ (.tail _ (.tail _ (.tail _ (.tail _ (.tail _ (.tail _ (.tail _ (.tail _ (.tail _ (.tail _ (.tail _ (.tail _ (.head _))))))))))))))))))⟩ | exact ⟨_, (.tail _ (.tail _ (.tail _ (.tail _ (.tail _ (.tail _ (.tail _ (.tail _ (.tail _ (.tail _ (.tail _ (.tail _ (.tail _ (.tail _ (.tail _ (.tail _ (.tail _ (.tail _ (.head _)))))))))))))))))))⟩ | exact ⟨_, (.tail _ (.tail _ (.tail _ (.tail _ (.tail _ (.tail _ (.tail _ (.tail _ (.tail _ (.tail _ (.tail _ (.tail _ (.tail _ (.tail _ (.tail _ (.tail _ (.tail _ (.tail _ (.tail _ (.head _))))))))))))))))))))⟩ | exact ⟨_, (.tail _ (.tail _ (.tail _ (.tail _ (.tail _ (.tail _ (.tail _ (.tail _ (.tail _ (.tail _ (.tail _ (.tail _ (.tail _ (.tail _ (.tail _ (.tail _ (.tail _ (.tail _ (.tail _ (.tail _ (.head _)))))))))))))))))))))⟩ | exact ⟨_, (.tail _ (.tail _ (.tail _ (.tail _ (.tail _ (.tail _ (.tail _ (.tail _ (.tail _ (.tail _ (.tail _ (.tail _ (.tail _ (.tail _ (.tail _ (.tail _ (.tail _ (.tail _ (.tail _ (.tail _ (.tail _ (.head _))))))))))))))))))))))⟩)
end
end
theorem fresh_seg6 : True := by first | (walk1; done) | exact True.intro
section
open PySem PySem.W PyProof.Rows PySem.Spec PySem.Calls
section

local macro_rules | `(tactic| walk_at "execs cons") => `(tactic| ((with_reducible show wpAny _ _ (execs (Stmt.If _ _ _ _ :: _) _) _ _ _); refine Hold.of ?_))
set_option maxRecDepth 100000 in
set_option maxHeartbeats 8000000 in
set_option pp.deepTerms false in
set_option pp.deepTerms.threshold 6 in
theorem seg6 (w : World) : SegQ w (lawScope w) ((lawBody w).drop 6) Pre6 := by
  refine' law_lit (P := fun a b => SegQ w a b Pre6) ?h ?hd ?p
  case h => with_unfolding_all exact rfl
  case hd => exact rfl
  dsimp only [SegQ]
  k_fill
  intro p loose mean mg mb dp un gd cn aa A₀ base h₀ L m s Q R1 led B F X N T XB TB H l1 l2 l3 hd hu hP hret
  refine gp fun G9 k9 => ?_
  obtain ⟨o8, o7, o6, o5, o4, o3, o2, o1, W, cW, bU, bV, tU, tV, A, B', U, V, e, f, t1, t2, t3, t4, v5, rfl, c8, c7, c6, c5, c4, c3, c2, c1, hW, hn, hbU, hbV, hLW⟩ := hP
  refine k9 ?_; clear k9 G9
  dsimp only [cell8] at N
  replace XB := InB.mk XB; replace TB := InB.mk TB
  replace F := fr_known F hW
  have hU1 : 16 ≤ U := by have := hn.a0; have := hn.u; have := hn.e0; omega
  have hU2 : U < 4096 := by have := hn.a1; have := hn.u; have := hn.e1; omega
  have hV1 : 16 ≤ V := by have := hn.b0; have := hn.v; have := hn.f0; omega
  have hV2 : V < 4096 := by have := hn.a1; have := hn.b1; have := hn.v; have := hn.f1; omega
  have hUA : U / 16 = A := by have := hn.u; have := hn.e0; have := hn.e1; omega
  have hVB : V / 16 = B' := by have := hn.v; have := hn.f0; have := hn.f1; omega
  have hR0 : Rest (cellX L o8 o7 o6 o5 o4 o3 o2 o1 #[] []) [(37, tabObj #[]), (44, tabObj #[])] := by
    refine Rest.fresh ?_ ?_
    · repeat' (first | (refine List.forall_mem_cons.mpr ⟨?_, ?_⟩) | exact fun _ h => nomatch h)
      all_goals (show @Ne Nat _ _; dsimp only; omega)
    · repeat' (first | (refine List.forall_mem_cons.mpr ⟨?_, ?_⟩) | exact fun _ h => nomatch h)
      all_goals (show @Ne Nat _ _; dsimp only; omega)
  k_steps
  unfold Hold
  (rename Fr h₀ _ _ _ => F8); (rename News h₀ _ _ _ => N8)
  with_unfolding_all refine' Cl.use (law_head_c _ bU (apw U) hbU ?p1 _ _) B F8 X N8 T ?pk ?pd ?pu ?pret
  case p1 => have := apw_len U; omega
  case pk => exact rfl
  case pd => omega
  case pu => omega
  case pret =>
  intro v10 led10 h10 tk10 F10 N10 hR10
  refine gp fun G9 k9 => ?_
  obtain ⟨tA, rfl, rfl⟩ := hR10
  refine k9 ?_; clear k9 G9
  rw [head_val hU1 hU2 hUA]
  (try dsimp only)
  clear F8 N8
  k_steps
  unfold Hold
  (rename Fr h₀ _ _ _ => F8); (rename News h₀ _ _ _ => N8)
  with_unfolding_all refine' Cl.use (law_head_c _ bV (apw V) hbV ?q1 _ _) B F8 X N8 T ?qk ?qd ?qu ?qret
  case q1 => have := apw_len V; omega
  case qk => exact rfl
  case qd => omega
  case qu => omega
  case qret =>
  intro v11 led11 h11 tk11 F11 N11 hR11
  refine gp fun G9 k9 => ?_
  obtain ⟨tB, rfl, rfl⟩ := hR11
  refine k9 ?_; clear k9 G9
  rw [head_val hV1 hV2 hVB]
  (try dsimp only)
  clear F8 N8
  k_steps
  unfold Hold
  (rename Fr h₀ _ _ _ => F8); (rename News h₀ _ _ _ => N8)
  with_unfolding_all refine' Cl0.use (law_linesZ _ A B' _ _ _ _ hR0 ?r1 ?r2) B F8 X (cb_drop N8 ?rsub) T XB.out TB.out ?rk ?rd ?ru ?rret
  case r1 => exact ⟨.inl ⟨by have := hn.a0; omega, by have := hn.b0; omega⟩, by have := hn.a0; omega, by have := hn.a1; omega, by have := hn.b0; omega, by have := hn.a1; have := hn.b1; omega⟩
  case r2 => exact ends59 (by have := hn.b0; omega) (by have := hn.a1; have := hn.b1; omega)
  case rsub => dsimp only [cellX, List.cons_append, List.nil_append]; repeat' (first | (refine List.forall_mem_cons.mpr ⟨?_, ?_⟩) | exact fun _ h => nomatch h); all_goals (repeat (first | exact List.Mem.head _ | refine List.Mem.tail _ ?_))
  case rk => exact rfl
  case rd => omega
  case ru => omega
  case rret =>
  intro v12 led12 h12 tk12 F12 N12 hR12
  refine gp fun G9 k9 => ?_
  obtain ⟨P, R, Ls, cP, c1', c2', rv, lv, Z, rfl, rfl, hrv, hlv, hR1, _, hne1, hne2, hne3⟩ := hR12
  refine k9 ?_; clear k9 G9
  (try dsimp only)
  clear F8 N8
  dsimp only [cellX, List.cons_append, List.nil_append] at N12
  have z8 := hR1.off (a := L + 8) (o := o8) (by (repeat (first | exact List.Mem.head _ | refine List.Mem.tail _ ?_)))
  have z6 := hR1.off (a := L + 6) (o := o6) (by (repeat (first | exact List.Mem.head _ | refine List.Mem.tail _ ?_)))
  have a61 := off6 (L := L) hne1; have a62 := off6 (L := L) hne2; have a63 := off6 (L := L) hne3
  k_steps
  unfold Hold
  (rename Fr h₀ _ _ _ => F8); (rename News h₀ _ _ _ => N8)
  rename_i o6' d6' mx6 x6'
  with_unfolding_all refine' law_top (VP := Pre7) (led := cellX L o8 o7 o6' o5 o4 o3 o2 o1 #[] ((R, listOf rv.toArray c1') :: (Ls, listOf lv.toArray c2') :: Z)) ?C7 B F8 X (cb_drop N8 ?sub7) T XB.out TB.out H l1 l2 l3 hd hu ?hp7 hret
  case C7 => exact law_til (k := 7) (P := fun a b => SegQ _ a b Pre7) (seg7 _) (by with_unfolding_all exact rfl) rfl
  case hp7 =>
    refine ⟨_, _, _, _, _, _, _, _, _, _, _, _, _, _, _, _, _, _, _, _, _, _, _, _, _, _, rfl, c8, c7, c5, rfl, ⟨d6', c4, c3, c2, c1, hn, hrv, hlv, ?_, hne2, hne3⟩⟩
    · dsimp only [cellX]; (refine hR1.addr ?_; simp only [List.forall_mem_cons, List.not_mem_nil, false_implies, implies_true, and_true]; (repeat' (refine And.intro ?_ ?_)); all_goals ((try dsimp only); first | exact ⟨_, (.head _)⟩ | exact ⟨_, (.tail _ (.head _))⟩ | exact ⟨_, (.tail _ (.tail _ (.head _)))⟩ | exact ⟨_, (.tail _ (.tail _ (.tail _ (.head _))))⟩ | exact ⟨_, (.tail _ (.tail _ (.tail _ (.tail _ (.head _)))))⟩ | exact ⟨_, (.tail _ (.tail _ (.tail _ (.tail _ (.tail _ (.head _))))))⟩ | exact ⟨_, (.tail _ (.tail _ (.tail _ (.tail _ (.tail _ (.tail _ (.head _)))))))⟩ | exact ⟨_, (.tail _ (.tail _ (.tail _ (.tail _ (.tail _ (.tail _ (.tail _ (.head _))))))))⟩ | exact ⟨_, (.tail _ (.tail _ (.tail _ (.tail _ (.tail _ (.tail _ (.tail _ (.tail _ (.head _)))))))))⟩ | exact ⟨_, (.tail _ (.tail _ (.tail _ (.tail _ (.tail _ (.tail _ (.tail _ (.tail _ (.tail _ (.head _))))))))))⟩ | exact ⟨_, (.tail _ (.tail _ (.tail _ (.tail _ (.tail _ (.tail _ (.tail _ (.tail _ (.tail _ (.tail _ (.head _)))))))))))⟩ | exact ⟨_, (.tail _ (.tail _ (.tail _ (.tail _ (.tail _ (.tail _ (.tail _ (.tail _ (.tail _ (.tail _ (.tail _ (.head _))))))))))))⟩ | exact ⟨_, (.tail _ (.tail _ (.tail _ (.tail _ (.tail _ (.tail _ (.tail _ (.tail _ (.tail _ (.tail _ (.tail _ (.tail _ (.head _)))))))))))))⟩ | exact ⟨_, (.tail _ (.tail _ (.tail _ (.tail _ (.tail _ (.tail _ (.tail _ (.tail _ (.tail _ (.tail _ (.tail _ (.tail _ (.tail _ (.head _))))))))))))))⟩ | exact ⟨_, (.tail _ (.tail _ (.tail _ (.tail _ (.tail _ (.tail _ (.tail _ (.tail _ (.tail _ (.tail _ (.tail _ (.tail _ (.tail _ (.tail _ (.head _)))))))))))))))⟩ | exact ⟨_, (.tail _ (.tail _ (.tail _ (.tail _ (.tail _ (.tail _ (.tail _ (.tail _ (.tail _ (.tail _ (.tail _ (.tail _ (.tail _ (.tail _ (.tail _ (.head _))))))))))))))))⟩ | exact ⟨_, (.tail _ (.tail _ (.tail _ (.tail _ (.tail _ (.tail _ (.tail _ (.tail _ (.tail _ (.tail _ (.tail _ (.tail _ (.tail _ (.tail _ (.tail _ (.tail _ (.head _)))))))))))))))))⟩ | exact ⟨_, (.tail _ (.tail _ (.tail _ (.tail _ (.tail _ (.tail _ (.tail _ (.tail _ (.tail _ (.tail _ (.tail _ (.tail _ (.tail _ (.tail _ (.tail _ (.tail _ (.tail _ (.head _))))))))))))))))))⟩ | exact ⟨_, (.tail _ (.tail _ (.tail _ (.tail _ (.tail _ (.tail _ (.tail _ (.tail _ (.tail _ (.tail _ (.tail _ (.tail _ (.tail _ (.tail _ (.tail _ (.tail _ (.tail _ (.tail _ (.head _)))))))))))))))))))⟩ | exact ⟨_, (.tail _ (.tail _ (.tail _ (.tail _ (.tail _ (.tail _ (.tail _ (.tail _ (.tail _ (.tail _ (.tail _ (.tail _ (.tail _ (.tail _ (.tail _ (.tail _ (.tail _ (.tail _ (.tail _ (.head _))))))))))))))))))))⟩ | exact ⟨_, (.tail _ (.tail _ (.tail _ (.tail _ (.tail _ (.tail _ (.tail _ (.tail _ (.tail _ (.tail _ (.tail _ (.tail _ (.tail _ (.tail _ (.tail _ (.tail _ (.tail _ (.tail _ (.tail _ (.tail _ (.head _)))))))))))))))))))))⟩ | exact ⟨_, (.tail _ (.tail _ (.tail _ (.tail _ (.tail _ (.tail _ (.tail _ (.tail _ (.tail _ (.tail _ (.tail _ (.tail _ (.tail _ (.tail _ (.tail _ (.tail _ (.tail _ (.tail _ (.tail _ (.tail _ (.tail _ (.head _))))))))))))))))))))))⟩))
  case sub7 =>
    dsimp only [cellX]
    (intro q hq; simp only [List.mem_cons] at hq ⊢; repeat' (refine Or.elim hq (fun hq => ?_) (fun hq => ?_))); all_goals (repeat (first | with_reducible exact hq | with_reducible exact Or.inl hq | refine Or.inr ?_))
end
end
theorem fresh_seg5 : True := by first | (walk1; done) | exact True.intro
section
open PySem PySem.W PyProof.Rows PySem.Spec PySem.Calls
abbrev WordC (prog : Program) (w : World) (A : Around) (h₀ : Heap) (L : Addr) (s : Shared) (e : PySem.Expr) (env : Env) : Prop :=
  ∀ (m : Str → Option Value) (led : List (Addr × Obj)) (h : Heap) (tk : Tok) (n : Int) (t : Tok) (o5 : Obj) (Q E : Value → Shared → Prop), Fr h₀ L h m → News h₀ L h led → (L + 5, o5) ∈ led → o5.data = .cell (some (.int n t)) → 16 ≤ n → n < 4096 →
    (∀ D ys h' tk', Fr h₀ L h' m → News h₀ L h' ((D, LCg.lst ys) :: led) → IntsAre ys (apw n) → Q (.ref D) { s with heap := h', toks := tk' }) → wpAny (model prog w) A (eval e env) Q E { s with heap := h, toks := tk }
theorem with_key {prog : Program} {w : World} {A : Around} {h₀ : Heap} {L : Addr} {s s₁ : Shared} {e : PySem.Expr} {env : Env} {Q E : Value → Shared → Prop} (key : WordC prog w A h₀ L s e env) (k : WordC prog w A h₀ L s e env → wpAny (model prog w) A (eval e env) Q E s₁) : wpAny (model prog w) A (eval e env) Q E s₁ := k key
section

local macro_rules | `(tactic| walk_at "execs cons") => `(tactic| ((with_reducible show wpAny _ _ (execs (Stmt.Assign _ _ _ :: _) _) _ _ _); refine Hold.of ?_))
local macro_rules | `(tactic| walk_at "FinE") => `(tactic| (refine Hold.of ?_))
set_option maxRecDepth 100000 in
set_option maxHeartbeats 8000000 in
set_option pp.deepTerms false in
set_option pp.deepTerms.threshold 6 in
theorem seg5 (w : World) : SegQ w (lawScope w) ((lawBody w).drop 5) Pre5 := by
  refine' law_lit (P := fun a b => SegQ w a b Pre5) ?h ?hd ?p
  case h => with_unfolding_all exact rfl
  case hd => exact rfl
  dsimp only [SegQ]
  k_fill
  intro p loose mean mg mb dp un gd cn aa A₀ base h₀ L m s Q R1 led B F X N T XB TB H l1 l2 l3 hd hu hP hret
  refine gp fun G9 k9 => ?_
  obtain ⟨o8, o7, o6, o5, o4, o3, o2, o1, W, cW, bU, bV, tU, tV, A, B', U, V, e, f, t1, t2, t3, t4, rfl, c8, c7, c6, c5, c4, c3, c2, c1, hW, hn, hbU, hbV, hLW⟩ := hP
  refine k9 ?_; clear k9 G9
  dsimp only [cell8] at N
  replace XB := InB.mk XB; replace TB := InB.mk TB
  replace F := fr_known F hW
  have hU1 : 16 ≤ U := by have := hn.a0; have := hn.u; have := hn.e0; omega
  have hU2 : U < 4096 := by have := hn.a1; have := hn.u; have := hn.e1; omega
  have hV1 : 16 ≤ V := by have := hn.b0; have := hn.v; have := hn.f0; omega
  have hV2 : V < 4096 := by have := hn.a1; have := hn.b1; have := hn.v; have := hn.f1; omega
  k_steps
  unfold Hold
  refine' with_key (s := s) (L := L) (h₀ := h₀) ?key ?rest
  case key =>
    (try clear F N)
    (rename Fr h₀ _ _ _ => Fx); (rename News h₀ _ _ _ => Nx)
    clear Fx Nx hret
    intro m7 led7 h7 tk7 n t7 o57 Q7 E7 F7 N7 hm7 ho7 hn1 hn2 k7
    rcases (show n < 256 ∨ 256 ≤ n by omega) with hs | hs
    · k_dflt (refine ListComp_RT (by k_asm) (by with_unfolding_all rfl) (by decide) (by rfl) (by decide) (by rfl) ?_)
      k_steps
      unfold Hold
      refine ⟨_, _, _, _, _, _, _, 3, _, rfl, (by first | trivial | rfl), by k_asm, by k_asm, by assumption, by decide, by decide, by decide, ?_⟩
      intro g
      k_steps
      unfold Hold
      unfold LCg.FinE
      intro D8 h8 tk8 F8 N8 o8'
      refine k7 D8 _ h8 tk8 F8 N8 ?_
      rw [← wd2 hn1 hs]
      exact (.cons _ _ (.cons _ _ .nil))
    · k_dflt (refine ListComp_RT (by k_asm) (by with_unfolding_all rfl) (by decide) (by rfl) (by decide) (by rfl) ?_)
      k_steps
      unfold Hold
      refine ⟨_, _, _, _, _, _, _, 3, _, rfl, (by first | trivial | rfl), by k_asm, by k_asm, by assumption, by decide, by decide, by decide, ?_⟩
      intro g
      k_steps
      unfold Hold
      unfold LCg.FinE
      intro D8 h8 tk8 F8 N8 o8'
      refine k7 D8 _ h8 tk8 F8 N8 ?_
      rw [← wd3 hs]
      exact (.cons _ _ (.cons _ _ (.cons _ _ .nil)))
  case rest =>
    intro key
    (rename Fr h₀ _ _ _ => F8); (rename News h₀ _ _ _ => N8)
    rename_i o59 d59 _ _ _
    with_unfolding_all refine' key _ _ _ _ U t3 o59 _ _ F8 N8 ?km d59 hU1 hU2 ?_
    case km => (repeat (first | exact List.Mem.head _ | refine List.Mem.tail _ ?_))
    intro D9 ys9 h9 tk9 F9 N9 hys9
    (try clear F8 N8)
    k_steps
    unfold Hold
    (rename Fr h₀ _ _ _ => F8); (rename News h₀ _ _ _ => N8)
    with_unfolding_all refine' make_word (n := U) F8 N8 (.head _) rfl hys9 rfl hU1 hU2 hbU ?_
    intro h8 t8 k8 FF8 NN8
    clear F8 N8
    (try dsimp only)
    replace NN8 := cb_drop NN8 fun q hq => List.Mem.tail _ hq
    k_steps
    unfold Hold
    (rename Fr h₀ _ _ _ => F8); (rename News h₀ _ _ _ => N8)
    rename_i o58 d58 _ _ _

    with_unfolding_all refine' key _ _ _ _ V t4 o58 _ _ F8 N8 ?kn d58 hV1 hV2 ?_
    case kn => (repeat (first | exact List.Mem.head _ | refine List.Mem.tail _ ?_))
    intro D7 ys7 h7 tk7 F7 N7 hys7
    (try clear F8 N8)
    k_steps
    unfold Hold
    (rename Fr h₀ _ _ _ => F8); (rename News h₀ _ _ _ => N8)
    with_unfolding_all refine' make_word (n := V) F8 N8 (.head _) rfl hys7 rfl hV1 hV2 hbV ?_
    intro h6 t6 k6 FF6 NN6
    clear F8 N8
    (try dsimp only)
    replace NN6 := cb_drop NN6 fun q hq => List.Mem.tail _ hq
    k_steps
    unfold Hold
    (rename Fr h₀ _ _ _ => F8); (rename News h₀ _ _ _ => N8)
    with_unfolding_all refine' law_top (VP := Pre6) (led := cell8 L o8 o7 o6 o58 o4 o3 o2 o1 [(W, ?oW)]) ?C B F8 X (cb_drop N8 ?sub) T XB.out TB.out H l1 l2 l3 hd hu ?hp hret
    case C => exact law_til (k := 6) (P := fun a b => SegQ _ a b Pre6) (seg6 _) (by with_unfolding_all exact rfl) rfl
    case sub => repeat' (first | (refine List.forall_mem_cons.mpr ⟨?_, ?_⟩) | exact fun _ h => nomatch h); all_goals (repeat (first | exact List.Mem.head _ | refine List.Mem.tail _ ?_))
    case hp => exact ⟨_, _, _, _, _, _, _, _, _, _, _, _, _, _, _, _, _, _, _, _, _, _, _, _, _, rfl, c8, c7, c6, d58, c4, c3, c2, c1, rfl, hn, hbU, hbV, hLW⟩
end
end
theorem fresh_seg0 : True := by first | (walk1; done) | exact True.intro
section
open PySem PySem.W PyProof.Rows PySem.Spec PySem.Calls
section

local macro_rules | `(tactic| walk_at "execs cons") => `(tactic| ((with_reducible show wpAny _ _ (execs (Stmt.For _ _ _ _ _ :: _) _) _ _ _); refine Hold.of ?_))
set_option maxRecDepth 100000 in
set_option maxHeartbeats 8000000 in
set_option pp.deepTerms false in
set_option pp.deepTerms.threshold 6 in
set_option maxRecDepth 100000 in
set_option maxHeartbeats 8000000 in
set_option pp.deepTerms false in
set_option pp.deepTerms.threshold 6 in
theorem seg0 (w : World) : SegQ w (lawScope w) ((lawBody w).drop 0) Pre0 := by
  refine' law_lit (P := fun a b => SegQ w a b Pre0) ?h ?hd ?p
  case h => with_unfolding_all exact rfl
  case hd => exact rfl
  dsimp only [SegQ]
  k_fill
  intro p loose mean mg mb dp un gd cn aa A₀ base h₀ L m s Q R1 led B F X N T XB TB H l1 l2 l3 hd hu hP hret
  refine gp fun G9 k9 => ?_
  obtain ⟨o8, o7, o6, o5, o4, o3, o2, o1, S, sv, ss, rfl, c8, c7, c6, c5, c4, c3, c2, c1, hS, hSl, hI, hlen⟩ := hP
  refine k9 ?_; clear k9 G9
  dsimp only [cell8] at N
  replace F := fr_known F hS
  k_steps
  unfold Hold
  (rename Fr h₀ _ _ _ => F8); (rename News h₀ _ _ _ => N8)
  with_unfolding_all refine' law_cells_c _ _ _ _ _ _ _ _ _ _ _ ?zB hI ?zn _ _ _ _ _ _ _ _ _ _ _ _ _ _ _ _ _ _ _ _ _ _ B F8 X N8 T hSl ?zk ?zd ?zu ?zret
  case zB => exact .head _
  case zn => omega
  case zk => exact rfl
  case zd => omega
  case zu => omega
  case zret =>
  intro v9 led9 h9 tk9 F9 N9 hR9
  refine gp fun G9 k9 => ?_
  obtain ⟨FF, fv, c9, x0, x1, x2, x3, rfl, rfl, hfv, hFF⟩ := hR9
  refine k9 ?_; clear k9 G9
  (try dsimp only)
  clear F8 N8
  simp only [List.forall_mem_cons, List.not_mem_nil, false_implies, implies_true, and_true] at hFF
  refine gp fun G9 k9 => ?_
  obtain ⟨a1, a2, a3, a4, a5, a6, a7, a8, a9, b1, b2, b3⟩ := hFF
  refine k9 ?_; clear k9 G9
  replace a1 := NeN.mk a1; replace a2 := NeN.mk a2; replace a3 := NeN.mk a3; replace a4 := NeN.mk a4; replace a5 := NeN.mk a5; replace a6 := NeN.mk a6; replace a7 := NeN.mk a7; replace a8 := NeN.mk a8; replace a9 := NeN.mk a9; replace b1 := NeN.mk b1; replace b2 := NeN.mk b2; replace b3 := NeN.mk b3
  refine gp fun G9 k9 => ?_
  cases hfv with | cons _ t0 hfv => ?_
  cases hfv with | cons _ t1 hfv => ?_
  cases hfv with | cons _ t2 hfv => ?_
  cases hfv with | cons _ t3 hfv => ?_
  cases hfv
  refine k9 ?_; clear k9 G9
  have hf0 : 0 ≤ x0.fmod 254 := (fmod_pos_range (by decide)).1
  have hf1 : x0.fmod 254 < 254 := (fmod_pos_range (by decide)).2
  have hg0 : 0 ≤ x1.fmod (2 + x0.fmod 254) := (fmod_pos_range (by omega)).1
  have hg1 : x1.fmod (2 + x0.fmod 254) < 2 + x0.fmod 254 := (fmod_pos_range (by omega)).2
  have hc0 : 0 ≤ x2.fmod 16 := (fmod_pos_range (by decide)).1
  have hc1 : x2.fmod 16 < 16 := (fmod_pos_range (by decide)).2
  have hd0 : 0 ≤ x3.fmod 16 := (fmod_pos_range (by decide)).1
  have hd1 : x3.fmod 16 < 16 := (fmod_pos_range (by decide)).2
  k_steps
  unfold Hold
  (rename Fr h₀ _ _ _ => F8); (rename News h₀ _ _ _ => N8)
  with_unfolding_all refine' Cl.use (int2ap_c _ _ _ _ (16 * (2 + x0.fmod 254) + x2.fmod 16) ?p1 ?p2 ?p3) B F8 X N8 T ?pk ?pd ?pu ?pret
  case p1 => rw [if_pos (by omega)]; omega
  case p2 => omega
  case p3 => omega
  case pk => exact rfl
  case pd => omega
  case pu => omega
  case pret =>
  intro v10 led10 h10 tk10 F10 N10 hR10
  refine gp fun G9 k9 => ?_
  obtain ⟨tU, bU, rfl, hbU, rfl⟩ := hR10
  refine k9 ?_; clear k9 G9
  (try dsimp only)
  clear F8 N8
  k_steps
  unfold Hold
  (rename Fr h₀ _ _ _ => F8); (rename News h₀ _ _ _ => N8)
  with_unfolding_all refine' Cl.use (int2ap_c _ _ _ _ (16 * (1 + x1.fmod (2 + x0.fmod 254)) + x3.fmod 16) ?q1 ?q2 ?q3) B F8 X N8 T ?qk ?qd ?qu ?qret
  case q1 => rw [if_neg (by omega)]
  case q2 => omega
  case q3 => omega
  case qk => exact rfl
  case qd => omega
  case qu => omega
  case qret =>
  intro v11 led11 h11 tk11 F11 N11 hR11
  refine gp fun G9 k9 => ?_
  obtain ⟨tV, bV, rfl, hbV, rfl⟩ := hR11
  refine k9 ?_; clear k9 G9
  (try dsimp only)
  clear F8 N8
  k_steps
  unfold Hold
  (rename Fr h₀ _ _ _ => F8); (rename News h₀ _ _ _ => N8)
  with_unfolding_all refine' law_top (VP := Pre5) (led := cell8 L ?o8 ?o7 ?o6 ?o5 ?o4 ?o3 ?o2 ?o1 [(?W, listOf #[.bytes bU tU, .bytes bV tV] ?cW)]) ?C B F8 X (cb_drop N8 ?sub) T XB TB H l1 l2 l3 hd hu ?hp hret
  case C => exact law_til (k := 5) (P := fun a b => SegQ _ a b Pre5) (seg5 _) (by with_unfolding_all exact rfl) rfl
  case sub => repeat' (first | (refine List.forall_mem_cons.mpr ⟨?_, ?_⟩) | exact fun _ h => nomatch h); all_goals (repeat (first | exact List.Mem.head _ | refine List.Mem.tail _ ?_))
  case hp =>
    refine ⟨_, _, _, _, _, _, _, _, _, _, _, _, _, _, 2 + x0.fmod 254, 1 + x1.fmod (2 + x0.fmod 254), _, _, x2.fmod 16, x3.fmod 16, _, _, _, _, rfl, by assumption, by assumption, by assumption, by assumption, by assumption, by assumption, by assumption, by assumption, rfl,
      ⟨by omega, by omega, by omega, by omega, by omega, by omega, by omega, by omega, rfl, rfl⟩, hbU, hbV, by assumption⟩
end
end
end
end
section
open PySem PySem.W PyProof.Rows PySem.Spec PySem.Calls
section
set_option maxRecDepth 100000 in
set_option maxHeartbeats 8000000 in
theorem law_said : PySem.Challenge.rw_ta0021_01.wellSaid = true := by kernel_rfl
set_option maxRecDepth 100000 in
set_option maxHeartbeats 8000000 in
theorem law_whole : PySem.Challenge.rw_ta0021_01.row.prog.tablesWhole = true := by kernel_rfl
/-- the cells that the walk is told of, and the tables -/
noncomputable abbrev hk : Hook := (kmHook Mine.hd.heap_1 [2, 3, 6, 15, 17, 18, 20, 21, 22, 24, 25, 27, 28, 29, 31, 32, 34, 35, 36, 38, 39, 41, 42, 43, 45, 46, 48, 49, 50, 52, 53, 55, 56, 57, 59, 60, 62, 63, 64, 65, 66, 68, 69, 71, 72, 73, 76, 77, 78, 80, 81, 83, 84, 85, 87, 88, 90, 91, 92, 94, 95, 97, 98, 99, 101, 102, 104, 105, 106, 109, 110] (fun _ => by kernel_rfl) [44, 37, 107])
set_option maxRecDepth 100000 in
set_option maxHeartbeats 8000000 in
theorem law_left : LeftO PySem.Challenge.rw_ta0021_01.row.prog V0 ["bisect_right"] (fun s => xlAt V0 [] s && recOk PySem.Challenge.rw_ta0021_01.row.records s) (Hook.obs hk) (Hook.val hk) 1158 := by
  intro w; kernel_rfl
set_option maxRecDepth 100000 in
set_option maxHeartbeats 8000000 in
set_option pp.deepTerms false in
set_option pp.deepTerms.threshold 6 in
theorem tt : PySem.Challenge.rw_ta0021_01.Holds := by
  refine holds_law law_said fun hs => ?_
  w_on
  refine holds_open (q := V0) (loose := ["bisect_right"]) (Xt := fun s => xlAt V0 [] s && recOk _ s) (XP := XL V0 [])
    (Yf := Hook.obs (kmHook Mine.hd.heap_1 [2, 3, 6, 15, 17, 18, 20, 21, 22, 24, 25, 27, 28, 29, 31, 32, 34, 35, 36, 38, 39, 41, 42, 43, 45, 46, 48, 49, 50, 52, 53, 55, 56, 57, 59, 60, 62, 63, 64, 65, 66, 68, 69, 71, 72, 73, 76, 77, 78, 80, 81, 83, 84, 85, 87, 88, 90, 91, 92, 94, 95, 97, 98, 99, 101, 102, 104, 105, 106, 109, 110] (fun _ => by kernel_rfl) [44, 37, 107]))
    (Ya := Hook.val _) (YP := Hook.says _) (N := 1158) law_left (Hook.of _) (Hook.keeps _) (fun s e => xl_of s (Bool.and_eq_true_iff.mp e).1) XL.keeps (by rfl) (by rfl) (by rfl) (fun s e => recFacts_of (Bool.and_eq_true_iff.mp e).2) (by rfl) hs (by decide +kernel) ⟨rfl, rfl, rfl, rfl, rfl, law_whole⟩ ?hw ?hc
  case hw => w_witness2
  case hc => 
    k_go0
    all_goals try k_fold
    (rename Fr _ _ _ _ => F8); (rename News _ _ _ _ => N8); (rename Frag.In _ _ => X8); (rename Top _ _ _ _ _ _ => T8); (rename Below _ _ _ _ => B8); (rename IntsAre _ _ => hI)
    rename_i l0
    with_unfolding_all refine' law_top (VP := Pre0) ?C B8 F8 X8 N8 T8 X8 T8 codeHd ?h1 ?h2 ?h3 ?hd ?hu ?hp ?ret
    case C =>
      exact law_til (k := 0) (P := fun a b => SegQ _ a b Pre0) (seg0 _) (by with_unfolding_all exact rfl) rfl
    case h1 => exact l0.2.1
    case h2 => exact l0.1
    case h3 => exact l0.2.2
    case hd => decide
    case hu => decide
    case hp =>
      refine ⟨_, _, _, _, _, _, _, _, _, _, _, rfl, ?_, ?_, ?_, ?_, ?_, ?_, ?_, ?_, ?_, lifted, hI, by omega⟩
      all_goals first | with_reducible assumption | with_unfolding_all exact rfl | with_unfolding_all assumption
    case ret =>
      intro h' tk' m' F' g1 g2 g3
      refine ⟨?_, g1, g2, g3, True.intro⟩
      kc_close
end
end
end Mine
set_option maxRecDepth 100000 in
theorem PySem.Challenge.cw_ta0021_01_holds : PySem.Challenge.rw_ta0021_01.Holds := by
  exact Mine.tt

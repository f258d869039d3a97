import PyProof.Rows.All
import Wide.All
import OpenK.AllK
import Wide.FinOn
import PySem.Challenge.RW_rl0091_01
set_option Elab.async false
set_option rowWalk.seconds 0

section
open PySem PySem.W PyProof.Rows
set_option maxRecDepth 100000
set_option maxHeartbeats 8000000
namespace Mine
open_top hd for PySem.Challenge.rw_rl0091_01
end Mine
end

section
open PySem PySem.W PyProof.Rows
set_option maxRecDepth 100000
set_option maxHeartbeats 8000000
namespace Mine
/-- the contract of a def: whatever the caller, the call ends in Q with a value by Ret, the ledger grown by more -/
noncomputable def Ctr (room : Nat) (w : World) (f : Addr) (news : List (Addr × Obj)) (vs : List Value) (Ret : Value → List (Addr × Obj) → Prop) : Prop :=
  ∀ (mean : ExcName → Option Value) (mg mb : Str → Option Value) (dp un : Nat) (gd : Option (List Code)) (cn : Str) (cs : Scope) (a : Addr) (ccd : Value) (cl : List (Str × Addr)) (outer : List Env) (A₀ : Around) (base h₀ : Heap) (L : Addr) (m : Str → Option Value) (s : Shared) (Q E : Value → Shared → Prop),
    Below A₀ base outer h₀ → Fr h₀ L s.heap m → (hd.heap_39 w.params).In h₀ → News h₀ L s.heap news → Top hd.view_39 (looseW hd.view_39 [Str.ofString "EXACT_TOKEN_TYPES"]) mean mg mb h₀ → cs.kind = .function →
    dp + room < recursionLimit → un + 8 * room < cLine →
    (∀ (v : Value) (h' : Heap) (tk' : Nat) (more : List (Addr × Obj)), Ret v more → Fr h₀ L h' m → News h₀ L h' (more ++ news) → Q v { s with heap := h', toks := tk' }) →
      wpAny (model PySem.Challenge.rw_rl0091_01.row.prog w) (ktrTop dp un gd cn cs L a ccd cl outer) (call (.ref f) vs) Q E s

theorem Ctr.go {room : Nat} {w : World} {f : Addr} {news : List (Addr × Obj)} {vs : List Value} {Ret : Value → List (Addr × Obj) → Prop} (C : Ctr room w f news vs Ret)
    {mean : ExcName → Option Value} {mg mb : Str → Option Value} {dp un : Nat} {gd : Option (List Code)} {cn : Str} {cs : Scope} {a : Addr} {ccd : Value} {cl : List (Str × Addr)} {outer : List Env} {A₀ : Around} {base h₀ : Heap} {L : Addr} {m : Str → Option Value} {s : Shared} {Q E : Value → Shared → Prop}
    (hB : Below A₀ base outer h₀) (hF : Fr h₀ L s.heap m) (hK : (hd.heap_39 w.params).In h₀) (hN : News h₀ L s.heap news) (hT : Top hd.view_39 (looseW hd.view_39 [Str.ofString "EXACT_TOKEN_TYPES"]) mean mg mb h₀) (hk : cs.kind = .function)
    (hd' : dp + room < recursionLimit) (hu : un + 8 * room < cLine)
    (h : ∀ (v : Value) (h' : Heap) (tk' : Nat) (more : List (Addr × Obj)), Ret v more → Fr h₀ L h' m → News h₀ L h' (more ++ news) → Q v { s with heap := h', toks := tk' }) :
      wpAny (model PySem.Challenge.rw_rl0091_01.row.prog w) (ktrTop dp un gd cn cs L a ccd cl outer) (call (.ref f) vs) Q E s := C _ _ _ _ _ _ _ _ _ _ _ _ _ _ _ _ _ _ _ _ hB hF hK hN hT hk hd' hu h

theorem Ctr.goI {room : Nat} {x : Int} {w : World} {f : Addr} {news : List (Addr × Obj)} {vs : List Value} (C : Ctr room w f news vs (fun v more => (∃ t, v = .int x t) ∧ more = []))
    {mean : ExcName → Option Value} {mg mb : Str → Option Value} {dp un : Nat} {gd : Option (List Code)} {cn : Str} {cs : Scope} {a : Addr} {ccd : Value} {cl : List (Str × Addr)} {outer : List Env} {A₀ : Around} {base h₀ : Heap} {L : Addr} {m : Str → Option Value} {s : Shared} {Q E : Value → Shared → Prop}
    (hB : Below A₀ base outer h₀) (hF : Fr h₀ L s.heap m) (hK : (hd.heap_39 w.params).In h₀) (hN : News h₀ L s.heap news) (hT : Top hd.view_39 (looseW hd.view_39 [Str.ofString "EXACT_TOKEN_TYPES"]) mean mg mb h₀) (hk : cs.kind = .function)
    (hd' : dp + room < recursionLimit) (hu : un + 8 * room < cLine)
    (h : ∀ (t : Tok) (h' : Heap) (tk' : Nat), Fr h₀ L h' m → News h₀ L h' news → Q (.int x t) { s with heap := h', toks := tk' }) :
      wpAny (model PySem.Challenge.rw_rl0091_01.row.prog w) (ktrTop dp un gd cn cs L a ccd cl outer) (call (.ref f) vs) Q E s :=
  C.go hB hF hK hN hT hk hd' hu (fun v h' tk' more hr F N => by obtain ⟨⟨t, rfl⟩, rfl⟩ := hr; exact h t h' tk' F N)

noncomputable def subCost (x y : Str) : Int := if x = y then 0 else if Txt.lower x = Txt.lower y then 1 else 2

theorem sub_ctr (w : World) (news) (x y : Str) (tx ty : Tok) (hx : x.length ≤ 1) (hy : y.length ≤ 1) : Ctr 2 w 21 news [.str x tx, .str y ty] (fun v more => (∃ t, v = .int (subCost x y) t) ∧ more = []) := by
  unfold Ctr
  w_top off
  k_fill
  intros
  rename_i hret
  refine wpAny_call ?_
  k_dflt cell_enter
  k_steps
  · refine hret _ _ _ [] ⟨?_, rfl⟩ (by assumption) (by assumption)
    have hxy : x = y := by simpa using ‹(x == y) = true›
    simp [subCost, hxy]
  · refine hret _ _ _ [] ⟨?_, rfl⟩ (by assumption) (by assumption)
    have hxy : ¬ x = y := by simpa using ‹(x == y) = false›
    have hxy2 : Txt.lower x = Txt.lower y := by simpa using ‹(Txt.lower x == Txt.lower y) = true›
    simp [subCost, hxy, hxy2]
  · refine hret _ _ _ [] ⟨?_, rfl⟩ (by assumption) (by assumption)
    have hxy : ¬ x = y := by simpa using ‹(x == y) = false›
    have hxy2 : ¬ Txt.lower x = Txt.lower y := by simpa using ‹(Txt.lower x == Txt.lower y) = false›
    simp [subCost, hxy, hxy2]

theorem bindA {α β γ : Type} (t : Sem α) (f : α → Sem β) (g : β → Sem γ) : (t.bind f).bind g = t.bind fun a => (f a).bind g := by
  induction t with
  | pure a => rfl
  | raise e => rfl
  | unsupported e => rfl
  | finish e => rfl
  | _ => rename_i ih; simp only [Sem.bind, ih]

theorem execs_app {env : Env} (l1 l2 : List Stmt) : execs (l1 ++ l2) env = (execs l1 env).bind fun f => match f with | .next => execs l2 env | f => pure f := by
  induction l1 with
  | nil => rfl
  | cons st r ih =>
    rw [List.cons_append, PySem.execs_cons, PySem.execs_cons]
    show Sem.bind _ _ = Sem.bind (Sem.bind _ _) _
    rw [bindA]
    congr
    funext f
    cases f <;> first | (exact ih) | rfl

theorem cut_at {M : Model} {A : Around} {E : Value → Shared → Prop} {s : Shared} {env : Env} {l : List Stmt} {Q : Flow → Shared → Prop} (n : Nat) (I : Shared → Prop)
    (h1 : wpAny M A (execs (l.take n) env) (fun f s' => match f with | .next => I s' | f => Q f s') E s)
    (h2 : ∀ s', I s' → wpAny M A (execs (l.drop n) env) Q E s') : wpAny M A (execs l env) Q E s := by
  have e : execs l env = (execs (l.take n) env).bind fun f => match f with | .next => execs (l.drop n) env | f => pure f := by
    rw [← execs_app, List.take_append_drop]
  rw [e]
  refine wpAny_bind (wpAny_mono h1 (fun f s' hf => ?_) fun _ _ x => x)
  cases f with
  | next => exact h2 s' hf
  | brk => exact wpAny_pure hf
  | cont => exact wpAny_pure hf
  | ret v => exact wpAny_pure hf

/-- a frame by the names that count -/
theorem fr_names {h₀ h : Heap} {L : Addr} {m : Str → Option Value} (ps : List (Str × Value)) (F : Fr h₀ L h m) (hp : ∀ p ∈ ps, m p.1 = some p.2) : Fr h₀ L h (kstB m ps) := by
  have : kstB m ps = m := funext fun z => kstB_eq hp fun _ => rfl
  rw [this]; exact F

/-- the cut's state: a frame with these names, the ledger -/
noncomputable def St (s : Shared) (h₀ : Heap) (L : Addr) (ps : List (Str × Value)) (news : List (Addr × Obj)) (s' : Shared) : Prop :=
  ∃ (u : Str → Option Value) (h : Heap) (tk : Nat), s' = { s with heap := h, toks := tk } ∧ Fr h₀ L h (kstB u ps) ∧ News h₀ L h news
theorem St.mk {s : Shared} {h₀ : Heap} {L : Addr} {ps : List (Str × Value)} {news : List (Addr × Obj)} {h : Heap} {m : Str → Option Value} {tk : Nat} (F : Fr h₀ L h m) (N : News h₀ L h news) (hp : ∀ p ∈ ps, m p.1 = some p.2) : St s h₀ L ps news { s with heap := h, toks := tk } :=
  ⟨m, h, tk, rfl, fr_names ps F hp, N⟩

/-- a mark that keeps the walk out -/
noncomputable def Hold (P : Prop) : Prop := P
theorem Hold.mk {P : Prop} (h : P) : Hold P := h
theorem Hold.out {P : Prop} (h : Hold P) : P := h
end Mine
end

section
open PySem PySem.W PyProof.Rows
namespace Mine
/-- a cut after n statements, its state given by what it must serve (H): no exists, so each part of the state is kept but two or three times -/
theorem cut_by {M : Model} {A : Around} {E : Value → Shared → Prop} {s : Shared} {env : Env} {l : List Stmt} {Q : Flow → Shared → Prop} (n : Nat) (H : (Shared → Prop) → Prop)
    (h1 : ∀ W : Shared → Prop, H W → wpAny M A (execs (l.take n) env) (fun f s' => match f with | .next => Hold (W s') | f => Q f s') E s)
    (h2 : H fun s' => wpAny M A (execs (l.drop n) env) Q E s') : wpAny M A (execs l env) Q E s :=
  cut_at n _ (h1 _ h2) fun _ h => h
end Mine
end

section
open PySem PySem.W PyProof.Rows
set_option maxRecDepth 100000
set_option maxHeartbeats 1000000
namespace Mine
theorem Ctr.goB {room : Nat} {b : Bool} {w : World} {f : Addr} {news : List (Addr × Obj)} {vs : List Value} (C : Ctr room w f news vs (fun v more => v = .bool b ∧ more = []))
    {mean : ExcName → Option Value} {mg mb : Str → Option Value} {dp un : Nat} {gd : Option (List Code)} {cn : Str} {cs : Scope} {a : Addr} {ccd : Value} {cl : List (Str × Addr)} {outer : List Env} {A₀ : Around} {base h₀ : Heap} {L : Addr} {m : Str → Option Value} {s : Shared} {Q E : Value → Shared → Prop}
    (hB : Below A₀ base outer h₀) (hF : Fr h₀ L s.heap m) (hK : (hd.heap_39 w.params).In h₀) (hN : News h₀ L s.heap news) (hT : Top hd.view_39 (looseW hd.view_39 [Str.ofString "EXACT_TOKEN_TYPES"]) mean mg mb h₀) (hk : cs.kind = .function)
    (hd' : dp + room < recursionLimit) (hu : un + 8 * room < cLine)
    (h : ∀ (h' : Heap) (tk' : Nat), Fr h₀ L h' m → News h₀ L h' news → Q (.bool b) { s with heap := h', toks := tk' }) :
      wpAny (model PySem.Challenge.rw_rl0091_01.row.prog w) (ktrTop dp un gd cn cs L a ccd cl outer) (call (.ref f) vs) Q E s :=
  C.go hB hF hK hN hT hk hd' hu (fun v h' tk' more hr F N => by obtain ⟨rfl, rfl⟩ := hr; exact h h' tk' F N)
theorem nonterm_ctr (w : World) (news) (x : Int) (tx : Tok) : Ctr 2 w 52 news [.int x tx] (fun v more => v = .bool (decide (256 ≤ x)) ∧ more = []) := by
  unfold Ctr
  w_top off
  k_fill
  intros
  rename_i hret
  refine wpAny_call ?_
  k_dflt cell_enter
  k_steps
  all_goals exact hret _ _ _ [] ⟨by simp, rfl⟩ (by assumption) (by assumption)
theorem term_ctr (w : World) (news) (x : Int) (tx : Tok) : Ctr 2 w 45 news [.int x tx] (fun v more => v = .bool (decide (x < 256)) ∧ more = []) := by
  unfold Ctr
  w_top off
  k_fill
  intros
  rename_i hret
  refine wpAny_call ?_
  k_dflt cell_enter
  k_steps
  all_goals exact hret _ _ _ [] ⟨by simp, rfl⟩ (by assumption) (by assumption)
theorem eof_ctr (w : World) (news) (x : Int) (tx : Tok) : Ctr 2 w 59 news [.int x tx] (fun v more => v = .bool (decide (x = 0)) ∧ more = []) := by
  unfold Ctr
  w_top off
  k_fill
  intros
  rename_i hret
  refine wpAny_call ?_
  k_dflt cell_enter
  k_steps
  all_goals exact hret _ _ _ [] ⟨congrArg Value.bool (Bool.eq_iff_iff.mpr (by simp)), rfl⟩ (by assumption) (by assumption)
end Mine
end

section
open PySem PySem.W PyProof.Rows
set_option maxRecDepth 100000
namespace Mine
noncomputable def VEnd (h₀ : Heap) (L : Addr) (J : (Str → Option Value) → Prop) (led : List (Addr × Obj)) (s₁ s₂ : Shared) : Prop :=
  ∃ h' tk m', s₂ = { s₁ with heap := h', toks := tk } ∧ Fr h₀ L h' m' ∧ News h₀ L h' led ∧ J m'
noncomputable def VPost (h₀ : Heap) (L : Addr) (J : (Str → Option Value) → Prop) (led : List (Addr × Obj)) (s₁ : Shared) (Q : Flow → Shared → Prop) (f : Flow) (s₂ : Shared) : Prop :=
  match f with
  | .ret v => Q (.ret v) s₂
  | .brk => Q .next s₂
  | _ => VEnd h₀ L J led s₁ s₂
/-- a loop over a list of the ledger that it leaves as it is -/
theorem for_vals {prog : Program} {w : World} {A : Around} {E : Value → Shared → Prop} {s : Shared} {env : Env} {h₀ : Heap} {x : Str} {body : List Stmt} {Q : Flow → Shared → Prop}
    {l : Addr} {vs : List Value} {nn : Nat} {m₀ : Str → Option Value} {news : List (Addr × Obj)} (J : Nat → (Str → Option Value) → Prop)
    (hh : A.handled = none) (hl : (l, W.listOf vs.toArray nn) ∈ news) (F : Fr h₀ env.locals s.heap m₀) (N : News h₀ env.locals s.heap news) (hj : J 0 m₀)
    (turn : ∀ i v m₁ h tk own, vs[i]? = some v → J i m₁ → Fr h₀ env.locals h (fun y => if y = x then some v else m₁ y) → News h₀ env.locals h (news ++ own) →
      wpAny (model prog w) A (execs body env) (VPost h₀ env.locals (J (i + 1)) (news ++ own) { s with heap := h, toks := tk } Q) E { s with heap := h, toks := tk })
    (done : ∀ m₁ h tk, J vs.length m₁ → Fr h₀ env.locals h m₁ → News h₀ env.locals h news → Q .next { s with heap := h, toks := tk }) :
    wpAny (model prog w) A (pyIter (.ref l)) (fun it s₂ => LoopAtV prog w A h₀ env x body Q E it s₂) E s := by
  have hg := N _ hl
  have hls : s.heap.IsList l vs.toArray := ⟨_, hg.1, rfl, nn, rfl⟩
  have hlt : l < s.heap.objs.size := Heap.lt_size hg.1
  refine wpAny_pyIter_list hls ?_
  have W := Walks.list (prog := prog) (w := w) hh s.heap.objs.size l (Nat.ne_of_lt hlt) vs.toArray
  rw [List.size_toArray] at W
  refine ⟨_, _, _, vs.length, _, _, m₀, news, fun i m₁ news₁ => news₁ = news ∧ J i m₁, rfl, W, ?_, ?_, ?_, ⟨⟨_, Heap.get?_push_size _ rfl, rfl, rfl⟩, hls.at fun o e => Heap.get?_push_of_some _ e⟩, F.push _, (fun p hp => ⟨Heap.get?_push_of_some _ (N p hp).1, (N p hp).2⟩), ⟨rfl, hj⟩, ?_, ?_⟩
  · intro hm
    rcases List.mem_cons.mp hm with e | hm
    · exact absurd F.ns.lt (e ▸ Nat.lt_irrefl _)
    · exact hg.2.1 (List.mem_singleton.mp hm).symm
  · intro b hb
    rw [List.mem_singleton.mp hb]
    exact next_is_new F
  · intro p hp hI
    exact absurd (Heap.lt_size (N p hp).1) ((List.mem_singleton.mp hI) ▸ Nat.lt_irrefl _)
  · rintro i v m₁ news₁ s₁ own ⟨hh', tk', rfl⟩ hin hP ⟨rfl, hJ⟩ hoff hown _ _ _ F₁ N₁
    have N₂ : News h₀ env.locals hh' (news₁ ++ own) := fun p hp => N₁ p ((List.mem_append.mp hp).elim (fun h => List.mem_append.mpr (.inr h)) fun h => List.mem_append.mpr (.inl h))
    refine wpAny_mono (turn i v m₁ hh' tk' own (by simpa using hP) hJ F₁ N₂) (fun f s₂ p => ?_) fun _ _ e => e
    have fin : VEnd h₀ env.locals (J (i + 1)) (news₁ ++ own) { s with heap := hh', toks := tk' } s₂ → LoopStepU h₀ env.locals [s.heap.objs.size] own (fun m₁ nx => nx = news₁ ∧ J (i + 1) m₁) { s with heap := hh', toks := tk' } .next s₂ := by
      rintro ⟨h', tk, m', e, F', N', hm⟩
      exact ⟨rfl, h', tk, m', news₁, e, F', fun p hp => N' p ((List.mem_append.mp hp).elim (fun h => List.mem_append.mpr (.inr h)) fun h => List.mem_append.mpr (.inl h)), hoff, rfl, hm⟩
    cases f with
    | ret v => exact .ret p
    | brk => exact .brk p
    | next => exact .next (fin p)
    | cont => exact .cont (fin p)
  · rintro h' tk m' news' F' N' _ ⟨rfl, hJ⟩
    exact done m' h' tk hJ F' N'
end Mine
end

section
open PySem PySem.W PyProof.Rows
set_option maxRecDepth 100000
set_option maxHeartbeats 2000000
namespace Mine
section
variable {prog : Program} {w : World} {A : Around} {E : Value → Shared → Prop} {s : Shared} {h₀ : Heap}

/-- a list of the ledger grown by another one's items -/
theorem iadd_list {L D b : Addr} {m : Str → Option Value} {ys zs : List Value} {n n2 : Nat} {own rest : List (Addr × Obj)} {Q : Value → Shared → Prop}
    (F : Fr h₀ L s.heap m) (N : News h₀ L s.heap (own ++ (D, PySem.W.listOf ys.toArray n) :: rest)) (hown : ∀ p ∈ own, p.1 ≠ D) (hap : ∀ p ∈ rest, p.1 ≠ D)
    (hb : s.heap.get? b = some (PySem.W.listOf zs.toArray n2)) (hsz : ys.length + zs.length ≤ sizeLine)
    (h : ∀ h' n', Fr h₀ L h' m → News h₀ L h' (own ++ (D, PySem.W.listOf (ys ++ zs).toArray n') :: rest) → Q (.ref D) { s with heap := h' }) :
    wpAny (model prog w) A (inplaceOp .Add (.ref D) (.ref b)) Q E s := by
  have hm := N _ (List.mem_append_right own (List.Mem.head rest))
  have hT : s.TypeIs (.ref D) "list" := ⟨_, hm.1, rfl⟩
  have hU : s.TypeIs (.ref b) "list" := ⟨_, hb, rfl⟩
  have hsz' : ys.toArray.size + zs.toArray.size ≤ sizeLine := by rw [List.size_toArray, List.size_toArray]; exact hsz
  unfold inplaceOp
  refine wpAny_holding ?_
  have hq : isSeqSlot (some (.builtin "list.__iadd__")) = true := by decide +kernel
  have hfi : fillsInplaceSlot (.type "list") "add" (Operator.Add == .Add) = pure false := by
    unfold fillsInplaceSlot
    show (typeLookup (.type "list") (dunderI "add") >>= fun fi => pure (fi.isSome && !isSeqSlot fi)) = pure false
    rw [PySem.F.slot_list_iadd.lookup]
    show (pure (_ && !isSeqSlot (some (.builtin "list.__iadd__"))) : Sem Bool) = _
    rw [hq]
    rfl
  have hsi : seqSlot? (.type "list") (dunderI "add") = pure (some (.builtin "list.__iadd__")) := by
    unfold seqSlot?
    rw [PySem.F.slot_list_iadd.lookup]
    show (if (!isSeqSlot (some (.builtin "list.__iadd__"))) = true then (pure none : Sem (Option Value)) else _) = _
    rw [hq]
    rfl
  refine wpAny_bind (wpAny_typeOf hT (wpAny_bind (wpAny_of_eq hfi ?_)))
  show wpAny _ A (if false = true then _ else _) Q E s
  rw [if_neg Bool.false_ne_true]
  refine wpAny_bind (wpAny_binaryOp1_none (nm := "add") hT hU noFill_list_add ?_)
  refine wpAny_bind (wpAny_of_eq hsi ?_)
  refine wpAny_bind (wpAny_rule ?_)
  refine call_meets PySem.F.slot_list_iadd hT PySem.F.entry_list_iadd (PySem.F.args_list_iadd_2 _ _) (AutoSeq1.list___iadd___list_list_0 D ys.toArray n b zs.toArray n2 (extend_door hsz') (Nat.le_trans (Nat.le_add_right _ _) hsz')) ⟨hm.1, hb, ?_⟩
  have e : ys.toArray ++ zs.toArray = (ys ++ zs).toArray := by simp
  have ho' : (s.heap.update D (Obj.mapSeq fun x => x ++ zs.toArray)).get? D = some { cls := .type "list", data := .seq (ys ++ zs).toArray (if (ys.toArray ++ zs.toArray).size == ys.toArray.size then n else n + 1) } := by
    rw [Heap.get?_update_self _ hm.1 (by rw [mapSeq_app]; rfl), mapSeq_app, e]
  exact h _ _ (F.change (Heap.SameBut.update ..) hm.2.1 hm.2.2) (N.setIn hown hap (Heap.SameBut.update ..) ho')
theorem iadd_mem {L D b : Addr} {m : Str → Option Value} {ys zs : List Value} {n n2 : Nat} {led : List (Addr × Obj)} {Q : Value → Shared → Prop}
    (F : Fr h₀ L s.heap m) (N : News h₀ L s.heap led) (hD : (D, PySem.W.listOf ys.toArray n) ∈ led) (hb : (b, PySem.W.listOf zs.toArray n2) ∈ led) (hsz : ys.length + zs.length ≤ sizeLine)
    (h : ∀ h' n', Fr h₀ L h' m → News h₀ L h' ((D, PySem.W.listOf (ys ++ zs).toArray n') :: led.filter fun p => decide (p.1 ≠ D)) → Q (.ref D) { s with heap := h' }) :
    wpAny (model prog w) A (inplaceOp .Add (.ref D) (.ref b)) Q E s := by
  refine iadd_list (own := []) (n := n) (rest := led.filter fun p => decide (p.1 ≠ D)) F (fun p hp => ?_) (fun p hp => by cases hp) (fun p hp => by simpa using (List.mem_filter.mp hp).2) (N _ hb).1 hsz h
  rcases List.mem_cons.mp hp with rfl | hp
  · exact N _ hD
  · exact N p (List.mem_filter.mp hp).1
theorem mem_but {D : Addr} {led : List (Addr × Obj)} {p : Addr × Obj} (hp : p ∈ led) (h : p.1 ≠ D) : p ∈ led.filter fun p => decide (p.1 ≠ D) := List.mem_filter.mpr ⟨hp, by simpa using h⟩
theorem but_ne {D : Addr} {led : List (Addr × Obj)} {p : Addr × Obj} (hp : p ∈ led.filter fun p => decide (p.1 ≠ D)) : p.1 ≠ D := by simpa using (List.mem_filter.mp hp).2
theorem news_ne {L : Addr} {h : Heap} {led : List (Addr × Obj)} {p q : Addr × Obj} (N : News h₀ L h led) (hp : p ∈ led) (hq : q ∈ led) (hc : p.2.cls ≠ q.2.cls) : p.1 ≠ q.1 := by
  intro e
  have h1 := (N p hp).1
  have h2 := (N q hq).1
  rw [e] at h1
  exact hc (congrArg Obj.cls (Option.some.inj (h1.symm.trans h2)))
end
end Mine
end

section
open PySem PySem.W PyProof.Rows PyProof.Rows.LCg PySem.Spec PySem.Calls
set_option maxRecDepth 100000
set_option maxHeartbeats 2000000
namespace Mine
section
variable {prog : Program} {w : World} {A : Around} {E : Value → Shared → Prop} {s : Shared} {h₀ : Heap} {L : Addr} {m : Str → Option Value} {env : Env}
/-- the turns of a comprehension by what holds between them -/
theorem rest_U {elt : PySem.Expr} {x : Str} {scope : Scope} {cl : List (Str × Addr)} {S : List (Addr × Obj) → Prop} {P : Nat → Value → Prop} {Fin : List Value → List (Addr × Obj) → Prop} {n : Nat} (J : Nat → List Value → List (Addr × Obj) → Prop)
    (turn : ∀ i ys news v I oI C oC D m₂ h tk (E' : Value → Shared → Prop), i < n → J i ys news → P i v → NsObj oC m₂ → m₂ x = some v → Fr h₀ L h m → News h₀ L h ((I, oI) :: (C, oC) :: (D, lst ys) :: news) → Off3 I C D news → ((@Ne Nat I C) ∧ (@Ne Nat I D) ∧ (@Ne Nat C D)) →
      wpAny (model prog w) A (eval elt (compEnvC scope cl C env)) (CompEnd h₀ L m { s with heap := h, toks := tk } I oI C oC D (lst ys) S (fun y news' => J (i + 1) (ys ++ [y]) news')) E' { s with heap := h, toks := tk })
    (fin : ∀ ys news, J n ys news → Fin ys news) : ∀ k i ys news, i + k = n → J i ys news → CompRest prog w A h₀ L m env elt x scope cl s S P Fin k i ys news := by
  intro k
  induction k with
  | zero => intro i ys news hi hJ; exact CompRest.zero (fin ys news (by rw [← hi]; exact hJ))
  | succ k ih =>
    intro i ys news hi hJ
    refine CompRest.succ ?_
    intro v I oI C oC D m₂ h tk E' hP hC hx F N off ne
    refine wpAny_mono (turn i ys news v I oI C oC D m₂ h tk E' (by lia) hJ hP hC hx F N off ne) (fun y s₂ hq => ?_) fun _ _ e => e
    obtain ⟨h', tk', nw, e, F', N', off', hS, hJ'⟩ := hq
    exact ⟨h', tk', nw, e, F', N', off', hS, ih (i + 1) _ _ (by lia) hJ'⟩
theorem rest_P {elt : PySem.Expr} {x x₂ : Str} {scope : Scope} {cl : List (Str × Addr)} {S : List (Addr × Obj) → Prop} {P : Nat → Value → Prop} {Fin : List Value → List (Addr × Obj) → Prop} {n : Nat} (J : Nat → List Value → List (Addr × Obj) → Prop)
    (item : ∀ i ys news v, i < n → J i ys news → P i v → ∃ (t : Addr) (ot : Obj) (v₁ v₂ : Value) (nt : Nat), v = .ref t ∧ (t, ot) ∈ news ∧ ot.cls = .type "tuple" ∧ ot.data = .seq #[v₁, v₂] nt ∧
      ∀ I oI C oC D m₂ h tk (E' : Value → Shared → Prop), NsObj oC m₂ → m₂ x = some v₁ → m₂ x₂ = some v₂ → Fr h₀ L h m → News h₀ L h ((I, oI) :: (C, oC) :: (D, lst ys) :: news) → Off3 I C D news → ((@Ne Nat I C) ∧ (@Ne Nat I D) ∧ (@Ne Nat C D)) →
      wpAny (model prog w) A (eval elt (compEnvC scope cl C env)) (CompEnd h₀ L m { s with heap := h, toks := tk } I oI C oC D (lst ys) S (fun y news' => J (i + 1) (ys ++ [y]) news')) E' { s with heap := h, toks := tk })
    (fin : ∀ ys news, J n ys news → Fin ys news) : ∀ k i ys news, i + k = n → J i ys news → LCp.CompRestP prog w A h₀ L m env elt x x₂ scope cl s S P Fin k i ys news := by
  intro k
  induction k with
  | zero => intro i ys news hi hJ; exact LCp.CompRestP.zero (fin ys news (by rw [← hi]; exact hJ))
  | succ k ih =>
    intro i ys news hi hJ
    refine LCp.CompRestP.succ ?_
    intro v hP
    obtain ⟨t, ot, v₁, v₂, nt, e1, e2, e3, e4, go⟩ := item i ys news v (by lia) hJ hP
    refine ⟨t, ot, v₁, v₂, nt, e1, e2, e3, e4, ?_⟩
    intro I oI C oC D m₂ h tk E' hC hx hy F N off ne
    refine wpAny_mono (go I oI C oC D m₂ h tk E' hC hx hy F N off ne) (fun y s₂ hq => ?_) fun _ _ e => e
    obtain ⟨h', tk', nw, e, F', N', off', hS, hJ'⟩ := hq
    exact ⟨h', tk', nw, e, F', N', off', hS, ih (i + 1) _ _ (by lia) hJ'⟩
theorem rest_T {ct elt : PySem.Expr} {x : Str} {scope : Scope} {cl : List (Str × Addr)} {S : List (Addr × Obj) → Prop} {P : Nat → Value → Prop} {Fin : List Value → List (Addr × Obj) → Prop} {n : Nat} (J : Nat → List Value → List (Addr × Obj) → Prop)
    (turn : ∀ i ys news v I oI C oC D m₂ h tk (E' : Value → Shared → Prop), i < n → J i ys news → P i v → NsObj oC m₂ → m₂ x = some v → Fr h₀ L h m → News h₀ L h ((I, oI) :: (C, oC) :: (D, lst ys) :: news) → Off3 I C D news → ((@Ne Nat I C) ∧ (@Ne Nat I D) ∧ (@Ne Nat C D)) →
      wpAny (model prog w) A (isTrue ct (compEnvC scope cl C env) (eval ct (compEnvC scope cl C env))) (fun ok s' => if ok = true then
        wpAny (model prog w) A (eval elt (compEnvC scope cl C env)) (CompEnd h₀ L m { s with heap := h, toks := tk } I oI C oC D (lst ys) S (fun y news' => J (i + 1) (ys ++ [y]) news')) E' s'
        else CompEnd h₀ L m { s with heap := h, toks := tk } I oI C oC D (lst ys) S (fun _ news' => J (i + 1) ys news') Value.none s') E' { s with heap := h, toks := tk })
    (fin : ∀ ys news, J n ys news → Fin ys news) : ∀ k i ys news, i + k = n → J i ys news → LCt.CompRestT prog w A h₀ L m env ct elt x scope cl s S P Fin k i ys news := by
  intro k
  induction k with
  | zero => intro i ys news hi hJ; exact LCt.CompRestT.zero (fin ys news (by rw [← hi]; exact hJ))
  | succ k ih =>
    intro i ys news hi hJ
    refine LCt.CompRestT.succ ?_
    intro v I oI C oC D m₂ h tk E' hP hC hx F N off ne
    refine wpAny_mono (turn i ys news v I oI C oC D m₂ h tk E' (by lia) hJ hP hC hx F N off ne) (fun ok s₂ hq => ?_) fun _ _ e => e
    cases ok with
    | true =>
      simp only [if_true] at hq ⊢
      refine wpAny_mono hq (fun y s₃ hq => ?_) fun _ _ e => e
      obtain ⟨h', tk', nw, e, F', N', off', hS, hJ'⟩ := hq
      exact ⟨h', tk', nw, e, F', N', off', hS, ih (i + 1) _ _ (by lia) hJ'⟩
    | false =>
      simp only [Bool.false_eq_true, if_false] at hq ⊢
      obtain ⟨h', tk', nw, e, F', N', off', hS, hJ'⟩ := hq
      exact ⟨h', tk', nw, e, F', N', off', hS, ih (i + 1) _ _ (by lia) hJ'⟩

/-- the turns of a comprehension over pairs with a test -/
noncomputable def TurnPT (prog : Program) (w : World) (A : Around) (h₀ : Heap) (L : Addr) (m : Str → Option Value) (env : Env) (ct elt : PySem.Expr) (x x₂ : Str) (scope : Scope) (cl : List (Str × Addr)) (s : Shared) (S : List (Addr × Obj) → Prop) (vs : List Value) (J : Nat → List Value → List (Addr × Obj) → Prop) : Prop :=
  ∀ i ys news v, vs[i]? = some v → J i ys news → ∃ (t : Addr) (ot : Obj) (v₁ v₂ : Value) (nt : Nat), v = .ref t ∧ (t, ot) ∈ news ∧ ot.cls = .type "tuple" ∧ ot.data = .seq #[v₁, v₂] nt ∧
      ∀ I oI C oC D m₂ h tk (E' : Value → Shared → Prop), NsObj oC m₂ → m₂ x = some v₁ → m₂ x₂ = some v₂ → Fr h₀ L h m → News h₀ L h ((I, oI) :: (C, oC) :: (D, lst ys) :: news) → Off3 I C D news → ((@Ne Nat I C) ∧ (@Ne Nat I D) ∧ (@Ne Nat C D)) →
      wpAny (model prog w) A (isTrue ct (compEnvC scope cl C env) (eval ct (compEnvC scope cl C env))) (fun ok s' => if ok = true then
        wpAny (model prog w) A (eval elt (compEnvC scope cl C env)) (CompEnd h₀ L m { s with heap := h, toks := tk } I oI C oC D (lst ys) S (fun y news' => J (i + 1) (ys ++ [y]) news')) E' s'
        else CompEnd h₀ L m { s with heap := h, toks := tk } I oI C oC D (lst ys) S (fun _ news' => J (i + 1) ys news') Value.none s') E' { s with heap := h, toks := tk }

/-- where the loop of a comprehension over pairs stands -/
noncomputable def LoopI (h₀ : Heap) (L : Addr) (m : Str → Option Value) (s₂ : Shared) (I ax C D : Addr) (vs : List Value) (J : Nat → List Value → List (Addr × Obj) → Prop) (k : Nat) (s' : Shared) : Prop :=
  ∃ h' tk i ys m' news', s' = { s₂ with heap := h', toks := tk } ∧ i ≤ vs.length ∧ k = vs.length + 1 - i ∧ ys.length ≤ i ∧ (h'.IsListIter I ax i ∧ h'.IsList ax (List.toArray vs)) ∧ Fr h₀ L h' m ∧ h'.Ns C m' ∧ News h₀ L h' ((D, lst ys) :: news') ∧ Off3 I C D news' ∧ SrcAt h₀ ax (List.toArray vs) news' ∧ J i ys news'
theorem LoopI.out {s₂ : Shared} {I ax C D : Addr} {vs : List Value} {J : Nat → List Value → List (Addr × Obj) → Prop} {k : Nat} {s' : Shared} {P : Shared → Prop} (x : LoopI h₀ L m s₂ I ax C D vs J k s')
    (f : ∀ h' tk i ys m' news', i ≤ vs.length → k = vs.length + 1 - i → ys.length ≤ i → (h'.IsListIter I ax i ∧ h'.IsList ax (List.toArray vs)) → Fr h₀ L h' m → h'.Ns C m' → News h₀ L h' ((D, lst ys) :: news') → Off3 I C D news' → SrcAt h₀ ax (List.toArray vs) news' → J i ys news' → P { s₂ with heap := h', toks := tk }) : P s' := by
  obtain ⟨h', tk, i, ys, m', news', rfl, hi, hk, hyl, hst', F', hn', N', off', hS', hJ'⟩ := x
  exact f h' tk i ys m' news' hi hk hyl hst' F' hn' N' off' hS' hJ'
theorem block_PT {elt iter ct : PySem.Expr} {x x₂ : Str} {px px₂ tp : Pos} {kk : Nat} {scope : Scope} {cl : List (Str × Addr)} {pos : Pos} {s₂ : Shared} {I ax : Addr} {vs : List Value} {news : List (Addr × Obj)} {J : Nat → List Value → List (Addr × Obj) → Prop} {RR : Value → Addr → Result → Shared → Prop}
    (W : Walks prog w A I [I, ax] [I] (List.toArray vs).size (fun i v => (List.toArray vs)[i]? = some v) (fun i h => h.IsListIter I ax i ∧ h.IsList ax (List.toArray vs))) (hh : A.handled = none) (hsz : vs.length ≤ sizeLine)
    (hcell : ∀ y ∈ scope.names, y.2 ≠ .cell) (hkind : scope.kind = .function) (hx : scope.names.lookup x = some .local) (hx₂ : scope.names.lookup x₂ = some .local) (hxx : x ≠ x₂)
    (hst : s₂.heap.IsListIter I ax 0 ∧ s₂.heap.IsList ax (List.toArray vs)) (hIlt : I < s₂.heap.objs.size) (haxlt : ax < s₂.heap.objs.size)
    (F2 : Fr h₀ L s₂.heap m) (N2 : News h₀ L s₂.heap news) (hIL : L ≠ I) (hI₀ : h₀.get? I = none) (offI : ∀ p ∈ news, p.1 ≠ I) (S0 : SrcAt h₀ ax (List.toArray vs) news) (hJ0 : J 0 [] news)
    (TR : TurnPT prog w A h₀ L m env ct elt x x₂ scope cl s₂ (SrcAt h₀ ax (List.toArray vs)) vs J)
    (hRR : ∀ D C h tk m' ys news', Fr h₀ L h m → News h₀ L h ((D, lst ys) :: news') → Off1 D news' → h.Ns C m' → h₀.get? C = none → C ≠ L → D ≠ C → (∀ p ∈ news', p.1 ≠ C) → J vs.length ys news' → RR (.ref D) C (.ok .next) { s₂ with heap := h, toks := tk }) :
    wpAny (model prog w) A (newList []) (fun acc s₃ => wpAny (model prog w) A (newFunctionEnv scope env.globals cl [] env.qual none .none (some env)) (fun cenv s₄ =>
      codeAny (model prog w) A (.compStart (.ListComp elt [⟨.Tuple [.Name x px, .Name x₂ px₂] kk tp, iter, [ct], 0⟩] scope pos) 0 (.ref I) acc { cenv with scope := relabel scope env }) (RR acc cenv.locals) s₄) E s₃) E s₂ := by
  have hst4 : ∀ i (h h' : Heap) (o : Obj) (nw : List (Addr × Obj)), (h.IsListIter I ax i ∧ h.IsList ax (List.toArray vs)) → h.get? I = some o → h'.get? I = some o → (∀ b o, h₀.get? b = some o → h'.get? b = some o) → News h₀ L h' nw → SrcAt h₀ ax (List.toArray vs) nw → (h'.IsListIter I ax i ∧ h'.IsList ax (List.toArray vs)) := list_st
  refine wpAny_newObj_type (wpAny_newFunctionEnv hcell (by intro y hy; simp at hy) (fun h₁ hns₁ hsb₁ => ?_) hkind)
  dsimp only at hns₁ hsb₁ ⊢
  generalize hH2 : s₂.heap.push { cls := .type "list", dict := none, data := .seq ([] : List Value).toArray } = H2 at hns₁ hsb₁ ⊢
  have hC : H2.objs.size = s₂.heap.objs.size + 1 := by rw [← hH2, Heap.size_push]
  generalize hDdef : s₂.heap.objs.size = D at *
  have hDC : D ≠ H2.objs.size := by rw [hC]; exact Nat.ne_of_lt (Nat.lt_succ_self _)
  have below : ∀ b, b < D → b ≠ H2.objs.size ∧ b ≠ D := fun b hb => ⟨by rw [hC]; exact Nat.ne_of_lt (Nat.lt_succ_of_lt hb), Nat.ne_of_lt hb⟩
  have old : ∀ b o, s₂.heap.get? b = some o → h₁.get? b = some o := fun b o e => hsb₁.extBut b o (below b (hDdef ▸ Heap.lt_size e)).1 (Heap.get?_push_of_some _ (hH2 ▸ Heap.get?_push_of_some _ e))
  have hacc : h₁.get? D = some (lst []) := by
    rw [← hDdef] at hDC ⊢
    exact hsb₁.extBut _ _ hDC (Heap.get?_push_of_some _ (hH2 ▸ Heap.get?_push_size _ rfl))
  have hst₁ : h₁.IsListIter I ax 0 ∧ h₁.IsList ax (List.toArray vs) := W.frame _ _ _ hst fun b _ o e => old b o e
  have fresh₀ : ∀ a, D ≤ a → h₀.get? a = none := fun a ha => by
    cases e : h₀.get? a with
    | none => rfl
    | some o' => exact absurd (Heap.lt_size (F2.keep a o' e)) (Nat.not_lt.mpr (hDdef ▸ ha))
  have hD₀ : h₀.get? D = none := fresh₀ _ (Nat.le_refl _)
  have hC₀ : h₀.get? H2.objs.size = none := fresh₀ _ (by rw [hC]; exact Nat.le_succ _)
  have hLlt : L < D := hDdef ▸ F2.ns.lt
  have hDL : D ≠ L := Ne.symm (below L hLlt).2
  have hCL : H2.objs.size ≠ L := Ne.symm (below L hLlt).1
  have hCI : I ≠ H2.objs.size := (below I hIlt).1
  have hDI : I ≠ D := (below I hIlt).2
  have hDf : D ∉ [I, ax] := fun hm => by
    rcases List.mem_cons.mp hm with e | hm
    · exact hDI e.symm
    · exact (below ax haxlt).2 (List.mem_singleton.mp hm).symm
  have hCf : H2.objs.size ∉ [I, ax] := fun hm => by
    rcases List.mem_cons.mp hm with e | hm
    · exact hCI e.symm
    · exact (below ax haxlt).1 (List.mem_singleton.mp hm).symm
  have off₀ : Off3 I H2.objs.size D news := Off3.of fun p hp => ⟨offI p hp, (below _ (hDdef ▸ Heap.lt_size (N2 p hp).1)).1, (below _ (hDdef ▸ Heap.lt_size (N2 p hp).1)).2⟩
  generalize hCdef : H2.objs.size = C at *
  have hsize : (List.toArray vs).size = vs.length := List.size_toArray ..
  have loop : ∀ s₃ : Shared, s₃ = { s₂ with heap := h₁, toks := s₂.toks + ([] : List (Str × Value)).length } →
      codeAny (model prog w) A (.compLoop (.ListComp elt [⟨.Tuple [.Name x px, .Name x₂ px₂] kk tp, iter, [ct], 0⟩] scope pos) 0 (.ref I) (.ref D) (compEnvC scope cl C env))
        (RR (.ref D) C) s₃ := by
    rintro s₃ rfl
    refine kct_loop (LoopI h₀ L m s₂ I ax C D vs J) ?_ (vs.length + 1)
      ⟨h₁, _, 0, [], _, news, rfl, Nat.zero_le _, rfl, Nat.le_refl _, hst₁, F2.keeps old, hns₁, fun p hp => ?_, off₀, S0, hJ0⟩
    · intro k s' hx
      refine LoopI.out (P := fun s' => wpAny _ _ _ _ _ s') hx ?_
      clear hx
      intro h' tk i ys m' news' hi hk hyl hst' F' hn' N' off' hS' hJ'
      have off3 := off'.mem
      by_cases hlt : i < vs.length
      · refine W.item i _ _ _ (by rw [hsize]; exact hlt) hst' fun v h₂ tk₂ hPv hst₂ hk₂ => ?_
        obtain ⟨t, ot, v₁, v₂, nt, rfl, hmt, hct, hdt, R''⟩ := TR i ys news' v (by simpa using hPv) hJ'
        have N₂ : News h₀ L h₂ ((D, lst ys) :: news') := news_but N' hk₂ fun p hp => by
          rcases List.mem_cons.mp hp with rfl | hp
          · exact Ne.symm hDI
          · exact (off3 p hp).1
        have ht : IsTup h₂ t #[v₁, v₂] := ⟨ot, (N₂ _ (List.mem_cons_of_mem _ hmt)).1, hct, nt, hdt⟩
        refine wpAny_letOwnedTupleGo_listiter hst₂.1 ?_
        refine assign_Tuple_tuple hh ht rfl rfl fun h₅ he => ?_
        have he' : ∀ b o, h₂.get? b = some o → h₅.get? b = some o := fun b o e => he b o (Nat.ne_of_lt (Heap.lt_size e)) e
        refine assignInOrder_cons (wpAny_assign_Name (wpAny_storeName_local (lookup_relabel_local hx) ((hn'.at' fun o e => hk₂ _ o (by simpa using Ne.symm hCI) e).at' fun o e => he' _ o e) (fun h₆ hn₆ hs₆ => ?_) (by simp [compEnvC, relabel, hkind])))
        refine assignInOrder_cons (wpAny_assign_Name (wpAny_storeName_local (lookup_relabel_local hx₂) hn₆ (fun h₃ hn₃ hs₃ => ?_) (by simp [compEnvC, relabel, hkind])))
        refine assignInOrder_nil ?_
        have old3 : ∀ b o, b ≠ C → h₂.get? b = some o → h₃.get? b = some o := fun b o hb e => hs₃.extBut b o hb (hs₆.extBut b o hb (he' b o e))
        have hst₃ : h₃.IsListIter I ax (i + 1) ∧ h₃.IsList ax (List.toArray vs) := W.frame _ _ _ hst₂ fun b hb o e => old3 b o (fun q => hCf (by rw [← q]; exact hb)) e
        obtain ⟨oI, heI⟩ : ∃ o, h₃.get? I = some o := by obtain ⟨o, e, _⟩ := hst₃.1; exact ⟨o, e⟩
        obtain ⟨oC, heC, hoC⟩ := ns_obj hn₃
        have F₃ : Fr h₀ L h₃ m := (((fr_but F' hk₂ hIL hI₀).keeps he').change hs₆ hCL hC₀).change hs₃ hCL hC₀
        have N₃ : News h₀ L h₃ ((I, oI) :: (C, oC) :: (D, lst ys) :: news') := fun p hp => by
          rcases List.mem_cons.mp hp with rfl | hp
          · exact ⟨heI, Ne.symm hIL, hI₀⟩
          · rcases List.mem_cons.mp hp with rfl | hp
            · exact ⟨heC, hCL, hC₀⟩
            · have z := N₂ p hp
              refine ⟨old3 _ _ ?_ z.1, z.2⟩
              rcases List.mem_cons.mp hp with rfl | hp
              · exact hDC
              · exact (off3 p hp).2.1
        have fin : ∀ (ys' : List Value) (h₅ : Heap) (tk₅ : Nat) (news₅ : List (Addr × Obj)), ys'.length ≤ i + 1 → Fr h₀ L h₅ m → News h₀ L h₅ ((I, oI) :: (C, oC) :: (D, lst ys') :: news₅) → Off3 I C D news₅ → SrcAt h₀ ax (List.toArray vs) news₅ → J (i + 1) ys' news₅ →
            ∃ q', q' < k ∧ LoopI h₀ L m s₂ I ax C D vs J q' { s₂ with heap := h₅, toks := tk₅ } := by
          intro ys' h₅ tk₅ news₅ hl F₅ N₅ off₅ hS₅ R₅
          have zI := (N₅ (I, oI) List.mem_cons_self).1
          have zC := (N₅ (C, oC) (List.mem_cons_of_mem _ List.mem_cons_self)).1
          have N₅' : News h₀ L h₅ news₅ := fun p hp => N₅ p (List.mem_cons_of_mem _ (List.mem_cons_of_mem _ (List.mem_cons_of_mem _ hp)))
          exact ⟨vs.length + 1 - (i + 1), by lia, h₅, tk₅, i + 1, ys', _, news₅, rfl, hlt, rfl, hl, hst4 _ _ _ _ _ hst₃ heI zI F₅.keep N₅' hS₅, F₅, hoC.ns zC, fun q hq => N₅ q (List.mem_cons_of_mem _ (List.mem_cons_of_mem _ hq)), off₅, hS₅, R₅⟩
        refine wpAny_mono (R'' I oI C oC D _ h₃ _ _ hoC (by simp [hxx]) (by simp) F₃ N₃ off' ⟨hCI, hDI, Ne.symm hDC⟩) (fun okb s₅ h₅ => ?_) fun _ _ e => e
        cases okb with
        | false =>
          simp only [Bool.false_eq_true, if_false] at h₅ ⊢
          obtain ⟨h₅, tk₅, news₅, rfl, F₅, N₅, off₅, hS₅, R₅⟩ := h₅
          exact fin ys h₅ tk₅ news₅ (Nat.le_succ_of_le hyl) F₅ N₅ off₅ hS₅ R₅
        | true =>
          simp only [if_true] at h₅ ⊢
          refine wpAny_mono h₅ (fun y s₆ h₆ => ?_) fun _ _ e => e
          obtain ⟨h₅, tk₅, news₅, rfl, F₅, N₅, off₅, hS₅, R₅⟩ := h₆
          have zI := (N₅ (I, oI) List.mem_cons_self).1
          have zC := (N₅ (C, oC) (List.mem_cons_of_mem _ List.mem_cons_self)).1
          have zD := (N₅ (D, lst ys) (List.mem_cons_of_mem _ (List.mem_cons_of_mem _ List.mem_cons_self))).1
          have N₅' : News h₀ L h₅ news₅ := fun p hp => N₅ p (List.mem_cons_of_mem _ (List.mem_cons_of_mem _ (List.mem_cons_of_mem _ hp)))
          refine append_at (hsz := by show ys.toArray.size ≤ sizeLine; rw [List.size_toArray]; exact Nat.le_trans hyl (Nat.le_trans hi hsz)) zD fun h₆ hs₆ hD₆ => ?_
          have off5 := off₅.mem
          refine fin (ys ++ [y]) h₆ _ news₅ (by rw [List.length_append, List.length_singleton]; exact Nat.succ_le_succ hyl) (F₅.change hs₆ hDL hD₀) (fun q hq => ?_) off₅ hS₅ R₅
          rcases List.mem_cons.mp hq with rfl | hq
          · exact ⟨hs₆.extBut I oI hDI zI, Ne.symm hIL, hI₀⟩
          rcases List.mem_cons.mp hq with rfl | hq
          · exact ⟨hs₆.extBut _ oC (Ne.symm hDC) zC, hCL, hC₀⟩
          rcases List.mem_cons.mp hq with rfl | hq
          · exact ⟨hD₆.trans (congrArg some (lst_snoc ys y)), hDL, hD₀⟩
          · exact ⟨hs₆.extBut _ _ (off5 q hq).2.2 (N₅' q hq).1, (N₅' q hq).2⟩
      · have hin : i = vs.length := Nat.le_antisymm hi (Nat.not_lt.mp hlt)
        subst hin
        refine W.done _ _ _ (by rw [hsize]; exact hst') fun h₂ tk₂ hk₂ => ?_
        have F₂ := fr_but F' hk₂ hIL hI₀
        have N₂ : News h₀ L h₂ ((D, lst ys) :: news') := news_but N' hk₂ fun p hp => by
          rcases List.mem_cons.mp hp with rfl | hp
          · exact Ne.symm hDI
          · exact (off3 p hp).1
        have hn₂ : h₂.Ns C m' := hn'.at' fun o e => hk₂ _ o (by simpa using Ne.symm hCI) e
        exact hRR D C h₂ tk₂ m' ys news' F₂ N₂ off'.one hn₂ hC₀ hCL hDC (fun p hp => (off3 p hp).2.1) hJ'
    · rcases List.mem_cons.mp hp with rfl | hp
      · exact ⟨hacc, hDL, hD₀⟩
      · exact ⟨old _ _ (N2 p hp).1, (N2 p hp).2⟩
  exact codeAny_compStart_list (loop _ rfl) (W.self 0 _ _ _ hst₁ (loop _ rfl))
theorem comp_pt {elt iter ct : PySem.Expr} {x x₂ : Str} {px px₂ tp : Pos} {kk : Nat} {scope : Scope} {cl : List (Str × Addr)} {pos : Pos} {Q : Value → Shared → Prop} (F₀ : Fr h₀ L s.heap m)
    (hclos : closureFor scope env = pure cl) (hcell : ∀ y ∈ scope.names, y.2 ≠ .cell) (hkind : scope.kind = .function)
    (hnames : ∀ y ∈ scope.names, y.2 = .local → scope.names.lookup y.1 = some .local) (hx : scope.names.lookup x = some .local) (hx₂ : scope.names.lookup x₂ = some .local) (hxx : x ≠ x₂)
    (h : wpAny (model prog w) A (eval iter env) (fun xv s₁ => ∃ ax vs k news J, xv = .ref ax ∧ A.handled = none ∧ Fr h₀ L s₁.heap m ∧ News h₀ L s₁.heap news ∧ (ax, ({ cls := .type "list", data := .seq (List.toArray vs) k } : Obj)) ∈ news ∧ vs.length ≤ sizeLine ∧ J 0 [] news ∧
      (∀ s₂ : Shared, (∃ h, s₂ = { s₁ with heap := h }) → TurnPT prog w A h₀ L m env ct elt x x₂ scope cl s₂ (SrcAt h₀ ax (List.toArray vs)) vs J ∧ ∀ ys news', J vs.length ys news' → FinE h₀ L m s₂ Q ys news')) E s)
    (hs : ∀ x, foldedSetIterable iter env x = pure x := by intro _; rfl) :
    wpAny (model prog w) A (eval (.ListComp elt [⟨.Tuple [.Name x px, .Name x₂ px₂] kk tp, iter, [ct], 0⟩] scope pos) env) Q E s := by
  rw [eval_ListComp]
  refine wpAny_comprehension_free (use := none) rfl hs hclos hkind hnames (wpAny_mono h (fun xv s₁ h₁ => ?_) fun _ _ e => e)
  obtain ⟨ax, vs, k, news, J, rfl, hh, F, N, hmem, hsz, hJ0, R⟩ := h₁
  have S0 : SrcAt h₀ ax (List.toArray vs) news := .inr ⟨_, hmem, rfl, _, rfl⟩
  have hl := S0.list F.keep N
  have hlt : ax < s₁.heap.objs.size := by obtain ⟨_, e, _⟩ := hl; exact Heap.lt_size e
  refine wpAny_pyIter_list hl ?_
  have up : ∀ b o, s₁.heap.get? b = some o → (s₁.heap.push { cls := .type "list_iterator", data := .fields #[.ref ax, .int 0 0] }).get? b = some o := fun b o e => Heap.get?_push_of_some _ e
  obtain ⟨TR, FN⟩ := R { s₁ with heap := s₁.heap.push { cls := .type "list_iterator", data := .fields #[.ref ax, .int 0 0] } } ⟨_, rfl⟩
  generalize hs2 : ({ s₁ with heap := s₁.heap.push { cls := .type "list_iterator", data := .fields #[.ref ax, .int 0 0] } } : Shared) = s₂ at TR FN ⊢
  generalize hIdef : s₁.heap.objs.size = I
  have hheap : s₂.heap = s₁.heap.push { cls := .type "list_iterator", data := .fields #[.ref ax, .int 0 0] } := by rw [← hs2]
  have hIlt : I < s₂.heap.objs.size := by rw [hheap, Heap.size_push, ← hIdef]; exact Nat.lt_succ_self _
  have haxlt : ax < s₂.heap.objs.size := by rw [hheap, Heap.size_push]; exact Nat.lt_succ_of_lt hlt
  have F2 : Fr h₀ L s₂.heap m := by rw [hheap]; exact F.keeps up
  have N2 : News h₀ L s₂.heap news := by rw [hheap]; exact N.grown up
  have hIL : L ≠ I := by rw [← hIdef]; exact Nat.ne_of_lt F.ns.lt
  have hI₀ : h₀.get? I = none := by rw [← hIdef]; exact next_is_new F
  have offI : ∀ p ∈ news, p.1 ≠ I := fun p hp => by rw [← hIdef]; exact Nat.ne_of_lt (Heap.lt_size (N p hp).1)
  have hst : s₂.heap.IsListIter I ax 0 ∧ s₂.heap.IsList ax (List.toArray vs) := by rw [hheap, ← hIdef]; exact ⟨⟨_, Heap.get?_push_size _ rfl, rfl, rfl⟩, hl.push _⟩
  have W := Walks.list (prog := prog) (w := w) hh I ax (by rw [← hIdef]; exact Nat.ne_of_lt hlt) (List.toArray vs)
  refine block_PT W hh hsz hcell hkind hx hx₂ hxx hst hIlt haxlt F2 N2 hIL hI₀ offI S0 hJ0 TR ?_
  intro D C h tk m' ys news' F' N' o1 hn hC₀ hCL hDC offC hJ'
  refine ⟨m', hn, fun h'' hs'' => FN ys news' hJ' D h'' tk (F'.change hs'' hCL hC₀) (fun p hp => ?_) o1⟩
  refine ⟨hs''.extBut _ _ ?_ (N' p hp).1, (N' p hp).2⟩
  rcases List.mem_cons.mp hp with rfl | hp
  · exact hDC
  · exact offC p hp
end
end Mine
end

section
open PySem PySem.W PyProof.Rows PyProof.Rows.LCg PySem.Spec PySem.Calls
set_option maxRecDepth 100000
set_option maxHeartbeats 2000000
namespace Mine
section
variable {prog : Program} {w : World} {A : Around} {E : Value → Shared → Prop} {s : Shared} {h₀ : Heap} {L : Addr} {m : Str → Option Value} {env : Env}
/-- a comprehension over a text's signs -/
theorem comp_str {elt iter : PySem.Expr} {x : Str} {px : Pos} {scope : Scope} {cl : List (Str × Addr)} {pos : Pos} {Q : Value → Shared → Prop} (_F₀ : Fr h₀ L s.heap m)
    (hclos : closureFor scope env = pure cl) (hcell : ∀ y ∈ scope.names, y.2 ≠ .cell) (hkind : scope.kind = .function)
    (hnames : ∀ y ∈ scope.names, y.2 = .local → scope.names.lookup y.1 = some .local) (hx : scope.names.lookup x = some .local)
    (h : wpAny (model prog w) A (eval iter env) (fun xv s₁ => ∃ tx t news, xv = .str tx t ∧ A.handled = none ∧ Fr h₀ L s₁.heap m ∧ News h₀ L s₁.heap news ∧ tx.cps.size ≤ sizeLine ∧
      ∀ s₂ : Shared, (∃ h, s₂ = { s₁ with heap := h }) → CompRest prog w A h₀ L m env elt x scope cl s₂ (fun _ => True) (SignAt tx) (FinE h₀ L m s₂ Q) tx.cps.size 0 [] news) E s)
    (hs : ∀ x, foldedSetIterable iter env x = pure x := by intro _; rfl) :
    wpAny (model prog w) A (eval (.ListComp elt [⟨.Name x px, iter, [], 0⟩] scope pos) env) Q E s := by
  rw [eval_ListComp]
  refine wpAny_comprehension_free (use := none) rfl hs hclos hkind hnames (wpAny_mono h (fun xv s₁ h₁ => ?_) fun _ _ e => e)
  obtain ⟨tx, t, news, rfl, hh, F, N, hsz, R⟩ := h₁
  have go : ∀ (cls : String) (o : Obj), (∀ (I : Addr), Walks prog w A I [I] [I] tx.cps.size (SignAt tx) (fun i h => h.IsStrIter I cls tx t i)) → (s₁.heap.push o).IsStrIter s₁.heap.objs.size cls tx t 0 →
      wpAny (model prog w) A (newList []) (fun acc s₃ => wpAny (model prog w) A (newFunctionEnv scope env.globals cl [] env.qual none .none (some env)) (fun cenv s₄ =>
        codeAny (model prog w) A (.compStart (.ListComp elt [⟨.Name x px, iter, [], 0⟩] scope pos) 0 (.ref s₁.heap.objs.size) acc { cenv with scope := relabel scope env }) (compPost (model prog w) A E none Q acc cenv.locals) s₄) E s₃) E { s₁ with heap := s₁.heap.push o } := by
    intro cls o W hst
    have up : ∀ b o', s₁.heap.get? b = some o' → (s₁.heap.push o).get? b = some o' := fun b o' e => Heap.get?_push_of_some _ e
    refine block_U (W s₁.heap.objs.size) hsz (fun i h st => by obtain ⟨o, e, _⟩ := st; exact ⟨o, e⟩) (fun i h h' o' nw st e e' _ _ _ => ?_) hcell hkind hx hst (fun b hb => ?_)
      (F.keeps up) (N.grown up) (Nat.ne_of_lt F.ns.lt) (next_is_new F) (fun p hp => Nat.ne_of_lt (Heap.lt_size (N p hp).1)) trivial (R _ ⟨_, rfl⟩) ?_
    · obtain ⟨o2, q, r⟩ := st
      rw [e] at q
      cases q
      exact ⟨_, e', r⟩
    · show b < (s₁.heap.push _).objs.size
      rw [Heap.size_push, List.mem_singleton.mp hb]
      exact Nat.lt_succ_self _
    · intro D C h tk m' ys news' F' N' o1 hn hC₀ hD₀ hCL hDL hCD offC fin
      refine ⟨m', hn, fun h'' hs'' => fin D h'' tk (F'.change hs'' hCL hC₀) (fun p hp => ?_) o1⟩
      refine ⟨hs''.extBut _ _ ?_ (N' p hp).1, (N' p hp).2⟩
      rcases List.mem_cons.mp hp with rfl | hp
      · exact Ne.symm hCD
      · exact offC p hp
  cases ha : tx.cps.all (· < 128)
  · exact wpAny_pyIter_wide ha (go "str_iterator" _ (fun I => Walks.strWide hh I tx t) ⟨_, Heap.get?_push_size _ rfl, rfl, rfl⟩)
  · exact wpAny_pyIter_ascii ha (go "str_ascii_iterator" _ (fun I => Walks.strAscii hh I tx t) ⟨_, Heap.get?_push_size _ rfl, rfl, rfl⟩)
end
end Mine
end

section
open PySem PySem.W PyProof.Rows
set_option maxRecDepth 100000
set_option maxHeartbeats 2000000
namespace Mine
/-- how a turn ends -/
noncomputable def LEnd (h₀ : Heap) (L : Addr) (I : Addr) (oI : Obj) (J : (Str → Option Value) → List (Addr × Obj) → Prop) (s₁ : Shared) (f : Flow) (s₂ : Shared) : Prop :=
  f = .next ∧ ∃ h' tk m' news', s₂ = { s₁ with heap := h', toks := tk } ∧ Fr h₀ L h' m' ∧ News h₀ L h' ((I, oI) :: news') ∧ (∀ p ∈ news', p.1 ≠ I) ∧ J m' news'
section
variable {prog : Program} {w : World} {A : Around} {E : Value → Shared → Prop} {s : Shared} {h₀ : Heap} {env : Env}
/-- a loop over a range with any target -/
theorem for_rngT {target : PySem.Expr} {body : List Stmt} {Q : Flow → Shared → Prop} {r : Addr} {a b c : Int} {t₀ u₀ v₀ : Tok} {n : Nat} {m₀ : Str → Option Value} {news : List (Addr × Obj)} (J : Nat → (Str → Option Value) → List (Addr × Obj) → Prop)
    (hh : A.handled = none) (hgo : ∀ I v, letOwnedTupleGo target (.ref I) v = pure ()) (hr : IsRange s.heap r a b c t₀ u₀ v₀) (hsm : Builtin.Range.small a b c = true) (hn : Builtin.Range.rangeSize a b c = (n : Int)) (F : Fr h₀ env.locals s.heap m₀) (N : News h₀ env.locals s.heap news) (hj : J 0 m₀ news)
    (turn : ∀ (i : Nat) (t : Tok) m₁ news₁ s₁ I oI, i < n → oI.cls = .type "range_iterator" → J i m₁ news₁ → (∀ p ∈ news₁, p.1 ≠ I) → Fr h₀ env.locals s₁.heap m₁ → News h₀ env.locals s₁.heap ((I, oI) :: news₁) →
      wpAny (model prog w) A (assign target env (.int (a + i * c) t)) (fun _ s₃ => wpAny (model prog w) A (execs body env) (LEnd h₀ env.locals I oI (J (i + 1)) s₁) E s₃) E s₁)
    (done : ∀ m₁ news₁ h tk, J n m₁ news₁ → Fr h₀ env.locals h m₁ → News h₀ env.locals h news₁ → Q .next { s with heap := h, toks := tk }) :
    wpAny (model prog w) A (pyIter (.ref r)) (fun it s₂ => LoopAtT prog w A h₀ env target body Q E it s₂) E s := by
  refine wpAny_pyIter_range hr hsm ?_
  have W := Walks.range (prog := prog) (w := w) hh s.heap.objs.size a c n
  refine ⟨_, _, _, n, _, _, m₀, news, J, rfl, W, ?_, ?_, ?_, (by show IsRangeIter _ _ _ _ _; rw [hn]; simpa using Heap.get?_push_size _ rfl), F.push _, (fun p hp => ⟨Heap.get?_push_of_some _ (N p hp).1, (N p hp).2⟩), ?_, hj, ?_, ?_⟩
  · intro hm
    exact absurd F.ns.lt (List.mem_singleton.mp hm ▸ Nat.lt_irrefl _)
  · intro b hb
    rw [List.mem_singleton.mp hb]
    exact next_is_new F
  · intro p hp hI
    exact absurd (Heap.lt_size (N p hp).1) ((List.mem_singleton.mp hI) ▸ Nat.lt_irrefl _)
  · intro i s' v Q' _ hQ
    rw [hgo]
    exact wpAny_pure hQ
  · rintro i v m₁ news₁ s₁ own hin ⟨t, rfl⟩ hJ hoff hown hget hall hst F₁ N₁
    have hI₀ : h₀.get? s.heap.objs.size = none := next_is_new F
    have hoI : ∃ oI, s₁.heap.get? s.heap.objs.size = some oI ∧ oI.cls = .type "range_iterator" := ⟨_, hst, rfl⟩
    obtain ⟨oI, hoI, hcl⟩ := hoI
    have hmem : (s.heap.objs.size, oI) ∈ own := hall _ (List.mem_singleton.mpr rfl) hI₀ _ hoI
    have hone : ∀ p ∈ own, p = (s.heap.objs.size, oI) := fun p hp => by
      have h1 := List.mem_singleton.mp (hown p hp)
      have h2 := hget p hp
      rw [h1] at h2
      have h3 : some oI = some p.2 := hoI.symm.trans h2
      cases p
      simp only at h1 h3
      rw [h1, Option.some.inj h3]
    have hoff' : ∀ p ∈ news₁, p.1 ≠ s.heap.objs.size := fun p hp e => hoff p hp (by rw [e]; exact List.mem_singleton.mpr rfl)
    have N₂ : News h₀ env.locals s₁.heap ((s.heap.objs.size, oI) :: news₁) := fun p hp => N₁ p ((List.mem_cons.mp hp).elim (fun h => List.mem_append.mpr (.inl (h ▸ hmem))) fun h => List.mem_append.mpr (.inr h))
    refine wpAny_mono (turn i t m₁ news₁ s₁ _ oI hin hcl hJ hoff' F₁ N₂) (fun _ s₃ p => wpAny_mono p (fun f s₂ p => ?_) fun _ _ e => e) fun _ _ e => e
    obtain ⟨rfl, h', tk, m', news', e, F', N', hof, hm⟩ := p
    refine ⟨rfl, h', tk, m', news', e, F', fun p hp => N' p ((List.mem_append.mp hp).elim (fun h => ?_) fun h => List.mem_cons_of_mem _ h), fun p hp e => hof p hp (List.mem_singleton.mp e), hm⟩
    rw [hone p h]
    exact List.mem_cons_self
  · rintro h' tk m' news' F' N' _ hJ
    exact done m' news' h' tk hJ F' N'
end
end Mine
end

section
open PySem PySem.W PyProof.Rows PyProof.V PySem.Spec
namespace Mine
theorem canLay_strs : ∀ ns : List Str, (∀ x ∈ ns, PyData.strOk x = true) → PyData.canLayAll0 (ns.map PyData.str) = true
  | [], _ => rfl
  | a :: r, h => by simp [PyData.canLayAll0, PyData.canLay0, canLay_strs r fun x hx => h x (.tail _ hx), h a (.head _)]
theorem depth_strs : ∀ ns : List Str, PyData.depthAll (ns.map PyData.str) = 0
  | [] => rfl
  | _ :: r => by simp [PyData.depthAll, PyData.depth, depth_strs r]
theorem shaped_strs (ns : List Str) (h : ∀ x ∈ ns, PyData.strOk x = true) : SeqAt.shaped (.list (ns.map PyData.str)) = true := by
  simp [SeqAt.shaped, PyData.canLay0, PyData.depth, canLay_strs ns h, depth_strs]
theorem same_nil : ∀ ns : List Str, PySem.Spec.same (.list (ns.map PyData.str)) (.list (([] : List Str).map PyData.str)) = decide (ns = [])
  | [] => by simp [PySem.Spec.same, PySem.Spec.sameAll]
  | _ :: _ => by simp [PySem.Spec.same, PySem.Spec.sameAll]
/-- a list of texts unlike the empty one -/
theorem ne_strs_nil {prog : Program} {w : World} {A : Around} {E : Value → Shared → Prop} {s : Shared} {a b : Addr} {xs : List Value} {ns : List Str} {Q : Value → Shared → Prop}
    (ha : s.heap.IsList a xs.toArray) (hb : s.heap.IsList b (([] : List Value)).toArray) (hi : StrsAre xs ns) (hok : ∀ x ∈ ns, PyData.strOk x = true) (hu : A.units + 64 < cLine) (h : Q (.bool (!decide (ns = []))) s) :
    wpAny (model prog w) A (compareOp .NotEq (.ref a) (.ref b)) Q E s :=
  ne_dataH_same (reads_newData ha hi.carried) (reads_newData (ds := ([] : List Str).map PyData.str) hb .nil) (shaped_strs _ hok) (shaped_strs _ (fun _ hx => nomatch hx)) hu (SeqAt.noMix_of_shape (.list .str) rfl _ _ (list_map_has fun _ => rfl) (list_map_has fun _ => rfl)) (by rw [same_nil]; exact h)
end Mine
end

section
open PySem PySem.Builtin PySem.Builtin.Str
namespace Mine
/-- a text's signs -/
noncomputable def toL (x : Str) : List Nat := x.cps.toList
theorem toL_len (x : Str) : (toL x).length = x.length := rfl
theorem toL_inj {x y : Str} : toL x = toL y ↔ x = y := by
  constructor
  · intro h
    obtain ⟨⟨a⟩⟩ := x
    obtain ⟨⟨b⟩⟩ := y
    simp only [toL] at h
    rw [h]
  · intro h; rw [h]
theorem toL_mk (l : List Nat) : toL ⟨l.toArray⟩ = l := rfl

theorem sliceRange_nat (a b : Nat) : sliceRange (a : Int) (b : Int) 1 = (List.range (b - a)).map (a + ·) := by
  unfold sliceRange
  have e : (if (1 : Int) > 0 then (if (a : Int) < b then ((b : Int) - a + 1 - 1) / 1 else 0) else (if (a : Int) > b then ((a : Int) - b - 1 - 1) / (-1) else 0)).toNat = b - a := by
    rw [if_pos (by decide)]
    split
    · simp only [Int.ediv_one]; lia
    · lia
  simp only [e]
  refine List.map_congr_left fun k _ => ?_
  lia

theorem pick_range (l : List Nat) (a n : Nat) (h : a + n ≤ l.length) : ((List.range n).map (a + ·)).filterMap (fun i => l.toArray[i]?) = (l.drop a).take n := by
  induction n with
  | zero => simp
  | succ n ih =>
    rw [List.range_succ, List.map_append, List.filterMap_append, ih (by lia)]
    have hi : a + n < l.length := by lia
    rw [List.take_add_one]
    congr 1
    simp [hi]

theorem slice_gen (x : Str) (l u : Option Int) (a b : Nat) (hb : b ≤ x.length) (hab : a ≤ b)
    (ha : (match l with | none => (0 : Int) | some i => max 0 (min (if i < 0 then i + (x.length : Int) else i) x.length)) = (a : Int))
    (hu : (match u with | none => (x.length : Int) | some i => max 0 (min (if i < 0 then i + (x.length : Int) else i) x.length)) = (b : Int)) :
    toL (Txt.slice x l u) = ((toL x).drop a).take (b - a) := by
  have e : strSliceIndices l u 1 x.length = (List.range (b - a)).map (a + ·) := by
    rw [← sliceRange_nat, ← ha, ← hu]
    unfold strSliceIndices
    cases l <;> cases u <;> simp
  unfold Txt.slice
  rw [e]
  split
  · rename_i h
    simp only [beq_self_eq_true, Bool.true_and, List.length_map, List.length_range, beq_iff_eq] at h
    have h1 : a = 0 := by lia
    have h2 : b = x.length := by lia
    subst h1
    rw [h2, List.drop_zero, Nat.sub_zero, ← toL_len, List.take_length]
  · show List.filterMap (fun i => x.cps[i]?) _ = _
    have := pick_range (toL x) a (b - a) (by rw [toL_len]; lia)
    simpa [toL] using this

theorem slice_from (x : Str) (k : Int) (h0 : 0 ≤ k) (h1 : k ≤ x.length) : toL (Txt.slice x (some k) none) = (toL x).drop k.toNat := by
  rw [slice_gen x (some k) none k.toNat x.length (Nat.le_refl _) (by lia) (by simp only; rw [if_neg (by lia)]; lia) rfl]
  rw [List.take_of_length_le]
  rw [List.length_drop, toL_len]
  lia
theorem slice_upto (x : Str) (k : Int) (h0 : k < 0) (h1 : -k ≤ x.length) : toL (Txt.slice x none (some k)) = (toL x).take (x.length - (-k).toNat) := by
  rw [slice_gen x none (some k) 0 (x.length - (-k).toNat) (by lia) (by lia) rfl (by simp only; rw [if_pos h0]; lia)]
  simp
theorem slice_all (x : Str) : Txt.slice x none none = x := by
  refine toL_inj.mp ?_
  rw [slice_gen x none none 0 x.length (Nat.le_refl _) (by lia) rfl rfl]
  simp [← toL_len]
theorem item_pos (x : Str) (k : Int) (h0 : 0 ≤ k) (h1 : k < x.length) : toL (Txt.item x k) = [(toL x).getD k.toNat 0] := by
  have : seqIndex? k x.length = some k.toNat := by
    unfold seqIndex?
    simp only [if_neg (show ¬ k < 0 by lia)]
    rw [if_pos (by simp; lia)]
  unfold Txt.item Txt.charAt
  rw [this]
  simp [toL]
theorem item_neg (x : Str) (k : Int) (h0 : k < 0) (h1 : -k ≤ x.length) : toL (Txt.item x k) = [(toL x).getD (x.length - (-k).toNat) 0] := by
  have : seqIndex? k x.length = some (x.length - (-k).toNat) := by
    unfold seqIndex?
    simp only [if_pos h0]
    rw [if_pos (by simp; lia)]
    congr 1; lia
  unfold Txt.item Txt.charAt
  rw [this]
  simp [toL]

/-- the signs that both begin with -/
noncomputable def lcp : List Nat → List Nat → Nat
  | a :: as, b :: bs => if a = b then lcp as bs + 1 else 0
  | _, _ => 0
theorem lcp_nil (a : List Nat) : lcp a [] = 0 := by cases a <;> rfl
theorem lcp_le_left : ∀ a b : List Nat, lcp a b ≤ a.length
  | [], _ => by simp [lcp]
  | _ :: _, [] => by simp [lcp]
  | a :: as, b :: bs => by
    simp only [lcp, List.length_cons]; split
    · have := lcp_le_left as bs; lia
    · lia
theorem lcp_le_right : ∀ a b : List Nat, lcp a b ≤ b.length
  | [], _ => by simp [lcp]
  | _ :: _, [] => by simp [lcp]
  | a :: as, b :: bs => by
    simp only [lcp, List.length_cons]; split
    · have := lcp_le_right as bs; lia
    · lia
theorem lcp_step (a b : List Nat) (k : Nat) (ha : k < a.length) (hb : k < b.length) :
    lcp (a.drop k) (b.drop k) = if a.getD k 0 = b.getD k 0 then lcp (a.drop (k + 1)) (b.drop (k + 1)) + 1 else 0 := by
  rw [List.drop_eq_getElem_cons ha, List.drop_eq_getElem_cons hb]
  simp [lcp, List.getD_eq_getElem?_getD, ha, hb]
end Mine
end

section
open PySem PySem.Builtin PySem.Builtin.Str
namespace Mine
theorem len_from (x : Str) (k : Int) (h0 : 0 ≤ k) (h1 : k ≤ x.length) : ((Txt.slice x (some k) none).length : Int) = x.length - k := by
  have := congrArg List.length (slice_from x k h0 h1)
  rw [toL_len, List.length_drop, toL_len] at this
  lia
theorem len_upto (x : Str) (k : Int) (h0 : k < 0) (h1 : -k ≤ x.length) : ((Txt.slice x none (some k)).length : Int) = x.length + k := by
  have := congrArg List.length (slice_upto x k h0 h1)
  rw [toL_len, List.length_take, toL_len] at this
  lia
theorem w1_turn {x y : Str} {k : Int} (h0 : 0 ≤ k) (h1 : k ≤ x.length) (h2 : k ≤ y.length)
    (inv : k + (lcp ((toL x).drop k.toNat) ((toL y).drop k.toNat) : Int) = lcp (toL x) (toL y))
    (n1 : ((Txt.slice x (some k) none).length : Int) ≠ 0) (n2 : ((Txt.slice y (some k) none).length : Int) ≠ 0) (e : (Txt.item x k == Txt.item y k) = true) :
    0 ≤ k + 1 ∧ k + 1 ≤ x.length ∧ k + 1 ≤ y.length ∧ (k + 1) + (lcp ((toL x).drop (k + 1).toNat) ((toL y).drop (k + 1).toNat) : Int) = lcp (toL x) (toL y) := by
  rw [len_from x k h0 h1] at n1
  rw [len_from y k h0 h2] at n2
  refine ⟨by lia, by lia, by lia, ?_⟩
  have e' := congrArg toL (eq_of_beq e)
  rw [item_pos x k h0 (by lia), item_pos y k h0 (by lia)] at e'
  simp only [List.cons.injEq, and_true] at e'
  rw [lcp_step (toL x) (toL y) k.toNat (by rw [toL_len]; lia) (by rw [toL_len]; lia), if_pos e'] at inv
  rw [show (k + 1).toNat = k.toNat + 1 by lia]
  lia
theorem w1_end {x y : Str} {k : Int} (h0 : 0 ≤ k) (h1 : k ≤ x.length) (h2 : k ≤ y.length)
    (inv : k + (lcp ((toL x).drop k.toNat) ((toL y).drop k.toNat) : Int) = lcp (toL x) (toL y))
    (c : ((Txt.slice x (some k) none).length : Int) = 0 ∨ ((Txt.slice y (some k) none).length : Int) = 0 ∨ (Txt.item x k == Txt.item y k) = false) : k = lcp (toL x) (toL y) := by
  rw [len_from x k h0 h1, len_from y k h0 h2] at c
  by_cases c1 : k = x.length
  · rw [List.drop_of_length_le (by rw [toL_len]; lia)] at inv
    simp only [lcp] at inv
    lia
  by_cases c2 : k = y.length
  · rw [List.drop_of_length_le (l := toL y) (by rw [toL_len]; lia), lcp_nil] at inv
    lia
  have e : (Txt.item x k == Txt.item y k) = false := by
    rcases c with c | c | c
    · lia
    · lia
    · exact c
  rw [lcp_step (toL x) (toL y) k.toNat (by rw [toL_len]; lia) (by rw [toL_len]; lia), if_neg] at inv
  · lia
  · intro e2
    have : Txt.item x k = Txt.item y k := toL_inj.mp (by rw [item_pos x k h0 (by lia), item_pos y k h0 (by lia), e2])
    rw [this] at e
    simp at e

theorem rev_getD (l : List Nat) (k : Nat) (h : k < l.length) : l.reverse.getD k 0 = l.getD (l.length - (k + 1)) 0 := by
  simp only [List.getD_eq_getElem?_getD, List.getElem?_reverse h]
  congr 2
  lia

noncomputable def W2 (a b : Str) (p : Int) : Prop := p ≤ 0 ∧ -p ≤ a.length ∧ -p ≤ b.length ∧ -p + (lcp ((toL a).reverse.drop (-p).toNat) ((toL b).reverse.drop (-p).toNat) : Int) = lcp (toL a).reverse (toL b).reverse
theorem w2_turn {a b : Str} {p : Int} (h : W2 a b p) (ha : -p < a.length) (hb : -p < b.length) (e : (Txt.item a (p - 1) == Txt.item b (p - 1)) = true) : W2 a b (p - 1) := by
  obtain ⟨h0, h1, h2, inv⟩ := h
  refine ⟨by lia, by lia, by lia, ?_⟩
  have e' := congrArg toL (eq_of_beq e)
  rw [item_neg a (p - 1) (by lia) (by lia), item_neg b (p - 1) (by lia) (by lia)] at e'
  simp only [List.cons.injEq, and_true] at e'
  rw [lcp_step _ _ (-p).toNat (by rw [List.length_reverse, toL_len]; lia) (by rw [List.length_reverse, toL_len]; lia), if_pos] at inv
  · rw [show (-(p - 1)).toNat = (-p).toNat + 1 by lia]
    lia
  · rw [rev_getD _ _ (by rw [toL_len]; lia), rev_getD _ _ (by rw [toL_len]; lia), toL_len, toL_len]
    rw [show (-(p - 1)).toNat = (-p).toNat + 1 by lia] at e'
    exact e'
theorem w2_end {a b : Str} {p : Int} (h : W2 a b p) (c : -p = a.length ∨ -p = b.length ∨ (Txt.item a (p - 1) == Txt.item b (p - 1)) = false) : p = -(lcp (toL a).reverse (toL b).reverse : Int) := by
  obtain ⟨h0, h1, h2, inv⟩ := h
  by_cases c1 : -p = a.length
  · rw [List.drop_of_length_le (by rw [List.length_reverse, toL_len]; lia)] at inv
    simp only [lcp] at inv
    lia
  by_cases c2 : -p = b.length
  · rw [List.drop_of_length_le (l := (toL b).reverse) (by rw [List.length_reverse, toL_len]; lia), lcp_nil] at inv
    lia
  have e : (Txt.item a (p - 1) == Txt.item b (p - 1)) = false := by
    rcases c with c | c | c
    · lia
    · lia
    · exact c
  rw [lcp_step _ _ (-p).toNat (by rw [List.length_reverse, toL_len]; lia) (by rw [List.length_reverse, toL_len]; lia), if_neg] at inv
  · lia
  · intro e2
    rw [rev_getD _ _ (by rw [toL_len]; lia), rev_getD _ _ (by rw [toL_len]; lia), toL_len, toL_len] at e2
    have : Txt.item a (p - 1) = Txt.item b (p - 1) := toL_inj.mp (by rw [item_neg a (p - 1) (by lia) (by lia), item_neg b (p - 1) (by lia) (by lia), show (-(p - 1)).toNat = (-p).toNat + 1 by lia, e2])
    rw [this] at e
    simp at e

noncomputable def trimA (x y : List Nat) : List Nat := ((x.drop (lcp x y)).take ((x.drop (lcp x y)).length - lcp (x.drop (lcp x y)).reverse (y.drop (lcp x y)).reverse))
noncomputable def trimB (x y : List Nat) : List Nat := ((y.drop (lcp x y)).take ((y.drop (lcp x y)).length - lcp (x.drop (lcp x y)).reverse (y.drop (lcp x y)).reverse))
theorem trim_is {x y a b a2 b2 : Str} (ha : toL a = (toL x).drop (lcp (toL x) (toL y))) (hb : toL b = (toL y).drop (lcp (toL x) (toL y))) {p : Int} (hp : p = -(lcp (toL a).reverse (toL b).reverse : Int))
    (h : (p = 0 ∧ a2 = Txt.slice a none none ∧ b2 = Txt.slice b none none) ∨ (p ≠ 0 ∧ a2 = Txt.slice a none (some p) ∧ b2 = Txt.slice b none (some p))) :
    toL a2 = trimA (toL x) (toL y) ∧ toL b2 = trimB (toL x) (toL y) := by
  unfold trimA trimB
  rw [← ha, ← hb]
  have l1 := lcp_le_left (toL a).reverse (toL b).reverse
  have l2 := lcp_le_right (toL a).reverse (toL b).reverse
  rw [List.length_reverse] at l1 l2
  rcases h with ⟨h0, rfl, rfl⟩ | ⟨h0, rfl, rfl⟩
  · rw [slice_all, slice_all, show lcp (toL a).reverse (toL b).reverse = 0 by lia]
    simp
  · rw [toL_len] at l1 l2
    rw [slice_upto a p (by lia) (by lia), slice_upto b p (by lia) (by lia), show (-p).toNat = lcp (toL a).reverse (toL b).reverse by lia, toL_len, toL_len]
    exact ⟨rfl, rfl⟩
theorem w2_len (a : Str) (p : Int) (h : p ≤ 0) (h2 : -p ≤ a.length) : (p ≠ 0 → ((Txt.slice a none (some p)).length : Int) = a.length + p) ∧ ((Txt.slice a none none).length : Int) = a.length :=
  ⟨fun h0 => len_upto a p (by lia) h2, by rw [slice_all]⟩
end Mine
end

section
open PySem PySem.W PyProof.Rows PySem.Builtin PySem.Builtin.Str
namespace Mine
/-- the cost of one sign for another -/
noncomputable def cost (x y : Nat) : Int := subCost ⟨#[x]⟩ ⟨#[y]⟩
noncomputable def bigN : Int := 9223372036854775807
/-- one turn of the inner loop -/
noncomputable def inStep (c : Nat) (a : List Nat) (i : Nat) (st : List Int × Int × Int × Int) : List Int × Int × Int × Int :=
  let sub := st.2.1 + cost c (a.getD i 0)
  let d := st.1.getD i 0
  let r := min (min st.2.2.1 d + 2) sub
  (st.1.set i r, d, r, if r < st.2.2.2 then r else st.2.2.2)
noncomputable def inLoop (c : Nat) (a : List Nat) (row : List Int) (j : Int) : Nat → List Int × Int × Int × Int
  | 0 => (row, j * 2, j * 2, bigN)
  | i + 1 => inStep c a i (inLoop c a row j i)
noncomputable def outL (a b : List Nat) (mx : Int) : Nat → Nat → List Int → Int → Int
  | 0, _, _, res => res
  | n + 1, j, row, _ =>
    let st := inLoop (b.getD j 0) a row j a.length
    if st.2.2.2 > mx then mx + 1 else outL a b mx n (j + 1) st.1 st.2.2.1
noncomputable def rowInit (n : Nat) : List Int := (List.range n).map fun (i : Nat) => 2 + (i : Int) * 2
noncomputable def levCore (a b : List Nat) (mx : Int) : Int := if ((b.length : Int) - a.length) * 2 > mx then mx + 1 else outL a b mx b.length 0 (rowInit a.length) 0
noncomputable def levTrim (a b : List Nat) (mx : Int) : Int :=
  if a.length = 0 ∨ b.length = 0 then 2 * ((a.length : Int) + b.length) else if b.length < a.length then levCore b a mx else levCore a b mx
/-- what _levenshtein_distance reckons -/
noncomputable def levL (x y : List Nat) (mx : Int) : Int := if x = y then 0 else levTrim (trimA x y) (trimB x y) mx
theorem levL_eq {x y : Str} {mx : Int} (h : x = y) : levL (toL x) (toL y) mx = 0 := by rw [h]; simp [levL]
theorem levL_ne {x y : Str} (mx : Int) (h : x ≠ y) : levL (toL x) (toL y) mx = levTrim (trimA (toL x) (toL y)) (trimB (toL x) (toL y)) mx := by
  unfold levL
  rw [if_neg]
  intro e
  exact h (toL_inj.mp e)
theorem trimA_len (x y : List Nat) : (trimA x y).length ≤ x.length := by
  unfold trimA
  rw [List.length_take, List.length_drop]
  lia
theorem trimB_len (x y : List Nat) : (trimB x y).length ≤ y.length := by
  unfold trimB
  rw [List.length_take, List.length_drop]
  lia
theorem ints_step : ∀ (vs : List Value) (a c : Int) (n : Nat), vs.length = n → (∀ (j : Nat) (v : Value), vs[j]? = some v → ∃ t, v = .int (a + j * c) t) → IntsAre vs ((List.range n).map fun (i : Nat) => a + (i : Int) * c)
  | [], a, c, n, e, _ => by
    subst e
    exact IntsAre.nil
  | v :: r, a, c, n, e, h => by
    subst e
    rw [List.length_cons, List.range_succ_eq_map, List.map_cons, List.map_map]
    obtain ⟨t, ht⟩ := h 0 v rfl
    subst ht
    refine IntsAre.cons _ _ ?_
    have := ints_step r (a + c) c r.length rfl fun j v hj => ?_
    · refine cast (congrArg _ (List.map_congr_left fun i _ => ?_)) this
      simp only [Function.comp, Nat.succ_eq_add_one, Int.natCast_add, Int.add_mul]
      lia
    · obtain ⟨t', ht'⟩ := h (j + 1) v hj
      refine ⟨t', ht'.trans ?_⟩
      congr 1
      simp only [Int.natCast_add, Int.add_mul]
      lia
theorem list_rng {prog : Program} {w : World} {A : Around} {E : Value → Shared → Prop} {s : Shared} {h₀ : Heap} {L r : Addr} {m : PySem.Str → Option Value} {news : List (Addr × Obj)} {a b c : Int} {t₀ u₀ v₀ : Tok} {n : Nat} {Q : Value → Shared → Prop}
    (hh : A.handled = none) (F : Fr h₀ L s.heap m) (N : News h₀ L s.heap news) (hr : IsRange s.heap r a b c t₀ u₀ v₀) (hsn : Builtin.Range.small a b c = true ∧ Builtin.Range.rangeSize a b c = (n : Int)) (hz : n ≤ 2 ^ 24)
    (h : ∀ D us k h' tk, Fr h₀ L h' m → News h₀ L h' ((D, listOf (List.toArray us) k) :: news) → (∀ p ∈ news, p.1 ≠ D) → IntsAre us ((List.range n).map fun (i : Nat) => a + (i : Int) * c) → Q (.ref D) { s with heap := h', toks := tk }) :
    wpAny (model prog w) A (call (.type "list") [.ref r]) Q E s := by
  refine call_list_range hh hr hsn.1 hsn.2 hz fun h' tk acc k hk hD hI => ?_
  have hD' : h'.get? s.heap.objs.size = some (listOf (List.toArray acc.toList) k) := by
    rw [Array.toArray_toList]
    exact hD
  exact h _ acc.toList k h' tk (F.keeps hk) (news_pushed F N hk hD' rfl) (fun p hp => Nat.ne_of_lt (Heap.lt_size (N p hp).1)) (ints_step _ _ _ _ (by rw [Array.length_toList]; exact hI.1) fun j v hj => hI.2 j v (by rw [← hj, Array.getElem?_toList]))
theorem rng_small : ∀ n : Nat, n ≤ 6 → Builtin.Range.small 2 (2 * ((n : Int) + 1)) 2 = true ∧ Builtin.Range.rangeSize 2 (2 * ((n : Int) + 1)) 2 = (n : Int) := by
  intro n h
  have : ∀ k : _root_.Fin 7, Builtin.Range.small 2 (2 * (((k : Nat) : Int) + 1)) 2 = true ∧ Builtin.Range.rangeSize 2 (2 * (((k : Nat) : Int) + 1)) 2 = ((k : Nat) : Int) := by decide
  exact this ⟨n, by lia⟩
theorem levTrim_nil {a b : List Nat} {mx : Int} (h : a.length = 0 ∨ b.length = 0) : levTrim a b mx = 2 * ((a.length : Int) + b.length) := if_pos h
theorem levTrim_swap {a b : List Nat} {mx : Int} (ha : a.length ≠ 0) (hb : b.length ≠ 0) (h : b.length < a.length) : levTrim a b mx = levCore b a mx := by
  unfold levTrim
  rw [if_neg (by lia), if_pos h]
theorem levTrim_stay {a b : List Nat} {mx : Int} (ha : a.length ≠ 0) (hb : b.length ≠ 0) (h : ¬ b.length < a.length) : levTrim a b mx = levCore a b mx := by
  unfold levTrim
  rw [if_neg (by lia), if_neg h]
theorem levCore_far {a b : List Nat} {mx : Int} (h : mx < ((b.length : Int) - a.length) * 2) : levCore a b mx = mx + 1 := if_pos h
theorem levCore_go {a b : List Nat} {mx : Int} (h : ¬ mx < ((b.length : Int) - a.length) * 2) : levCore a b mx = outL a b mx b.length 0 (rowInit a.length) 0 := if_neg h
noncomputable def stepR (d S r q : Int) : Int := if d + S < (if q < r then q else r) + 2 then d + S else (if q < r then q else r) + 2
theorem stepR_eq (d S r q : Int) : stepR d S r q = min (min r q + 2) (d + S) := by
  unfold stepR
  (repeat' split) <;> lia
theorem in_next {c : Nat} {a : List Nat} {row rw' pre : List Int} {j d r mn S kN : Int} (h : (rw', d, r, mn) = inLoop c a row j pre.length) (hk : kN = (pre.length : Int)) (hS : S = cost c (a.getD pre.length 0)) :
    (rw'.set kN.toNat (stepR d S r (rw'.getD kN.toNat 0)), rw'.getD kN.toNat 0, stepR d S r (rw'.getD kN.toNat 0), if stepR d S r (rw'.getD kN.toNat 0) < mn then stepR d S r (rw'.getD kN.toNat 0) else mn) = inLoop c a row j (pre ++ [kN]).length := by
  rw [List.length_append, List.length_singleton, inLoop, ← h]
  unfold inStep
  rw [show kN.toNat = pre.length by lia, hS, stepR_eq]
theorem in_less {c : Nat} {a : List Nat} {row rw' pre : List Int} {j d r mn S kN : Int} (h : (rw', d, r, mn) = inLoop c a row j pre.length) (hk : kN = (pre.length : Int)) (hS : S = cost c (a.getD pre.length 0)) (hlt : stepR d S r (rw'.getD kN.toNat 0) < mn) :
    (rw'.set kN.toNat (stepR d S r (rw'.getD kN.toNat 0)), rw'.getD kN.toNat 0, stepR d S r (rw'.getD kN.toNat 0), stepR d S r (rw'.getD kN.toNat 0)) = inLoop c a row j (pre ++ [kN]).length := by
  rw [← in_next h hk hS, if_pos hlt]
theorem in_more {c : Nat} {a : List Nat} {row rw' pre : List Int} {j d r mn S kN : Int} (h : (rw', d, r, mn) = inLoop c a row j pre.length) (hk : kN = (pre.length : Int)) (hS : S = cost c (a.getD pre.length 0)) (hlt : ¬ stepR d S r (rw'.getD kN.toNat 0) < mn) :
    (rw'.set kN.toNat (stepR d S r (rw'.getD kN.toNat 0)), rw'.getD kN.toNat 0, stepR d S r (rw'.getD kN.toNat 0), mn) = inLoop c a row j (pre ++ [kN]).length := by
  rw [← in_next h hk hS, if_neg hlt]
theorem cost_items {a b : PySem.Str} {i k : Int} {m n : Nat} (hi : i = m) (hk : k = n) (h1 : m < b.length) (h2 : n < a.length) : subCost (Txt.item b i) (Txt.item a k) = cost ((toL b).getD m 0) ((toL a).getD n 0) := by
  have e1 : Txt.item b i = ⟨#[(toL b).getD m 0]⟩ := toL_inj.mp (by rw [item_pos b i (by lia) (by lia), show i.toNat = m by lia]; rfl)
  have e2 : Txt.item a k = ⟨#[(toL a).getD n 0]⟩ := toL_inj.mp (by rw [item_pos a k (by lia) (by lia), show k.toNat = n by lia]; rfl)
  rw [e1, e2]
  rfl
theorem out_stop {a b : List Nat} {mx V d r mn r0 : Int} {row rw' : List Int} {k n N : Nat} (h : V = outL a b mx (N - k) k row r0) (hk : k < N) (ha : n = a.length) (e : (rw', d, r, mn) = inLoop (b.getD k 0) a row k n) (hm : mx < mn) : V = mx + 1 := by
  rw [h, show N - k = (N - (k + 1)) + 1 by lia, outL, ← ha, ← e]
  simp only
  rw [if_pos hm]
theorem out_next {a b : List Nat} {mx V d r mn r0 : Int} {row rw' : List Int} {k n N : Nat} (h : V = outL a b mx (N - k) k row r0) (hk : k < N) (ha : n = a.length) (e : (rw', d, r, mn) = inLoop (b.getD k 0) a row k n) (hm : ¬ mx < mn) : V = outL a b mx (N - (k + 1)) (k + 1) rw' r := by
  rw [h, show N - k = (N - (k + 1)) + 1 by lia, outL, ← ha, ← e]
  simp only
  rw [if_neg hm]
end Mine
end

section
open PySem PySem.Builtin PySem.Builtin.Str
namespace Mine
noncomputable def wantOf (one : List Nat) : Str := ⟨(46 :: 46 :: 46 :: one.flatMap fun c => [c, 46, 46, 46]).toArray⟩
noncomputable def dots : Str := ⟨#[46, 46, 46]⟩
noncomputable def gDot (c : Nat) : Nat := if c = 46 then 46 else 40
theorem subAt_iff (s y : Str) (i : Nat) : subAt s y i = decide (((toL s).drop i).take y.length = toL y) := by
  unfold subAt
  rw [Bool.eq_iff_iff]
  simp only [beq_iff_eq, decide_eq_true_eq]
  constructor
  · intro h
    have := congrArg Array.toList h
    rw [Array.toList_extract] at this
    simpa [toL, List.extract_eq_take_drop] using this
  · intro h
    refine Array.toList_inj.mp ?_
    rw [Array.toList_extract]
    simpa [toL, List.extract_eq_take_drop] using h
theorem gDot_46 (c : Nat) : gDot c = 46 ↔ c = 46 := by unfold gDot; split <;> lia
theorem map_g_dots : ∀ l : List Nat, (l.map gDot = [46, 46, 46]) ↔ l = [46, 46, 46] := by
  intro l
  match l with
  | [] => simp
  | [a] => simp
  | [a, b] => simp
  | [a, b, c] => simp [gDot_46]
  | a :: b :: c :: d :: r => simp
theorem subAt_g (l : List Nat) (i : Nat) : subAt ⟨(l.map gDot).toArray⟩ dots i = subAt ⟨l.toArray⟩ dots i := by
  rw [subAt_iff, subAt_iff, toL_mk, toL_mk]
  have e : ((l.map gDot).drop i).take dots.length = ((l.drop i).take dots.length).map gDot := by rw [List.map_take, List.map_drop]
  rw [e]
  exact decide_eq_decide.mpr (map_g_dots _)
theorem occ_g (l : List Nat) (lo hi lim : Nat) : occurrences ⟨l.toArray⟩ dots lo hi lim = occurrences ⟨(l.map gDot).toArray⟩ dots lo hi lim := by
  rw [StrLaws.occ_eq, StrLaws.occ_eq]
  have : StrLaws.occBody ⟨l.toArray⟩ dots hi lim = StrLaws.occBody ⟨(l.map gDot).toArray⟩ dots hi lim := by
    funext i st
    unfold StrLaws.occBody
    rw [subAt_g]
  rw [this]
noncomputable def sing (c : Nat) : Str := ⟨#[c]⟩
/-- the pieces of a want -/
noncomputable def pieces (one : List Nat) : List Str := ⟨#[]⟩ :: (one.map sing ++ [⟨#[]⟩])
theorem want_g (one : List Nat) (h : 46 ∉ one) : (46 :: 46 :: 46 :: one.flatMap fun c => [c, 46, 46, 46]).map gDot = 46 :: 46 :: 46 :: (List.replicate one.length 40).flatMap fun c => [c, 46, 46, 46] := by
  have : ∀ l : List Nat, 46 ∉ l → (l.flatMap fun c => [c, 46, 46, 46]).map gDot = (List.replicate l.length 40).flatMap fun c => [c, 46, 46, 46] := by
    intro l
    induction l with
    | nil => intro _; rfl
    | cons a r ih =>
      intro hl
      simp only [List.mem_cons, not_or] at hl
      simp only [List.flatMap_cons, List.map_append, ih hl.2, List.length_cons, List.replicate_succ]
      congr 1
      simp [gDot, Ne.symm hl.1]
  simp only [List.map_cons, this one h]
  rfl
theorem want_occ : ∀ n : Nat, n ≤ 6 → occurrences (wantOf (List.replicate n 40)) dots 0 (3 + 4 * n) (3 + 4 * n + 1) = (List.range (n + 1)).map (4 * ·) := by
  intro n hn
  have : ∀ k : _root_.Fin 7, occurrences (wantOf (List.replicate (k : Nat) 40)) dots 0 (3 + 4 * (k : Nat)) (3 + 4 * (k : Nat) + 1) = (List.range ((k : Nat) + 1)).map (4 * ·) := by decide +kernel
  exact this ⟨n, by lia⟩
theorem want_len (one : List Nat) : (wantOf one).length = 3 + 4 * one.length := by
  have : ∀ l : List Nat, (l.flatMap fun c => [c, 46, 46, 46]).length = 4 * l.length := by
    intro l
    induction l with
    | nil => rfl
    | cons a r ih => simp only [List.flatMap_cons, List.length_append, List.length_cons, List.length_nil, ih]; lia
  show (46 :: 46 :: 46 :: one.flatMap fun c => [c, 46, 46, 46]).toArray.size = _
  rw [List.size_toArray]
  simp only [List.length_cons, this one]
  lia
theorem want_cuts (one : List Nat) (h : 46 ∉ one) (hn : one.length ≤ 6) : occurrences (wantOf one) dots 0 (wantOf one).length ((wantOf one).length + 1) = (List.range (one.length + 1)).map (4 * ·) := by
  rw [want_len, ← want_occ one.length hn]
  show occurrences ⟨(46 :: 46 :: 46 :: one.flatMap fun c => [c, 46, 46, 46]).toArray⟩ dots _ _ _ = _
  rw [occ_g, want_g one h]
  rfl
theorem want_parts : ∀ one : List Nat, one.length ≤ 6 → partsBetween (wantOf one) ((List.range (one.length + 1)).map (4 * ·)) 3 = pieces one
  | [], _ => rfl
  | [_], _ => rfl
  | [_, _], _ => rfl
  | [_, _, _], _ => rfl
  | [_, _, _, _], _ => rfl
  | [_, _, _, _, _], _ => rfl
  | [_, _, _, _, _, _], _ => rfl
  | _ :: _ :: _ :: _ :: _ :: _ :: _ :: _, h => absurd h (by simp)
theorem want_split (one : List Nat) (h : 46 ∉ one) (hn : one.length ≤ 6) : Txt.split (wantOf one) dots = pieces one := by
  unfold Txt.split
  rw [want_cuts one h hn, want_len]
  rw [if_neg, if_neg]
  · exact want_parts one hn
  · simp [List.range_succ_eq_map]
  · have h1 : PySem.Builtin.Str.strKind dots = 1 := by decide +kernel
    have h2 : 1 ≤ PySem.Builtin.Str.strKind (wantOf one) := by unfold PySem.Builtin.Str.strKind; (repeat' split) <;> lia
    simp only [Bool.or_eq_true, decide_eq_true_eq, not_or]
    rw [h1]
    refine ⟨?_, by lia⟩
    have : dots.length = 3 := rfl
    lia
theorem want_has (one : List Nat) : (occurrences (wantOf one) dots 0 (wantOf one).length 1).isEmpty = false := by
  have := (StrLaws.found_iff (wantOf one) dots).mpr ⟨0, by rw [want_len]; show 0 + 3 ≤ _; lia, by rw [subAt_iff]; exact decide_eq_true rfl⟩
  simpa using this
/-- one is scattered in got -/
noncomputable def subq : List Nat → List Nat → Bool
  | [], _ => true
  | _ :: _, [] => false
  | c :: cs, g :: gs => if c = g then subq cs gs else subq (c :: cs) gs
theorem find_nil (x : Str) (i : Nat) (h : i ≤ x.length) : Txt.find3 x ⟨#[]⟩ (i : Int) = i := by
  have e : fromIndex x.length (i : Int) = i := by unfold fromIndex; lia
  unfold Txt.find3
  rw [e]
  rcases StrLaws.occ_head_from x ⟨#[]⟩ i 1 (Nat.le_refl 1) with ⟨h0, hn⟩ | ⟨k, r, h0, hlo, hk, hn⟩
  · exact absurd ⟨by show i + 0 ≤ _; lia, by rw [subAt_iff]; exact decide_eq_true (by simp [toL, Str.length])⟩ (hn i (Nat.le_refl _))
  · rw [h0]
    by_cases hik : i = k
    · simp [hik]
    · exact absurd ⟨by show i + 0 ≤ _; lia, by rw [subAt_iff]; exact decide_eq_true (by simp [toL, Str.length])⟩ (hn i (Nat.le_refl _) (by lia))
theorem subq_skip (c : Nat) (cs : List Nat) : ∀ (n : Nat) (l : List Nat), n ≤ l.length → (∀ v, v < n → l.getD v 0 ≠ c) → subq (c :: cs) l = subq (c :: cs) (l.drop n)
  | 0, l, _, _ => rfl
  | n + 1, [], h, _ => by simp at h
  | n + 1, g :: gs, h, hv => by
    have h0 := hv 0 (by lia)
    simp only [List.getD_cons_zero] at h0
    rw [subq, if_neg (Ne.symm h0), List.drop_succ_cons]
    exact subq_skip c cs n gs (by simpa using h) fun v hv' => by have := hv (v + 1) (by lia); simpa using this
theorem subq_find (x : Str) (c : Nat) (cs : List Nat) (i : Nat) (h : i ≤ x.length) :
    (Txt.find3 x (sing c) (i : Int) < 0 ∧ subq (c :: cs) ((toL x).drop i) = false) ∨
    ∃ k : Nat, Txt.find3 x (sing c) (i : Int) = (k : Int) ∧ k < x.length ∧ subq (c :: cs) ((toL x).drop i) = subq cs ((toL x).drop (k + 1)) := by
  have e : fromIndex x.length (i : Int) = i := by unfold fromIndex; lia
  have gd : ∀ v, x.cps.getD v 0 = (toL x).getD v 0 := fun v => by simp [toL]
  rcases StrLaws.find3_spec x c (i : Int) with ⟨h0, hn⟩ | ⟨k, h0, hlo, hlt, hk, hn⟩
  · refine .inl ⟨by show Txt.find3 x ⟨#[c]⟩ i < 0; rw [h0]; lia, ?_⟩
    rw [subq_skip c cs (x.length - i) ((toL x).drop i) (by rw [List.length_drop, toL_len]; lia), List.drop_drop, List.drop_of_length_le (by rw [toL_len]; lia)]
    · rfl
    · intro v hv
      rw [e] at hn
      have := hn (i + v) (by lia) (by lia)
      rw [gd] at this
      simpa [List.getD_eq_getElem?_getD, List.getElem?_drop] using this
  · rw [e] at hlo hn
    refine .inr ⟨k, h0, hlt, ?_⟩
    rw [subq_skip c cs (k - i) ((toL x).drop i) (by rw [List.length_drop, toL_len]; lia), List.drop_drop, show i + (k - i) = k by lia]
    · have hk' : k < (toL x).length := by rw [toL_len]; exact hlt
      rw [List.drop_eq_getElem_cons hk', subq, if_pos]
      rw [gd] at hk
      simpa [List.getD_eq_getElem?_getD, hk'] using hk.symm
    · intro v hv
      have := hn (i + v) (by lia) (by lia)
      rw [gd] at this
      simpa [List.getD_eq_getElem?_getD, List.getElem?_drop] using this
end Mine
end

section
open PySem PySem.Builtin PySem.Builtin.Str
namespace Mine
theorem toL_app (x y : Str) : toL (x ++ y) = toL x ++ toL y := by
  show (x.cps ++ y.cps).toList = _
  rw [Array.toList_append]; rfl
theorem foldl_app (l : List Str) : ∀ T : Str, toL (l.foldl HAppend.hAppend T) = toL T ++ l.flatMap toL := by
  induction l with
  | nil => intro T; simp
  | cons a r ih => intro T; rw [List.foldl_cons, ih, toL_app, List.flatMap_cons, List.append_assoc]
theorem join_toL (l : List Str) : toL (Txt.join (Str.ofString "") l) = l.flatMap toL := by
  show toL (glued (Str.ofString "") l) = _
  rw [StrLaws.glued_eq_join]
  have e : Str.ofString "" = (⟨#[]⟩ : Str) := by decide +kernel
  rw [e, ← PyProof.Rows.fold_cat_join_nil, foldl_app]
  rfl
theorem want_made (one : Str) : (Str.ofString "...") ++ Txt.join (Str.ofString "") ((toL one).map fun c => (⟨#[c]⟩ : Str) ++ Str.ofString "...") = wantOf (toL one) := by
  refine toL_inj.mp ?_
  have e : Str.ofString "..." = dots := by decide +kernel
  rw [toL_app, join_toL, e, List.flatMap_map]
  show [46, 46, 46] ++ _ = 46 :: 46 :: 46 :: _
  rfl
end Mine
end

section
open PySem PySem.W PyProof.Rows
set_option maxRecDepth 100000
set_option maxHeartbeats 8000000
namespace Mine
theorem three {xs : List Int} (h : xs.length = 3) : ∃ x y z, xs = [x, y, z] := by
  match xs, h with
  | [x, y, z], _ => exact ⟨x, y, z, rfl⟩
theorem num_ctr (w : World) (l : Addr) (vs : List Value) (ns : List Int) : 
  ∀ (mean : ExcName → Option Value) (mg mb : Str → Option Value) (dp un : Nat) (gd : Option (List Code)) (cn : Str) (cs : Scope) (a : Addr) (ccd : Value) (cl : List (Str × Addr)) (outer : List Env) (A₀ : Around) (base h₀ : Heap) (L : Addr) (m : Str → Option Value) (news : List (Addr × Obj)) (s : Shared) (Q E : Value → Shared → Prop),
    Below A₀ base outer h₀ → Fr h₀ L s.heap m → (hd.heap_39 w.params).In h₀ → News h₀ L s.heap news → Top hd.view_39 (looseW hd.view_39 [Str.ofString "EXACT_TOKEN_TYPES"]) mean mg mb h₀ → cs.kind = .function →
    base.IsList l vs.toArray → IntsAre vs ns → ns.length ≤ 63 →
    dp + 4 < recursionLimit → un + 32 < cLine →
    (∀ (D : Addr) (us : List Value) (n : Nat) (x y z : Int) (h' : Heap) (tk' : Nat), IntsAre us [x, y, z] → Fr h₀ L h' m → News h₀ L h' ((D, PySem.W.listOf us.toArray n) :: news) → Q (.ref D) { s with heap := h', toks := tk' }) →
      wpAny (model PySem.Challenge.rw_rl0091_01.row.prog w) (ktrTop dp un gd cn cs L a ccd cl outer) (call (.ref 66) [.ref l]) Q E s := by
  w_top off
  k_fill
  intro mean mg mb dp un gd cn cs fa ccd cl outer A₀ base h₀ L m news s Q E hB hF hK hN hT hcs hl hi hn hdp hun hret
  refine wpAny_call ?_
  k_dflt cell_enter
  rename_i F1 N1 B1 X1 T1
  rename_i g1 L1 h1 FG
  (repeat ((fail_if_success (with_reducible show wpAny _ _ (pyIter _) _ _ _)); walk1))
  k_state (fun _ xs => xs.length = 3) "numbers"
  all_goals k_steps
  (rename List.length _ = 3 => h3)
  obtain ⟨x, y, z, rfl⟩ := three h3
  exact hret _ _ _ x y z _ _ (by assumption) (by assumption) (by assumption)
end Mine
end

section
open PySem PySem.W PyProof.Rows
set_option maxRecDepth 100000
set_option maxHeartbeats 8000000
namespace Mine
-- a call of the cost

theorem lev_ctr (w : World) (news) (x y : Str) (mx : Int) (tx ty tm : Tok) (hx : x.length ≤ 6) (hy : y.length ≤ 6) : Ctr 4 w 28 news [.str x tx, .str y ty, .int mx tm] (fun v more => (∃ t, v = .int (levL (toL x) (toL y) mx) t) ∧ more = []) := by
  unfold Ctr
  w_top off
  k_fill
  intro mean mg mb dp un gd cn cs fa ccd cl outer A₀ base h₀ L m s Q E hB hF hK hN hT hcs hdp hun hret
  refine wpAny_call ?_
  k_dflt cell_enter
  rename_i F1 N1 B1 X1 T1
  rename_i g1 L1 h1 FG
  k_with_none
  (k_with "subscriptTail Name Slice str ref" => ((with_reducible show wpAny _ _ (subscriptTail _ (Expr.Slice none (some (Expr.BoolOp _ _ _)) none _) _ _) _ _ _); (with_reducible rename Fr _ _ _ _ => F'); (with_reducible rename News _ _ _ _ => N'); (refine slice_strN_nn (hsz := ?hsz) (s := ⟨_, _, _, _, _⟩) F' N' ?_); (case hsz => size_fits); intro _ _ _ _ _))
  -- if a == b; pre = 0
  refine cut_by 2 (fun W => ∀ (t : Tok), x ≠ y → ∀ (u : Str → Option Value) (h : Heap) (tk : Nat), Fr g1 L1 h (kstB u [(Str.ofString "a", .str x tx), (Str.ofString "b", .str y ty), (Str.ofString "max_cost", .int mx tm), (Str.ofString "pre", .int 0 t)]) → News g1 L1 h news → W { s with heap := h, toks := tk }) ?_ ?_
  · --[ a
    intro W hCut
    (dsimp only [List.take_succ_cons, List.take_zero])
    try k_fold
    k_steps
    · have hxy : x = y := by simpa using ‹(x == y) = true›
      exact hret _ _ _ [] ⟨⟨_, by rw [levL_eq hxy]⟩, rfl⟩ (by assumption) (by assumption)
    · have hxy : ¬ x = y := by simpa using ‹(x == y) = false›
      exact Hold.mk (hCut _ hxy _ _ _ (fr_names _ (by assumption) (by kst_all)) (by first | assumption | exact cb_drop (by assumption) (by kcj_all)))
    --] a
  intro t hne u2 h2 tk2 F2 N2
  clear F1 N1
  (simp only [List.drop])
  -- the first while
  refine cut_by 1 (fun W => ∀ t, ∀ (u : Str → Option Value) (h : Heap) (tk : Nat), Fr g1 L1 h (kstB u [(Str.ofString "a", .str x tx), (Str.ofString "b", .str y ty), (Str.ofString "max_cost", .int mx tm), (Str.ofString "pre", .int (lcp (toL x) (toL y)) t)]) → News g1 L1 h news → W { s with heap := h, toks := tk }) ?_ ?_
  · --[ b
    intro W hCut
    (dsimp only [List.take_succ_cons, List.take_zero])
    try k_fold
    refine wpAny_execs_cons ?_
    k_while (fun _ k => 0 ≤ k ∧ k ≤ x.length ∧ k ≤ y.length ∧ k + (lcp ((toL x).drop k.toNat) ((toL y).drop k.toNat) : Int) = lcp (toL x) (toL y)) (fun _ k => x.length - k.toNat) "pre"
    k_steps
    · have hI := w1_turn (x := x) (y := y) (by assumption) (by assumption) (by assumption) (by assumption) (by assumption) (by assumption) (by assumption)
      exact ksw_end (_, _) (by assumption) (by assumption) (by kst_in) trivial (by kst_all) (by ((intro z h2 h3; (try simp only [List.forall_mem_cons, List.not_mem_nil, false_implies, implies_true, and_true, ne_eq] at h2); (try simp only [List.contains_cons, List.contains_nil, Bool.or_false, Bool.or_eq_false_iff, beq_eq_false_iff_ne, ne_eq] at h3); (simp [kstB, h2, h3]; done)))) hI (by dsimp only; lia)
    · have hI := w1_end (x := x) (y := y) (by assumption) (by assumption) (by assumption) (by assumption) (.inr (.inr (by assumption)))
      exact Hold.mk (hCut _ _ _ _ (fr_names _ (by assumption) (by rw [← hI]; kst_all)) (by assumption))
    · have hI := w1_end (x := x) (y := y) (by assumption) (by assumption) (by assumption) (by assumption) (.inr (.inl (by assumption)))
      exact Hold.mk (hCut _ _ _ _ (fr_names _ (by assumption) (by rw [← hI]; kst_all)) (by assumption))
    · have hI := w1_end (x := x) (y := y) (by assumption) (by assumption) (by assumption) (by assumption) (.inl (by assumption))
      exact Hold.mk (hCut _ _ _ _ (fr_names _ (by assumption) (by rw [← hI]; kst_all)) (by assumption))
    --] b
  intro t3 u3 h3 tk3 F3 N3
  clear F2 N2
  (simp only [List.drop])
  refine cut_by 3 (fun W => ∀ (a b : Str) (ta tb t0 : Tok), toL a = (toL x).drop (lcp (toL x) (toL y)) → toL b = (toL y).drop (lcp (toL x) (toL y)) → ∀ (u : Str → Option Value) (h : Heap) (tk : Nat), Fr g1 L1 h (kstB u [(Str.ofString "a", .str a ta), (Str.ofString "b", .str b tb), (Str.ofString "max_cost", .int mx tm), (Str.ofString "post", .int 0 t0)]) → News g1 L1 h news → W { s with heap := h, toks := tk }) ?_ ?_
  · --[ c
    intro W hCut
    (dsimp only [List.take_succ_cons, List.take_zero])
    try k_fold
    k_steps
    · have l1 := lcp_le_left (toL x) (toL y)
      have l2 := lcp_le_right (toL x) (toL y)
      rw [toL_len] at l1 l2
      exact Hold.mk (hCut _ _ _ _ _ (by simpa using slice_from x (lcp (toL x) (toL y)) (by lia) (by lia)) (by simpa using slice_from y (lcp (toL x) (toL y)) (by lia) (by lia)) _ _ _ (fr_names _ (by assumption) (by kst_all)) (by first | assumption | exact cb_drop (by assumption) (by kcj_all)))
    --] c
  intro a b ta tb t0 ha hb u4 h4 tk4 F4 N4
  clear F3 N3
  (simp only [List.drop])
  have la : a.length ≤ 6 := by rw [← toL_len, ha, List.length_drop, toL_len]; lia
  have lb : b.length ≤ 6 := by rw [← toL_len, hb, List.length_drop, toL_len]; lia
  -- the second while
  refine cut_by 1 (fun W => ∀ t, ∀ (u : Str → Option Value) (h : Heap) (tk : Nat), Fr g1 L1 h (kstB u [(Str.ofString "a", .str a ta), (Str.ofString "b", .str b tb), (Str.ofString "max_cost", .int mx tm), (Str.ofString "post", .int (-(lcp (toL a).reverse (toL b).reverse : Int)) t)]) → News g1 L1 h news → W { s with heap := h, toks := tk }) ?_ ?_
  · --[ d
    intro W hCut
    (dsimp only [List.take_succ_cons, List.take_zero])
    try k_fold
    refine wpAny_execs_cons ?_
    have hst : W2 a b 0 := ⟨by lia, by lia, by lia, by simp⟩
    k_while (fun _ p => W2 a b p) (fun _ p => a.length - (-p).toNat) "post"
    clear hst
    rename W2 a b _ => hW
    have hW' := hW
    obtain ⟨w1, w2, w3, w4⟩ := hW'
    clear w4
    have q1 := w2_len a _ w1 w2
    have q2 := w2_len b _ w1 w3
    k_steps
    all_goals first
      | contradiction
      | (exfalso; lia)
      | exact ksw_end (_, _) (by assumption) (by assumption) (by kst_in) trivial (by kst_all) (by ((intro z h2 h3; (try simp only [List.forall_mem_cons, List.not_mem_nil, false_implies, implies_true, and_true, ne_eq] at h2); (try simp only [List.contains_cons, List.contains_nil, Bool.or_false, Bool.or_eq_false_iff, beq_eq_false_iff_ne, ne_eq] at h3); (simp [kstB, h2, h3]; done)))) (w2_turn hW (by lia) (by lia) (by assumption)) (by dsimp only; lia)
      | (have hI := w2_end hW (by first | exact .inr (.inr (by assumption)) | exact .inl (by lia) | exact .inr (.inl (by lia)))
         exact Hold.mk (hCut _ _ _ _ (fr_names _ (by assumption) (by rw [← hI]; kst_all)) (by assumption)))
    --] d
  intro t5 u5 h5 tk5 F5 N5
  clear F4 N4
  (simp only [List.drop])
  refine cut_by 2 (fun W => ∀ (a b : Str) (ta tb : Tok), toL a = trimA (toL x) (toL y) → toL b = trimB (toL x) (toL y) → ∀ (u : Str → Option Value) (h : Heap) (tk : Nat), Fr g1 L1 h (kstB u [(Str.ofString "a", .str a ta), (Str.ofString "b", .str b tb), (Str.ofString "max_cost", .int mx tm)]) → News g1 L1 h news → W { s with heap := h, toks := tk }) ?_ ?_
  · --[ e
    intro W hCut
    (dsimp only [List.take_succ_cons, List.take_zero])
    try k_fold
    generalize hq : -(lcp (toL a).reverse (toL b).reverse : Int) = q at *
    k_steps
    all_goals first
      | contradiction
      | (exfalso; lia)
      | (have tr := trim_is (a2 := Txt.slice a none none) (b2 := Txt.slice b none none) ha hb hq.symm (.inl ⟨by lia, rfl, rfl⟩)
         exact Hold.mk (hCut _ _ _ _ tr.1 tr.2 _ _ _ (fr_names _ (by assumption) (by kst_all)) (by first | assumption | exact cb_drop (by assumption) (by kcj_all))))
      | (have tr := trim_is (a2 := Txt.slice a none (some q)) (b2 := Txt.slice b none (some q)) ha hb hq.symm (.inr ⟨by lia, rfl, rfl⟩)
         exact Hold.mk (hCut _ _ _ _ tr.1 tr.2 _ _ _ (fr_names _ (by assumption) (by kst_all)) (by first | assumption | exact cb_drop (by assumption) (by kcj_all))))
    --] e
  intro a6 b6 ta6 tb6 ha6 hb6 u6 h6 tk6 F6 N6
  clear F5 N5 ha hb la lb
  (simp only [List.drop])
  have la : a6.length ≤ 6 := by rw [← toL_len, ha6]; have := trimA_len (toL x) (toL y); rw [toL_len] at this; lia
  have lb : b6.length ≤ 6 := by rw [← toL_len, hb6]; have := trimB_len (toL x) (toL y); rw [toL_len] at this; lia
  have hlev := levL_ne mx hne
  rw [← ha6, ← hb6] at hlev
  -- not a or not b; too long
  refine cut_by 2 (fun W => a6.length ≠ 0 → b6.length ≠ 0 → ∀ (u : Str → Option Value) (h : Heap) (tk : Nat), Fr g1 L1 h (kstB u [(Str.ofString "a", .str a6 ta6), (Str.ofString "b", .str b6 tb6), (Str.ofString "max_cost", .int mx tm)]) → News g1 L1 h news → W { s with heap := h, toks := tk }) ?_ ?_
  · --[ f
    intro W hCut
    (dsimp only [List.take_succ_cons, List.take_zero])
    try k_fold
    k_steps
    · exact Hold.mk (hCut (by lia) (by lia) _ _ _ (fr_names _ (by assumption) (by kst_all)) (by first | assumption | exact cb_drop (by assumption) (by kcj_all)))
    · exact hret _ _ _ [] ⟨⟨_, by rw [hlev, levTrim_nil (by rw [toL_len, toL_len]; lia)]; rfl⟩, rfl⟩ (by assumption) (by assumption)
    · exact hret _ _ _ [] ⟨⟨_, by rw [hlev, levTrim_nil (by rw [toL_len, toL_len]; lia)]; rfl⟩, rfl⟩ (by assumption) (by assumption)
    --] f
  intro na nb u7 h7 tk7 F7 N7
  clear F6 N6
  (simp only [List.drop])
  -- the shorter one first
  refine cut_by 1 (fun W => ∀ (a b : Str) (ta tb : Tok), 0 < a.length → a.length ≤ b.length → b.length ≤ 6 → levL (toL x) (toL y) mx = levCore (toL a) (toL b) mx → ∀ (u : Str → Option Value) (h : Heap) (tk : Nat), Fr g1 L1 h (kstB u [(Str.ofString "a", .str a ta), (Str.ofString "b", .str b tb), (Str.ofString "max_cost", .int mx tm)]) → News g1 L1 h news → W { s with heap := h, toks := tk }) ?_ ?_
  · --[ g
    intro W hCut
    (dsimp only [List.take_succ_cons, List.take_zero])
    try k_fold
    k_steps
    · exact Hold.mk (hCut b6 a6 tb6 ta6 (by lia) (by lia) (by lia) (by rw [hlev, levTrim_swap (by rw [toL_len]; lia) (by rw [toL_len]; lia) (by rw [toL_len, toL_len]; lia)]) _ _ _ (fr_names _ (by assumption) (by kst_all)) (by first | assumption | exact cb_drop (by assumption) (by kcj_all)))
    · exact Hold.mk (hCut a6 b6 ta6 tb6 (by lia) (by lia) (by lia) (by rw [hlev, levTrim_stay (by rw [toL_len]; lia) (by rw [toL_len]; lia) (by rw [toL_len, toL_len]; lia)]) _ _ _ (fr_names _ (by assumption) (by kst_all)) (by first | assumption | exact cb_drop (by assumption) (by kcj_all)))
    --] g
  intro a8 b8 ta8 tb8 na8 lab lb8 hlev8 u8 h8 tk8 F8 N8
  clear F7 N7 na nb la lb ha6 hb6 hlev
  (simp only [List.drop])
  -- too far; the row
  refine cut_by 3 (fun W => ∀ (R : Addr) (vs : List Value) (n : Nat) (t : Tok), IntsAre vs (rowInit a8.length) → ((∀ p ∈ news, p.1 ≠ R)) → levL (toL x) (toL y) mx = outL (toL a8) (toL b8) mx b8.length 0 (rowInit a8.length) 0 → ∀ (u : Str → Option Value) (h : Heap) (tk : Nat), Fr g1 L1 h (kstB u [(Str.ofString "a", .str a8 ta8), (Str.ofString "b", .str b8 tb8), (Str.ofString "max_cost", .int mx tm), (Str.ofString "row", .ref R), (Str.ofString "result", .int 0 t)]) → News g1 L1 h ((R, listOf vs.toArray n) :: news) → W { s with heap := h, toks := tk }) ?_ ?_
  · --[ h
    intro W hCut
    (dsimp only [List.take_succ_cons, List.take_zero])
    try k_fold
    repeat' ((fail_if_success (with_reducible show wpAny _ _ (call (Value.type "list") _) _ _ _)); first | walk1 | (dsimp only; walk1))
    all_goals try ((with_reducible show wpAny _ _ (call (Value.type "list") _) _ _ _); (rename IsRange _ _ _ _ _ _ _ _ => rgX); (with_unfolding_all refine' list_rng rfl ?k1 ?k2 rgX (rng_small _ ?k3) ?k4 ?_); (case k1 => k_asm); (case k2 => k_asm); (case k3 => lia); (case k4 => lia); intro D' us' k' h' tk' F' N' hD' hI'; try k_sweep)
    all_goals k_steps
    · exact hret _ _ _ [] ⟨⟨_, by rw [hlev8, levCore_far (by rw [toL_len, toL_len]; lia)]⟩, rfl⟩ (by assumption) (by assumption)
    · exact Hold.mk (hCut _ _ _ _ (by assumption) (by assumption) (by rw [hlev8, levCore_go (by rw [toL_len, toL_len]; lia)]; rfl) _ _ _ (fr_names _ (by assumption) (by kst_all)) (by first | assumption | exact cb_drop (by assumption) (by kcj_all)))
    --] h
  intro R vs n t9 hvs hR hlev9 u9 h9 tk9 F9 N9
  clear F8 N8
  (simp only [List.drop])
  --[ i
  refine cut_by 1 (fun W => ∀ (t : Tok), ∀ (u : Str → Option Value) (h : Heap) (tk : Nat), Fr g1 L1 h (kstB u [(Str.ofString "result", .int (levL (toL x) (toL y) mx) t)]) → News g1 L1 h news → W { s with heap := h, toks := tk }) ?_ ?_
  · --[ j
    intro W hCut
    (dsimp only [List.take_succ_cons, List.take_zero])
    try k_fold
    refine wpAny_execs_cons ?_
    have st1 : (rowInit a8.length).length = a8.length := by simp [rowInit]
    (repeat ((fail_if_success (with_reducible show wpAny _ _ (pyIter _) _ _ _)); walk1))
    k_state (fun pre r row => row.length = a8.length ∧ pre.length ≤ b8.length ∧ levL (toL x) (toL y) mx = outL (toL a8) (toL b8) mx (b8.length - pre.length) pre.length row r) "result" "row"
    · --[ k
      rename_i r0 tr0 rvs row nn i1 i2 i3 i4
      obtain ⟨oPre, hoPre⟩ : ∃ l, l = kPre := ⟨_, rfl⟩
      subst hoPre
      obtain ⟨oN, hoN⟩ : ∃ l, l = kN := ⟨_, rfl⟩
      subst hoN
      obtain ⟨oOwn, hoOwn⟩ : ∃ l, l = kOwn := ⟨_, rfl⟩
      subst hoOwn
      rename OwnOff _ _ => oOff
      have hlt : oPre.length < b8.length := by lia
      have hoN : oN = (oPre.length : Int) := by lia
      (repeat ((fail_if_success (with_reducible show wpAny _ _ (pyIter _) _ _ _)); walk1))
      (k_with "state" => first | exact ⟨Nat.zero_le _, by assumption, by rw [hoN]; rfl⟩)
      k_state (fun pre d r mn rw => pre.length ≤ a8.length ∧ rw.length = a8.length ∧ (rw, d, r, mn) = inLoop ((toL b8).getD oPre.length 0) (toL a8) row oPre.length pre.length) "distance" "result" "minimum" "row"
      · --[ m
        rename_i d1 td1 r1 tr1 mn1 tmn1 rvs1 row1 nn1 j1 j2 j3 j4 j5
        have hka : kPre.length < a8.length := by lia
        have hkN : kN = (kPre.length : Int) := by lia
        have hcost := cost_items (a := a8) (b := b8) hoN hkN hlt hka
        repeat ((fail_if_success (with_reducible show wpAny _ _ (call (Value.ref 21) _) _ _ _)); first | walk1 | (dsimp only; walk1))
        refine Ctr.goI (sub_ctr _ _ _ _ _ _ (Nat.le_refl _) (Nat.le_refl _)) (by k_asm) (by k_asm) (by k_asm) (by k_asm) (by k_asm) rfl (by ktr_room) (by ktr_units) ?_
        intro t9 h9 tk9 F9 N9
        try dsimp only
        try k_fold
        try k_sweep
        k_steps
        refine' ksa_set (D := R) ?kF ?kN (Upd.head ?hof) ?kI ?k0 ?k1 ?k2 ?_
        (case kF => k_asm)
        (case kN => k_asm)
        (case kI => assumption)
        (case k0 => lia)
        (case k1 => lia)
        (case k2 => lia)
        (case hof =>
          intro p hp
          simp only [List.mem_append] at hp
          first
            | (rcases hp with (hp | hp) | hp; exact hR p hp; exact oOff p hp R (.head _); exact kOff p hp R (.head _))
            | (rcases hp with hp | hp | hp; exact hR p hp; exact oOff p hp R (.head _); exact kOff p hp R (.head _)))
        intro hS FS NS hIS hlS hsumS
        clear hsumS
        try k_sweep
        (k_with "state" => first | exact ⟨by simp only [List.length_append, List.length_singleton]; lia, hlS.trans j2, in_less j3 hkN hcost (by assumption)⟩ | exact ⟨by simp only [List.length_append, List.length_singleton]; lia, hlS.trans j2, in_more j3 hkN hcost (by assumption)⟩)
        k_steps
        --] m
      · --[ n
        rename_i d1 td1 r1 tr1 mn1 tmn1 rvs1 row1 nn1 j1 j2 j3 j4 j5
        simp only [rangeKs_length] at j3
        (k_with "state" => exact ⟨j2, by simp only [List.length_append, List.length_singleton]; lia, by rw [List.length_append]; exact out_next i3 hlt (by rw [toL_len]; lia) j3 (by assumption)⟩)
        k_steps
        · exact hret _ _ _ [] ⟨⟨_, by rw [out_stop i3 hlt (by rw [toL_len]; lia) j3 (by assumption)]⟩, rfl⟩ (by assumption) (by first | assumption | exact cb_drop (by assumption) (by kcj_all))
        have hP : row1.length = a8.length ∧ (oPre ++ [oN]).length ≤ b8.length ∧ levL (toL x) (toL y) mx = outL (toL a8) (toL b8) mx (b8.length - (oPre ++ [oN]).length) (oPre ++ [oN]).length row1 r1 :=
          ⟨j2, by simp only [List.length_append, List.length_singleton]; lia, by rw [List.length_append]; exact out_next i3 hlt (by rw [toL_len]; lia) j3 (by assumption)⟩
        refine kst_end (r1, tr1, rvs1, row1, nn1) (by assumption) (by assumption) ?hn ?ho rfl ?hf ?hk ?hr hP
        (case hf => assumption)
        (case hk => kst_all)
        (case hr => intro z hz h2 h3; (simp only [List.forall_mem_cons, List.not_mem_nil, false_implies, implies_true, and_true, ne_eq] at h2); (simp only [List.contains_cons, List.contains_nil, Bool.or_false, Bool.or_eq_false_iff, beq_eq_false_iff_ne, ne_eq] at h3); simp [kstB, hz, h2, h3])
        (case hn =>
          intro p hp
          rcases List.mem_cons.mp hp with rfl | hp
          · exact .head _
          · exact .tail _ (List.mem_append.mpr (.inl hp)))
        (case ho => intro p hp; exact .tail _ (List.mem_append.mpr (.inr hp)))
        --] n
      --] k
    · --[ l
      rename_i r0 tr0 rvs row nn i1 i2 i3 i4
      simp only [rangeKs_length] at i3
      have hres : levL (toL x) (toL y) mx = r0 := by
        rw [i3, show b8.length - ((b8.length : Int) - 0).toNat = 0 by lia]
        rfl
      k_steps
      exact Hold.mk (hCut _ _ _ _ (fr_names _ (by assumption) (by rw [hres]; kst_all)) (cb_drop (by assumption) (by intro p hp; exact .tail _ hp)))
      --] l
    --] j
  intro tA uA hA tkA FA NA
  (simp only [List.drop])
  k_steps
  exact hret _ _ _ [] ⟨⟨_, rfl⟩, rfl⟩ (by assumption) (by assumption)
  --] i
end Mine
end

section
open PySem PySem.W PyProof.Rows
set_option maxRecDepth 100000
set_option maxHeartbeats 8000000
namespace Mine
/-- one sign of the row, of what is lonely so far -/
noncomputable def lonStep (o : Nat) (st : Int × Int) (c : Int) : Int × Int := if c = (o : Int) then (st.1, st.2 + 1) else if st.2 > 0 then (st.1, st.2 - 1) else (st.1 + 1, st.2)
noncomputable def lonF (o : Nat) (l : List Int) : Int × Int := l.foldl (lonStep o) (0, 0)
theorem lon_open {o n : Nat} {d u : Int} {pre : List Int} (h : (d, u) = lonF o pre) (e : ((⟨#[n]⟩ : Str) == (⟨#[o]⟩ : Str)) = true) : (d, u + 1) = lonF o (pre ++ [(n : Int)]) := by
  have e' : n = o := by simpa using e
  unfold lonF at *
  rw [List.foldl_append, ← h]
  simp [lonStep, e']
theorem lon_ne {o n : Nat} (e : ((⟨#[n]⟩ : Str) == (⟨#[o]⟩ : Str)) = false) : ¬ (n : Int) = (o : Int) := by
  intro h
  have : n = o := by omega
  rw [this] at e
  simp at e
theorem lon_shut {o n : Nat} {d u : Int} {pre : List Int} (h : (d, u) = lonF o pre) (e : ((⟨#[n]⟩ : Str) == (⟨#[o]⟩ : Str)) = false) (hu : 0 < u) : (d, u - 1) = lonF o (pre ++ [(n : Int)]) := by
  unfold lonF at *
  rw [List.foldl_append, ← h]
  simp [lonStep, lon_ne e, hu]
theorem lon_down {o n : Nat} {d u : Int} {pre : List Int} (h : (d, u) = lonF o pre) (e : ((⟨#[n]⟩ : Str) == (⟨#[o]⟩ : Str)) = false) (hu : ¬ 0 < u) : (d + 1, u) = lonF o (pre ++ [(n : Int)]) := by
  unfold lonF at *
  rw [List.foldl_append, ← h]
  simp [lonStep, lon_ne e, hu]
theorem news_pick {h₀ h : Heap} {L : Addr} {p q : Addr × Obj} {news : List (Addr × Obj)} (N : News h₀ L h (p :: q :: news)) : News h₀ L h ([p] ++ news) := cb_drop N (by
  intro x hx
  rcases List.mem_append.mp hx with hx | hx
  · rw [List.mem_singleton.mp hx]; exact .head _
  · exact .tail _ (.tail _ hx))
theorem lon_ctr (w : World) (news) (row : Str) (o : Nat) (tr to : Tok) (hrow : row.length ≤ 6) :
    Ctr 3 w 78 news [.str row tr, .str ⟨#[o]⟩ to] (fun v more => ∃ D td tu, v = .ref D ∧ more = [(D, ({ cls := .type "tuple", data := .seq #[.int (lonF o (KStt.codes row)).1 td, .int (lonF o (KStt.codes row)).2 tu] } : Obj))]) := by
  unfold Ctr
  w_top off
  k_fill
  intro mean mg mb dp un gd cn cs fa ccd cl outer A₀ base h₀ L m s Q E hB hF hK hN hT hcs hdp hun hret
  refine wpAny_call ?_
  k_dflt cell_enter
  rename_i F1 N1 B1 X1 T1
  rename_i g1 L1 h1 FG
  (repeat ((fail_if_success (with_reducible show wpAny _ _ (exec (Stmt.For _ _ _ _ _) _) _ _ _)); walk1))
  refine For_invV g1 rfl rfl ?_
  walk1
  k_state (fun pre d u => (d, u) = lonF o pre) "down" "up"
  · rename (_, _) = lonF o _ => hinv
    k_steps
    · refine kst_end (_, _, _, _) (by assumption) (by assumption) ?hn ?ho rfl trivial (by kst_all) ?hr (lon_open hinv (by assumption))
      (case hn => first | kst_in | kst_inAny)
      (case ho => first | (intro p hp; kst_mem) | kst_anyIn)
      (case hr => ((intro z hz h2 h3; (simp only [List.forall_mem_cons, List.not_mem_nil, false_implies, implies_true, and_true, ne_eq] at h2); (try simp only [List.contains_cons, List.contains_nil, Bool.or_false, Bool.or_eq_false_iff, beq_eq_false_iff_ne, ne_eq] at h3); (simp [kstB, hz, h2, h3]; done))))
    · refine kst_end (_, _, _, _) (by assumption) (by assumption) ?hn ?ho rfl trivial (by kst_all) ?hr (lon_shut hinv (by assumption) (by omega))
      (case hn => first | kst_in | kst_inAny)
      (case ho => first | (intro p hp; kst_mem) | kst_anyIn)
      (case hr => ((intro z hz h2 h3; (simp only [List.forall_mem_cons, List.not_mem_nil, false_implies, implies_true, and_true, ne_eq] at h2); (try simp only [List.contains_cons, List.contains_nil, Bool.or_false, Bool.or_eq_false_iff, beq_eq_false_iff_ne, ne_eq] at h3); (simp [kstB, hz, h2, h3]; done))))
    · refine kst_end (_, _, _, _) (by assumption) (by assumption) ?hn ?ho rfl trivial (by kst_all) ?hr (lon_down hinv (by assumption) (by omega))
      (case hn => first | kst_in | kst_inAny)
      (case ho => first | (intro p hp; kst_mem) | kst_anyIn)
      (case hr => ((intro z hz h2 h3; (simp only [List.forall_mem_cons, List.not_mem_nil, false_implies, implies_true, and_true, ne_eq] at h2); (try simp only [List.contains_cons, List.contains_nil, Bool.or_false, Bool.or_eq_false_iff, beq_eq_false_iff_ne, ne_eq] at h3); (simp [kstB, hz, h2, h3]; done))))
  · rename (_, _) = lonF o _ => hinv
    have e1 := (congrArg Prod.fst hinv).symm
    have e2 := (congrArg Prod.snd hinv).symm
    simp only at e1 e2
    subst e1 e2
    k_steps
    exact hret _ _ _ [_] ⟨_, _, _, rfl, rfl⟩ (by assumption) (news_pick (by assumption))
end Mine
end

section
open PySem PySem.W PyProof.Rows
set_option maxRecDepth 100000
set_option maxHeartbeats 8000000
namespace Mine
theorem strs_vals : ∀ l : List (Str × Tok), StrsAre (strValues l) (l.map (·.1))
  | [] => .nil
  | (_, _) :: r => .cons _ _ (strs_vals r)
theorem vals_get {l : List (Str × Tok)} {i : Nat} {v : Value} (h : (strValues l)[i]? = some v) : ∃ y t, v = .str y t ∧ (l.map (·.1))[i]? = some y := by
  unfold strValues at h
  rw [List.getElem?_map] at h
  rw [List.getElem?_map]
  cases hl : l[i]? with
  | none => rw [hl] at h; cases h
  | some p => rw [hl] at h; simp at h; exact ⟨p.1, p.2, h.symm, rfl⟩
/-- where the search stands behind i pieces -/
noncomputable def ellAt (one : List Nat) (got : Str) (i : Nat) (st : Nat) : Prop := st ≤ got.length ∧ subq one (toL got) = subq (one.drop (i - 1)) ((toL got).drop st)
theorem ell_start (one : List Nat) (got : Str) : ellAt one got 0 0 := ⟨Nat.zero_le _, rfl⟩
theorem ell_turn {one : List Nat} {got y : Str} {i st : Nat} (h : ellAt one got i st) (hy : (pieces one)[i]? = some y) :
    (Txt.find3 got y (st : Int) < 0 ∧ subq one (toL got) = false) ∨ ∃ k : Nat, Txt.find3 got y (st : Int) = (k : Int) ∧ ellAt one got (i + 1) (k + y.length) := by
  obtain ⟨h1, h2⟩ := h
  cases i with
  | zero =>
    simp only [pieces, List.getElem?_cons_zero, Option.some.injEq] at hy
    subst hy
    exact .inr ⟨st, find_nil got st h1, by show st + 0 ≤ _; lia, h2⟩
  | succ i =>
    simp only [pieces, List.getElem?_cons_succ] at hy
    by_cases hi : i < one.length
    · rw [List.getElem?_append_left (by simpa using hi), List.getElem?_map, List.getElem?_eq_getElem hi] at hy
      simp only [Option.map_some, Option.some.injEq] at hy
      subst hy
      simp only [Nat.add_sub_cancel] at h2
      rw [List.drop_eq_getElem_cons hi] at h2
      rcases subq_find got one[i] (one.drop (i + 1)) st h1 with ⟨f, e⟩ | ⟨k, f, hk, e⟩
      · exact .inl ⟨f, by rw [h2, e]⟩
      · exact .inr ⟨k, f, by show k + 1 ≤ _; lia, by rw [h2, e]; rfl⟩
    · rw [List.getElem?_append_right (by simpa using hi)] at hy
      have hi2 : i = one.length := by
        have := (List.getElem?_eq_some_iff.mp hy).1
        simp only [List.length_map, List.length_singleton] at this
        lia
      subst hi2
      simp only [List.length_map, Nat.sub_self, List.getElem?_cons_zero, Option.some.injEq] at hy
      subst hy
      refine .inr ⟨st, find_nil got st h1, by show st + 0 ≤ _; lia, ?_⟩
      have e1 : one.drop (one.length + 1 - 1) = [] := List.drop_of_length_le (by lia)
      have e2 : one.drop (one.length + 1 + 1 - 1) = [] := List.drop_of_length_le (by lia)
      rw [h2, e1, e2]
      simp [subq]
theorem ell_end {one : List Nat} {got : Str} {st n : Nat} (h : ellAt one got n st) (hn : n = one.length + 2) : subq one (toL got) = true := by
  rw [h.2, List.drop_of_length_le (by lia)]
  cases (toL got).drop st <;> rfl
theorem gives_find4 (x y : Str) (i : Int) (t u v v' : Tok) : Gives (Builtin.«str.find» ⟨[.str x t, .str y u, .int i v, .int (x.length : Int) v'], []⟩) (.int (Txt.find3 x y i)) := by
  have e : (max 0 (if (x.length : Int) < 0 then (x.length : Int) + x.length else x.length)).toNat = x.length := by lia
  show Gives (match Builtin.Str.occurrences x y (fromIndex x.length i) (min ((max 0 (if (x.length : Int) < 0 then (x.length : Int) + x.length else x.length)).toNat) x.length) 1 with | k :: _ => retInt k | [] => (do rule "str.find.not-found"; retInt (-1))) _
  rw [e, Nat.min_self]
  unfold Txt.find3
  cases Builtin.Str.occurrences x y (fromIndex x.length i) x.length 1 with
  | nil => exact .rule (.of_eq rfl)
  | cons k _ => exact .of_eq rfl
theorem find4 {prog : Program} {w : World} {A : Around} {E : Value → Shared → Prop} {s : Shared} {x y : Str} {t u v v' : Tok} {i : Int} {Q : Value → Shared → Prop} (hq : Q (.int (Txt.find3 x y i) s.toks) { s with toks := s.toks + 1 }) :
    wpAny (model prog w) A (call (.builtin "str.find") [.str x t, .str y u, .int i v, .int (x.length : Int) v']) Q E s :=
  call_gives F.slot_str_find (typeIs_str _ _ _) F.entry_str_find (F.args_str_find_4 _ _ _ _) (gives_find4 x y i t u v v') hq
theorem item_here {prog : Program} {w : World} {A : Around} {E : Value → Shared → Prop} {s : Shared} {h₀ : Heap} {L : Addr} {news : List (Addr × Obj)} {value slice : PySem.Expr} {l : Addr} {vs : List Value} {n : Nat} {k : Int} {u : Tok} {v : Value} {Q : Value → Shared → Prop}
    (N : News h₀ L s.heap news) (hm : (l, PySem.W.listOf vs.toArray n) ∈ news) (h0 : 0 ≤ k) (hhi : k < 2 ^ 63) (hx : vs[k.toNat]? = some v) (h : Q v s)
    (hs : subscripted slice false (.ref l) (.int k u) = operate [.ref l, .int k u] (getItem (.ref l) (.int k u)) := by with_unfolding_all rfl) :
    wpAny (model prog w) A (subscriptTail value slice (.ref l) (.int k u)) Q E s :=
  have hl : s.heap.IsList l vs.toArray := ⟨_, (N _ hm).1, rfl, n, rfl⟩
  tail_any hl.typeIs slot_list_getitem.lookup (wpAny_getItem_list hl h0 hhi (by simpa using hx) h) hs
theorem item_back {prog : Program} {w : World} {A : Around} {E : Value → Shared → Prop} {s : Shared} {h₀ : Heap} {L : Addr} {news : List (Addr × Obj)} {value slice : PySem.Expr} {l : Addr} {vs : List Value} {n : Nat} {k : Int} {u : Tok} {v : Value} {Q : Value → Shared → Prop}
    (N : News h₀ L s.heap news) (hm : (l, PySem.W.listOf vs.toArray n) ∈ news) (h0 : k < 0) (h1 : -(vs.length : Int) ≤ k) (hhi : -(2 ^ 63) ≤ k) (hx : vs[(k + vs.length).toNat]? = some v) (h : Q v s)
    (hs : subscripted slice false (.ref l) (.int k u) = operate [.ref l, .int k u] (getItem (.ref l) (.int k u)) := by with_unfolding_all rfl) :
    wpAny (model prog w) A (subscriptTail value slice (.ref l) (.int k u)) Q E s :=
  have hl : s.heap.IsList l vs.toArray := ⟨_, (N _ hm).1, rfl, n, rfl⟩
  tail_any hl.typeIs slot_list_getitem.lookup (wpAny_getItem_list_neg hl h0 (by simpa using h1) hhi (by simpa using hx) h) hs
theorem vals_at {l : List (Str × Tok)} {i : Nat} {y : Str} (h : (l.map (·.1))[i]? = some y) : ∃ t, (strValues l)[i]? = some (.str y t) := by
  rw [List.getElem?_map] at h
  cases hl : l[i]? with
  | none => rw [hl] at h; cases h
  | some p => rw [hl] at h; simp at h; exact ⟨p.2, by unfold strValues; rw [List.getElem?_map, hl, ← h]; rfl⟩
theorem pieces_short {one : List Nat} {i : Nat} {y : Str} (h : (pieces one)[i]? = some y) : y.length ≤ 1 := by
  have hm := List.mem_of_getElem? h
  unfold pieces at hm
  rcases List.mem_cons.mp hm with rfl | hm
  · exact Nat.zero_le _
  · rcases List.mem_append.mp hm with hm | hm
    · obtain ⟨c, _, rfl⟩ := List.mem_map.mp hm
      exact Nat.le_refl _
    · rw [List.mem_singleton.mp hm]; exact Nat.zero_le _
theorem pieces_last (one : List Nat) : (pieces one)[one.length + 1]? = some ⟨#[]⟩ := by simp [pieces]
theorem kst_self' {m : Str → Option Value} (ps : List (Str × Value)) (hp : ∀ p ∈ ps, m p.1 = some p.2) : m = kstB m ps := (funext fun _ => kstB_eq hp fun _ => rfl : kstB m ps = m).symm


theorem ell_ctr (w : World) (news) (one : List Nat) (got : Str) (tx ty : Tok) (hx : one.length ≤ 6) (hy : got.length ≤ 6) (hd : 46 ∉ one) : Ctr 3 w 35 news [.str (wantOf one) tx, .str got ty] (fun v more => v = .bool (subq one (toL got)) ∧ more = []) := by
  have hlen : (wantOf one).length ≤ 27 := by rw [want_len]; lia
  have hhas := want_has one
  have hsplit := want_split one hd hx
  generalize hW : wantOf one = wt at *
  have edots : dots = Str.ofString "..." := by decide +kernel
  rw [edots] at hhas hsplit
  unfold Ctr
  w_top off
  k_fill
  intro mean mg mb dp un gd cn cs fa ccd cl outer A₀ base h₀ L m s Q E hB hF hK hN hT hcs hdp hun hret
  refine wpAny_call ?_
  k_dflt cell_enter
  rename_i F1 N1 B1 X1 T1
  rename_i g1 L1 h1 FG
  refine cut_by 2 (fun W => ∀ (D : Addr) (l : List (Str × Tok)), l.map (·.1) = pieces one → ∀ (u : Str → Option Value) (h : Heap) (tk : Nat), Fr g1 L1 h (kstB u [(Str.ofString "want", .str wt tx), (Str.ofString "got", .str got ty), (Str.ofString "ws", .ref D)]) → News g1 L1 h ((D, PySem.W.listOf (strValues l).toArray 0) :: news) → W { s with heap := h, toks := tk }) ?_ ?_
  · --[ a
    intro W hW
    (dsimp only [List.take_succ_cons, List.take_zero])
    repeat' ((fail_if_success (with_reducible show wpAny _ _ (call (Value.builtin "str.split") _) _ _ _)); first | walk1 | (dsimp only; walk1))
    all_goals try ((with_reducible show wpAny _ _ (call (Value.builtin "str.split") _) _ _ _); (with_reducible rename Fr _ _ _ _ => F'); (with_reducible rename News _ _ _ _ => N'); (refine splitN1 (hsz := ?hsz) F' N' (by rfl) ?_); (case hsz => size_fits); intro _ _ _ _ _ _)
    all_goals k_steps
    all_goals first
      | (exfalso; rw [hhas] at *; contradiction)
      | exact Hold.mk (hW _ _ (by rw [← hsplit]; assumption) _ _ _ (fr_names _ (by assumption) (by kst_all)) (by assumption))

    --] a
  intro D l hl u2 h2 tk2 F2 N2
  clear F1 N1
  (simp only [List.drop])
  have hll : l.length = one.length + 2 := by
    have := congrArg List.length hl
    simp [pieces] at this
    lia
  have hvl : (strValues l).length = one.length + 2 := by unfold strValues; rw [List.length_map]; exact hll
  obtain ⟨tA, hA⟩ := vals_at (l := l) (i := 0) (y := ⟨#[]⟩) (by rw [hl]; rfl)
  obtain ⟨tZ, hZ⟩ := vals_at (l := l) (i := one.length + 1) (y := ⟨#[]⟩) (by rw [hl]; exact pieces_last one)
  have hA' : (strValues l)[(0 : Int).toNat]? = some (.str ⟨#[]⟩ tA) := hA
  have hZ' : (strValues l)[((-1 : Int) + (strValues l).length).toNat]? = some (.str ⟨#[]⟩ tZ) := by rw [hvl, show ((-1 : Int) + ((one.length + 2 : Nat) : Int)).toNat = one.length + 1 by lia]; exact hZ
  -- assert; startpos, endpos
  refine cut_by 2 (fun W => ∀ (t0 te : Tok), ∀ (u : Str → Option Value) (h : Heap) (tk : Nat), Fr g1 L1 h (kstB u [(Str.ofString "got", .str got ty), (Str.ofString "ws", .ref D), (Str.ofString "startpos", .int 0 t0), (Str.ofString "endpos", .int got.length te)]) → News g1 L1 h ((D, PySem.W.listOf (strValues l).toArray 0) :: news) → W { s with heap := h, toks := tk }) ?_ ?_
  · --[ b
    intro W hW
    (dsimp only [List.take_succ_cons, List.take_zero])
    k_steps
    exact Hold.mk (hW _ _ _ _ _ (fr_names _ (by assumption) (by kst_all)) (by first | assumption | exact cb_drop (by assumption) (by intro p hp; exact .tail _ hp)))
    --] b
  intro t0 te u3 h3 tk3 F3 N3
  clear F2 N2
  (simp only [List.drop])
  -- the ends
  refine cut_by 5 (fun W => ∀ (u : Str → Option Value) (h : Heap) (tk : Nat), Fr g1 L1 h (kstB u [(Str.ofString "got", .str got ty), (Str.ofString "ws", .ref D), (Str.ofString "startpos", .int 0 t0), (Str.ofString "endpos", .int got.length te)]) → News g1 L1 h ((D, PySem.W.listOf (strValues l).toArray 0) :: news) → W { s with heap := h, toks := tk }) ?_ ?_
  · --[ c
    intro W hW
    (dsimp only [List.take_succ_cons, List.take_zero])
    repeat ((fail_if_success (with_reducible show wpAny _ _ (subscriptTail _ _ (Value.ref _) (Value.int _ _)) _ _ _)); first | walk1 | (dsimp only; walk1))
    refine item_here (by assumption) (.head _) (by decide) (by decide) (by assumption) ?_
    repeat ((fail_if_success (with_reducible show wpAny _ _ (subscriptTail _ _ (Value.ref _) (Value.int _ _)) _ _ _)); first | walk1 | (dsimp only; walk1))
    refine item_back (by assumption) (.head _) (by decide) (by lia) (by decide) (by assumption) ?_
    k_steps
    exact Hold.mk (hW _ _ _ (fr_names _ (by assumption) (by kst_all)) (by assumption))
    --] c
  intro u4 h4 tk4 F4 N4
  clear F3 N3
  (simp only [List.drop])
  --[ d
  refine wpAny_execs_cons ?_
  refine For_invV g1 rfl rfl ?_
  walk1
  refine for_vals (fun i m => ∃ (u : Str → Option Value) (st : Nat) (t : Tok), m = kstB u [(Str.ofString "got", .str got ty), (Str.ofString "startpos", .int st t), (Str.ofString "endpos", .int got.length te)] ∧ ellAt one got i st) rfl (.head _) (by assumption) (by assumption) ⟨_, 0, _, kst_self' _ (by kst_all), ell_start _ _⟩ ?_ ?_
  · rintro i v m₁ h tk own hv ⟨u, st, t, rfl, hc⟩ FT NT
    obtain ⟨y, tyy, rfl, hyy⟩ := vals_get hv
    rw [hl] at hyy
    have hyl : y.length ≤ 1 := pieces_short hyy
    have ht := ell_turn hc hyy
    repeat ((fail_if_success (with_reducible show wpAny _ _ (call (Value.builtin "str.find") _) _ _ _)); first | walk1 | (dsimp only; walk1))
    refine find4 ?_
    k_steps
    · dsimp only [VPost]
      k_steps
      rcases ht with ⟨_, e⟩ | ⟨k, e, _⟩
      · exact hret _ _ _ [] ⟨by rw [e], rfl⟩ (by assumption) (cb_drop (by assumption) (by intro p hp; exact .tail _ (List.mem_append.mpr (.inl hp))))
      · exfalso; lia
    · rcases ht with ⟨e, _⟩ | ⟨k, e, hk⟩
      · exfalso; lia
      · exact ⟨_, _, _, rfl, by assumption, by assumption, _, k + y.length, _, kst_self' _ (by rw [Int.natCast_add, ← e]; kst_all), hk⟩
  · rintro m₁ h tk ⟨u, st, t, rfl, hc⟩ FT NT
    have hfin := ell_end hc hvl
    k_steps
    exact hret _ _ _ [] ⟨by rw [hfin], rfl⟩ (by assumption) (cb_drop (by assumption) (by intro p hp; exact .tail _ hp))
  --] d
end Mine
end

section
open PySem PySem.W PyProof.Rows
set_option maxRecDepth 100000
set_option maxHeartbeats 8000000
namespace Mine
/-- what _law_nearest reckons -/
noncomputable def nearF (row : List Nat) : List (List Nat) → Int → Int
  | [], c => c
  | o :: r, c => nearF row r (min c (levL row o (c - 1)))
theorem kst_self {m : Str → Option Value} (ps : List (Str × Value)) (hp : ∀ p ∈ ps, m p.1 = some p.2) : m = kstB m ps := (funext fun z => kstB_eq hp fun _ => rfl : kstB m ps = m).symm
theorem strs_get {vs : List Value} {ys : List Str} (h : StrsAre vs ys) : ∀ {i : Nat} {v : Value}, vs[i]? = some v → ∃ y t, v = .str y t ∧ ys[i]? = some y := by
  induction h with
  | nil => intro i v h; simp at h
  | cons y t _ ih =>
    intro i v h
    cases i with
    | zero => simp at h; exact ⟨y, t, h.symm, rfl⟩
    | succ i => simp at h; obtain ⟨y', t', e1, e2⟩ := ih h; exact ⟨y', t', e1, by simpa using e2⟩
theorem strs_len {vs : List Value} {ys : List Str} (h : StrsAre vs ys) : vs.length = ys.length := by
  induction h with
  | nil => rfl
  | cons _ _ _ ih => simp [ih]
theorem near_step {row : List Nat} {ones : List Str} {i : Nat} {y : Str} {c V : Int} (h : V = nearF row ((ones.drop i).map toL) c) (hy : ones[i]? = some y) : V = nearF row ((ones.drop (i + 1)).map toL) (min c (levL row (toL y) (c - 1))) := by
  have hi : i < ones.length := (List.getElem?_eq_some_iff.mp hy).1
  have e : ones[i] = y := (List.getElem?_eq_some_iff.mp hy).2
  rw [h, List.drop_eq_getElem_cons hi, e]
  rfl
theorem near_if {row : List Nat} {ones : List Str} {i : Nat} {y : Str} {c V : Int} (h : V = nearF row ((ones.drop i).map toL) c) (hy : ones[i]? = some y) : V = nearF row ((ones.drop (i + 1)).map toL) (if levL row (toL y) (c - 1) < c then levL row (toL y) (c - 1) else c) := by
  rw [near_step h hy]
  congr 1
  split <;> omega
theorem near_end {row : List Nat} {ones : List Str} {c V : Int} {n : Nat} (h : V = nearF row ((ones.drop n).map toL) c) (hn : n = ones.length) : V = c := by
  rw [h, hn, List.drop_length]
  rfl

theorem near_ctr (w : World) (news) (row : Str) (tr : Tok) (l : Addr) (vs : List Value) (nn : Nat) (ones : List Str) (hrow : row.length ≤ 6) (hl : (l, W.listOf vs.toArray nn) ∈ news) (hs : StrsAre vs ones) (hlen : ∀ o ∈ ones, o.length ≤ 6) :
    Ctr 6 w 90 news [.str row tr, .ref l] (fun v more => (∃ t, v = .int (nearF (toL row) (ones.map toL) 13) t) ∧ more = []) := by
  unfold Ctr
  w_top off
  k_fill
  intro mean mg mb dp un gd cn cs fa ccd cl outer A₀ base h₀ L m s Q E hB hF hK hN hT hcs hdp hun hret
  refine wpAny_call ?_
  k_dflt cell_enter
  rename_i F1 N1 B1 X1 T1
  rename_i g1 L1 h1 FG
  (repeat ((fail_if_success (with_reducible show wpAny _ _ (pyIter _) _ _ _)); walk1))
  refine For_invV g1 rfl rfl ?_
  walk1
  refine for_vals (fun i m => ∃ (u : Str → Option Value) (c : Int) (t : Tok), m = kstB u [(Str.ofString "row", .str row tr), (Str.ofString "nearest", .int c t)] ∧ nearF (toL row) (ones.map toL) 13 = nearF (toL row) ((ones.drop i).map toL) c) rfl hl (by assumption) (by assumption) ⟨_, 13, _, kst_self _ (by kst_all), rfl⟩ ?_ ?_
  · rintro i v m₁ h tk own hv ⟨u, c, t, rfl, hc⟩ FT NT
    obtain ⟨y, ty, rfl, hy⟩ := strs_get hs hv
    have hyl := hlen y (List.mem_of_getElem? hy)
    repeat ((fail_if_success (with_reducible show wpAny _ _ (call (Value.ref 28) _) _ _ _)); first | walk1 | (dsimp only; walk1))
    refine Ctr.goI (lev_ctr _ _ _ _ _ _ _ _ (by assumption) (by assumption)) (by k_asm) (by k_asm) (by k_asm) (by k_asm) (by k_asm) rfl (by ktr_room) (by ktr_units) ?_
    intro t9 h9 tk9 F9 N9
    try dsimp only
    try k_fold
    try k_sweep
    k_steps
    have hc2 := near_if hc hy
    exact ⟨_, _, _, rfl, by assumption, by assumption, _, _, _, kst_self _ (by kst_all), hc2⟩
  · rintro m₁ h tk ⟨u, c, t, rfl, hc⟩ FT NT
    have hc' := near_end hc (strs_len hs)
    k_steps
    exact hret _ _ _ [] ⟨⟨_, by rw [hc']⟩, rfl⟩ (by assumption) (by assumption)
end Mine
end

section
open PySem PySem.W PyProof.Rows
namespace Mine
noncomputable def one (c : Nat) : Str := ⟨#[c]⟩
/-- the rows so far with their heights -/
noncomputable def rowsF (o c : Nat) : Nat → List (Str × Int)
  | 0 => [(⟨#[]⟩, 256)]
  | i + 1 => (rowsF o c i).map (fun p => (p.1 ++ ⟨#[o]⟩, p.2 + 1)) ++ ((rowsF o c i).filter fun p => decide (256 ≤ p.2 - 1)).map (fun p => (p.1 ++ ⟨#[c]⟩, p.2 - 1))
noncomputable def closedF (o c : Nat) : Nat → List Str
  | 0 => [⟨#[]⟩]
  | i + 1 => closedF o c i ++ ((rowsF o c (i + 1)).filter fun p => decide (p.2 - 256 = 0)).map (·.1)
theorem str_len_app (x y : Str) : (x ++ y).length = x.length + y.length := by
  show (x.cps ++ y.cps).size = _
  rw [Array.size_append]; rfl
theorem rows_size (o c : Nat) : ∀ i, ∀ p ∈ rowsF o c i, p.1.length = i
  | 0, p, hp => by rw [List.mem_singleton.mp hp]; rfl
  | i + 1, p, hp => by
    rcases List.mem_append.mp hp with hp | hp
    · obtain ⟨q, hq, rfl⟩ := List.mem_map.mp hp
      show (q.1 ++ (⟨#[o]⟩ : Str)).length = _
      rw [str_len_app, rows_size o c i q hq]; rfl
    · obtain ⟨q, hq, rfl⟩ := List.mem_map.mp hp
      show (q.1 ++ (⟨#[c]⟩ : Str)).length = _
      rw [str_len_app, rows_size o c i q (List.mem_filter.mp hq).1]; rfl
theorem rows_many (o c : Nat) : ∀ i, (rowsF o c i).length ≤ 2 ^ i
  | 0 => Nat.le_refl _
  | i + 1 => by
    have := rows_many o c i
    have h2 := List.length_filter_le (fun p : Str × Int => decide (256 ≤ p.2 - 1)) (rowsF o c i)
    rw [rowsF, List.length_append, List.length_map, List.length_map, Nat.pow_succ]
    lia
theorem closed_many (o c : Nat) : ∀ i, (closedF o c i).length ≤ 2 ^ (i + 1)
  | 0 => by show 1 ≤ 2; lia
  | i + 1 => by
    have h1 := closed_many o c i
    have h2 := rows_many o c (i + 1)
    have h3 := List.length_filter_le (fun p : Str × Int => decide (p.2 - 256 = 0)) (rowsF o c (i + 1))
    rw [closedF, List.length_append, List.length_map, Nat.pow_succ]
    lia
theorem closed_size (o c : Nat) : ∀ i, ∀ x ∈ closedF o c i, x.length ≤ i
  | 0, p, hp => by rw [List.mem_singleton.mp hp]; exact Nat.le_refl _
  | i + 1, p, hp => by
    rcases List.mem_append.mp hp with hp | hp
    · exact Nat.le_succ_of_le (closed_size o c i p hp)
    · obtain ⟨q, hq, rfl⟩ := List.mem_map.mp hp
      exact Nat.le_of_eq (rows_size o c (i + 1) q (List.mem_filter.mp hq).1)
theorem pow_le {i : Nat} (h : i ≤ 6) : 2 ^ i ≤ 64 := Nat.pow_le_pow_right (n := 2) (by lia) h

abbrev pairO (x : Str) (tx : Tok) (h : Int) (th : Tok) : Obj := { cls := .type "tuple", data := .seq #[.str x tx, .int h th] }
/-- a list's items are pairs of the ledger -/
inductive PairsIn (news : List (Addr × Obj)) : List Value → List (Str × Int) → Prop
  | nil : PairsIn news [] []
  | cons {t : Addr} {x : Str} {tx : Tok} {h : Int} {th : Tok} {vs : List Value} {ps : List (Str × Int)} : (t, pairO x tx h th) ∈ news → PairsIn news vs ps → PairsIn news (.ref t :: vs) ((x, h) :: ps)
theorem PairsIn.mono {news news' : List (Addr × Obj)} {vs : List Value} {ps : List (Str × Int)} (h : PairsIn news vs ps) (sub : ∀ p ∈ news, p ∈ news') : PairsIn news' vs ps := by
  induction h with
  | nil => exact .nil
  | cons hm _ ih => exact .cons (sub _ hm) ih
theorem PairsIn.len {news : List (Addr × Obj)} {vs : List Value} {ps : List (Str × Int)} (h : PairsIn news vs ps) : vs.length = ps.length := by
  induction h with
  | nil => rfl
  | cons _ _ ih => rw [List.length_cons, List.length_cons, ih]
theorem PairsIn.app {news : List (Addr × Obj)} {vs ws : List Value} {ps qs : List (Str × Int)} (h : PairsIn news vs ps) (h2 : PairsIn news ws qs) : PairsIn news (vs ++ ws) (ps ++ qs) := by
  induction h with
  | nil => exact h2
  | cons hm _ ih => exact .cons hm ih
theorem PairsIn.get {news : List (Addr × Obj)} {vs : List Value} {ps : List (Str × Int)} (h : PairsIn news vs ps) : ∀ {i : Nat} {v : Value}, vs[i]? = some v → ∃ t x tx y ty, v = .ref t ∧ (t, pairO x tx y ty) ∈ news ∧ ps[i]? = some (x, y) := by
  induction h with
  | nil => intro i v h; simp at h
  | cons hm _ ih =>
    intro i v h
    cases i with
    | zero => simp at h; exact ⟨_, _, _, _, _, h.symm, hm, rfl⟩
    | succ i => simp at h; obtain ⟨t, x, tx, y, ty, e1, e2, e3⟩ := ih h; exact ⟨t, x, tx, y, ty, e1, e2, by simpa using e3⟩
theorem PairsIn.but {h₀ h : Heap} {L D : Addr} {o : Obj} {news : List (Addr × Obj)} {vs : List Value} {ps : List (Str × Int)} (hP : PairsIn news vs ps) (N : News h₀ L h news) (hD : (D, o) ∈ news) (hc : Value.type "tuple" ≠ o.cls) : PairsIn (news.filter fun p => decide (p.1 ≠ D)) vs ps := by
  induction hP with
  | nil => exact .nil
  | cons hm _ ih => exact .cons (mem_but hm (news_ne N hm hD hc)) ih
theorem take_snoc {α : Type} {l : List α} {i : Nat} {a : α} (h : l[i]? = some a) : l.take (i + 1) = l.take i ++ [a] := by rw [List.take_add_one, h]; rfl
theorem strs_snoc {y : Str} {t : Tok} : ∀ {vs : List Value} {ys : List Str}, StrsAre vs ys → StrsAre (vs ++ [.str y t]) (ys ++ [y])
  | _, _, .nil => .cons y t .nil
  | _, _, .cons z u r => .cons z u (strs_snoc r)
theorem strs_app : ∀ {vs ws : List Value} {ys zs : List Str}, StrsAre vs ys → StrsAre ws zs → StrsAre (vs ++ ws) (ys ++ zs)
  | _, _, _, _, .nil, h => h
  | _, _, _, _, .cons z u r, h => .cons z u (strs_app r h)
end Mine
end

section
open PySem PySem.W PyProof.Rows PyProof.Rows.LCg
set_option maxRecDepth 100000
set_option maxHeartbeats 1000000
namespace Mine
theorem relay {h₀ h : Heap} {L : Addr} {a b c : Addr × Obj} {nw : List (Addr × Obj)} (N : News h₀ L h (a :: b :: c :: nw)) (ps : List (Addr × Obj)) (hp : ∀ p ∈ ps, p ∈ nw) : News h₀ L h (a :: b :: c :: (ps ++ nw)) := fun p hq => by
  refine N p ?_
  simp only [List.mem_cons, List.mem_append] at hq ⊢
  rcases hq with h | h | h | h | h
  · exact .inl h
  · exact .inr (.inl h)
  · exact .inr (.inr (.inl h))
  · exact .inr (.inr (.inr (hp _ h)))
  · exact .inr (.inr (.inr h))
theorem end_pair {h₀ h' : Heap} {L I C D T : Addr} {m : Str → Option Value} {s₁ : Shared} {oI oC oD oT : Obj} {S : List (Addr × Obj) → Prop} {J : Value → List (Addr × Obj) → Prop} {y : Value} {tk : Nat} {rest nw' : List (Addr × Obj)}
    (F : Fr h₀ L h' m) (N : News h₀ L h' ((T, oT) :: (I, oI) :: (C, oC) :: (D, oD) :: rest)) (hsub : ∀ p ∈ nw', p ∈ rest) (off : Off3 I C D nw') (l1 : I < T) (l2 : C < T) (l3 : D < T) (hS : S ((T, oT) :: nw')) (r : J y ((T, oT) :: nw')) :
    CompEnd h₀ L m s₁ I oI C oC D oD S J y { s₁ with heap := h', toks := tk } := by
  refine CompEnd.intro F N ((T, oT) :: nw') (fun p hp => ?_) ⟨⟨Nat.ne_of_gt l1, Nat.ne_of_gt l2, Nat.ne_of_gt l3⟩, off⟩ hS r
  simp only [List.mem_cons] at hp ⊢
  rcases hp with h | h | h | h | h
  · exact .inr (.inl h)
  · exact .inr (.inr (.inl h))
  · exact .inr (.inr (.inr (.inl h)))
  · exact .inl h
  · exact .inr (.inr (.inr (.inr (hsub _ h))))
theorem end_same {h₀ h' : Heap} {L I C D : Addr} {m : Str → Option Value} {s₁ : Shared} {oI oC oD : Obj} {S : List (Addr × Obj) → Prop} {J : Value → List (Addr × Obj) → Prop} {y : Value} {tk : Nat} {rest nw' : List (Addr × Obj)}
    (F : Fr h₀ L h' m) (N : News h₀ L h' ((I, oI) :: (C, oC) :: (D, oD) :: rest)) (hsub : ∀ p ∈ nw', p ∈ rest) (off : Off3 I C D nw') (hS : S nw') (r : J y nw') :
    CompEnd h₀ L m s₁ I oI C oC D oD S J y { s₁ with heap := h', toks := tk } := by
  refine CompEnd.intro F N nw' (fun p hp => ?_) off hS r
  simp only [List.mem_cons] at hp ⊢
  rcases hp with h | h | h | h
  · exact .inl h
  · exact .inr (.inl h)
  · exact .inr (.inr (.inl h))
  · exact .inr (.inr (.inr (hsub _ h)))
theorem pairs_snoc {nw' : List (Addr × Obj)} {ys : List Value} {ps : List (Str × Int)} {T : Addr} {x : Str} {tx : Tok} {y : Int} {ty : Tok} (h : PairsIn nw' ys ps) : PairsIn ((T, pairO x tx y ty) :: nw') (ys ++ [.ref T]) (ps ++ [(x, y)]) :=
  (h.mono fun _ hp => .tail _ hp).app (.cons (.head _) .nil)
theorem off1_mem {D : Addr} : ∀ {l : List (Addr × Obj)}, Off1 D l → ∀ p ∈ l, p.1 ≠ D
  | [], _, _, h => nomatch h
  | _ :: _, x, p, h => by
    rcases List.mem_cons.mp h with rfl | h
    · exact x.1
    · exact off1_mem x.2 p h
theorem take_map_snoc {α β : Type} {f : α → β} {l : List α} {k : Nat} {a : α} (h : l[k]? = some a) : (l.take (k + 1)).map f = (l.take k).map f ++ [f a] := by rw [take_snoc h, List.map_append]; rfl
theorem take_filter_yes {α β : Type} {f : α → β} {p : α → Bool} {l : List α} {k : Nat} {a : α} (h : l[k]? = some a) (hp : p a = true) : ((l.take (k + 1)).filter p).map f = ((l.take k).filter p).map f ++ [f a] := by rw [take_snoc h, List.filter_append, List.map_append, List.filter_cons, if_pos hp]; rfl
theorem take_filter_no {α β : Type} {f : α → β} {p : α → Bool} {l : List α} {k : Nat} {a : α} (h : l[k]? = some a) (hp : p a = false) : ((l.take (k + 1)).filter p).map f = ((l.take k).filter p).map f := by rw [take_snoc h, List.filter_append, List.map_append, List.filter_cons, if_neg (by rw [hp]; exact Bool.false_ne_true), List.filter_nil, List.map_nil, List.append_nil]
theorem news_ne2 {L : Addr} {h₀ h : Heap} {led : List (Addr × Obj)} {p q : Addr × Obj} (N : News h₀ L h led) (hp : p ∈ led) (hq : q ∈ led) (hc : p.2.data ≠ q.2.data) : p.1 ≠ q.1 := by
  intro e
  have h1 := (N p hp).1
  have h2 := (N q hq).1
  rw [e] at h1
  exact hc (congrArg Obj.data (Option.some.inj (h1.symm.trans h2)))
theorem rows_short {o c i k : Nat} {x : Str} {y : Int} (hi : i ≤ 6) (h : (rowsF o c i)[k]? = some (x, y)) : x.length ≤ 6 := by
  have := rows_size o c i _ (List.mem_of_getElem? h)
  simp only at this
  lia
theorem rows_few (o c : Nat) {i : Nat} (hi : i ≤ 6) : (rowsF o c i).length ≤ 64 := Nat.le_trans (rows_many o c i) (pow_le hi)
theorem closed_few (o c : Nat) {i : Nat} (hi : i ≤ 6) : (closedF o c i).length ≤ 128 := Nat.le_trans (closed_many o c i) (by have := pow_le hi; rw [Nat.pow_succ]; lia)
theorem tup_ne_list : Value.type "tuple" ≠ Value.type "list" := by intro h; injection h with h; revert h; decide
theorem tup_ne_rng : Value.type "tuple" ≠ Value.type "range_iterator" := by intro h; injection h with h; revert h; decide
theorem list_ne_rng : Value.type "list" ≠ Value.type "range_iterator" := by intro h; injection h with h; revert h; decide
theorem allLt_mem {d : Addr} : ∀ {l : List (Addr × Obj)}, AllLt d l → ∀ p ∈ l, @LT.lt Nat _ p.1 d
  | [], _, _, h => nomatch h
  | _ :: _, x, p, h => by
    rcases List.mem_cons.mp h with rfl | h
    · exact x.1
    · exact allLt_mem x.2 p h
theorem line_big : 512 ≤ sizeLine := by decide
/-- the loop's state -/
structure CJ (h₀ : Heap) (news : List (Addr × Obj)) (cO cC R D : Addr) (oO oC : Obj) (rv cv : List Value) (rs : List (Str × Int)) (cs : List Str) (n₁ n₂ : Nat) (nw : List (Addr × Obj)) : Prop where
  mO : (cO, oO) ∈ nw
  mC : (cC, oC) ∈ nw
  mR : (R, PySem.W.listOf rv.toArray n₁) ∈ nw
  mD : (D, PySem.W.listOf cv.toArray n₂) ∈ nw
  pR : PairsIn nw rv rs
  sC : StrsAre cv cs
  ne : R ≠ D
  sub : ∀ p ∈ news, p ∈ nw
  off : ∀ p ∈ news, p.1 ≠ D
theorem CJ.mono {h₀ : Heap} {news : List (Addr × Obj)} {cO cC R D : Addr} {oO oC : Obj} {rv cv : List Value} {rs : List (Str × Int)} {cs : List Str} {n₁ n₂ : Nat} {nw nw' : List (Addr × Obj)} (J : CJ h₀ news cO cC R D oO oC rv cv rs cs n₁ n₂ nw) (sub : ∀ p ∈ nw, p ∈ nw') : CJ h₀ news cO cC R D oO oC rv cv rs cs n₁ n₂ nw' :=
  ⟨sub _ J.mO, sub _ J.mC, sub _ J.mR, sub _ J.mD, J.pR.mono sub, J.sC, J.ne, fun p hp => sub _ (J.sub p hp), J.off⟩
theorem CJ.but {h₀ h : Heap} {L X : Addr} {oX : Obj} {news : List (Addr × Obj)} {cO cC R D : Addr} {oO oC : Obj} {rv cv : List Value} {rs : List (Str × Int)} {cs : List Str} {n₁ n₂ : Nat} {nw : List (Addr × Obj)} (J : CJ h₀ news cO cC R D oO oC rv cv rs cs n₁ n₂ nw) (N : News h₀ L h nw)
    (hX : (X, oX) ∈ nw) (ht : Value.type "tuple" ≠ oX.cls) (hO : cO ≠ X) (hC : cC ≠ X) (hR : R ≠ X) (hD : D ≠ X) (hn : ∀ p ∈ news, p.1 ≠ X) : CJ h₀ news cO cC R D oO oC rv cv rs cs n₁ n₂ (nw.filter fun p => decide (p.1 ≠ X)) :=
  ⟨mem_but J.mO hO, mem_but J.mC hC, mem_but J.mR hR, mem_but J.mD hD, J.pR.but N hX ht, J.sC, J.ne, fun p hp => mem_but (J.sub p hp) (hn p hp), J.off⟩
theorem clo_ctr (w : World) (news) (o c : Nat) (to tc : Tok) : Ctr 6 w 71 news [.str ⟨#[o]⟩ to, .str ⟨#[c]⟩ tc] (fun v more => ∃ D vs n, v = .ref D ∧ StrsAre vs (closedF o c 6) ∧ more = [(D, PySem.W.listOf vs.toArray n)]) := by
  unfold Ctr
  w_top off
  k_fill
  intro mean mg mb dp un gd cn cs fa ccd cl outer A₀ base h₀ L m s Q E hB hF hK hN hT hcs hdp hun hret
  refine wpAny_call ?_
  k_dflt (refine' code_defC ?k1 ?k2 ?k3 ?k4 ?k5 ?kA ?kF ?kK ?k6 ?k7 ?k8 ?k9 ?kB ?kD ?_ ?c2 ?c3 ?c4; (case kA => exact rfl); (case kF => exact rfl); (case kK => assumption); (case k1 => k_asm); (case k2 => k_asm); (case k3 => k_asm); (case k4 => k_asm); (case k5 => k_asm); (case k6 => k_is); (case k7 => k_is); (case k8 => ktr_room); (case k9 => exact BindsTo.of_eq rfl); (case kB => exact rfl); (case kD => decide +kernel); (case c2 => exact rfl); (case c3 => exact rfl); (case c4 => exact rfl); k_whole; intro g1 L1 h1 tk1 cells1 FG1 F1 N1 Y1 B1 X1 T1 l1; (try k_lt l1); k_cells Y1; (try simp only [List.cons_append, List.nil_append] at N1); (try dsimp only); (try k_lift B1); (try k_fold))
  rename_i o1 o2 d1 d2
  have e1 : o1.data = .cell (some (.str ⟨#[c]⟩ tc)) := d1
  have e2 : o2.data = .cell (some (.str ⟨#[o]⟩ to)) := d2
  clear d1 d2
  (repeat ((fail_if_success (with_reducible show wpAny _ _ (exec (Stmt.For _ _ _ _ _) _) _ _ _)); walk1))
  refine For_invT g1 ?_ (by intro _; rfl) (by first | passes_own | (unfold ek; exact PySem.PassesOwn.leaving))
  (repeat ((fail_if_success (with_reducible show wpAny _ _ (pyIter _) _ _ _)); walk1))
  refine for_rngT (a := 0) (c := 1) (n := 6) (fun i m nw => ∃ u R D rv cv n₁ n₂, m = kstB u [(Str.ofString "rows", .ref R), (Str.ofString "closed", .ref D)] ∧ CJ g1 news (L1 + 1) (L1 + 1 + 1) R D o2 o1 rv cv (rowsF o c i) (closedF o c i) n₁ n₂ nw) rfl (fun _ _ => rfl) (by assumption) (by decide) (by decide) (by assumption) (by assumption) ?_ ?_ ?_
  · --[ start
    rename_i N9 l9 F9 N8 q1 q2 q3 q4 q5 q6 q7 q8 q9
    refine' ⟨_, _, _, _, _, _, _, kst_self _ (by kst_all), { mO := by k_mem, mC := by k_mem, mR := by k_mem, mD := by k_mem, pR := .cons (by k_mem) .nil, sC := .cons _ _ .nil, ne := Nat.ne_of_lt N9.1, sub := fun p hp => .tail _ (.tail _ (.tail _ (.tail _ (.tail _ hp)))), off := fun p hp => Nat.ne_of_lt (allLt_mem N9.2.2.2.2 p hp) }⟩
    --] start
  · rintro i t m₁ nw s9 I oI hi hcI ⟨u, R, D, rv, cv, n₁, n₂, rfl, J⟩ hoff FT0 NT0
    repeat ((fail_if_success (with_reducible show wpAny _ _ (execs _ _) _ _ _)); walk1)
    rename Fr _ _ _ _ => FT
    rename News _ _ _ _ => NT
    have hrl : rv.length ≤ 64 := by rw [J.pR.len]; exact rows_few o c (Nat.le_of_lt hi)
    have hsz : rv.toArray.size ≤ sizeLine := by rw [List.size_toArray]; exact Nat.le_trans hrl (by decide)
    have NT' : News g1 L1 _ ((I, oI) :: nw) := NT
    refine cut_by 1 (fun W => ∀ (M : Addr) (mv : List Value) (n₃ : Nat) (nw' : List (Addr × Obj)), ∀ (u : Str → Option Value) (h : Heap) (tk : Nat), Fr g1 L1 h (kstB u [(Str.ofString "rows", .ref R), (Str.ofString "closed", .ref D), (Str.ofString "more", .ref M)]) → News g1 L1 h nw' → ((∀ p ∈ (I, oI) :: nw, p ∈ nw')) → ((∀ p ∈ (I, oI) :: nw, p.1 ≠ M)) → (M, PySem.W.listOf mv.toArray n₃) ∈ nw' → PairsIn nw' mv ((rowsF o c i).map fun p => (p.1 ++ ⟨#[o]⟩, p.2 + 1)) → W { s9 with heap := h, toks := tk }) ?_ ?_
    · --[ one
      intro W hW
      (dsimp only [List.take_succ_cons, List.take_zero])
      try k_fold
      (repeat ((fail_if_success (with_reducible show wpAny _ _ (exec (Stmt.Assign _ (Expr.ListComp _ _ _ _) _) _) _ _ _)); walk1))
      refine LCp.Assign_ListComp_P (F₀ := by assumption) (by rfl) (by with_unfolding_all rfl) (by with_unfolding_all rfl) (by decide) (by rfl) (by decide) (by rfl) (by rfl) (by decide) (by rfl) (by rfl) ?_
      (repeat ((fail_if_success (with_reducible show LCp.SrcLP _ _ _ _ _ _ _ _ _ _ _ _ _ _ _)); first | walk1 | (dsimp only; walk1)))
      refine LCp.SrcLP.ledger (by rfl) (by assumption) NT' (List.mem_cons_of_mem _ J.mR) hsz ?_
      intro g'
      refine rest_P (n := _) (fun k ys nw' => (∀ p ∈ (I, oI) :: nw, p ∈ nw') ∧ PairsIn nw' ys (((rowsF o c i).take k).map fun p => (p.1 ++ ⟨#[o]⟩, p.2 + 1))) ?_ ?_ _ 0 [] _ (Nat.zero_add _) ⟨fun p hp => hp, .nil⟩
      · rintro k ys nw' v hk ⟨hsub, hp⟩ hv
        rw [List.getElem?_toArray] at hv
        obtain ⟨tt, x, tx, y, ty, rfl, hm, he⟩ := J.pR.get hv
        have hxl : x.length ≤ 6 := rows_short (Nat.le_of_lt hi) he
        refine ⟨tt, _, _, _, _, rfl, hsub _ (List.mem_cons_of_mem _ hm), rfl, rfl, ?_⟩
        intro I2 oI2 C oC D2 m₂ h2 tk2 E2 hC hx hy F2 N2 off2 ne2
        have hO2 : (L1 + 1, o2) ∈ nw' := hsub _ (List.mem_cons_of_mem _ J.mO)
        have N3 : News g1 L1 h2 ((I2, oI2) :: (C, oC) :: (D2, lst ys) :: (L1 + 1, o2) :: nw') := relay N2 [_] (by simp [hO2])
        have F3 : Fr g1 L1 h2 _ := F2
        clear F2 N2
        (repeat ((fail_if_success (with_reducible show wpAny _ _ (eval (Expr.Name (Str.ofString "opening") _) _) _ _ _)); (fail_if_success (with_reducible show wpAny _ _ (eval (Expr.Name (Str.ofString "closing") _) _) _ _ _)); walk1))
        refine lcf_cell (c := L1 + 1) (o := o2) N3 ?hc (.tail _ (.tail _ (.tail _ (.head _)))) e2 ?_ ?hk ?hx
        case hk => rfl
        case hc => rfl
        case hx => rfl
        k_steps
        rename_i N4 l4
        refine end_pair (by assumption) N4 (fun p hp => .tail _ hp) off2 l4.1 l4.2.1 l4.2.2.1 (.inr ⟨_, .tail _ (hsub _ (.tail _ J.mR)), rfl, _, rfl⟩) ?_
        refine ⟨fun p hp => .tail _ (hsub p hp), ?_⟩
        rw [take_map_snoc he]
        exact pairs_snoc hp
      · rintro ys nw' ⟨hsub, hp⟩
        intro M h3 tk3 F3 N3 o3
        rw [List.take_of_length_le (by rw [List.size_toArray, J.pR.len]; exact Nat.le_refl _)] at hp
        k_steps
        exact Hold.mk (hW M ys _ _ _ _ _ (fr_names _ F3 (by kst_all)) N3 (fun p hp => .tail _ (hsub p hp)) (fun p hp => off1_mem o3 p (hsub p hp)) (.head _) (hp.mono fun p hp => .tail _ hp))
      --] one
    intro M mv n₃ nw2 u2 h2 tk2 F2 N2 hs2 ho2 hM2 hP2
    (simp only [List.drop])
    clear FT NT NT'
    refine cut_by 1 (fun W => ∀ (M : Addr) (mv : List Value) (n₃ : Nat) (nw' : List (Addr × Obj)), ∀ (u : Str → Option Value) (h : Heap) (tk : Nat), Fr g1 L1 h (kstB u [(Str.ofString "rows", .ref R), (Str.ofString "closed", .ref D), (Str.ofString "more", .ref M)]) → News g1 L1 h nw' → ((∀ p ∈ (I, oI) :: nw, p ∈ nw')) → ((∀ p ∈ (I, oI) :: nw, p.1 ≠ M)) → (M, PySem.W.listOf mv.toArray n₃) ∈ nw' → PairsIn nw' mv (rowsF o c (i + 1)) → W { s9 with heap := h, toks := tk }) ?_ ?_
    · --[ two
      intro W hW
      (dsimp only [List.take_succ_cons, List.take_zero])
      try k_fold
      (repeat ((fail_if_success (with_reducible show wpAny _ _ (eval (Expr.ListComp _ _ _ _) _) _ _ _)); walk1))
      refine comp_pt (F₀ := F2) (by with_unfolding_all rfl) (by decide) (by rfl) (by decide) (by rfl) (by rfl) (by decide) ?_
      walk1
      refine ⟨R, rv, n₁, nw2, (fun k ys nw' => (∀ p ∈ nw2, p ∈ nw') ∧ PairsIn nw' ys ((((rowsF o c i).take k).filter fun p => decide (256 ≤ p.2 - 1)).map fun p => (p.1 ++ ⟨#[c]⟩, p.2 - 1))), rfl, rfl, F2, N2, hs2 _ (.tail _ J.mR), hsz, ⟨fun p hp => hp, .nil⟩, ?_⟩
      rintro s5 ⟨g5, rfl⟩
      refine ⟨?_, ?_⟩
      · rintro k ys nw' v hv ⟨hsub, hp⟩
        obtain ⟨tt, x, tx, y, ty, rfl, hm, he⟩ := J.pR.get hv
        have hxl : x.length ≤ 6 := rows_short (Nat.le_of_lt hi) he
        refine ⟨tt, _, _, _, _, rfl, hsub _ (hs2 _ (.tail _ hm)), rfl, rfl, ?_⟩
        intro I2 oI2 C oC D2 m₂ h2 tk2 E2 hC hx hy F4 N4 off2 ne2
        have hO2 : (L1 + 1 + 1, o1) ∈ nw' := hsub _ (hs2 _ (.tail _ J.mC))
        have N3 : News g1 L1 h2 ((I2, oI2) :: (C, oC) :: (D2, lst ys) :: (L1 + 1 + 1, o1) :: nw') := relay N4 [_] (by simp [hO2])
        have F3 : Fr g1 L1 h2 _ := F4
        clear F4 N4 F2 N2
        repeat ((fail_if_success (with_reducible show wpAny _ _ (call (Value.ref 52) _) _ _ _)); first | walk1 | (dsimp only; walk1))
        refine Ctr.goB (nonterm_ctr _ _ _ _) (by k_asm) (by k_asm) (by k_asm) (by k_asm) (by k_asm) rfl (by ktr_room) (by ktr_units) ?_
        intro h9 tk9 F9 N9
        try dsimp only
        (repeat ((fail_if_success (with_reducible show wpAny _ _ (eval (Expr.Name (Str.ofString "opening") _) _) _ _ _)); (fail_if_success (with_reducible show wpAny _ _ (eval (Expr.Name (Str.ofString "closing") _) _) _ _ _)); walk1))
        · rename_i hge
          refine lcf_cell (c := L1 + 1 + 1) (o := o1) N9 ?hc (.tail _ (.tail _ (.tail _ (.head _)))) e1 ?_ ?hk ?hx
          case hk => rfl
          case hc => rfl
          case hx => rfl
          k_steps
          rename_i N4 l4
          refine end_pair (by assumption) N4 (fun p hp => .tail _ hp) off2 l4.1 l4.2.1 l4.2.2.1 (.inr ⟨_, .tail _ (hsub _ (hs2 _ (.tail _ J.mR))), rfl, _, rfl⟩) ?_
          refine ⟨fun p hp => .tail _ (hsub p hp), ?_⟩
          rw [take_filter_yes he (by simpa using hge)]
          exact pairs_snoc hp
        · rename_i hge
          refine end_same (by assumption) N9 (fun p hp => .tail _ hp) off2 (.inr ⟨_, hsub _ (hs2 _ (.tail _ J.mR)), rfl, _, rfl⟩) ?_
          refine ⟨hsub, ?_⟩
          rw [take_filter_no he (by simpa using hge)]
          exact hp
      · rintro ys nw' ⟨hsub, hp⟩
        intro D3 h3 tk3 F3 N3 o3
        clear F2 N2
        rw [List.take_of_length_le (by rw [J.pR.len]; exact Nat.le_refl _)] at hp
        have hM3 : (M, PySem.W.listOf mv.toArray n₃) ∈ (D3, lst ys) :: nw' := .tail _ (hsub _ hM2)
        have hl1 : mv.length ≤ 64 := by rw [hP2.len, List.length_map]; exact rows_few o c (Nat.le_of_lt hi)
        have hl2 : ys.length ≤ 64 := by rw [hp.len, List.length_map]; exact Nat.le_trans (List.length_filter_le _ _) (rows_few o c (Nat.le_of_lt hi))
        refine iadd_mem (D := M) (b := D3) (n := n₃) (ys := mv) (zs := ys) F3 N3 hM3 (.head _) (by have := line_big; lia) ?_
        intro h4 n4 F4 N4
        have hp1 := ((hP2.mono hsub).mono fun p hp => List.Mem.tail (D3, lst ys) hp).but N3 hM3 tup_ne_list
        have hp2 := (hp.mono fun p hp => List.Mem.tail (D3, lst ys) hp).but N3 hM3 tup_ne_list
        have hp3 := (hp1.app hp2).mono fun p hp => List.Mem.tail (M, PySem.W.listOf (mv ++ ys).toArray n4) hp
        clear F3 N3
        have hs3 : ∀ p ∈ (I, oI) :: nw, p ∈ (M, PySem.W.listOf (mv ++ ys).toArray n4) :: ((D3, lst ys) :: nw').filter (fun p => decide (p.1 ≠ M)) := fun p hp => .tail _ (mem_but (.tail _ (hsub _ (hs2 p hp))) (ho2 p hp))
        generalize ((D3, lst ys) :: nw').filter (fun p => decide (p.1 ≠ M)) = nw4 at *
        k_steps
        exact Hold.mk (hW M _ _ _ _ _ _ (fr_names _ (by assumption) (by kst_all)) (by assumption) hs3 ho2 (.head _) hp3)
      --] two
    intro M3 mv3 n₄ nw3 u3 h3 tk3 F3 N3 hs3 ho3 hM3 hP3
    (simp only [List.drop])
    clear hs2 ho2 hM2 hP2
    refine cut_by 1 (fun W => ∀ (cv' : List Value) (n₅ : Nat) (nw' : List (Addr × Obj)), ∀ (u : Str → Option Value) (h : Heap) (tk : Nat), Fr g1 L1 h (kstB u [(Str.ofString "closed", .ref D), (Str.ofString "more", .ref M3)]) → News g1 L1 h nw' → (I, oI) ∈ nw' → CJ g1 news (L1 + 1) (L1 + 1 + 1) M3 D o2 o1 mv3 cv' (rowsF o c (i + 1)) (closedF o c (i + 1)) n₄ n₅ nw' → W { s9 with heap := h, toks := tk }) ?_ ?_
    · --[ three
      intro W hW
      (dsimp only [List.take_succ_cons, List.take_zero])
      try k_fold
      (repeat ((fail_if_success (with_reducible show wpAny _ _ (eval (Expr.ListComp _ _ _ _) _) _ _ _)); walk1))
      have hml : mv3.length ≤ 64 := by rw [hP3.len]; exact rows_few o c hi
      refine comp_pt (F₀ := F3) (by with_unfolding_all rfl) (by decide) (by rfl) (by decide) (by rfl) (by rfl) (by decide) ?_
      walk1
      refine ⟨M3, mv3, n₄, nw3, (fun k ys nw' => (∀ p ∈ nw3, p ∈ nw') ∧ StrsAre ys (((((rowsF o c (i + 1)).take k).filter fun p => decide (p.2 - 256 = 0)).map (·.1)))), rfl, rfl, F3, N3, hM3, Nat.le_trans hml (by decide), ⟨fun p hp => hp, .nil⟩, ?_⟩
      rintro s5 ⟨g5, rfl⟩
      refine ⟨?_, ?_⟩
      · rintro k ys nw' v hv ⟨hsub, hp⟩
        obtain ⟨tt, x, tx, y, ty, rfl, hm, he⟩ := hP3.get hv
        have hxl : x.length ≤ 6 := rows_short hi he
        refine ⟨tt, _, _, _, _, rfl, hsub _ hm, rfl, rfl, ?_⟩
        intro I2 oI2 C oC D2 m₂ h2 tk2 E2 hC hx hy F4 N4 off2 ne2
        clear F3 N3
        repeat ((fail_if_success (with_reducible show wpAny _ _ (call (Value.ref 59) _) _ _ _)); first | walk1 | (dsimp only; walk1))
        refine Ctr.goB (eof_ctr _ _ _ _) (by k_asm) (by k_asm) (by k_asm) (by k_asm) (by k_asm) rfl (by ktr_room) (by ktr_units) ?_
        intro h9 tk9 F9 N9
        try dsimp only
        k_steps
        · rename_i hge
          refine end_same (by assumption) N9 (fun p hp => hp) off2 (.inr ⟨_, hsub _ hM3, rfl, _, rfl⟩) ?_
          refine ⟨hsub, ?_⟩
          rw [take_filter_yes he (by simpa using hge)]
          exact strs_snoc hp
        · rename_i hge
          refine end_same (by assumption) N9 (fun p hp => hp) off2 (.inr ⟨_, hsub _ hM3, rfl, _, rfl⟩) ?_
          refine ⟨hsub, ?_⟩
          rw [take_filter_no he (by simpa using hge)]
          exact hp
      · rintro ys nw' ⟨hsub, hp⟩
        intro D3 h4 tk4 F4 N4 o3
        clear F3 N3
        rw [List.take_of_length_le (by rw [hP3.len]; exact Nat.le_refl _)] at hp
        have hD3 : (D, PySem.W.listOf cv.toArray n₂) ∈ (D3, lst ys) :: nw' := .tail _ (hsub _ (hs3 _ (.tail _ J.mD)))
        have hl1 : cv.length ≤ 128 := by rw [strs_len J.sC]; exact closed_few o c (Nat.le_of_lt hi)
        have hl2 : ys.length ≤ 64 := by rw [strs_len hp, List.length_map]; exact Nat.le_trans (List.length_filter_le _ _) (rows_few o c hi)
        have hO := news_ne2 (p := (L1 + 1, o2)) N4 (.tail _ (hsub _ (hs3 _ (.tail _ J.mO)))) hD3 (by rw [e2]; exact fun h => nomatch h)
        have hC := news_ne2 (p := (L1 + 1 + 1, o1)) N4 (.tail _ (hsub _ (hs3 _ (.tail _ J.mC)))) hD3 (by rw [e1]; exact fun h => nomatch h)
        refine iadd_mem (D := D) (b := D3) (n := n₂) (ys := cv) (zs := ys) F4 N4 hD3 (.head _) (by have := line_big; lia) ?_
        intro h5 n5 F5 N5
        have up : ∀ p ∈ nw3, p ∈ (D3, lst ys) :: nw' := fun p hp => .tail _ (hsub p hp)
        have hJ : CJ g1 news (L1 + 1) (L1 + 1 + 1) M3 D o2 o1 mv3 (cv ++ ys) (rowsF o c (i + 1)) (closedF o c (i + 1)) n₄ n5 ((D, PySem.W.listOf (cv ++ ys).toArray n5) :: ((D3, lst ys) :: nw').filter (fun p => decide (p.1 ≠ D))) :=
          { mO := .tail _ (mem_but (up _ (hs3 _ (.tail _ J.mO))) hO)
            mC := .tail _ (mem_but (up _ (hs3 _ (.tail _ J.mC))) hC)
            mR := .tail _ (mem_but (up _ hM3) (Ne.symm (ho3 _ (.tail _ J.mD))))
            mD := .head _
            pR := ((hP3.mono up).but N4 hD3 tup_ne_list).mono fun p hp => .tail _ hp
            sC := strs_app J.sC hp
            ne := Ne.symm (ho3 _ (.tail _ J.mD))
            sub := fun p hp => .tail _ (mem_but (up _ (hs3 _ (.tail _ (J.sub p hp)))) (J.off p hp))
            off := J.off }
        have hI : (I, oI) ∈ (D, PySem.W.listOf (cv ++ ys).toArray n5) :: ((D3, lst ys) :: nw').filter (fun p => decide (p.1 ≠ D)) := .tail _ (mem_but (up _ (hs3 _ (.head _))) (Ne.symm (hoff _ J.mD)))
        clear F4 N4
        generalize (D, PySem.W.listOf (cv ++ ys).toArray n5) :: ((D3, lst ys) :: nw').filter (fun p => decide (p.1 ≠ D)) = nw4 at *
        k_steps
        exact Hold.mk (hW _ _ _ _ _ _ (fr_names _ (by assumption) (by kst_all)) (by assumption) hI hJ)
      --] three
    intro cv4 n₅ nw4 u4 h4 tk4 F4 N4 hI4 J4
    (simp only [List.drop])
    clear F3 N3
    --[ four
    k_steps
    rename News _ _ _ _ => N9
    rename Fr _ _ _ _ => F9
    have hcls : Value.type "tuple" ≠ oI.cls := by rw [hcI]; exact tup_ne_rng
    have hcls2 : Value.type "list" ≠ oI.cls := by rw [hcI]; exact list_ne_rng
    refine ⟨rfl, _, _, _, nw4.filter (fun p => decide (p.1 ≠ I)), rfl, fr_names [(Str.ofString "rows", .ref M3), (Str.ofString "closed", .ref D)] F9 (by kst_all), fun p hp => ?_, fun p hp => but_ne hp, _, M3, D, mv3, cv4, n₄, n₅, rfl, ?_⟩
    · rcases List.mem_cons.mp hp with rfl | hp
      · exact N9 _ hI4
      · exact N9 p (List.mem_filter.mp hp).1
    · exact J4.but N9 hI4 hcls (hoff _ J.mO) (hoff _ J.mC) (news_ne N9 J4.mR hI4 hcls2) (hoff _ J.mD) (fun p hp => hoff p (J.sub p hp))
    --] four
  · --[ done
    rintro m₁ nw h tk ⟨u, R, D, rv, cv, n₁, n₂, rfl, J⟩ F N
    have N' : News g1 L1 h ((D, PySem.W.listOf cv.toArray n₂) :: news) := fun p hp => by
      rcases List.mem_cons.mp hp with rfl | hp
      · exact N _ J.mD
      · exact N _ (J.sub p hp)
    clear N
    k_steps
    exact hret _ _ _ [_] ⟨D, cv, _, rfl, J.sC, rfl⟩ (by assumption) (by assumption)
    --] done
end Mine
end

section
open PySem PySem.W PyProof.Rows PyProof.Rows.LCg
set_option maxRecDepth 100000
set_option maxHeartbeats 1000000
namespace Mine
/-- a turn's end under another comprehension: what stays -/
theorem end_drop {h₀ h' : Heap} {L I C D : Addr} {m : Str → Option Value} {s₁ : Shared} {oI oC oD : Obj} {S : List (Addr × Obj) → Prop} {J : Value → List (Addr × Obj) → Prop} {y : Value} {tk : Nat} {all nw' : List (Addr × Obj)}
    (F : Fr h₀ L h' m) (N : News h₀ L h' all) (hsub : ∀ p ∈ (I, oI) :: (C, oC) :: (D, oD) :: nw', p ∈ all) (off : Off3 I C D nw') (hS : S nw') (r : J y nw') :
    CompEnd h₀ L m s₁ I oI C oC D oD S J y { s₁ with heap := h', toks := tk } := CompEnd.intro F N nw' hsub off hS r
theorem sca_ctr (w : World) (news) (row : Str) (tr : Tok) (l : Addr) (vs : List Value) (nn : Nat) (ones : List Str) (hrow : row.length ≤ 6) (hl : (l, PySem.W.listOf vs.toArray nn) ∈ news) (hs : StrsAre vs ones) (hlen : ∀ o ∈ ones, o.length ≤ 6 ∧ 46 ∉ toL o) (hmany : ones.length ≤ 128) :
    Ctr 6 w 83 news [.str row tr, .ref l] (fun v more => ∃ D ws n, v = .ref D ∧ StrsAre ws ((ones.filter fun o => subq (toL o) (toL row)).map fun o => wantOf (toL o)) ∧ more = [(D, PySem.W.listOf ws.toArray n)]) := by
  unfold Ctr
  w_top off
  k_fill
  intro mean mg mb dp un gd cn cs fa ccd cl outer A₀ base h₀ L m s Q E hB hF hK hN hT hcs hdp hun hret
  refine wpAny_call ?_
  k_dflt (refine' code_defC ?k1 ?k2 ?k3 ?k4 ?k5 ?kA ?kF ?kK ?k6 ?k7 ?k8 ?k9 ?kB ?kD ?_ ?c2 ?c3 ?c4; (case kA => exact rfl); (case kF => exact rfl); (case kK => assumption); (case k1 => k_asm); (case k2 => k_asm); (case k3 => k_asm); (case k4 => k_asm); (case k5 => k_asm); (case k6 => k_is); (case k7 => k_is); (case k8 => ktr_room); (case k9 => exact BindsTo.of_eq rfl); (case kB => exact rfl); (case kD => decide +kernel); (case c2 => exact rfl); (case c3 => exact rfl); (case c4 => exact rfl); k_whole; intro g1 L1 h1 tk1 cells1 FG1 F1 N1 Y1 B1 X1 T1 l1; (try k_lt l1); k_cells Y1; (try simp only [List.cons_append, List.nil_append] at N1); (try dsimp only); (try k_lift B1); (try k_fold))
  rename_i o1 d1
  have e1 : o1.data = .cell (some (.str row tr)) := d1
  clear d1
  have hvs : vs.toArray.size ≤ sizeLine := by rw [List.size_toArray, strs_len hs]; exact Nat.le_trans hmany (by decide)
  have hw : ∀ k v, vs[k]? = some v → ∃ y t, v = Value.str y t ∧ ones[k]? = some y := fun k v h => strs_get hs h
  refine cut_by 1 (fun X => ∀ (W : Addr) (ws : List Value) (nw' : List (Addr × Obj)), ∀ (u : Str → Option Value) (h : Heap) (tk : Nat), Fr g1 L1 h (kstB u [(Str.ofString "wants", .ref W)]) → News g1 L1 h ((W, PySem.W.listOf (List.toArray ws) ws.length) :: nw') → ((∀ p ∈ (L1 + 1, o1) :: news, p ∈ nw')) → StrsAre ws (ones.map fun o => wantOf (toL o)) → X { s with heap := h, toks := tk }) ?_ ?_
  · --[ one
    intro X hW
    (dsimp only [List.take_succ_cons, List.take_zero])
    try k_fold
    (repeat ((fail_if_success (with_reducible show wpAny _ _ (exec (Stmt.Assign _ (Expr.ListComp _ _ _ _) _) _) _ _ _)); walk1))
    refine Assign_ListComp_U (F₀ := by assumption) (by rfl) (by with_unfolding_all rfl) (by with_unfolding_all rfl) (by decide) (by rfl) (by decide) (by rfl) (by rfl) (by rfl) ?_
    (repeat ((fail_if_success (with_reducible show CompSrc _ _ _ _ _ _ _ _ _ _ _ _ _ _)); first | walk1 | (dsimp only; walk1)))
    refine CompSrc.ledger (by rfl) (by assumption) N1 (.tail _ hl) hvs ?_
    intro g'
    refine rest_U (n := _) (fun k ys nw' => (∀ p ∈ (L1 + 1, o1) :: news, p ∈ nw') ∧ StrsAre ys ((ones.take k).map fun o => wantOf (toL o))) ?_ ?_ _ 0 [] _ (Nat.zero_add _) ⟨fun p hp => hp, .nil⟩
    · rintro k ys nw' v I oI C oC D m₂ h tk E' hk ⟨hsub, hp⟩ hv hC hx F N off ne
      rw [List.getElem?_toArray] at hv
      obtain ⟨y, ty, rfl, hy⟩ := hw k v hv
      have hyl := hlen y (List.mem_of_getElem? hy)
      have hjl : (Txt.join (Str.ofString "") ((toL y).map fun c => (⟨#[c]⟩ : Str) ++ Str.ofString "...")).length ≤ 24 := by
        have h1 := congrArg (fun x : Str => x.length) (want_made y)
        simp only [str_len_app, want_len, toL_len] at h1
        have h2 : (Str.ofString "...").length = 3 := by decide +kernel
        lia
      have hsz2 : y.cps.size ≤ sizeLine := Nat.le_trans hyl.1 (by decide)
      (repeat ((fail_if_success (with_reducible show wpAny _ _ (eval (Expr.ListComp _ _ _ _) _) _ _ _)); walk1))
      refine comp_str F (by with_unfolding_all rfl) (by decide) (by rfl) (by decide) (by rfl) ?_
      walk1
      refine ⟨y, ty, (I, oI) :: (C, oC) :: (D, lst ys) :: nw', rfl, rfl, F, N, hsz2, ?_⟩
      rintro s5 ⟨g5, rfl⟩
      refine rest_U (n := _) (fun j zs nx => nx = (I, oI) :: (C, oC) :: (D, lst ys) :: nw' ∧ StrsAre zs (((toL y).take j).map fun c => (⟨#[c]⟩ : Str) ++ Str.ofString "...")) ?_ ?_ _ 0 [] _ (Nat.zero_add _) ⟨rfl, .nil⟩
      · rintro j zs nx v2 I2 oI2 C2 oC2 D2 m₃ h2 tk2 E2 hj ⟨rfl, hz⟩ hv2 hC2 hx2 F2 N2 off2 ne2
        obtain ⟨c, u, hc, rfl⟩ := hv2
        have hc' : (toL y)[j]? = some c := by unfold toL; rw [Array.getElem?_toList]; exact hc
        clear F N
        k_steps
        rename News _ _ _ _ => N9
        refine end_same (by assumption) N9 (fun p hp => hp) off2 trivial ⟨rfl, ?_⟩
        rw [take_map_snoc hc']
        exact strs_snoc hz
      · rintro zs nx ⟨rfl, hz⟩
        intro D2 h3 tk3 F3 N3 o3
        clear F N
        rw [List.take_of_length_le (by rw [toL_len]; exact Nat.le_refl _)] at hz
        have hcar : CarriedAll zs ((toL y).map fun c => PyData.str ((⟨#[c]⟩ : Str) ++ Str.ofString "...")) := by
          have := hz.carried
          rwa [List.map_map] at this
        (repeat ((fail_if_success (with_reducible show wpAny _ _ (call (Value.builtin "str.join") _) _ _ _)); walk1))
        refine KT.join_B 4 ⟨_, (N3 _ (.head _)).1, rfl, _, rfl⟩ hcar (fun a _ => by rw [str_len_app]; exact Nat.le_refl 4) (by rw [toL_len]; lia) (by decide) ?_
        intro tj kj
        clear hcar
        have hwm := want_made y
        k_steps
        rename News _ _ _ _ => N9
        rw [hwm]
        refine end_drop (by assumption) N9 (fun p hp => .tail _ hp) off (.inr ⟨_, hsub _ (.tail _ hl), rfl, _, rfl⟩) ⟨hsub, ?_⟩
        rw [take_map_snoc hy]
        exact strs_snoc hp
    · rintro ys nw' ⟨hsub, hp⟩
      intro W h3 tk3 F3 N3 o3
      rw [List.take_of_length_le (by rw [List.size_toArray, strs_len hs]; exact Nat.le_refl _)] at hp
      clear F1 N1
      k_steps
      exact Hold.mk (hW W ys _ _ _ _ (fr_names _ (by assumption) (by kst_all)) (by assumption) hsub hp)
    --] one
  intro W ws nw2 u2 h2 tk2 F2 N2 hs2 hws
  (simp only [List.drop])
  clear F1 N1
  (repeat ((fail_if_success (with_reducible show wpAny _ _ (eval (Expr.ListComp _ _ _ _) _) _ _ _)); walk1))
  refine LCt.ListComp_T (F₀ := F2) (by with_unfolding_all rfl) (by decide) (by rfl) (by decide) (by rfl) ?_
  (repeat ((fail_if_success (with_reducible show LCt.CompSrcT _ _ _ _ _ _ _ _ _ _ _ _ _ _ _)); first | walk1 | (dsimp only; walk1)))
  have hwl : ws.length = ones.length := by rw [strs_len hws, List.length_map]
  refine LCt.CompSrcT.ledger (by rfl) F2 N2 (.head _) (by rw [List.size_toArray, hwl]; exact Nat.le_trans hmany (by decide)) ?_
  intro g5
  refine rest_T (n := _) (fun k ys nw' => (∀ p ∈ (W, PySem.W.listOf ws.toArray ws.length) :: nw2, p ∈ nw') ∧ StrsAre ys (((ones.take k).filter fun o => subq (toL o) (toL row)).map fun o => wantOf (toL o))) ?_ ?_ _ 0 [] _ (Nat.zero_add _) ⟨fun p hp => hp, .nil⟩
  · rintro k ys nw' v I oI C oC D m₂ h tk E' hk ⟨hsub, hp⟩ hv hC hx F N off ne
    rw [List.getElem?_toArray] at hv
    obtain ⟨y, ty, rfl, hy⟩ := strs_get hws hv
    rw [List.getElem?_map] at hy
    obtain ⟨yo, hyo, rfl⟩ : ∃ o, ones[k]? = some o ∧ wantOf (toL o) = y := by
      cases ho : ones[k]? with
      | none => rw [ho] at hy; cases hy
      | some o => rw [ho] at hy; exact ⟨o, rfl, Option.some.inj hy⟩
    have hyl := hlen yo (List.mem_of_getElem? hyo)
    have hyl1 : (toL yo).length ≤ 6 := hyl.1
    have hyl2 : 46 ∉ toL yo := hyl.2
    have hO2 : (L1 + 1, o1) ∈ nw' := hsub _ (.tail _ (hs2 _ (.head _)))
    have N3 : News g1 L1 h ((I, oI) :: (C, oC) :: (D, lst ys) :: (L1 + 1, o1) :: nw') := relay N [_] (by simp [hO2])
    have F3 : Fr g1 L1 h _ := F
    clear F N F2 N2
    (repeat ((fail_if_success (with_reducible show wpAny _ _ (eval (Expr.Name (Str.ofString "row") _) _) _ _ _)); walk1))
    refine lcf_cell (c := L1 + 1) (o := o1) N3 ?hc (.tail _ (.tail _ (.tail _ (.head _)))) e1 ?_ ?hk ?hx
    case hk => rfl
    case hc => rfl
    case hx => rfl
    repeat ((fail_if_success (with_reducible show wpAny _ _ (call (Value.ref 35) _) _ _ _)); first | walk1 | (dsimp only; walk1))
    refine Ctr.goB (ell_ctr _ _ _ _ _ _ (by assumption) (by assumption) (by assumption)) (by k_asm) (by k_asm) (by k_asm) (by k_asm) (by k_asm) rfl (by ktr_room) (by ktr_units) ?_
    intro h9 tk9 F9 N9
    try dsimp only
    k_steps
    · rename_i heq
      refine end_same (by assumption) N9 (fun p hp => .tail _ hp) off (.inr ⟨_, hsub _ (.head _), rfl, _, rfl⟩) ⟨hsub, ?_⟩
      rw [take_filter_yes hyo (by simpa using heq)]
      exact strs_snoc hp
    · rename_i heq
      refine end_same (by assumption) N9 (fun p hp => .tail _ hp) off (.inr ⟨_, hsub _ (.head _), rfl, _, rfl⟩) ⟨hsub, ?_⟩
      rw [take_filter_no hyo (by simpa using heq)]
      exact hp
  · rintro ys nw' ⟨hsub, hp⟩
    intro D h3 tk3 F3 N3 o3
    rw [List.take_of_length_le (by rw [List.size_toArray, hwl]; exact Nat.le_refl _)] at hp
    have N4 : News g1 L1 h3 ((D, lst ys) :: news) := fun p hq => by
      rcases List.mem_cons.mp hq with rfl | hq
      · exact N3 _ (.head _)
      · exact N3 _ (.tail _ (hsub _ (.tail _ (hs2 _ (.tail _ hq)))))
    clear N3 F2 N2
    k_steps
    exact hret _ _ _ [_] ⟨D, ys, _, rfl, hp, rfl⟩ (by assumption) (by assumption)
end Mine
end

section
open PySem PySem.Builtin PySem.Builtin.Str
namespace Mine
noncomputable def sgnL : List Nat := [40, 41, 91, 93, 58, 44, 59, 43, 45, 42, 47, 124, 38, 60, 62, 61, 37, 123, 125, 126, 94, 64, 33]
noncomputable def sgn (i : Nat) : Nat := sgnL.getD i 0
noncomputable def tokL : List Nat := [7, 8, 9, 10, 11, 12, 13, 14, 15, 16, 17, 18, 19, 20, 21, 22, 24, 25, 26, 31, 32, 49, 54]
noncomputable def tok (i : Nat) : Nat := tokL.getD i 0
def signsS : Str := Str.ofString "()[]:,;+-*/|&<>=%{}~^@!"
theorem signs_is : toL signsS = sgnL := by decide +kernel
theorem item_sgn (i : Nat) (h : i < 23) : Txt.item signsS (i : Int) = ⟨#[sgn i]⟩ := by
  refine toL_inj.mp ?_
  have hl : signsS.length = 23 := by rw [← toL_len, signs_is]; rfl
  rw [item_pos signsS (i : Int) (by lia) (by rw [hl]; lia), signs_is]
  rfl
theorem tok_lt : ∀ i j : Fin 23, i < j → tok i < tok j := by decide +kernel
theorem tok_mono {i j : Nat} (hj : j < 23) (h : i < j) : tok i < tok j := tok_lt ⟨i, by lia⟩ ⟨j, hj⟩ h
theorem sgn_ne : ∀ i j : Fin 23, i ≠ j → sgn i ≠ sgn j := by decide +kernel
theorem sgn_pos : ∀ i : Fin 23, sgn i ≠ 0 ∧ sgn i ≠ 46 ∧ sgn i < 200 := by decide +kernel
theorem sgn_lower : ∀ i : Fin 23, Txt.lower ⟨#[sgn i]⟩ = ⟨#[sgn i]⟩ := by decide +kernel
noncomputable def rowS (i j : Nat) (bs : List Bool) : Str := ⟨(bs.map fun b => if b then sgn j else sgn i).toArray⟩
theorem rowS_len (i j : Nat) (bs : List Bool) : (rowS i j bs).length = bs.length := by rw [← toL_len, rowS, toL_mk, List.length_map]
theorem row_made (i j : Nat) (bs : List Bool) : Txt.join (Str.ofString "") (bs.map fun b => (⟨#[if b then sgn j else sgn i]⟩ : Str)) = rowS i j bs := by
  refine toL_inj.mp ?_
  rw [join_toL, List.flatMap_map, rowS, toL_mk, List.map_eq_flatMap]
  rfl
theorem occ_iff (x : Str) (c : Nat) : (occurrences x ⟨#[c]⟩ 0 x.length 1).isEmpty = false ↔ c ∈ toL x := by
  have h := StrLaws.found_iff x ⟨#[c]⟩
  rw [show (occurrences x ⟨#[c]⟩ 0 x.length 1).isEmpty = false ↔ (!(occurrences x ⟨#[c]⟩ 0 x.length 1).isEmpty) = true by simp]
  rw [h]
  constructor
  · rintro ⟨p, h1, h2⟩
    rw [subAt_iff] at h2
    have h3 := of_decide_eq_true h2
    have : c ∈ ((toL x).drop p).take 1 := by
      show c ∈ ((toL x).drop p).take (⟨#[c]⟩ : Str).length
      rw [h3]; exact .head _
    exact List.mem_of_mem_drop (List.mem_of_mem_take this)
  · intro hc
    obtain ⟨p, hp, e⟩ := List.getElem_of_mem hc
    refine ⟨p, by rw [toL_len] at hp; exact hp, ?_⟩
    rw [subAt_iff]
    refine decide_eq_true ?_
    show ((toL x).drop p).take 1 = [c]
    rw [List.drop_eq_getElem_cons hp, e]
    rfl
theorem occ_yes {x : Str} {c : Nat} (h : (occurrences x ⟨#[c]⟩ 0 x.length 1).isEmpty = false) : c ∈ toL x := (occ_iff x c).mp h
theorem occ_no {x : Str} {c : Nat} (h : (occurrences x ⟨#[c]⟩ 0 x.length 1).isEmpty = true) : c ∉ toL x := fun hc => by rw [(occ_iff x c).mpr hc] at h; cases h
/-- what the law reckons -/
noncomputable def farF (m mv : Int) : Int := if m - mv < 0 then -(m - mv) else m - mv
noncomputable def dueF (m mv dn up : Int) : Int := if 0 < farF m mv then (if Int.fdiv (dn + up + farF m mv) 2 > farF m mv then Int.fdiv (dn + up + farF m mv) 2 else farF m mv) else Int.fdiv (dn + 1) 2 + Int.fdiv (up + 1) 2
theorem due_pos {m mv dn up : Int} (h : 0 < if m - mv < 0 then -(m - mv) else m - mv) : dueF m mv dn up = if Int.fdiv (dn + up + if m - mv < 0 then -(m - mv) else m - mv) 2 > (if m - mv < 0 then -(m - mv) else m - mv) then Int.fdiv (dn + up + if m - mv < 0 then -(m - mv) else m - mv) 2 else if m - mv < 0 then -(m - mv) else m - mv := if_pos h
theorem due_zero {m mv dn up : Int} (h : ¬ 0 < if m - mv < 0 then -(m - mv) else m - mv) : dueF m mv dn up = Int.fdiv (dn + 1) 2 + Int.fdiv (up + 1) 2 := if_neg h
noncomputable def sizedF (ones : List Str) (mv : Int) : List Str := ones.filter fun o => decide ((o.length : Int) = mv)
theorem sized_yes {ones : List Str} {k : Nat} {y : Str} {mv : Int} (h : ones[k]? = some y) (e : (y.length : Int) = mv) : sizedF (ones.take (k + 1)) mv = sizedF (ones.take k) mv ++ [y] := by
  unfold sizedF
  rw [take_snoc h, List.filter_append, List.filter_cons, if_pos (by simpa using e)]
  rfl
theorem sized_no {ones : List Str} {k : Nat} {y : Str} {mv : Int} (h : ones[k]? = some y) (e : (y.length : Int) ≠ mv) : sizedF (ones.take (k + 1)) mv = sizedF (ones.take k) mv := by
  unfold sizedF
  rw [take_snoc h, List.filter_append, List.filter_cons, if_neg (by simpa using e), List.filter_nil, List.append_nil]
end Mine
end

section
open PySem PySem.W PyProof.Rows
set_option maxRecDepth 100000
set_option maxHeartbeats 1000000
namespace Mine
theorem tok_at (P : Params) : ∀ i : Nat, i < 23 → ∃ t, nsIn (hd.heap_39 P) 36 ⟨#[sgn i]⟩ = some (some (.int (tok i) t)) := by
  intro i h
  iterate 23
    rcases i with _ | i
    · exact ⟨_, by with_unfolding_all rfl⟩
  omega
theorem tab_at (P : Params) : ∃ es n, (hd.heap_39 P).lookup 36 = some ⟨.type "dict", none, .dict es n, #[]⟩ ∧ KeysLit P es.toList := by
  refine ⟨_, _, by with_unfolding_all rfl, ?_⟩
  k_keys
theorem tok_item {w : World} {A : Around} {E : Value → Shared → Prop} {s : Shared} {h₀ : Heap} {L : Addr} {m : Str → Option Value} {value slice : PySem.Expr} {i : Nat} {t : Tok} {Q : Value → Shared → Prop}
    (F : Fr h₀ L s.heap m) (X₀ : (hd.heap_39 w.params).In h₀) (hi : i < 23) (h : ∀ u, Q (.int (tok i) u) { s with toks := s.toks + 1 })
    (hs : subscripted slice false (.ref 36) (.str ⟨#[sgn i]⟩ t) = operate [.ref 36, .str ⟨#[sgn i]⟩ t] (getItem (.ref 36) (.str ⟨#[sgn i]⟩ t)) := by with_unfolding_all rfl) :
    wpAny (model PySem.Challenge.rw_rl0091_01.row.prog w) A (subscriptTail value slice (.ref 36) (.str ⟨#[sgn i]⟩ t)) Q E s := by
  obtain ⟨es, n, hl, hk⟩ := tab_at w.params
  obtain ⟨u, he⟩ := tok_at w.params i hi
  exact topItem_K F X₀ hl hk he (h u) hs
end Mine
end

section
open PySem PySem.W PyProof.Rows
set_option maxRecDepth 100000
namespace Mine
/-! the same reckoning over the letters 1 and 2 -/
noncomputable def cost2 (a b : Nat) : Int := if a = b then 0 else 2
noncomputable def inStepG (c : Nat) (a : List Nat) (i : Nat) (st : List Int × Int × Int × Int) : List Int × Int × Int × Int :=
  let sub := st.2.1 + cost2 c (a.getD i 0)
  let d := st.1.getD i 0
  let r := min (min st.2.2.1 d + 2) sub
  (st.1.set i r, d, r, if r < st.2.2.2 then r else st.2.2.2)
noncomputable def inLoopG (c : Nat) (a : List Nat) (row : List Int) (j : Int) : Nat → List Int × Int × Int × Int
  | 0 => (row, j * 2, j * 2, bigN)
  | i + 1 => inStepG c a i (inLoopG c a row j i)
noncomputable def outG (a b : List Nat) (mx : Int) : Nat → Nat → List Int → Int → Int
  | 0, _, _, res => res
  | n + 1, j, row, _ =>
    let st := inLoopG (b.getD j 0) a row j a.length
    if st.2.2.2 > mx then mx + 1 else outG a b mx n (j + 1) st.1 st.2.2.1
noncomputable def levCoreG (a b : List Nat) (mx : Int) : Int := if ((b.length : Int) - a.length) * 2 > mx then mx + 1 else outG a b mx b.length 0 (rowInit a.length) 0
noncomputable def levTrimG (a b : List Nat) (mx : Int) : Int :=
  if a.length = 0 ∨ b.length = 0 then 2 * ((a.length : Int) + b.length) else if b.length < a.length then levCoreG b a mx else levCoreG a b mx
noncomputable def levG (x y : List Nat) (mx : Int) : Int := if x = y then 0 else levTrimG (trimA x y) (trimB x y) mx
noncomputable def nearG (row : List Nat) : List (List Nat) → Int → Int
  | [], c => c
  | o :: r, c => nearG row r (min c (levG row o (c - 1)))
noncomputable def lonStepG (st : Int × Int) (c : Nat) : Int × Int := if c = 1 then (st.1, st.2 + 1) else if st.2 > 0 then (st.1, st.2 - 1) else (st.1 + 1, st.2)
noncomputable def lonG (l : List Nat) : Int × Int := l.foldl lonStepG (0, 0)
noncomputable def rowsG : Nat → List (List Nat × Int)
  | 0 => [([], 256)]
  | i + 1 => (rowsG i).map (fun p => (p.1 ++ [1], p.2 + 1)) ++ ((rowsG i).filter fun p => decide (256 ≤ p.2 - 1)).map (fun p => (p.1 ++ [2], p.2 - 1))
noncomputable def closedG : Nat → List (List Nat)
  | 0 => [[]]
  | i + 1 => closedG i ++ ((rowsG (i + 1)).filter fun p => decide (p.2 - 256 = 0)).map (·.1)
noncomputable def dyck : Nat → List (List Nat)
  | 0 => [[]]
  | 1 => [[1, 2]]
  | 2 => [[1, 2, 1, 2], [1, 1, 2, 2]]
  | _ => [[1, 2, 1, 2, 1, 2], [1, 1, 2, 2, 1, 2], [1, 2, 1, 1, 2, 2], [1, 1, 2, 1, 2, 2], [1, 1, 1, 2, 2, 2]]
theorem dyck_is : ∀ k : Fin 4, ((closedG 6).filter fun l => decide ((l.length : Int) = 0 + ((k : Nat) : Int) * 2)) = dyck k := by decide +kernel
theorem closedG_12 : (closedG 6).all (fun l => l.all fun a => a == 1 || a == 2) = true := by decide +kernel
noncomputable def pats : Nat → List (List Nat)
  | 0 => [[]]
  | n + 1 => (pats n).map (1 :: ·) ++ (pats n).map (2 :: ·)
theorem pats_mem : ∀ l : List Nat, (∀ a ∈ l, a = 1 ∨ a = 2) → l ∈ pats l.length
  | [], _ => .head _
  | a :: r, h => by
    have hr := pats_mem r fun x hx => h x (.tail _ hx)
    rw [List.length_cons, pats, List.mem_append, List.mem_map, List.mem_map]
    rcases h a (.head _) with rfl | rfl
    · exact .inl ⟨r, hr, rfl⟩
    · exact .inr ⟨r, hr, rfl⟩
noncomputable def rotG (p : List Nat) : List Nat := p.getD (p.length - 1) 0 :: p.take (p.length - 1)

section
variable {f : Nat → Nat} (hf : ∀ a b, f a = f b ↔ a = b) (h0 : f 0 = 0) (hκ : ∀ a b, a ≤ 2 → b ≤ 2 → cost (f a) (f b) = cost2 a b)
include hf
theorem lcp_map : ∀ x y : List Nat, lcp (x.map f) (y.map f) = lcp x y
  | [], _ => by simp [lcp]
  | _ :: _, [] => by simp [lcp]
  | a :: x, b :: y => by simp only [List.map_cons, lcp, hf, lcp_map x y]
theorem trimA_map (x y : List Nat) : trimA (x.map f) (y.map f) = (trimA x y).map f := by
  unfold trimA
  rw [lcp_map hf, ← List.map_drop, ← List.map_drop, ← List.map_reverse, ← List.map_reverse, lcp_map hf, List.length_map, List.map_take]
theorem trimB_map (x y : List Nat) : trimB (x.map f) (y.map f) = (trimB x y).map f := by
  unfold trimB
  rw [lcp_map hf, ← List.map_drop, ← List.map_drop, ← List.map_reverse, ← List.map_reverse, lcp_map hf, List.length_map, List.map_take]
theorem map_eq_map (x y : List Nat) : x.map f = y.map f ↔ x = y := List.map_inj_right fun a b h => (hf a b).mp h
theorem subq_map : ∀ x y : List Nat, subq (x.map f) (y.map f) = subq x y
  | [], _ => by simp [subq]
  | _ :: _, [] => by simp [subq]
  | a :: x, b :: y => by
    have h1 := subq_map x y
    have h2 := subq_map (a :: x) y
    rw [List.map_cons] at h2
    simp only [List.map_cons, subq, hf, h1, h2]
theorem mem_map_f (x : List Nat) (a : Nat) : f a ∈ x.map f ↔ a ∈ x := by
  rw [List.mem_map]
  constructor
  · rintro ⟨b, hb, e⟩; rw [← (hf b a).mp e]; exact hb
  · intro h; exact ⟨a, h, rfl⟩
omit hf
include h0
theorem getD_map_f (l : List Nat) (i : Nat) : (l.map f).getD i 0 = f (l.getD i 0) := by
  rw [List.getD_eq_getElem?_getD, List.getD_eq_getElem?_getD, List.getElem?_map]
  cases l[i]? with
  | none => exact h0.symm
  | some a => rfl
omit h0
theorem getD_le2 {l : List Nat} (h : ∀ a ∈ l, a ≤ 2) (i : Nat) : l.getD i 0 ≤ 2 := by
  rw [List.getD_eq_getElem?_getD]
  cases hi : l[i]? with
  | none => exact Nat.zero_le _
  | some a => exact h a (List.mem_of_getElem? hi)
include h0 hκ
theorem inLoop_map {c : Nat} {a : List Nat} (hc : c ≤ 2) (ha : ∀ x ∈ a, x ≤ 2) (row : List Int) (j : Int) : ∀ i, inLoop (f c) (a.map f) row j i = inLoopG c a row j i
  | 0 => rfl
  | i + 1 => by
    rw [inLoop, inLoopG, inLoop_map hc ha row j i]
    unfold inStep inStepG
    rw [getD_map_f h0, hκ c _ hc (getD_le2 ha i)]
theorem outL_map {a b : List Nat} (ha : ∀ x ∈ a, x ≤ 2) (hb : ∀ x ∈ b, x ≤ 2) (mx : Int) : ∀ n j row res, outL (a.map f) (b.map f) mx n j row res = outG a b mx n j row res
  | 0, _, _, _ => rfl
  | n + 1, j, row, res => by
    rw [outL, outG, getD_map_f h0, List.length_map, inLoop_map h0 hκ (getD_le2 hb j) ha]
    simp only [outL_map ha hb mx n]
theorem levCore_map {a b : List Nat} (ha : ∀ x ∈ a, x ≤ 2) (hb : ∀ x ∈ b, x ≤ 2) (mx : Int) : levCore (a.map f) (b.map f) mx = levCoreG a b mx := by
  unfold levCore levCoreG
  rw [List.length_map, List.length_map, outL_map h0 hκ ha hb]
theorem levTrim_map {a b : List Nat} (ha : ∀ x ∈ a, x ≤ 2) (hb : ∀ x ∈ b, x ≤ 2) (mx : Int) : levTrim (a.map f) (b.map f) mx = levTrimG a b mx := by
  unfold levTrim levTrimG
  rw [List.length_map, List.length_map, levCore_map h0 hκ ha hb, levCore_map h0 hκ hb ha]
include hf
theorem levL_map {x y : List Nat} (hx : ∀ a ∈ x, a ≤ 2) (hy : ∀ a ∈ y, a ≤ 2) (mx : Int) : levL (x.map f) (y.map f) mx = levG x y mx := by
  unfold levL levG
  rw [trimA_map hf, trimB_map hf, levTrim_map h0 hκ]
  · simp only [map_eq_map hf]
  · intro a h; exact hx a (List.mem_of_mem_drop (List.mem_of_mem_take h))
  · intro a h; exact hy a (List.mem_of_mem_drop (List.mem_of_mem_take h))
theorem nearF_map {x : List Nat} (hx : ∀ a ∈ x, a ≤ 2) : ∀ (os : List (List Nat)) (c : Int), (∀ o ∈ os, ∀ a ∈ o, a ≤ 2) → nearF (x.map f) (os.map (List.map f)) c = nearG x os c
  | [], _, _ => rfl
  | o :: r, c, h => by
    rw [List.map_cons, nearF, nearG, levL_map hf h0 hκ hx (h o (.head _)), nearF_map hx r _ fun q hq => h q (.tail _ hq)]
end

section
variable {f : Nat → Nat} (hf : ∀ a b, f a = f b ↔ a = b)
include hf
theorem lon_map {row : Str} {p : List Nat} (h : toL row = p.map f) : lonF (f 1) (KStt.codes row) = lonG p := by
  have e : KStt.codes row = p.map fun a => ((f a : Nat) : Int) := by
    show (toL row).map (fun (c : Nat) => (c : Int)) = _
    rw [h, List.map_map]
    rfl
  unfold lonF lonG
  rw [e, List.foldl_map]
  congr 1
  funext st a
  unfold lonStep lonStepG
  have : ((f a : Nat) : Int) = ((f 1 : Nat) : Int) ↔ a = 1 := by
    rw [← hf a 1]; omega
  simp only [this]
omit hf
theorem rows_map (i : Nat) : (rowsF (f 1) (f 2) i).map (fun p => (toL p.1, p.2)) = (rowsG i).map (fun p => (p.1.map f, p.2)) := by
  induction i with
  | zero => rfl
  | succ i ih =>
    have g1 : ∀ (R : List (Str × Int)) (c : Nat) (d : Int), (R.map fun p => (p.1 ++ (⟨#[c]⟩ : Str), p.2 + d)).map (fun p => (toL p.1, p.2)) = (R.map (fun p => (toL p.1, p.2))).map (fun p => (p.1 ++ [c], p.2 + d)) := by
      intro R c d
      rw [List.map_map, List.map_map]
      refine List.map_congr_left fun p _ => ?_
      simp only [Function.comp, toL_app]
      rfl
    have g2 : ∀ (S : List (List Nat × Int)) (c : Nat) (d : Int), (S.map fun p => (p.1 ++ [c], p.2 + d)).map (fun p => (p.1.map f, p.2)) = (S.map (fun p => (p.1.map f, p.2))).map (fun p => (p.1 ++ [f c], p.2 + d)) := by
      intro S c d
      rw [List.map_map, List.map_map]
      refine List.map_congr_left fun p _ => ?_
      simp only [Function.comp, List.map_append, List.map_cons, List.map_nil]
    have k1 : ∀ (R : List (Str × Int)), (R.filter fun p => decide (256 ≤ p.2 - 1)).map (fun p => (toL p.1, p.2)) = (R.map (fun p => (toL p.1, p.2))).filter fun p => decide (256 ≤ p.2 - 1) := by
      intro R; rw [List.filter_map]; rfl
    have k2 : ∀ (S : List (List Nat × Int)), (S.filter fun p => decide (256 ≤ p.2 - 1)).map (fun p => (p.1.map f, p.2)) = (S.map (fun p => (p.1.map f, p.2))).filter fun p => decide (256 ≤ p.2 - 1) := by
      intro S; rw [List.filter_map]; rfl
    rw [rowsF, rowsG, List.map_append, List.map_append]
    simp only [Int.sub_eq_add_neg]
    simp only [Int.sub_eq_add_neg] at k1 k2
    rw [g1, g1, g2, g2, k1, k2, ih]
theorem closed_map (i : Nat) : (closedF (f 1) (f 2) i).map toL = (closedG i).map (List.map f) := by
  induction i with
  | zero => rfl
  | succ i ih =>
    have k1 : ∀ (R : List (Str × Int)), ((R.filter fun p => decide (p.2 - 256 = 0)).map (·.1)).map toL = ((R.map (fun p => (toL p.1, p.2))).filter fun p => decide (p.2 - 256 = 0)).map (·.1) := by
      intro R; rw [List.filter_map, List.map_map, List.map_map]; rfl
    have k2 : ∀ (S : List (List Nat × Int)), ((S.filter fun p => decide (p.2 - 256 = 0)).map (·.1)).map (List.map f) = ((S.map (fun p => (p.1.map f, p.2))).filter fun p => decide (p.2 - 256 = 0)).map (·.1) := by
      intro S; rw [List.filter_map, List.map_map, List.map_map]; rfl
    rw [closedF, closedG, List.map_append, List.map_append, ih, k1, k2, rows_map]
theorem sized_map (k : Nat) (hk : k < 4) : (sizedF (closedF (f 1) (f 2) 6) (0 + (k : Int) * 2)).map toL = (dyck k).map (List.map f) := by
  have e1 : ∀ L : List Str, (sizedF L (0 + (k : Int) * 2)).map toL = (L.map toL).filter fun l => decide ((l.length : Int) = 0 + (k : Int) * 2) := by
    intro L; unfold sizedF; rw [List.filter_map]; rfl
  have e2 : ∀ M : List (List Nat), (M.map (List.map f)).filter (fun l => decide ((l.length : Int) = 0 + (k : Int) * 2)) = (M.filter fun l => decide ((l.length : Int) = 0 + (k : Int) * 2)).map (List.map f) := by
    intro M
    rw [List.filter_map]
    congr 1
    refine List.filter_congr fun l _ => ?_
    simp only [Function.comp, List.length_map]
  rw [e1, closed_map, e2]
  congr 1
  exact dyck_is ⟨k, hk⟩
end

/-! the laws over the letters 1 and 2, decided -/
noncomputable def okN (n : Nat) (k : Nat) : Bool := (pats n).all fun p => decide (nearG p (dyck k) 13 = 2 * dueF n (0 + (k : Int) * 2) (lonG p).1 (lonG p).2)
noncomputable def okS (n : Nat) (k : Nat) : Bool := (pats n).all fun p => decide ((dyck k).filter (fun l => subq l p) = []) == !decide (0 + (k : Int) * 2 ≤ n - (lonG p).1 - (lonG p).2)
noncomputable def okR (n : Nat) : Bool := (pats n).all fun p => decide (levG p (rotG p) 4 = if 1 ∈ p ∧ 2 ∈ p then 4 else 0)
theorem okR4 : okR 4 = true := by decide +kernel
theorem okR5 : okR 5 = true := by decide +kernel
theorem okR6 : okR 6 = true := by decide +kernel
theorem okS4 : ∀ k : Fin 4, okS 4 k = true := by decide +kernel
theorem okS5 : ∀ k : Fin 4, okS 5 k = true := by decide +kernel
theorem okS6 : ∀ k : Fin 4, okS 6 k = true := by decide +kernel
theorem okN4 : ∀ k : Fin 4, okN 4 k = true := by decide +kernel
theorem okN5 : ∀ k : Fin 4, okN 5 k = true := by decide +kernel
theorem okN60 : okN 6 0 = true := by decide +kernel
theorem okN61 : okN 6 1 = true := by decide +kernel
theorem okN62 : okN 6 2 = true := by decide +kernel
theorem okN63 : okN 6 3 = true := by decide +kernel
theorem near_pat {p : List Nat} {k : Nat} (h12 : ∀ a ∈ p, a = 1 ∨ a = 2) (h0 : 4 ≤ p.length) (h1 : p.length ≤ 6) (hk : k < 4) : nearG p (dyck k) 13 = 2 * dueF p.length (0 + (k : Int) * 2) (lonG p).1 (lonG p).2 := by
  have hp := pats_mem p h12
  have : okN p.length k = true := by
    rcases (show p.length = 4 ∨ p.length = 5 ∨ p.length = 6 by omega) with e | e | e
    · rw [e]; exact okN4 ⟨k, hk⟩
    · rw [e]; exact okN5 ⟨k, hk⟩
    · rw [e]
      rcases (show k = 0 ∨ k = 1 ∨ k = 2 ∨ k = 3 by omega) with rfl | rfl | rfl | rfl
      · exact okN60
      · exact okN61
      · exact okN62
      · exact okN63
  exact of_decide_eq_true (List.all_eq_true.mp this p hp)
theorem scat_pat {p : List Nat} {k : Nat} (h12 : ∀ a ∈ p, a = 1 ∨ a = 2) (h0 : 4 ≤ p.length) (h1 : p.length ≤ 6) (hk : k < 4) : decide ((dyck k).filter (fun l => subq l p) = []) = !decide (0 + (k : Int) * 2 ≤ p.length - (lonG p).1 - (lonG p).2) := by
  have hp := pats_mem p h12
  have : okS p.length k = true := by
    rcases (show p.length = 4 ∨ p.length = 5 ∨ p.length = 6 by omega) with e | e | e
    · rw [e]; exact okS4 ⟨k, hk⟩
    · rw [e]; exact okS5 ⟨k, hk⟩
    · rw [e]; exact okS6 ⟨k, hk⟩
  exact eq_of_beq (List.all_eq_true.mp this p hp)
theorem rot_pat {p : List Nat} (h12 : ∀ a ∈ p, a = 1 ∨ a = 2) (h0 : 4 ≤ p.length) (h1 : p.length ≤ 6) : levG p (rotG p) 4 = if 1 ∈ p ∧ 2 ∈ p then 4 else 0 := by
  have hp := pats_mem p h12
  have : okR p.length = true := by
    rcases (show p.length = 4 ∨ p.length = 5 ∨ p.length = 6 by omega) with e | e | e
    · rw [e]; exact okR4
    · rw [e]; exact okR5
    · rw [e]; exact okR6
  exact of_decide_eq_true (List.all_eq_true.mp this p hp)
end Mine
end

section
open PySem PySem.W PyProof.Rows
set_option maxRecDepth 100000
namespace Mine
/-- 1 and 2 to the two signs -/
noncomputable def fm (lo hi : Nat) (n : Nat) : Nat := if n = 0 then 0 else if n = 1 then lo else if n = 2 then hi else n + 1000
theorem fm_inj {lo hi : Nat} (h1 : lo ≠ 0) (h2 : hi ≠ 0) (h3 : lo ≠ hi) (h4 : lo < 200) (h5 : hi < 200) : ∀ a b, fm lo hi a = fm lo hi b ↔ a = b := by
  intro a b
  unfold fm
  constructor
  · intro h
    (repeat' split at h) <;> lia
  · intro h; rw [h]
theorem lower0 : Txt.lower ⟨#[0]⟩ = ⟨#[0]⟩ := by decide +kernel
theorem one_inj {a b : Nat} : (⟨#[a]⟩ : Str) = ⟨#[b]⟩ ↔ a = b := by
  constructor
  · intro h
    have := toL_inj.mpr h
    simpa [toL] using this
  · intro h; rw [h]
theorem cost_low {a b : Nat} (ha : Txt.lower ⟨#[a]⟩ = ⟨#[a]⟩) (hb : Txt.lower ⟨#[b]⟩ = ⟨#[b]⟩) : cost a b = if a = b then 0 else 2 := by
  unfold cost subCost
  rw [ha, hb]
  simp only [one_inj]
  split <;> rfl
structure Two (i j : Nat) (f : Nat → Nat) : Prop where
  inj : ∀ a b, f a = f b ↔ a = b
  z : f 0 = 0
  lo : f 1 = sgn (min i j)
  hi : f 2 = sgn (max i j)
  cst : ∀ a b, a ≤ 2 → b ≤ 2 → cost (f a) (f b) = cost2 a b
theorem two_is {i j : Nat} (hi : i < 23) (hj : j < 23) (hij : i ≠ j) : ∃ f, Two i j f := by
  have ml : min i j < 23 := by lia
  have mh : max i j < 23 := by lia
  have hne : sgn (min i j) ≠ sgn (max i j) := sgn_ne ⟨_, ml⟩ ⟨_, mh⟩ (by intro h; have := congrArg Fin.val h; simp only at this; lia)
  have pl := sgn_pos ⟨_, ml⟩
  have ph := sgn_pos ⟨_, mh⟩
  simp only at pl ph
  refine ⟨fm (sgn (min i j)) (sgn (max i j)), fm_inj pl.1 ph.1 hne pl.2.2 ph.2.2, rfl, rfl, rfl, ?_⟩
  have inj := fm_inj pl.1 ph.1 hne pl.2.2 ph.2.2
  have low : ∀ a, a ≤ 2 → Txt.lower ⟨#[fm (sgn (min i j)) (sgn (max i j)) a]⟩ = ⟨#[fm (sgn (min i j)) (sgn (max i j)) a]⟩ := by
    intro a ha
    rcases (show a = 0 ∨ a = 1 ∨ a = 2 by lia) with rfl | rfl | rfl
    · exact lower0
    · exact sgn_lower ⟨_, ml⟩
    · exact sgn_lower ⟨_, mh⟩
  intro a b ha hb
  rw [cost_low (low a ha) (low b hb), cost2]
  simp only [inj a b]
/-- the row's pattern -/
noncomputable def patOf (i j : Nat) (bs : List Bool) : List Nat := bs.map fun b => if b then (if i < j then 2 else 1) else (if i < j then 1 else 2)
theorem pat_12 (i j : Nat) (bs : List Bool) : ∀ a ∈ patOf i j bs, a = 1 ∨ a = 2 := by
  intro a ha
  obtain ⟨b, _, rfl⟩ := List.mem_map.mp ha
  (repeat' split) <;> simp
theorem pat_le (i j : Nat) (bs : List Bool) : ∀ a ∈ patOf i j bs, a ≤ 2 := by
  intro a ha
  rcases pat_12 i j bs a ha with rfl | rfl <;> lia
theorem pat_len (i j : Nat) (bs : List Bool) : (patOf i j bs).length = bs.length := List.length_map ..
theorem row_pat {i j : Nat} {f : Nat → Nat} (T : Two i j f) (hij : i ≠ j) (bs : List Bool) : toL (rowS i j bs) = (patOf i j bs).map f := by
  rw [rowS, toL_mk, patOf, List.map_map]
  refine List.map_congr_left fun b _ => ?_
  simp only [Function.comp]
  rcases Nat.lt_or_ge i j with h | h
  · have e1 : min i j = i := by lia
    have e2 : max i j = j := by lia
    have l := T.lo
    have r := T.hi
    rw [e1] at l
    rw [e2] at r
    cases b <;> simp [h, l, r]
  · have e1 : min i j = j := by lia
    have e2 : max i j = i := by lia
    have l := T.lo
    have r := T.hi
    rw [e1] at l
    rw [e2] at r
    cases b <;> simp [Nat.not_lt.mpr h, l, r]
theorem dyck_le : ∀ k : Fin 4, ∀ o ∈ dyck k, ∀ a ∈ o, a ≤ 2 := by decide +kernel
section
variable {i j : Nat} {bs : List Bool} (hi : i < 23) (hj : j < 23) (hij : i ≠ j) (h0 : 4 ≤ bs.length) (h1 : bs.length ≤ 6)
include hi hj hij h0 h1
theorem rot_law : levL (toL (rowS i j bs)) (toL (Txt.item (rowS i j bs) (-1) ++ Txt.slice (rowS i j bs) none (some (-1)))) 4 = if sgn i ∈ toL (rowS i j bs) ∧ sgn j ∈ toL (rowS i j bs) then 4 else 0 := by
  obtain ⟨f, T⟩ := two_is hi hj hij
  have hrl := rowS_len i j bs
  have e : toL (Txt.item (rowS i j bs) (-1) ++ Txt.slice (rowS i j bs) none (some (-1))) = (rotG (patOf i j bs)).map f := by
    rw [toL_app, item_neg _ (-1) (by decide) (by lia), slice_upto _ (-1) (by decide) (by lia), row_pat T hij, hrl]
    unfold rotG
    rw [List.map_cons, List.map_take, pat_len, getD_map_f T.z]
    rfl
  have hrot : ∀ a ∈ rotG (patOf i j bs), a ≤ 2 := by
    intro a ha
    rcases List.mem_cons.mp ha with rfl | ha
    · exact getD_le2 (pat_le i j bs) _
    · exact pat_le i j bs a (List.mem_of_mem_take ha)
  rw [e, row_pat T hij, levL_map T.inj T.z T.cst (pat_le i j bs) hrot, rot_pat (pat_12 i j bs) (by rw [pat_len]; exact h0) (by rw [pat_len]; exact h1)]
  have hm : (sgn i ∈ (patOf i j bs).map f ∧ sgn j ∈ (patOf i j bs).map f) ↔ (1 ∈ patOf i j bs ∧ 2 ∈ patOf i j bs) := by
    rcases Nat.lt_or_ge i j with h | h
    · have l := T.lo
      have r := T.hi
      rw [show min i j = i by lia] at l
      rw [show max i j = j by lia] at r
      rw [← l, ← r, mem_map_f T.inj, mem_map_f T.inj]
    · have l := T.lo
      have r := T.hi
      rw [show min i j = j by lia] at l
      rw [show max i j = i by lia] at r
      rw [← l, ← r, mem_map_f T.inj, mem_map_f T.inj, And.comm]
  simp only [hm]
theorem near_law {k : Nat} (hk : k < 4) :
    nearF (toL (rowS i j bs)) ((sizedF (closedF (sgn (min i j)) (sgn (max i j)) 6) (0 + (k : Int) * 2)).map toL) 13 = 2 * dueF bs.length (0 + (k : Int) * 2) (lonF (sgn (min i j)) (KStt.codes (rowS i j bs))).1 (lonF (sgn (min i j)) (KStt.codes (rowS i j bs))).2 := by
  obtain ⟨f, T⟩ := two_is hi hj hij
  have hl := lon_map T.inj (row_pat T hij bs)
  have hs := sized_map (f := f) k hk
  rw [T.lo] at hl
  rw [T.lo, T.hi] at hs
  rw [hs, hl, row_pat T hij, nearF_map T.inj T.z T.cst (pat_le i j bs) _ _ (dyck_le ⟨k, hk⟩), near_pat (pat_12 i j bs) (by rw [pat_len]; exact h0) (by rw [pat_len]; exact h1) hk, pat_len]
theorem scat_law {k : Nat} (hk : k < 4) :
    decide (((sizedF (closedF (sgn (min i j)) (sgn (max i j)) 6) (0 + (k : Int) * 2)).filter fun o => subq (toL o) (toL (rowS i j bs))).map (fun o => wantOf (toL o)) = []) = !decide (0 + (k : Int) * 2 ≤ bs.length - (lonF (sgn (min i j)) (KStt.codes (rowS i j bs))).1 - (lonF (sgn (min i j)) (KStt.codes (rowS i j bs))).2) := by
  obtain ⟨f, T⟩ := two_is hi hj hij
  have hl := lon_map T.inj (row_pat T hij bs)
  have hs := sized_map (f := f) k hk
  rw [T.lo] at hl
  rw [T.lo, T.hi] at hs
  have e1 : ∀ (L : List Str) (r : List Nat), ((L.filter fun o => subq (toL o) r).map (fun o => wantOf (toL o)) = []) ↔ ((L.map toL).filter fun l => subq l r) = [] := by
    intro L r
    rw [List.map_eq_nil_iff, List.filter_map, List.map_eq_nil_iff]
    rfl
  have e2 : ∀ (M : List (List Nat)) (p : List Nat), ((M.map (List.map f)).filter fun l => subq l (p.map f)) = [] ↔ (M.filter fun l => subq l p) = [] := by
    intro M p
    rw [List.filter_map, List.map_eq_nil_iff]
    have : ((fun l => subq l (p.map f)) ∘ List.map f) = fun l => subq l p := funext fun l => subq_map T.inj l p
    rw [this]
  rw [hl, ← pat_len i j bs, ← scat_pat (pat_12 i j bs) (by rw [pat_len]; exact h0) (by rw [pat_len]; exact h1) hk]
  refine decide_eq_decide.mpr ?_
  rw [e1, hs, row_pat T hij, e2]
end
theorem closed_codes {i j : Nat} (hi : i < 23) (hj : j < 23) : ∀ o ∈ closedF (sgn (min i j)) (sgn (max i j)) 6, ∀ c ∈ toL o, c ≠ 46 ∧ c < 200 := by
  intro o ho c hc
  have pl := sgn_pos ⟨min i j, by lia⟩
  have ph := sgn_pos ⟨max i j, by lia⟩
  simp only at pl ph
  have hm := closed_map (f := fm (sgn (min i j)) (sgn (max i j))) 6
  have h1 : toL o ∈ (closedF (fm (sgn (min i j)) (sgn (max i j)) 1) (fm (sgn (min i j)) (sgn (max i j)) 2) 6).map toL := List.mem_map.mpr ⟨o, ho, rfl⟩
  rw [hm] at h1
  obtain ⟨l, hl, e⟩ := List.mem_map.mp h1
  rw [← e] at hc
  obtain ⟨a, ha, rfl⟩ := List.mem_map.mp hc
  have h12 := List.all_eq_true.mp (List.all_eq_true.mp closedG_12 l hl) a ha
  simp only [Bool.or_eq_true, beq_iff_eq] at h12
  rcases h12 with rfl | rfl
  · exact ⟨pl.2.1, pl.2.2⟩
  · exact ⟨ph.2.1, ph.2.2⟩
theorem closed_nodot {i j : Nat} (hi : i < 23) (hj : j < 23) : ∀ o ∈ closedF (sgn (min i j)) (sgn (max i j)) 6, 46 ∉ toL o := fun o ho h => (closed_codes hi hj o ho 46 h).1 rfl
theorem closed_ok {i j : Nat} (hi : i < 23) (hj : j < 23) : ∀ o ∈ closedF (sgn (min i j)) (sgn (max i j)) 6, PyData.strOk (wantOf (toL o)) = true := by
  intro o ho
  have hc := closed_codes hi hj o ho
  unfold PyData.strOk wantOf
  rw [List.all_toArray, List.all_eq_true]
  intro c h
  refine decide_eq_true ?_
  have : c = 46 ∨ c ∈ toL o := by
    simp only [List.mem_cons, List.mem_flatMap, List.not_mem_nil, or_false] at h
    rcases h with h | h | h | ⟨a, ha, h | h | h | h⟩
    · exact .inl h
    · exact .inl h
    · exact .inl h
    · rw [h]; exact .inr ha
    · exact .inl h
    · exact .inl h
    · exact .inl h
  rcases this with rfl | h
  · decide
  · have := (hc c h).2; lia
end Mine
end

section
open PySem PySem.W PyProof.Rows PyProof.Rows.LCg
set_option maxRecDepth 100000
set_option maxHeartbeats 2000000
namespace Mine
theorem law_walk : PySem.Challenge.rw_rl0091_01.Holds := hd (by
  k_go0
  (all_goals try k_fold)
  rename_i w s0 s1 mg mb G Y fa fo pm doc ho hg KX X V GL T B TE TW w12 w11 M w10 w9 hcd ns hs hlay0 hL1 hr1 hl2 w7 w6 sl vs w3 hL ra w1 r0 hI hr hcond1 hcond K0 hD h1 tk1 F o2 o1 o0 d2 d1 d0 N0 X0
  have e2 : o2.data = .cell none := d2
  have e1 : o1.data = .cell none := d1
  have e0 : o0.data = .cell none := d0
  have KB : Below callerA s1.heap [] s1.heap := K0
  have KTop : Top hd.view_39 (looseW hd.view_39 [Str.ofString "EXACT_TOKEN_TYPES"]) (ExcName.means s0.heap) mg mb s1.heap := T
  have hns : ns.length ≤ 63 := by lia
  clear d2 d1 d0 X0 K0
  have three_is : ∀ (us : List Value) (x y z : Int), IntsAre us [x, y, z] → ∃ t1 t2 t3, us = [.int x t1, .int y t2, .int z t3] := by
    rintro us x y z (_ | ⟨_, t1, _ | ⟨_, t2, _ | ⟨_, t3, _ | _⟩⟩⟩)
    exact ⟨t1, t2, t3, rfl⟩
  refine cut_by 1 (fun W => ∀ Dn nn oN xN yN zN t1 t2 t3, oN.data = .cell (some (.ref Dn)) → ∀ (u : Str → Option Value) (h : Heap) (tk : Nat), Fr s1.heap s1.heap.objs.size h (kstB u []) → News s1.heap s1.heap.objs.size h [(s1.heap.objs.size + 1, oN), (s1.heap.objs.size + 2, o1), (s1.heap.objs.size + 3, o2), (Dn, PySem.W.listOf [Value.int xN t1, .int yN t2, .int zN t3].toArray nn)] → W { s1 with heap := h, toks := tk }) ?_ ?_
  · --[ a
    intro W hW
    (dsimp only [List.take_succ_cons, List.take_zero])
    try k_fold
    (repeat ((fail_if_success (with_reducible show wpAny _ _ (call (Value.ref _) _) _ _ _)); walk1))
    refine num_ctr w sl vs ns _ _ _ _ _ _ _ _ _ _ _ _ _ _ _ _ _ _ _ _ _ KB (by assumption) KX (by assumption) KTop rfl hL hI hns (by ktr_room) (by ktr_units) ?_
    intro Dn us nn xN yN zN h2 tk2 hIn F2 N2
    obtain ⟨t1, t2, t3, rfl⟩ := three_is us xN yN zN hIn
    k_steps
    exact Hold.mk (hW Dn nn _ xN yN zN t1 t2 t3 (by assumption) _ _ _ (fr_names _ (by assumption) (by intro p hp; cases hp)) (cb_drop (by assumption) (by intro p hp; simp only [List.mem_cons, List.mem_append, List.not_mem_nil, or_false] at hp ⊢; rcases hp with h | h | h | h <;> simp [h])))
    --] a
  intro Dn nn oN xN yN zN t1 t2 t3 eN u2 h2 tk2 F2 N2
  (simp only [List.drop])
  clear F N0 e0
  generalize hZ : s1.heap.objs.size = Z at *
  have shft : ∀ a : Int, 0 ≤ a ∧ a < 23 → ∀ d : Int, 0 ≤ Int.fmod d 22 → Int.fmod d 22 < 22 → Int.fmod (a + 1 + Int.fmod d 22) 23 ≠ a := by
    intro a ha d h0 h1
    rw [Int.fmod_eq_emod_of_nonneg _ (by decide : (0 : Int) ≤ 23)]
    lia
  have rLo := fmod_lo xN (n := 23) (by decide)
  have rHi := fmod_hi xN (n := 23) (by decide)
  have sLo := fmod_lo yN (n := 3) (by decide)
  have sHi := fmod_hi yN (n := 3) (by decide)
  refine cut_by 5 (fun W => ∀ (a b sz : Int) (P : Addr) (oP : Obj) (n : Nat) (tp tq ts ta tb tz : Tok), 0 ≤ a → a < 23 → 0 ≤ b → b < 23 → b ≠ a → 4 ≤ sz → sz ≤ 6 → oP.data = .cell (some (.ref P)) → ∀ (u : Str → Option Value) (h : Heap) (tk : Nat), Fr s1.heap Z h (kstB u [(Str.ofString "signs", .str signsS ts), (Str.ofString "one", .int a ta), (Str.ofString "other", .int b tb), (Str.ofString "size", .int sz tz)]) → News s1.heap Z h [(P, PySem.W.listOf [Value.str (Txt.item signsS a) tp, .str (Txt.item signsS b) tq].toArray n), (Z + 1, oN), (Z + 2, oP), (Z + 3, o2), (Dn, PySem.W.listOf [Value.int xN t1, .int yN t2, .int zN t3].toArray nn)] → W { s1 with heap := h, toks := tk }) ?_ ?_
  · --[ b
    intro W hW
    (dsimp only [List.take_succ_cons, List.take_zero])
    try k_fold
    k_steps
    rename News _ _ _ _ => N9
    exact Hold.mk (hW _ _ _ _ _ _ _ _ _ _ _ _ rLo rHi (fmod_lo _ (by decide)) (fmod_hi _ (by decide)) (shft _ ⟨rLo, rHi⟩ _ (fmod_lo _ (by decide)) (fmod_hi _ (by decide))) (Int.le_add_of_nonneg_right sLo) (by lia) (by assumption) _ _ _ (fr_names _ (by assumption) (by kst_all)) N9)
    --] b
  intro a b sz P oP nP tp tq ts ta tb tz ha0 ha1 hb0 hb1 hab hs0 hs1 eP u3 h3 tk3 F3 N3
  (simp only [List.drop])
  clear F2 N2 rLo rHi sLo sHi
  obtain ⟨i, rfl⟩ := Int.eq_ofNat_of_zero_le ha0
  obtain ⟨j, rfl⟩ := Int.eq_ofNat_of_zero_le hb0
  obtain ⟨m, rfl⟩ := Int.eq_ofNat_of_zero_le (show 0 ≤ sz by lia)
  rw [item_sgn i (by lia), item_sgn j (by lia)] at N3
  refine cut_by 1 (fun W => ∀ (bs : List Bool) (tr ts ta tb tz : Tok), bs.length = m → ∀ (u : Str → Option Value) (h : Heap) (tk : Nat), Fr s1.heap Z h (kstB u [(Str.ofString "signs", .str signsS ts), (Str.ofString "one", .int i ta), (Str.ofString "other", .int j tb), (Str.ofString "size", .int m tz), (Str.ofString "row", .str (rowS i j bs) tr)]) → News s1.heap Z h [(P, PySem.W.listOf [Value.str ⟨#[sgn i]⟩ tp, .str ⟨#[sgn j]⟩ tq].toArray nP), (Z + 2, oP), (Z + 3, o2)] → W { s1 with heap := h, toks := tk }) ?_ ?_
  · --[ c
    intro W hW
    (dsimp only [List.take_succ_cons, List.take_zero])
    try k_fold
    (repeat ((fail_if_success (with_reducible show wpAny _ _ (eval (Expr.ListComp _ _ _ _) _) _ _ _)); walk1))
    refine ListComp_U (F₀ := F3) (by with_unfolding_all rfl) (by decide) (by rfl) (by decide) (by rfl) ?_
    (repeat ((fail_if_success (with_reducible show CompSrc _ _ _ _ _ _ _ _ _ _ _ _ _ _)); first | walk1 | (dsimp only; walk1)))
    have hm3 : m = 4 ∨ m = 5 ∨ m = 6 := by lia
    refine CompSrc.range (n := m) (by rfl) (by assumption) (by assumption) (by assumption) (by rcases hm3 with rfl | rfl | rfl <;> decide) (by rcases hm3 with rfl | rfl | rfl <;> decide) (by rcases hm3 with rfl | rfl | rfl <;> decide) ?_
    intro g5

    refine rest_U (n := m) (fun k ys nw' => nw' = [(P, PySem.W.listOf [Value.str ⟨#[sgn i]⟩ tp, .str ⟨#[sgn j]⟩ tq].toArray nP), (Z + 1, oN), (Z + 2, oP), (Z + 3, o2), (Dn, PySem.W.listOf [Value.int xN t1, .int yN t2, .int zN t3].toArray nn)] ∧ ∃ bs : List Bool, bs.length = k ∧ StrsAre ys (bs.map fun b => (⟨#[if b then sgn j else sgn i]⟩ : Str))) ?_ ?_ _ 0 [] _ (Nat.zero_add _) ⟨rfl, [], rfl, .nil⟩
    · rintro k ys nw' v I oI C oC D m₂ h tk E' hk ⟨rfl, bs, hbl, hbs⟩ ⟨tv, rfl⟩ hC hx F N off ne
      have hk0 : (0 : Int) ≤ 0 + (k : Int) := by lia
      have hk1 : (0 : Int) + (k : Int) ≤ 5 := by lia
      generalize ((0 : Int) + (k : Int)) = kk at *
      (repeat ((fail_if_success (with_reducible show wpAny _ _ (eval (Expr.Name (Str.ofString "numbers") _) _) _ _ _)); (fail_if_success (with_reducible show wpAny _ _ (eval (Expr.Name (Str.ofString "pair") _) _) _ _ _)); (fail_if_success (with_reducible show wpAny _ _ (eval (Expr.Name (Str.ofString "many") _) _) _ _ _)); walk1))
      refine lcf_cell (c := Z + 2) (o := oP) N ?hc (.tail _ (.tail _ (.tail _ (.tail _ (.tail _ (.head _)))))) eP ?_ ?hk ?hx
      case hk => rfl
      case hc => rfl
      case hx => rfl
      (repeat ((fail_if_success (with_reducible show wpAny _ _ (eval (Expr.Name (Str.ofString "numbers") _) _) _ _ _)); (fail_if_success (with_reducible show wpAny _ _ (eval (Expr.Name (Str.ofString "pair") _) _) _ _ _)); (fail_if_success (with_reducible show wpAny _ _ (eval (Expr.Name (Str.ofString "many") _) _) _ _ _)); walk1))
      refine lcf_cell (c := Z + 1) (o := oN) N ?hc (.tail _ (.tail _ (.tail _ (.tail _ (.head _))))) eN ?_ ?hk ?hx
      case hk => rfl
      case hc => rfl
      case hx => rfl
      k_steps
      · refine end_same (by assumption) N (fun p hp => hp) off trivial ⟨rfl, bs ++ [false], by simp [hbl], ?_⟩
        rw [List.map_append]
        exact strs_snoc hbs
      · refine end_same (by assumption) N (fun p hp => hp) off trivial ⟨rfl, bs ++ [true], by simp [hbl], ?_⟩
        rw [List.map_append]
        exact strs_snoc hbs
    · rintro ys nw' ⟨rfl, bs, hbl, hbs⟩
      intro D h4 tk4 F4 N4 o4
      have hcar : CarriedAll ys (bs.map fun b => PyData.str (⟨#[if b then sgn j else sgn i]⟩ : Str)) := by
        have := hbs.carried
        rwa [List.map_map] at this
      (repeat ((fail_if_success (with_reducible show wpAny _ _ (call (Value.builtin "str.join") _) _ _ _)); walk1))
      refine KT.join_B 1 ⟨_, (N4 _ (.head _)).1, rfl, _, rfl⟩ hcar (fun a _ => Nat.le_refl 1) (by lia) (by decide) ?_
      intro tj kj
      rw [row_made]
      clear hcar
      have N5 := cb_drop (news := [(P, PySem.W.listOf [Value.str ⟨#[sgn i]⟩ tp, .str ⟨#[sgn j]⟩ tq].toArray nP), (Z + 2, oP), (Z + 3, o2)]) N4 (by lcg_sub)
      clear N4 o4
      k_steps
      exact Hold.mk (hW bs _ _ _ _ _ hbl _ _ _ (fr_names _ (by assumption) (by kst_all)) (by assumption))
    --] c
  intro bs tr ts ta tb tz hbl u4 h4 tk4 F4 N4
  (simp only [List.drop])
  clear F3 N3
  have hrl : (rowS i j bs).length ≤ 6 := by rw [rowS_len]; lia
  refine cut_by 1 (fun W => ∀ (tr tz td tu : Tok), ∀ (u : Str → Option Value) (h : Heap) (tk : Nat), Fr s1.heap Z h (kstB u [(Str.ofString "size", .int m tz), (Str.ofString "row", .str (rowS i j bs) tr), (Str.ofString "down", .int (lonF (sgn (min i j)) (KStt.codes (rowS i j bs))).1 td), (Str.ofString "up", .int (lonF (sgn (min i j)) (KStt.codes (rowS i j bs))).2 tu)]) → News s1.heap Z h [(P, PySem.W.listOf [Value.str ⟨#[sgn i]⟩ tp, .str ⟨#[sgn j]⟩ tq].toArray nP), (Z + 2, oP), (Z + 3, o2)] → W { s1 with heap := h, toks := tk }) ?_ ?_
  · --[ d
    intro W hW
    (dsimp only [List.take_succ_cons, List.take_zero])
    try k_fold
    repeat ((fail_if_success (with_reducible show wpAny _ _ (subscriptTail _ _ (Value.str _ _) (Value.int _ _)) _ _ _)); first | walk1 | (dsimp only; walk1))
    rw [show (if (j : Int) < (i : Int) then (j : Int) else (i : Int)) = ((min i j : Nat) : Int) by split <;> lia]
    have hmb0 : (0 : Int) ≤ ((min i j : Nat) : Int) := by lia
    have hmb1 : ((min i j : Nat) : Int) < 23 := by lia
    (repeat ((fail_if_success (with_reducible show wpAny _ _ (call (Value.ref _) _) _ _ _)); walk1))
    rw [item_sgn (min i j) (by lia)]
    refine Ctr.go (lon_ctr w _ (rowS i j bs) (sgn (min i j)) tr _ hrl) KB (by assumption) KX (by assumption) KTop rfl (by ktr_room) (by ktr_units) ?_
    rintro v h5 tk5 more ⟨D, td, tu, rfl, rfl⟩ F5 N5

    k_steps
    rename News _ _ _ _ => N9
    exact Hold.mk (hW _ _ _ _ _ _ _ (fr_names _ (by assumption) (by kst_all)) (cb_drop N9 (fun p hp => List.mem_append_right _ hp)))
    --] d
  intro tr tz td tu u5 h5 tk5 F5 N5
  (simp only [List.drop])
  have hrl0 : 4 ≤ (rowS i j bs).length := by rw [rowS_len]; lia
  have hi23 : i < 23 := by lia
  have hj23 : j < 23 := by lia
  have hij : i ≠ j := by lia
  have hb0 : 4 ≤ bs.length := by lia
  have hb1 : bs.length ≤ 6 := by lia
  have hrot := rot_law hi23 hj23 hij hb0 hb1
  generalize hdn : (lonF (sgn (min i j)) (KStt.codes (rowS i j bs))).1 = dn at *
  generalize hup : (lonF (sgn (min i j)) (KStt.codes (rowS i j bs))).2 = up at *
  generalize hrow : rowS i j bs = row at *
  refine cut_by 1 (fun W => ∀ (tr tz td tu : Tok), ∀ (u : Str → Option Value) (h : Heap) (tk : Nat), Fr s1.heap Z h (kstB u [(Str.ofString "size", .int m tz), (Str.ofString "row", .str row tr), (Str.ofString "down", .int dn td), (Str.ofString "up", .int up tu)]) → News s1.heap Z h [(P, PySem.W.listOf [Value.str ⟨#[sgn i]⟩ tp, .str ⟨#[sgn j]⟩ tq].toArray nP), (Z + 2, oP), (Z + 3, o2)] → W { s1 with heap := h, toks := tk }) ?_ ?_
  · --[ e
    intro W hW
    (dsimp only [List.take_succ_cons, List.take_zero])
    try k_fold
    (repeat ((fail_if_success (with_reducible show wpAny _ _ (call (Value.ref _) _) _ _ _)); walk1))
    have hrotl : (Txt.item row (-1) ++ Txt.slice row none (some (-1))).length ≤ 6 := by
      rw [str_len_app, ← toL_len, item_neg row (-1) (by decide) (by lia)]
      have := len_upto row (-1) (by decide) (by lia)
      simp only [List.length_singleton]
      lia
    refine Ctr.goI (lev_ctr w _ row _ 4 tr _ _ hrl hrotl) KB (by assumption) KX (by assumption) KTop rfl (by ktr_room) (by ktr_units) ?_
    intro t9 h9 tk9 F9 N9
    rw [hrot]
    clear hrot hrotl
    k_steps
    all_goals first
      | exact Hold.mk (hW _ _ _ _ _ _ _ (fr_names _ (by assumption) (by kst_all)) (by assumption))
      | (exfalso
         rename _ ≠ (_ : Int) => hne
         apply hne
         first
           | rw [if_pos ⟨occ_yes (by assumption), occ_yes (by assumption)⟩]
           | rw [if_neg (fun h => occ_no (by assumption) h.1)]
           | rw [if_neg (fun h => occ_no (by assumption) h.2)])
    --] e
  clear hrot F5 N5
  intro tr tz td tu u6 h6 tk6 F6 N6
  (simp only [List.drop])
  refine cut_by 1 (fun W => ∀ (P : Addr) (oP : Obj) (n : Nat) (tr tp tq tz td tu : Tok), oP.data = .cell (some (.ref P)) → ∀ (u : Str → Option Value) (h : Heap) (tk : Nat), Fr s1.heap Z h (kstB u [(Str.ofString "size", .int m tz), (Str.ofString "row", .str row tr), (Str.ofString "down", .int dn td), (Str.ofString "up", .int up tu)]) → News s1.heap Z h [(P, PySem.W.listOf [Value.str ⟨#[sgn (min i j)]⟩ tp, .str ⟨#[sgn (max i j)]⟩ tq].toArray n), (Z + 2, oP), (Z + 3, o2)] → W { s1 with heap := h, toks := tk }) ?_ ?_
  · --[ f
    intro W hW
    (dsimp only [List.take_succ_cons, List.take_zero])
    try k_fold
    repeat ((fail_if_success (with_reducible show wpAny _ _ (subscriptTail _ _ (Value.ref 36) (Value.str _ _)) _ _ _)); first | walk1 | (dsimp only; walk1))
    refine tok_item (by assumption) (by assumption) (by lia) ?_ (by with_unfolding_all rfl)
    intro u9
    try dsimp only
    repeat ((fail_if_success (with_reducible show wpAny _ _ (subscriptTail _ _ (Value.ref 36) (Value.str _ _)) _ _ _)); first | walk1 | (dsimp only; walk1))
    refine tok_item (by assumption) (by assumption) (by lia) ?_ (by with_unfolding_all rfl)
    intro v9
    try dsimp only
    k_steps
    · rename News _ _ _ _ => N9
      have hij : i < j := by
        rcases Nat.lt_or_ge i j with h | h
        · exact h
        · have := tok_mono (i := j) (j := i) hi23 (by lia)
          lia
      refine Hold.mk (hW P oP nP _ tp tq _ _ _ eP _ _ _ (fr_names _ (by assumption) (by kst_all)) (cb_drop N9 ?_))
      rw [Nat.min_eq_left (Nat.le_of_lt hij), Nat.max_eq_right (Nat.le_of_lt hij)]
      lcg_sub
    · rename News _ _ _ _ => N9
      have hij : j < i := by
        rcases Nat.lt_or_ge j i with h | h
        · exact h
        · have := tok_mono (i := i) (j := j) hj23 (by lia)
          lia
      refine Hold.mk (hW _ _ 0 _ tq tp _ _ _ (by assumption) _ _ _ (fr_names _ (by assumption) (by kst_all)) (cb_drop N9 ?_))
      rw [Nat.min_eq_right (Nat.le_of_lt hij), Nat.max_eq_left (Nat.le_of_lt hij)]
      lcg_sub
    --] f
  clear N6 F6
  intro P oP nP tr tp tq tz td tu eP u7 h7 tk7 F7 N7
  (simp only [List.drop])
  refine cut_by 1 (fun W => ∀ (tr tz td tu : Tok) (K : Addr) (cv : List Value) (nK : Nat), StrsAre cv (closedF (sgn (min i j)) (sgn (max i j)) 6) → ∀ (u : Str → Option Value) (h : Heap) (tk : Nat), Fr s1.heap Z h (kstB u [(Str.ofString "size", .int m tz), (Str.ofString "row", .str row tr), (Str.ofString "down", .int dn td), (Str.ofString "up", .int up tu), (Str.ofString "closed", .ref K)]) → News s1.heap Z h [(K, PySem.W.listOf cv.toArray nK), (Z + 3, o2)] → W { s1 with heap := h, toks := tk }) ?_ ?_
  · --[ g
    intro W hW
    (dsimp only [List.take_succ_cons, List.take_zero])
    try k_fold
    (repeat ((fail_if_success (with_reducible show wpAny _ _ (call (Value.ref _) _) _ _ _)); walk1))
    refine Ctr.go (clo_ctr w _ (sgn (min i j)) (sgn (max i j)) _ _) KB (by assumption) KX (by assumption) KTop rfl (by ktr_room) (by ktr_units) ?_
    rintro v h8 tk8 more ⟨K, cv, nK, rfl, hcv, rfl⟩ F8 N8
    k_steps
    rename News _ _ _ _ => N9
    exact Hold.mk (hW _ _ _ _ K cv nK hcv _ _ _ (fr_names _ (by assumption) (by kst_all)) (cb_drop N9 (by lcg_sub)))
    --] g
  clear N7 F7
  intro tr tz td tu K cv nK hcv u8 h8 tk8 F8 N8
  (simp only [List.drop])
  have hKZ : K ≠ Z + 3 := news_ne2 (p := (K, _)) (q := (Z + 3, o2)) N8 (.head _) (.tail _ (.head _)) (by rw [e2]; exact fun h => nomatch h)
  --[ h
  refine wpAny_execs_cons ?_
  refine For_invT s1.heap ?_ (by intro _; rfl) (by subst hZ; unfold ek; exact PySem.PassesOwn.leaving)
  (repeat ((fail_if_success (with_reducible show wpAny _ _ (pyIter _) _ _ _)); walk1))
  refine for_rngT (a := 0) (c := 2) (n := 4) (fun k m₁ nw => ∃ (u : Str → Option Value) (oM : Obj) (v₀ : Option Value) (tr tz td tu : Tok), m₁ = kstB u [(Str.ofString "size", .int m tz), (Str.ofString "row", .str row tr), (Str.ofString "down", .int dn td), (Str.ofString "up", .int up tu), (Str.ofString "closed", .ref K)] ∧ oM.data = .cell v₀ ∧ nw = [(K, PySem.W.listOf cv.toArray nK), (Z + 3, oM)]) rfl (fun _ _ => rfl) (by assumption) (by decide) (by decide) (by assumption) (by assumption) ⟨_, o2, _, _, _, _, _, kst_self _ (by kst_all), e2, rfl⟩ ?_ ?_
  · rintro k tk9 m₁ nw s9 I oI hk hcI ⟨u9, oM, v₀, tr9, tz9, td9, tu9, rfl, eM, rfl⟩ hoff F9 N9
    have hIK : K ≠ I := hoff _ (.head _)
    have hIZ : Z + 3 ≠ I := hoff _ (.tail _ (.head _))
    clear hoff
    --[ i
    (repeat ((fail_if_success (with_reducible show wpAny _ _ (execs _ _) _ _ _)); walk1))
    rename_i h10 oN9 F10 N10 eN9
    generalize hmv : (0 : Int) + (k : Int) * 2 = mv at *
    refine cut_by 1 (fun W => ∀ (tr tz td tu : Tok) (S : Addr) (sv : List Value) (nS : Nat), S ≠ I → StrsAre sv (sizedF (closedF (sgn (min i j)) (sgn (max i j)) 6) mv) → ∀ (u : Str → Option Value) (h : Heap) (tk : Nat), Fr s1.heap Z h (kstB u [(Str.ofString "size", .int m tz), (Str.ofString "row", .str row tr), (Str.ofString "down", .int dn td), (Str.ofString "up", .int up tu), (Str.ofString "closed", .ref K), (Str.ofString "sized", .ref S)]) → News s1.heap Z h [(S, PySem.W.listOf sv.toArray nS), (I, oI), (K, PySem.W.listOf cv.toArray nK), (Z + 3, oN9)] → W { s9 with heap := h, toks := tk }) ?_ ?_
    · --[ k
      intro W hW
      (dsimp only [List.take_succ_cons, List.take_zero])
      try k_fold
      (repeat ((fail_if_success (with_reducible show wpAny _ _ (exec (Stmt.Assign _ (Expr.ListComp _ _ _ _) _) _) _ _ _)); walk1))
      refine LCt.Assign_ListComp_T (F₀ := F10) (by rfl) (by with_unfolding_all rfl) (by with_unfolding_all rfl) (by decide) (by rfl) (by decide) (by rfl) (by rfl) (by rfl) ?_
      (repeat ((fail_if_success (with_reducible show LCt.CompSrcT _ _ _ _ _ _ _ _ _ _ _ _ _ _ _)); first | walk1 | (dsimp only; walk1)))
      have hcl : cv.length = (closedF (sgn (min i j)) (sgn (max i j)) 6).length := strs_len hcv
      refine LCt.CompSrcT.ledger (by rfl) F10 N10 (.tail _ (.head _)) (by rw [List.size_toArray, hcl]; exact Nat.le_trans (closed_few _ _ (Nat.le_refl 6)) (by decide)) ?_
      intro g5
      refine rest_T (n := _) (fun q ys nw' => nw' = [(I, oI), (K, PySem.W.listOf cv.toArray nK), (Z + 3, oN9)] ∧ StrsAre ys (sizedF ((closedF (sgn (min i j)) (sgn (max i j)) 6).take q) mv)) ?_ ?_ _ 0 [] _ (Nat.zero_add _) ⟨rfl, .nil⟩
      · rintro q ys nw' v I2 oI2 C oC D m₂ h tk E' hq ⟨rfl, hp⟩ hv hC hx F N off ne
        rw [List.getElem?_toArray] at hv
        obtain ⟨y, ty, rfl, hy⟩ := strs_get hcv hv
        have hyl := closed_size _ _ 6 y (List.mem_of_getElem? hy)
        clear F10 N10 F9 N9
        (repeat ((fail_if_success (with_reducible show wpAny _ _ (eval (Expr.Name (Str.ofString "numbers") _) _) _ _ _)); (fail_if_success (with_reducible show wpAny _ _ (eval (Expr.Name (Str.ofString "pair") _) _) _ _ _)); (fail_if_success (with_reducible show wpAny _ _ (eval (Expr.Name (Str.ofString "many") _) _) _ _ _)); walk1))
        refine lcf_cell (c := Z + 3) (o := oN9) N ?hc (.tail _ (.tail _ (.tail _ (.tail _ (.tail _ (.head _)))))) eN9 ?_ ?hk ?hx
        case hk => rfl
        case hc => rfl
        case hx => rfl
        k_steps
        · rename _ = (_ : Int) => heq
          refine end_same (by assumption) N (fun p hp => hp) off (.inr ⟨_, .tail _ (.head _), rfl, _, rfl⟩) ⟨rfl, ?_⟩
          rw [sized_yes hy heq]
          exact strs_snoc hp
        · rename _ ≠ (_ : Int) => heq
          refine end_same (by assumption) N (fun p hp => hp) off (.inr ⟨_, .tail _ (.head _), rfl, _, rfl⟩) ⟨rfl, ?_⟩
          rw [sized_no hy heq]
          exact hp
      · rintro ys nw' ⟨rfl, hp⟩
        intro S h3 tk3 F3 N3 o3
        rw [List.take_of_length_le (by rw [List.size_toArray, hcl]; exact Nat.le_refl _)] at hp
        have hSI : S ≠ I := Ne.symm o3.1
        clear F10 N10 F9 N9
        k_steps
        exact Hold.mk (hW _ _ _ _ S ys _ hSI hp _ _ _ (fr_names _ (by assumption) (by kst_all)) (by assumption))
      --] k
    intro trA tzA tdA tuA S sv nS hSI hsv uA hA tkA FA NA
    (simp only [List.drop])
    clear F10 N10 F9 N9
    refine cut_by 2 (fun W => ∀ (due : Int) (tr tz td tu tw : Tok), due = dueF m mv dn up → ∀ (u : Str → Option Value) (h : Heap) (tk : Nat), Fr s1.heap Z h (kstB u [(Str.ofString "size", .int m tz), (Str.ofString "row", .str row tr), (Str.ofString "down", .int dn td), (Str.ofString "up", .int up tu), (Str.ofString "closed", .ref K), (Str.ofString "sized", .ref S), (Str.ofString "due", .int due tw)]) → News s1.heap Z h [(S, PySem.W.listOf sv.toArray nS), (I, oI), (K, PySem.W.listOf cv.toArray nK), (Z + 3, oN9)] → W { s9 with heap := h, toks := tk }) ?_ ?_
    · --[ l
      intro W hW
      (dsimp only [List.take_succ_cons, List.take_zero])
      try k_fold
      k_steps
      · refine' Hold.mk (hW _ _ _ _ _ _ _ _ _ _ (fr_names _ (by assumption) (by kst_all)) (by assumption))
        exact (due_pos (by assumption)).symm
      · refine' Hold.mk (hW _ _ _ _ _ _ _ _ _ _ (fr_names _ (by assumption) (by kst_all)) (by assumption))
        exact (due_zero (by assumption)).symm
      --] l
    intro due trB tzB tdB tuB twB hdue uB hB tkB FB NB
    (simp only [List.drop])
    clear FA NA
    have hsl : ∀ o ∈ sizedF (closedF (sgn (min i j)) (sgn (max i j)) 6) mv, o.length ≤ 6 := fun o ho => closed_size _ _ 6 o (List.mem_filter.mp ho).1
    have hnear : nearF (toL row) ((sizedF (closedF (sgn (min i j)) (sgn (max i j)) 6) mv).map toL) 13 = 2 * due := by
      rw [hdue, ← hdn, ← hup, ← hmv, ← hrow, ← hbl]
      exact near_law hi23 hj23 hij hb0 hb1 hk
    refine cut_by 1 (fun W => ∀ (tr tz td tu : Tok), ∀ (u : Str → Option Value) (h : Heap) (tk : Nat), Fr s1.heap Z h (kstB u [(Str.ofString "size", .int m tz), (Str.ofString "row", .str row tr), (Str.ofString "down", .int dn td), (Str.ofString "up", .int up tu), (Str.ofString "closed", .ref K), (Str.ofString "sized", .ref S)]) → News s1.heap Z h [(S, PySem.W.listOf sv.toArray nS), (I, oI), (K, PySem.W.listOf cv.toArray nK), (Z + 3, oN9)] → W { s9 with heap := h, toks := tk }) ?_ ?_
    · --[ n
      intro W hW
      (dsimp only [List.take_succ_cons, List.take_zero])
      try k_fold
      (repeat ((fail_if_success (with_reducible show wpAny _ _ (call (Value.ref _) _) _ _ _)); walk1))
      refine Ctr.goI (near_ctr w _ row _ S sv nS _ hrl (.head _) hsv hsl) KB (by assumption) KX (by assumption) KTop rfl (by ktr_room) (by ktr_units) ?_
      intro t11 h11 tk11 F11 N11
      rw [hnear]
      clear hdue
      k_steps
      · rename _ ≠ (_ : Int) => hne
        exact absurd rfl hne
      · exact Hold.mk (hW _ _ _ _ _ _ _ (fr_names _ (by assumption) (by kst_all)) (by assumption))
      --] n
    intro trC tzC tdC tuC uC hC tkC FC NC
    (simp only [List.drop])
    clear FB NB hnear hdue
    have hsl2 : ∀ o ∈ sizedF (closedF (sgn (min i j)) (sgn (max i j)) 6) mv, o.length ≤ 6 ∧ 46 ∉ toL o := fun o ho => ⟨hsl o ho, closed_nodot hi23 hj23 o (List.mem_filter.mp ho).1⟩
    have hsf : (sizedF (closedF (sgn (min i j)) (sgn (max i j)) 6) mv).length ≤ 128 := Nat.le_trans (List.length_filter_le _ _) (closed_few _ _ (Nat.le_refl 6))
    --[ o
    (repeat ((fail_if_success (with_reducible show wpAny _ _ (call (Value.ref _) _) _ _ _)); walk1))
    refine Ctr.go (sca_ctr w _ row _ S sv nS _ hrl (.head _) hsv hsl2 hsf) KB (by assumption) KX (by assumption) KTop rfl (by ktr_room) (by ktr_units) ?_
    rintro v h12 tk12 more ⟨D, ws, nD, rfl, hws, rfl⟩ F12 N12
    (repeat ((fail_if_success (with_reducible show wpAny _ _ (compareOp _ _ _) _ _ _)); walk1))
    rename News _ _ _ _ => N13
    have hsca : decide (((sizedF (closedF (sgn (min i j)) (sgn (max i j)) 6) mv).filter fun o => subq (toL o) (toL row)).map (fun o => wantOf (toL o)) = []) = !decide (mv ≤ m - dn - up) := by
      rw [← hdn, ← hup, ← hmv, ← hrow, ← hbl]
      exact scat_law hi23 hj23 hij hb0 hb1 hk
    have hok : ∀ x ∈ ((sizedF (closedF (sgn (min i j)) (sgn (max i j)) 6) mv).filter fun o => subq (toL o) (toL row)).map (fun o => wantOf (toL o)), PyData.strOk x = true := by
      intro x hx
      obtain ⟨o, ho, rfl⟩ := List.mem_map.mp hx
      exact closed_ok hi23 hj23 o (List.mem_filter.mp (List.mem_filter.mp ho).1).1
    refine ne_strs_nil ⟨_, (N13 _ (.tail _ (.head _))).1, rfl, _, rfl⟩ ⟨_, (N13 _ (.head _)).1, rfl, _, rfl⟩ hws hok (by ktr_units) ?_
    rw [hsca]
    clear hsca hok hws
    have N14 : News s1.heap Z _ [(I, oI), (K, PySem.W.listOf cv.toArray nK), (Z + 3, oN9)] := cb_drop N13 (by lcg_sub)
    clear N13
    k_steps
    · rename _ = true => hb
      rw [Bool.not_not, bne_self_eq_false] at hb
      cases hb
    · exact ⟨rfl, _, _, _, [(K, PySem.W.listOf cv.toArray nK), (Z + 3, oN9)], rfl, fr_names [(Str.ofString "size", .int m tzC), (Str.ofString "row", .str row trC), (Str.ofString "down", .int dn tdC), (Str.ofString "up", .int up tuC), (Str.ofString "closed", .ref K)] (by assumption) (by kst_all), N14, by
        intro p hp
        rcases List.mem_cons.mp hp with rfl | hp
        · exact hIK
        · rw [List.mem_singleton.mp hp]; exact hIZ, _, oN9, _, _, _, _, _, rfl, eN9, rfl⟩
    --] o
    --] i
  · --[ j
    rintro m₁ nw h9 tk9 ⟨u9, oM, v₀, tr9, tz9, td9, tu9, rfl, eM, rfl⟩ F9 N9
    k_steps
    --] j
  --] h
  )
end Mine
end

theorem PySem.Challenge.cw_rl0091_01_holds : PySem.Challenge.rw_rl0091_01.Holds := by
  exact Mine.law_walk

import PyProof.Rows.All
import Wide.All
import OpenK.AllK
import Wide.FinOn
import Lean
import PySem.Challenge.RW_aj5024_01
open PySem PySem.W PySem.Calls PyProof.Rows
set_option Elab.async false
set_option maxRecDepth 100000
set_option maxHeartbeats 8000000

-- part H1
namespace Mine
open_top hd for PySem.Challenge.rw_aj5024_01
end Mine

-- part B1
namespace Mine


/-- a call of the def at `f` with `vs` gives one of the values `R`; frame and ledger stay -/
def Gives (p : Program) (loose : List Str) (w : World) (mean : ExcName → Option Value) (mg mb : Str → Option Value) (D U : Nat) (f : Addr) (vs : List Value) (R : Value → Prop) : Prop :=
  ∀ (dp un : Nat) (gd : Option (List Code)) (cn : Str) (cs : Scope) (a : Addr) (ccd : Value) (cl : List (Str × Addr)) (outer : List Env) (A₀ : Around) (base h₀ : Heap) (L : Addr) (m : Str → Option Value) (news : List (Addr × Obj)) (s : Shared) (Q E : Value → Shared → Prop),
    Below A₀ base outer h₀ → Fr h₀ L s.heap m → (hd.heap_39 w.params).In h₀ → News h₀ L s.heap news → Top p loose mean mg mb h₀ → cs.kind = .function →
    dp + D < recursionLimit → un + U < cLine →
    (∀ v (h' : Heap) (tk' : Nat), R v → Fr h₀ L h' m → News h₀ L h' news → Q v { s with heap := h', toks := tk' }) →
      wpAny (model PySem.Challenge.rw_aj5024_01.row.prog w) (ktrTop dp un gd cn cs L a ccd cl outer) (call (.ref f) vs) Q E s

theorem Gives.use {p : Program} {loose : List Str} {w : World} {mean : ExcName → Option Value} {mg mb : Str → Option Value} {D U : Nat} {f : Addr} {vs : List Value} {R : Value → Prop}
    {dp un : Nat} {gd : Option (List Code)} {cn : Str} {cs : Scope} {a : Addr} {ccd : Value} {cl : List (Str × Addr)} {outer : List Env} {A₀ : Around} {base h₀ : Heap} {L : Addr} {m : Str → Option Value} {news : List (Addr × Obj)} {s : Shared} {Q E : Value → Shared → Prop}
    (G : Gives p loose w mean mg mb D U f vs R) (B : Below A₀ base outer h₀) (F : Fr h₀ L s.heap m) (X : (hd.heap_39 w.params).In h₀) (N : News h₀ L s.heap news) (T : Top p loose mean mg mb h₀) (hk : cs.kind = .function)
    (hd : dp + D < recursionLimit) (hu : un + U < cLine)
    (ret : ∀ v (h' : Heap) (tk' : Nat), R v → Fr h₀ L h' m → News h₀ L h' news → Q v { s with heap := h', toks := tk' }) :
    wpAny (model PySem.Challenge.rw_aj5024_01.row.prog w) (ktrTop dp un gd cn cs L a ccd cl outer) (call (.ref f) vs) Q E s :=
  G _ _ _ _ _ _ _ _ _ _ _ _ _ _ _ _ _ _ B F X N T hk hd hu ret

end Mine

-- part Tr
namespace Mine

section
variable {prog : Program} {w : World} {A₀ A : Around} {s : Shared} {base h₀ : Heap} {L : Addr} {m : Str → Option Value} {env : Env} {news : List (Addr × Obj)} {K : Frag} {p : Program} {loose : List Str} {mean : ExcName → Option Value} {mg mb : Str → Option Value}
    {R : Result → Shared → Prop} {name qual : Str} {params : Arguments} {body : List Stmt} {scope : Scope} {dV kV doc pm cdv ct oc : Value} {an od : Option Addr} {osl : Array (Option Value)} {f : Addr} {args : Args} {binds : List (Str × Value)}

/-- a def that catches, called from the first frame, whatever cells that frame has -/
theorem enterS0 (B : Below A₀ base [] h₀) (F : Fr h₀ L s.heap m) (X₀ : K.In h₀) (N : News h₀ L s.heap news) (T : Top p loose mean mg mb h₀) (hA : A.frames = some [env]) (hf : env.frame = some L) (hke : env.scope.kind = .function)
    (ho : K.lookup f = some ⟨oc, od, .func (fnOf name qual params body scope dV kV doc pm an cdv ct), osl⟩) (hcd : codeIn K cdv qual = true) (hroom : A.depth < recursionLimit)
    (hbind : BindsTo s (fnOf name qual params body scope dV kV doc pm an cdv ct) args binds) (hloc : ∀ y ∈ binds, scope.names.lookup y.1 = some .local)
    (h : ∀ g L' h₁, Fr h₀ L g m → Fr g L' h₁ (fun y => binds.reverse.lookup y) → News g L' h₁ news → Below A base [env] g → K.In g → Top p loose mean mg mb g → KtsDicts ([env].filterMap (·.frame)) g →
      wpAny (model prog w) (A.deeper (envOf qual scope L' f cdv)) (execs body (envOf qual scope L' f cdv))
        (fun fl s' => LeaveS0 ([env].filterMap (·.frame)) h₀ L m g R (match fl with | .ret v => v | _ => .none) s')
        (fun e s' => wpAny (model prog w) (A.deeper (envOf qual scope L' f cdv)) (leaving (envOf qual scope L' f cdv) e) (fun _ s'' => R (.error e) s'') (fun e' s'' => R (.error e') s'') s')
        { s with heap := h₁, toks := s.toks + binds.length })
    (hco : scope.isCoroutine = false) (hgen : scope.isGenerator = false) (hk : scope.kind = .function)
    (hcell : ∀ x ∈ scope.names, x.2 ≠ .cell) : codeAny (model prog w) A (.call (.ref f) args) R s := by
  have X := X₀.keeps F.keep
  refine codeAny_call_def (fd := fnOf name qual params body scope dV kV doc pm an cdv ct) (body := body) (binds := binds) hroom (X _ _ ho) rfl (T.nolimit.keeps F.keep) (codeRec_of X hcd) rfl hbind hcell hloc (fun h₁ hns hk₁ => ?_) hco hgen hk
  obtain ⟨FG, BG, st, _⟩ := groundX (R := R) B F N hA hf hke
  have hfs : [env].filterMap (·.frame) = [L] := by simp [hf]
  obtain ⟨oL, es, ep, hLg, hLd, hLk, hLf⟩ := FG.ns
  refine wpAny_mono (h _ s.heap.objs.size h₁ FG ⟨hns, fun b o e => hk₁ b o (of_hideAll _ e), Nat.le_of_eq (hideAll_size _ _)⟩
    (fun p hp => ⟨hk₁ _ _ (N p hp).1, Nat.ne_of_lt (Heap.lt_size (N p hp).1), hideAll_none _ (List.mem_map_of_mem hp)⟩) BG (X₀.keeps st) (T.keeps st) (fun b hb => by
      rw [hfs] at hb
      rw [List.mem_singleton.mp hb]
      exact ⟨oL, es, ep, hLg, hLd⟩)) (fun fl s' hl => ?_) fun _ _ y => y
  obtain ⟨g', L', m', news', T', F', N', k⟩ := hl
  have nL₀ : h₀.get? L = none := kts_self F
  obtain ⟨sl, hs⟩ := T'.up hLg
  refine k ⟨⟨_, es, ep, F'.keep _ _ hs, hLd, hLk, hLf⟩, fun b o e => F'.keep b o (T'.other b o (st b o e) (fun q => by
    rw [hfs] at q
    rw [List.mem_singleton.mp q, nL₀] at e
    cases e)), F.above⟩ fun p hp => ⟨(N' p hp).1, fun q => ?_, ?_⟩
  · have := (N' p hp).2.2; rw [q, hs] at this; cases this
  · cases q : h₀.get? p.1 with
    | none => rfl
    | some o =>
      obtain ⟨sl', hs'⟩ := T'.up (st _ _ q)
      have := (N' p hp).2.2
      rw [hs'] at this
      cases this
end

/-- as Gives, called from the first frame alone -/
def GivesTop (p : Program) (loose : List Str) (w : World) (mean : ExcName → Option Value) (mg mb : Str → Option Value) (D U : Nat) (f : Addr) (vs : List Value) (R : Value → Prop) : Prop :=
  ∀ (dp un : Nat) (gd : Option (List Code)) (cn : Str) (cs : Scope) (a : Addr) (ccd : Value) (cl : List (Str × Addr)) (A₀ : Around) (h₀ : Heap) (L : Addr) (m : Str → Option Value) (news : List (Addr × Obj)) (s : Shared) (Q E : Value → Shared → Prop),
    Below A₀ h₀ [] h₀ → Fr h₀ L s.heap m → (hd.heap_39 w.params).In h₀ → News h₀ L s.heap news → Top p loose mean mg mb h₀ → cs.kind = .function →
    dp + D < recursionLimit → un + U < cLine →
    (∀ v (h' : Heap) (tk' : Nat), R v → Fr h₀ L h' m → News h₀ L h' news → Q v { s with heap := h', toks := tk' }) →
      wpAny (model PySem.Challenge.rw_aj5024_01.row.prog w) (ktrTop dp un gd cn cs L a ccd cl []) (call (.ref f) vs) Q E s
theorem GivesTop.use {p : Program} {loose : List Str} {w : World} {mean : ExcName → Option Value} {mg mb : Str → Option Value} {D U : Nat} {f : Addr} {vs : List Value} {R : Value → Prop}
    {dp un : Nat} {gd : Option (List Code)} {cn : Str} {cs : Scope} {a : Addr} {ccd : Value} {cl : List (Str × Addr)} {A₀ : Around} {h₀ : Heap} {L : Addr} {m : Str → Option Value} {news : List (Addr × Obj)} {s : Shared} {Q E : Value → Shared → Prop}
    (G : GivesTop p loose w mean mg mb D U f vs R) (B : Below A₀ h₀ [] h₀) (F : Fr h₀ L s.heap m) (X : (hd.heap_39 w.params).In h₀) (N : News h₀ L s.heap news) (T : Top p loose mean mg mb h₀) (hk : cs.kind = .function)
    (hd : dp + D < recursionLimit) (hu : un + U < cLine)
    (ret : ∀ v (h' : Heap) (tk' : Nat), R v → Fr h₀ L h' m → News h₀ L h' news → Q v { s with heap := h', toks := tk' }) :
    wpAny (model PySem.Challenge.rw_aj5024_01.row.prog w) (ktrTop dp un gd cn cs L a ccd cl []) (call (.ref f) vs) Q E s :=
  G _ _ _ _ _ _ _ _ _ _ _ _ _ _ _ _ B F X N T hk hd hu ret
theorem Gives.top {p : Program} {loose : List Str} {w : World} {mean : ExcName → Option Value} {mg mb : Str → Option Value} {D U : Nat} {f : Addr} {vs : List Value} {R : Value → Prop} (G : Gives p loose w mean mg mb D U f vs R) : GivesTop p loose w mean mg mb D U f vs R :=
  fun _ _ _ _ _ _ _ _ _ _ _ _ _ _ _ _ B F X N T hk hd hu ret => G.use B F X N T hk hd hu ret
end Mine

-- part Zp
namespace Mine
open PySem PySem.W PySem.Calls PyProof.Rows PySem.W.KBw

section
variable {prog : Program} {w : World} {A : Around} {E : Value → Shared → Prop} {s : Shared} {b : Array UInt8} {t : Tok}

theorem nextOf_bytes_item {it : Addr} {i : Nat} {c : UInt8} {Q : Value → Shared → Prop} (hit : IsBytesIter s.heap it b t i) (hx : b[i]? = some c)
    (hQ : ∀ h', IsBytesIter h' it b t (i + 1) → Heap.SameBut it s.heap h' → Q (.int (c.toNat : Int) s.toks) { s with heap := h', toks := s.toks + 1 }) :
    wpAny (model prog w) A (Builtin.SmallTypes.nextOf (.ref it)) Q E s := by
  obtain ⟨o, ho, hc, hd⟩ := id hit
  unfold Builtin.SmallTypes.nextOf
  refine wpAny_bind (wpAny_callSpecial?_slot (name := Str.ofString "__next__") (iter_typeIs hit) slot_next
    (wpAny_call_entry slot_next (iter_typeIs hit) entry_next ?_ (args_next _)))
  show wpAny _ _ (field (.ref it) 0 >>= _) _ _ s
  refine wpAny_bind (wpAny_field ho hd (x := .bytes b t) rfl ?_)
  show wpAny _ _ (if (Value.bytes b t == Value.none) = true then _ else _) _ _ s
  rw [if_neg (show ¬ ((Value.bytes b t == Value.none) = true) from Bool.false_ne_true)]
  show wpAny _ _ (field (.ref it) 1 >>= _) _ _ s
  refine wpAny_bind (wpAny_field ho hd (x := .int i 0) rfl ?_)
  refine wpAny_bind (wpAny_of_eq (a := b) rfl ?_)
  simp only [Int.toNat_natCast, hx]
  refine wpAny_bind (wpAny_setField ho hd (by simp) (wpAny_bind (wpAny_mkInt (wpAny_pure ⟨_, rfl, wpAny_pure (hQ _ ?_ (Heap.SameBut.update ..))⟩))))
  exact ⟨_, Heap.get?_update_self _ ho (Obj.isFreed_of_fields (Obj.data_mapFields hd _)), (Obj.cls_mapFields ..).trans hc, by
    rw [Obj.data_mapFields hd]; simp [rawInt]⟩

theorem nextOf_bytes_end {it : Addr} {i : Nat} {Q : Value → Shared → Prop} (hh : A.handled = none) (hit : IsBytesIter s.heap it b t i) (hx : b[i]? = none)
    (hE : ∀ h' e, Heap.ExtBut it s.heap h' → (∃ o, h'.get? e = some o ∧ o.cls = .type "StopIteration") → E (.ref e) { s with heap := h' }) :
    wpAny (model prog w) A (Builtin.SmallTypes.nextOf (.ref it)) Q E s := by
  obtain ⟨o, ho, hc, hd⟩ := id hit
  unfold Builtin.SmallTypes.nextOf
  refine wpAny_bind (wpAny_callSpecial?_slot (name := Str.ofString "__next__") (iter_typeIs hit) slot_next
    (wpAny_call_entry slot_next (iter_typeIs hit) entry_next ?_ (args_next _)))
  show wpAny _ _ (field (.ref it) 0 >>= _) _ _ s
  refine wpAny_bind (wpAny_field ho hd (x := .bytes b t) rfl ?_)
  show wpAny _ _ (if (Value.bytes b t == Value.none) = true then _ else _) _ _ s
  rw [if_neg (show ¬ ((Value.bytes b t == Value.none) = true) from Bool.false_ne_true)]
  show wpAny _ _ (field (.ref it) 1 >>= _) _ _ s
  refine wpAny_bind (wpAny_field ho hd (x := .int i 0) rfl ?_)
  refine wpAny_bind (wpAny_of_eq (a := b) rfl ?_)
  simp only [Int.toNat_natCast, hx]
  refine wpAny_bind (wpAny_rule (wpAny_bind (wpAny_setField ho hd (by simp) ?_)))
  show wpAny _ _ (newExc (.type "StopIteration") [] >>= _) _ _ _
  refine wpAny_bind ?_
  simp only [newExc, newTuple]
  refine wpAny_bind (wpAny_newObj_type ?_ (by size_fits))
  refine wpAny_bind (m := firstArgMember _ _) (wpAny_of_eq (a := Value.none) (by first | rfl | (simp only [firstArgMember]; rfl)) ?_)
  refine wpAny_newObj_type ?_ (by size_fits)
  simp only [raiseNew]
  refine wpAny_bind (wpAny_handled ?_)
  first | rw [show A.in1.handled = none from hh] | rw [hh]
  refine wpAny_bind (wpAny_pure (wpAny_throw ?_))
  exact hE _ _ (((Heap.SameBut.update ..).extBut.push _).push _) ⟨_, Heap.get?_push_size _ rfl, rfl⟩
end

theorem drawsBytes {prog : Program} {w : World} {A : Around} (hh : A.handled = none) (it : Addr) (b : Array UInt8) (t : Tok) :
    Draws prog w A it [it] b.size (fun i v => ∃ c u, b[i]? = some c ∧ v = .int (c.toNat : Int) u) (fun i h => IsBytesIter h it b t i) where
  live := fun _ _ st => let ⟨o, ho, _⟩ := st; ⟨o, ho⟩
  frame := fun _ _ _ st hk => let ⟨o, ho, r⟩ := st; ⟨o, hk it (by simp) o ho, r⟩
  item := fun i s Q E hi st hQ => by
    refine nextOf_bytes_item st (c := b[i]) (by simp [hi]) fun h' hit' hs' => ?_
    exact hQ _ h' (s.toks + 1) ⟨_, _, by simp [hi], rfl⟩ hit' hs'
  done := fun s Q E st hE => nextOf_bytes_end hh st (by simp) hE

/-- the five addresses of a zip of two, apart -/
structure ZA (z TI TO i1 i2 : Addr) : Prop where
  TIz : TI ≠ z
  TOz : TO ≠ z
  i1z : i1 ≠ z
  i2z : i2 ≠ z
  TITO : TI ≠ TO
  TIi1 : TI ≠ i1
  TIi2 : TI ≠ i2
  TOi1 : TO ≠ i1
  TOi2 : TO ≠ i2
  i12 : i1 ≠ i2

section
variable {prog : Program} {w : World} {A : Around} {E : Value → Shared → Prop} {s : Shared}
variable {z TI TO i1 i2 : Addr} {n1 n2 k : Nat} {P1 P2 : Nat → Value → Prop} {St1 St2 : Nat → Heap → Prop} {a b : Value}

theorem stD {it : Addr} {n k : Nat} {P : Nat → Value → Prop} {St : Nat → Heap → Prop} (D : Draws prog w A it [it] n P St) {h h' : Heap} {c : Addr} (st : St k h) (he : Heap.ExtBut c h h') (hne : it ≠ c) : St k h' :=
  D.frame _ _ _ st fun x hx o e => he x o (by rw [List.mem_singleton.mp hx]; exact hne) e

theorem zipD_item {Q : Value → Shared → Prop} (D1 : Draws prog w A i1 [i1] n1 P1 St1) (D2 : Draws prog w A i2 [i2] n2 P2 St2) (D : ZA z TI TO i1 i2)
    (hz : IsZip s.heap z TI TO .none) (hTI : IsPair s.heap TI (.ref i1) (.ref i2)) (hTO : IsPair s.heap TO a b)
    (h1 : St1 k s.heap) (h2 : St2 k s.heap) (hk1 : k < n1) (hk2 : k < n2)
    (hQ : ∀ x y h' tk, P1 k x → P2 k y → IsZip h' z TI TO (rawInt s.heap.objs.size) → IsPair h' TO x y → St1 (k + 1) h' → St2 (k + 1) h' → IsPair h' s.heap.objs.size x y → h'.objs.size = s.heap.objs.size + 1 →
      (∀ c o, c ≠ z → c ≠ TO → c ≠ i1 → c ≠ i2 → s.heap.get? c = some o → h'.get? c = some o) → Q (.ref s.heap.objs.size) { s with heap := h', toks := tk }) :
    wpAny (model prog w) A (Builtin.«zip.__next__» ⟨[.ref z], []⟩) (fun fin s' => ∃ v, fin = .done (.ret v) ∧ Q v s') E s := by
  obtain ⟨hp, gn, dr, tk₀, os⟩ := s
  dsimp only at hz hTI hTO h1 h2 hQ
  show wpAny _ _ (field (.ref z) 2 >>= _) _ _ _
  refine wpAny_bind (wpAny_field hz rfl (x := .bool false) rfl ?_)
  show wpAny _ _ (field (.ref z) 3 >>= _) _ _ _
  refine wpAny_bind (wpAny_field hz rfl (x := .ref TI) rfl ?_)
  refine wpAny_bind (wpAny_seqItems hTI rfl ?_)
  show wpAny _ _ (Builtin.SmallTypes.ownedTupleIsFree (.ref z) >>= _) _ _ _
  refine wpAny_bind ?_
  unfold Builtin.SmallTypes.ownedTupleIsFree
  refine wpAny_bind (wpAny_field hz rfl (x := .none) rfl (wpAny_pure ?_))
  simp only [if_true]
  refine wpAny_bind (wpAny_rule ?_)
  refine wpAny_bind (wpAny_field hz rfl (x := .ref TO) rfl ?_)
  refine wpAny_bind (wpAny_setField_rec hz (by simp) fun h₁ hz₁ hs₁ => ?_)
  replace hz₁ : IsZip h₁ z TI TO .ellipsis := hz₁
  replace hs₁ : Heap.SameBut z hp h₁ := hs₁
  refine wpAny_bind ?_
  simp only [List.zipIdx_cons, List.zipIdx_nil, List.forIn_cons, List.forIn_nil]
  refine wpAny_bind (wpAny_bind (wpAny_onRaise ?_))
  show wpAny _ _ (Builtin.SmallTypes.nextOf (.ref i1) >>= _) _ _ _
  refine wpAny_bind (D1.item k _ _ _ hk1 (stD D1 h1 hs₁.extBut D.i1z) fun x h₂ tk₂ hPx h1₂ hs₂ => wpAny_pure ?_)
  replace hs₂ : Heap.SameBut i1 h₁ h₂ := hs₂
  have hTO₂ : IsPair h₂ TO a b := hs₂.extBut _ _ D.TOi1 (hs₁.extBut _ _ D.TOz hTO)
  refine wpAny_bind (wpAny_seqItems hTO₂ rfl ?_)
  refine wpAny_bind (wpAny_updateSeq_pair hTO₂ fun h₃ hTO₃ hs₃ => ?_)
  replace hTO₃ : IsPair h₃ TO x b := hTO₃
  replace hs₃ : Heap.SameBut TO h₂ h₃ := hs₃
  refine wpAny_bind (wpAny_letGo (wpAny_pure ?_))
  refine wpAny_bind (wpAny_bind (wpAny_onRaise ?_))
  show wpAny _ _ (Builtin.SmallTypes.nextOf (.ref i2) >>= _) _ _ _
  refine wpAny_bind (D2.item k _ _ _ hk2 (stD D2 (stD D2 (stD D2 h2 hs₁.extBut D.i2z) hs₂.extBut D.i12.symm) hs₃.extBut D.TOi2.symm) fun y h₄ tk₄ hPy h2₄ hs₄ => wpAny_pure ?_)
  replace hs₄ : Heap.SameBut i2 h₃ h₄ := hs₄
  have hTO₄ : IsPair h₄ TO x b := hs₄.extBut _ _ D.TOi2 hTO₃
  refine wpAny_bind (wpAny_seqItems hTO₄ rfl ?_)
  refine wpAny_bind (wpAny_updateSeq_pair hTO₄ fun h₅ hTO₅ hs₅ => ?_)
  replace hTO₅ : IsPair h₅ TO x y := hTO₅
  replace hs₅ : Heap.SameBut TO h₄ h₅ := hs₅
  refine wpAny_bind (wpAny_letGo (wpAny_pure (wpAny_pure ?_)))
  refine wpAny_bind (wpAny_seqItems hTO₅ rfl ?_)
  refine wpAny_bind (wpAny_newTuple ?_)
  have hsz : h₅.objs.size = hp.objs.size := by rw [hs₅.1, hs₄.1, hs₃.1, hs₂.1, hs₁.1]
  have hz₅ : IsZip h₅ z TI TO .ellipsis := hs₅.extBut _ _ D.TOz.symm (hs₄.extBut _ _ D.i2z.symm (hs₃.extBut _ _ D.TOz.symm (hs₂.extBut _ _ D.i1z.symm hz₁)))
  have hk₅ : ∀ c o, c ≠ z → c ≠ TO → c ≠ i1 → c ≠ i2 → hp.get? c = some o → h₅.get? c = some o := fun c o c1 c2 c3 c4 e =>
    hs₅.extBut _ _ c2 (hs₄.extBut _ _ c4 (hs₃.extBut _ _ c2 (hs₂.extBut _ _ c3 (hs₁.extBut _ _ c1 e))))
  have h1₅ : St1 (k + 1) h₅ := stD D1 (stD D1 (stD D1 h1₂ hs₃.extBut D.TOi1.symm) hs₄.extBut D.i12) hs₅.extBut D.TOi1.symm
  have h2₅ : St2 (k + 1) h₅ := stD D2 h2₄ hs₅.extBut D.TOi2.symm
  have hzlt : z < h₅.objs.size := Heap.lt_size hz₅
  show wpAny _ _ (Builtin.SmallTypes.ownedTupleHandOut (.ref z) (.ref h₅.objs.size) >>= _) _ _ _
  refine wpAny_bind ?_
  unfold Builtin.SmallTypes.ownedTupleHandOut
  have hz₆ : IsZip (h₅.push { cls := .type "tuple", data := .seq #[x, y] }) z TI TO .ellipsis := Heap.get?_push_of_some _ hz₅
  refine wpAny_bind (wpAny_setField_rec hz₆ (by simp) fun h₇ hz₇ hs₇ => ?_)
  replace hz₇ : IsZip h₇ z TI TO (rawInt h₅.objs.size) := hz₇
  refine wpAny_setField_rec hz₇ (by simp) fun h₈ hz₈ hs₈ => ?_
  replace hz₈ : IsZip h₈ z TI TO (rawInt h₅.objs.size) := hz₈
  have up : ∀ c o, c ≠ z → h₅.get? c = some o → h₈.get? c = some o := fun c o c1 e => hs₈.extBut _ _ c1 (hs₇.extBut _ _ c1 (Heap.get?_push_of_some _ e))
  have hT₈ : IsPair h₈ h₅.objs.size x y := hs₈.extBut _ _ (Nat.ne_of_gt hzlt) (hs₇.extBut _ _ (Nat.ne_of_gt hzlt) (Heap.get?_push_size _ rfl))
  have hz8 : h₈.objs.size = h₅.objs.size + 1 := by rw [hs₈.1, hs₇.1, Heap.size_push]
  rw [hsz] at hz₈ hT₈ hz8
  refine wpAny_pure ⟨_, rfl, ?_⟩
  show Q (.ref h₅.objs.size) _
  rw [hsz]
  exact hQ x y h₈ _ hPx hPy hz₈ (up _ _ D.TOz hTO₅) (D1.frame _ _ _ h1₅ fun c hc o e => up c o (by rw [List.mem_singleton.mp hc]; exact D.i1z) e) (D2.frame _ _ _ h2₅ fun c hc o e => up c o (by rw [List.mem_singleton.mp hc]; exact D.i2z) e) hT₈ hz8 fun c o c1 c2 c3 c4 e => up c o c1 (hk₅ c o c1 c2 c3 c4 e)

theorem zipD_end {Q : Fin → Shared → Prop} (D1 : Draws prog w A i1 [i1] n1 P1 St1) (D2 : Draws prog w A i2 [i2] n2 P2 St2) (D : ZA z TI TO i1 i2)
    (hz : IsZip s.heap z TI TO .none) (hTI : IsPair s.heap TI (.ref i1) (.ref i2)) (hTO : IsPair s.heap TO a b)
    (h1 : St1 k s.heap) (h2 : St2 k s.heap) (hend : k = n1 ∨ (k < n1 ∧ k = n2))
    (hE : ∀ h' e tk, (∀ c o, c ≠ z → c ≠ TO → c ≠ i1 → c ≠ i2 → s.heap.get? c = some o → h'.get? c = some o) → (∃ o, h'.get? e = some o ∧ o.cls = .type "StopIteration") → E (.ref e) { s with heap := h', toks := tk }) :
    wpAny (model prog w) A (Builtin.«zip.__next__» ⟨[.ref z], []⟩) Q E s := by
  obtain ⟨hp, gn, dr, tk₀, os⟩ := s
  dsimp only at hz hTI hTO h1 h2 hE
  show wpAny _ _ (field (.ref z) 2 >>= _) _ _ _
  refine wpAny_bind (wpAny_field hz rfl (x := .bool false) rfl ?_)
  show wpAny _ _ (field (.ref z) 3 >>= _) _ _ _
  refine wpAny_bind (wpAny_field hz rfl (x := .ref TI) rfl ?_)
  refine wpAny_bind (wpAny_seqItems hTI rfl ?_)
  show wpAny _ _ (Builtin.SmallTypes.ownedTupleIsFree (.ref z) >>= _) _ _ _
  refine wpAny_bind ?_
  unfold Builtin.SmallTypes.ownedTupleIsFree
  refine wpAny_bind (wpAny_field hz rfl (x := .none) rfl (wpAny_pure ?_))
  simp only [if_true]
  refine wpAny_bind (wpAny_rule ?_)
  refine wpAny_bind (wpAny_field hz rfl (x := .ref TO) rfl ?_)
  refine wpAny_bind (wpAny_setField_rec hz (by simp) fun h₁ hz₁ hs₁ => ?_)
  replace hz₁ : IsZip h₁ z TI TO .ellipsis := hz₁
  replace hs₁ : Heap.SameBut z hp h₁ := hs₁
  refine wpAny_bind ?_
  simp only [List.zipIdx_cons, List.zipIdx_nil, List.forIn_cons, List.forIn_nil]
  refine wpAny_bind (wpAny_bind (wpAny_onRaise ?_))
  show wpAny _ _ (Builtin.SmallTypes.nextOf (.ref i1) >>= _) _ _ _
  rcases hend with rfl | ⟨hk1, rfl⟩
  · refine wpAny_bind (D1.done _ _ _ (stD D1 h1 hs₁.extBut D.i1z) fun h₂ e hs₂ he => ?_)
    replace hs₂ : Heap.ExtBut i1 h₁ h₂ := hs₂
    obtain ⟨oe, hoe, hce⟩ := he
    have hz₂ : IsZip h₂ z TI TO .ellipsis := hs₂ _ _ D.i1z.symm hz₁
    have hez : e ≠ z := fun x => by subst x; rw [hz₂] at hoe; cases hoe; simp at hce
    refine wpAny_setField_rec hz₂ (by simp) fun h₃ _ hs₃ => hE h₃ e _ (fun c o c1 _ c3 _ x => hs₃.extBut _ _ c1 (hs₂ _ _ c3 (hs₁.extBut _ _ c1 x))) ⟨oe, hs₃.extBut _ _ hez hoe, hce⟩
  · refine wpAny_bind (D1.item k _ _ _ hk1 (stD D1 h1 hs₁.extBut D.i1z) fun x h₂ tk₂ hPx h1₂ hs₂ => wpAny_pure ?_)
    replace hs₂ : Heap.SameBut i1 h₁ h₂ := hs₂
    have hTO₂ : IsPair h₂ TO a b := hs₂.extBut _ _ D.TOi1 (hs₁.extBut _ _ D.TOz hTO)
    refine wpAny_bind (wpAny_seqItems hTO₂ rfl ?_)
    refine wpAny_bind (wpAny_updateSeq_pair hTO₂ fun h₃ hTO₃ hs₃ => ?_)
    replace hs₃ : Heap.SameBut TO h₂ h₃ := hs₃
    refine wpAny_bind (wpAny_letGo (wpAny_pure ?_))
    refine wpAny_bind (wpAny_bind (wpAny_onRaise ?_))
    show wpAny _ _ (Builtin.SmallTypes.nextOf (.ref i2) >>= _) _ _ _
    refine wpAny_bind (D2.done _ _ _ (stD D2 (stD D2 (stD D2 h2 hs₁.extBut D.i2z) hs₂.extBut D.i12.symm) hs₃.extBut D.TOi2.symm) fun h₄ e hs₄ he => ?_)
    replace hs₄ : Heap.ExtBut i2 h₃ h₄ := hs₄
    obtain ⟨oe, hoe, hce⟩ := he
    have hz₄ : IsZip h₄ z TI TO .ellipsis := hs₄ _ _ D.i2z.symm (hs₃.extBut _ _ D.TOz.symm (hs₂.extBut _ _ D.i1z.symm hz₁))
    have hez : e ≠ z := fun x => by subst x; rw [hz₄] at hoe; cases hoe; simp at hce
    refine wpAny_setField_rec hz₄ (by simp) fun h₅ _ hs₅ => hE h₅ e _ (fun c o c1 c2 c3 c4 x => hs₅.extBut _ _ c1 (hs₄ _ _ c4 (hs₃.extBut _ _ c2 (hs₂.extBut _ _ c3 (hs₁.extBut _ _ c1 x))))) ⟨oe, hs₅.extBut _ _ hez hoe, hce⟩
end

theorem walksZip {prog : Program} {w : World} {A : Around} {z TI TO i1 i2 : Addr} {n1 n2 : Nat} {P1 P2 : Nat → Value → Prop} {St1 St2 : Nat → Heap → Prop} (D1 : Draws prog w A.in1 i1 [i1] n1 P1 St1) (D2 : Draws prog w A.in1 i2 [i2] n2 P2 St2) (D : ZA z TI TO i1 i2) :
    WalksT prog w A z [z, TI, TO, i1, i2] [z, TO, i1, i2] (min n1 n2)
      (fun i vals => ∃ x y, P1 i x ∧ P2 i y ∧ vals = #[x, y])
      (fun i h => IsZip h z TI TO .none ∧ IsPair h TI (.ref i1) (.ref i2) ∧ (∃ a b, IsPair h TO a b) ∧ St1 i h ∧ St2 i h)
      (fun i T h => IsZip h z TI TO (rawInt T) ∧ IsPair h TI (.ref i1) (.ref i2) ∧ (∃ a b, IsPair h TO a b) ∧ St1 (i + 1) h ∧ St2 (i + 1) h ∧ T ≠ z ∧ T ≠ TO ∧ T ≠ i1 ∧ T ≠ i2) where
  sub := fun c hc => by simp at hc ⊢; rcases hc with rfl | rfl | rfl | rfl <;> simp
  frame := fun i h h' hst hk => by
    obtain ⟨hz, hTI, ⟨a, b, hTO⟩, h1, h2⟩ := hst
    exact ⟨hk z (by simp) _ hz, hk TI (by simp) _ hTI, ⟨a, b, hk TO (by simp) _ hTO⟩, D1.frame _ _ _ h1 fun c hc o e => hk c (by rw [List.mem_singleton.mp hc]; simp) o e, D2.frame _ _ _ h2 fun c hc o e => hk c (by rw [List.mem_singleton.mp hc]; simp) o e⟩
  item := fun i s Q E hi hst hQ => by
    obtain ⟨hz, hTI, ⟨a, b, hTO⟩, h1, h2⟩ := hst
    have hT : s.TypeIs (.ref z) "zip" := ⟨_, hz, rfl⟩
    have lt : ∀ {c o}, s.heap.get? c = some o → s.heap.objs.size ≠ c := fun e => Nat.ne_of_gt (Heap.lt_size e)
    unfold pyNext
    refine wpAny_bind (wpAny_attempt (wpAny_callSpecial?_slot (name := Str.ofString "__next__") hT F.slot_zip_next
      (wpAny_call_entry F.slot_zip_next hT F.entry_zip_next
        (zipD_item D1 D2 D hz hTI hTO h1 h2 (Nat.lt_of_lt_of_le hi (Nat.min_le_left ..)) (Nat.lt_of_lt_of_le hi (Nat.min_le_right ..)) fun x y h' tk px py a1 a2 a3 a4 a5 a6 hk => wpAny_pure ?_) (F.args_zip_next_1 _))))
    exact hQ s.heap.objs.size #[x, y] h' tk ⟨x, y, px, py, rfl⟩ (Nat.le_refl _) ⟨_, a5, rfl, _, rfl⟩
      ⟨a1, hk _ _ D.TIz D.TITO D.TIi1 D.TIi2 hTI, ⟨_, _, a2⟩, a3, a4, lt hz, lt hTO, (by obtain ⟨_, e⟩ := D1.live _ _ h1; exact lt e), (by obtain ⟨_, e⟩ := D2.live _ _ h2; exact lt e)⟩
      fun c o hc e => hk c o (fun x => hc (by simp [x])) (fun x => hc (by simp [x])) (fun x => hc (by simp [x])) (fun x => hc (by simp [x])) e
  go := fun elts k pos i T s Q E hm hQ => by
    obtain ⟨hz, hTI, ⟨a, b, hTO⟩, h1, h2, _⟩ := hm
    refine wpAny_letOwnedTupleGo_zip hz fun h' hz' hs' => hQ h' ⟨hz', hs'.extBut _ _ D.TIz hTI, ⟨a, b, hs'.extBut _ _ D.TOz hTO⟩, stD D1 h1 hs'.extBut D.i1z, stD D2 h2 hs'.extBut D.i2z⟩ fun c o hc e => hs'.extBut _ _ (fun x => hc (by simp [x])) e
  apart := fun i T h hm hT => by
    obtain ⟨_, _, _, _, _, t1, t2, t3, t4⟩ := hm
    simp at hT
    rcases hT with rfl | rfl | rfl | rfl
    · exact t1 rfl
    · exact t2 rfl
    · exact t3 rfl
    · exact t4 rfl
  done := fun s Q E hst hQ => by
    obtain ⟨hz, hTI, ⟨a, b, hTO⟩, h1, h2⟩ := hst
    have hT : s.TypeIs (.ref z) "zip" := ⟨_, hz, rfl⟩
    have hend : min n1 n2 = n1 ∨ (min n1 n2 < n1 ∧ min n1 n2 = n2) := by omega
    unfold pyNext
    refine wpAny_bind (wpAny_attempt (wpAny_callSpecial?_slot (name := Str.ofString "__next__") hT F.slot_zip_next
      (wpAny_call_entry F.slot_zip_next hT F.entry_zip_next (zipD_end D1 D2 D hz hTI hTO h1 h2 hend fun h' e tk hk he => ?_) (F.args_zip_next_1 _))))
    obtain ⟨o, ho, hc⟩ := he
    refine wpAny_bind (wpAny_isInstance (T := "StopIteration") (b := true) ⟨o, ho, hc⟩ isSubtype_stop ?_)
    exact wpAny_pure (hQ _ _ fun c o hc e =>
      hk c o (fun x => hc (by simp [x])) (fun x => hc (by simp [x])) (fun x => hc (by simp [x])) (fun x => hc (by simp [x])) e)
  self := fun i s Q E hst hQ => wpAny_pyIter_zip hst.1 hQ

end Mine

-- part Zq
namespace Mine
open PySem PySem.W PySem.Calls PyProof.Rows PySem.W.KBw

section
variable {prog : Program} {w : World} {A : Around} {E : Value → Shared → Prop} {s : Shared}

/-- the iterator of a value is one new object -/
def PushIter (v : Value) (o : Obj) : Prop :=
  ∀ (prog : Program) (w : World) (A : Around) (E : Value → Shared → Prop) (s : Shared) (Q : Value → Shared → Prop), Q (.ref s.heap.objs.size) { s with heap := s.heap.push o } → wpAny (model prog w) A (pyIter v) Q E s

abbrev zpH1 (h : Heap) (o1 : Obj) : Heap := h.push o1
abbrev zpH2 (h : Heap) (o1 o2 : Obj) : Heap := (zpH1 h o1).push o2
abbrev zpH3 (h : Heap) (o1 o2 : Obj) : Heap := (zpH2 h o1 o2).push { cls := .type "tuple", data := .seq #[.ref h.objs.size, .ref (zpH1 h o1).objs.size] }
abbrev zpH4 (h : Heap) (o1 o2 : Obj) : Heap := (zpH3 h o1 o2).push { cls := .type "tuple", data := .seq #[.none, .none] }
abbrev zpH5 (h : Heap) (o1 o2 : Obj) : Heap := (zpH4 h o1 o2).push { cls := .type "zip", data := .fields #[.none, .bool false, .bool false, .ref (zpH2 h o1 o2).objs.size, .ref (zpH3 h o1 o2).objs.size] }

theorem meets_zipV (v1 v2 : Value) (o1 o2 : Obj) (p1 : PushIter v1 o1) (p2 : PushIter v2 o2) :
    Meets (Builtin.«zip.__new__» ⟨[.type "zip", v1, v2], []⟩) (fun _ R s =>
      R (.ok (.ret (.ref (zpH4 s.heap o1 o2).objs.size))) { s with heap := zpH5 s.heap o1 o2 }) :=
  .of_wp fun prog w A R s h => by
    obtain ⟨hp, g, d, tk, os⟩ := s
    have hsub := sub_zip
    have q1 : ∀ (A : Around) (E : Value → Shared → Prop) (s : Shared) (Q : Value → Shared → Prop), Q (.ref s.heap.objs.size) { s with heap := s.heap.push o1 } → wpAny (model prog w) A (pyIter v1) Q E s := fun A E s Q => p1 prog w A E s Q
    have q2 : ∀ (A : Around) (E : Value → Shared → Prop) (s : Shared) (Q : Value → Shared → Prop), Q (.ref s.heap.objs.size) { s with heap := s.heap.push o2 } → wpAny (model prog w) A (pyIter v2) Q E s := fun A E s Q => p2 prog w A E s Q
    wp_walk using q1, q2
    exact ⟨_, rfl, h⟩

theorem call_zipV {v1 v2 : Value} {o1 o2 : Obj} {Q : Value → Shared → Prop} (p1 : PushIter v1 o1) (p2 : PushIter v2 o2) (hf1 : o1.isFreed = false) (hf2 : o2.isFreed = false)
    (h : ∀ h', IsZip h' (s.heap.objs.size + 4) (s.heap.objs.size + 2) (s.heap.objs.size + 3) .none → IsPair h' (s.heap.objs.size + 2) (.ref s.heap.objs.size) (.ref (s.heap.objs.size + 1)) →
      IsPair h' (s.heap.objs.size + 3) .none .none → h'.get? s.heap.objs.size = some o1 → h'.get? (s.heap.objs.size + 1) = some o2 → h'.objs.size = s.heap.objs.size + 5 →
      (∀ c o, s.heap.get? c = some o → h'.get? c = some o) → Q (.ref (s.heap.objs.size + 4)) { s with heap := h' }) :
    wpAny (model prog w) A (call (.type "zip") [v1, v2]) Q E s := by
  refine callType_new F.called_zip (by decide) (F.typeCall_zip_2 _ _) (F.newCall_zip_2 _ _) (fun obj => F.args_object_init_3 obj _ _) F.entry_zip_new
    (meets_zipV v1 v2 o1 o2 p1 p2) ?_
  have z1 : (zpH1 s.heap o1).objs.size = s.heap.objs.size + 1 := Heap.size_push ..
  have z2 : (zpH2 s.heap o1 o2).objs.size = s.heap.objs.size + 2 := by rw [Heap.size_push, z1]
  have z3 : (zpH3 s.heap o1 o2).objs.size = s.heap.objs.size + 3 := by rw [Heap.size_push, z2]
  have z4 : (zpH4 s.heap o1 o2).objs.size = s.heap.objs.size + 4 := by rw [Heap.size_push, z3]
  have z5 : (zpH5 s.heap o1 o2).objs.size = s.heap.objs.size + 5 := by rw [Heap.size_push, z4]
  have g5 : (zpH5 s.heap o1 o2).get? (zpH4 s.heap o1 o2).objs.size = some _ := Heap.get?_push_size _ rfl
  have g4 : (zpH5 s.heap o1 o2).get? (zpH3 s.heap o1 o2).objs.size = some _ := Heap.get?_push_of_some _ (Heap.get?_push_size _ rfl)
  have g3 : (zpH5 s.heap o1 o2).get? (zpH2 s.heap o1 o2).objs.size = some _ := Heap.get?_push_of_some _ (Heap.get?_push_of_some _ (Heap.get?_push_size _ rfl))
  have g2 : (zpH5 s.heap o1 o2).get? (zpH1 s.heap o1).objs.size = some _ := Heap.get?_push_of_some _ (Heap.get?_push_of_some _ (Heap.get?_push_of_some _ (Heap.get?_push_size _ hf2)))
  have g1 : (zpH5 s.heap o1 o2).get? s.heap.objs.size = some _ := Heap.get?_push_of_some _ (Heap.get?_push_of_some _ (Heap.get?_push_of_some _ (Heap.get?_push_of_some _ (Heap.get?_push_size _ hf1))))
  show _ ∧ _
  rw [z2, z3, z4] at g5
  rw [z1, z2] at g3
  rw [z3] at g4
  rw [z1] at g2
  rw [z4]
  exact ⟨⟨_, g5, rfl⟩, h _ g5 g3 g4 g1 g2 z5 fun c o x =>
    Heap.get?_push_of_some _ (Heap.get?_push_of_some _ (Heap.get?_push_of_some _ (Heap.get?_push_of_some _ (Heap.get?_push_of_some _ x))))⟩

theorem za_new (n : Nat) : ZA (n + 4) (n + 2) (n + 3) n (n + 1) where
  TIz := show @Ne Nat (n + 2) (n + 4) by omega
  TOz := show @Ne Nat (n + 3) (n + 4) by omega
  i1z := show @Ne Nat (n) (n + 4) by omega
  i2z := show @Ne Nat (n + 1) (n + 4) by omega
  TITO := show @Ne Nat (n + 2) (n + 3) by omega
  TIi1 := show @Ne Nat (n + 2) (n) by omega
  TIi2 := show @Ne Nat (n + 2) (n + 1) by omega
  TOi1 := show @Ne Nat (n + 3) (n) by omega
  TOi2 := show @Ne Nat (n + 3) (n + 1) by omega
  i12 := show @Ne Nat (n) (n + 1) by omega

theorem memFive {a n : Nat} (h : a < n) (e : @Eq Nat a (n + 4) ∨ @Eq Nat a (n + 2) ∨ @Eq Nat a (n + 3) ∨ @Eq Nat a n ∨ @Eq Nat a (n + 1)) : False := by omega
theorem memFour {a n : Nat} (h : a < n) (e : @Eq Nat a (n + 4) ∨ @Eq Nat a (n + 3) ∨ @Eq Nat a n ∨ @Eq Nat a (n + 1)) : False := by omega

variable {h₀ : Heap} {L : Addr} {m : Str → Option Value} {news : List (Addr × Obj)}

theorem call_zipD {α₁ α₂ : Type} {K₁ : ItemKind α₁} {K₂ : ItemKind α₂} {as : List α₁} {bs : List α₂} {v1 v2 : Value} {o1 o2 : Obj} {Q : Value → Shared → Prop}
    {P1 P2 : Nat → Value → Prop} {St1 St2 : Nat → Heap → Prop}
    (p1 : PushIter v1 o1) (p2 : PushIter v2 o2) (hf1 : o1.isFreed = false) (hf2 : o2.isFreed = false)
    (D1 : Draws prog w A.in1 s.heap.objs.size [s.heap.objs.size] as.length P1 St1) (D2 : Draws prog w A.in1 (s.heap.objs.size + 1) [s.heap.objs.size + 1] bs.length P2 St2)
    (st1 : ∀ h : Heap, h.get? s.heap.objs.size = some o1 → St1 0 h) (st2 : ∀ h : Heap, h.get? (s.heap.objs.size + 1) = some o2 → St2 0 h)
    (hp1 : ∀ i x, P1 i x → ∃ a, as[i]? = some a ∧ K₁.is a x) (hp2 : ∀ i x, P2 i x → ∃ a, bs[i]? = some a ∧ K₂.is a x)
    (F : Fr h₀ L s.heap m) (N : News h₀ L s.heap news)
    (h : ∀ h' e, Fr h₀ L h' m → News h₀ L h' news → PairSrc2L prog w A E h₀ L K₁ K₂ as bs (.ref e) { s with heap := h' } m news → Q (.ref e) { s with heap := h' }) :
    wpAny (model prog w) A (call (.type "zip") [v1, v2]) Q E s := by
  have hLs : L < s.heap.objs.size := F.ns.lt
  have hab : h₀.objs.size ≤ L := F.above
  refine call_zipV p1 p2 hf1 hf2 fun h' hz hTI hTO g1 g2 hsz hk => ?_
  have F' : Fr h₀ L h' m := ⟨F.ns.keeps hk, fun b o e => hk b o (F.keep b o e), F.above⟩
  have N' : News h₀ L h' news := fun p hp => ⟨hk _ _ (N p hp).1, (N p hp).2⟩
  refine h h' _ F' N' fun env hL => ?_
  subst hL
  intro xi xc body Q J h0 step done
  have W := walksZip D1 D2 (za_new s.heap.objs.size)
  have hst : IsZip h' (s.heap.objs.size + 4) (s.heap.objs.size + 2) (s.heap.objs.size + 3) .none ∧ IsPair h' (s.heap.objs.size + 2) (.ref s.heap.objs.size) (.ref (s.heap.objs.size + 1)) ∧ (∃ a b, IsPair h' (s.heap.objs.size + 3) a b) ∧ St1 0 h' ∧ St2 0 h' := ⟨hz, hTI, ⟨_, _, hTO⟩, st1 h' g1, st2 h' g2⟩
  refine W.self 0 _ _ _ hst ?_
  have hn : min as.length bs.length = (as.zip bs).length := by simp
  have nw : ∀ k, h₀.get? (s.heap.objs.size + k) = none := fun k => Heap.get?_none_of_le (Nat.le_trans hab (Nat.le_trans (Nat.le_of_lt hLs) (Nat.le_add_right _ k)))
  have lt : ∀ q ∈ news, q.1 < s.heap.objs.size := fun q hq => Heap.lt_size (N q hq).1
  refine ⟨_, _, _, _, _, _, _, (fun i v0 v1 => ∃ a b, as[i]? = some a ∧ bs[i]? = some b ∧ K₁.is a v0 ∧ K₂.is b v1), m, news, J, rfl, W, ?_, ?_, ?_, ?_, hst, F', N', h0, ?_, ?_⟩
  · rintro i vals ⟨x, y, hx, hy, rfl⟩
    obtain ⟨a, ha, ka⟩ := hp1 i x hx
    obtain ⟨b, hb, kb⟩ := hp2 i y hy
    exact ⟨x, y, rfl, a, b, ha, hb, ka, kb⟩
  · intro hm
    simp only [List.mem_cons, List.not_mem_nil, or_false] at hm
    exact memFive hLs hm
  · intro b hb
    simp only [List.mem_cons, List.not_mem_nil, or_false] at hb
    rcases hb with rfl | rfl | rfl | rfl
    · exact nw 4
    · exact nw 3
    · exact nw 0
    · exact nw 1
  · intro p hp hm
    have := lt p hp
    simp only [List.mem_cons, List.not_mem_nil, or_false] at hm
    exact memFour this hm
  · rintro i v0 v1 m₁ news₁ s₁ own hs₁ _ ⟨a, b, ha, hb, ka, kb⟩ hJ hmap hsub F₁ N₁
    refine step i a b v0 v1 m₁ news₁ s₁ own hs₁ ha hb ka kb hJ hmap (fun p hp q hq e => ?_) F₁ N₁
    have h1 := hsub p hp
    have h2 := lt q hq
    simp only [List.mem_cons, List.not_mem_nil, or_false] at h1
    exact memFive h2 (e ▸ h1)
  · exact hn ▸ done

theorem pushIter_bytes (b : Array UInt8) (t : Tok) : PushIter (.bytes b t) { cls := .type "bytes_iterator", data := .fields #[.bytes b t, .int 0 0] } :=
  fun _ _ _ _ _ _ h => pyIter_bytes h
theorem pushIter_str (x : Str) (t : Tok) : PushIter (.str x t) { cls := .type (strIterType x), data := .fields #[.str x t, .int 0 0] } :=
  fun _ _ _ _ _ _ h => wpAny_pyIter_strU h

theorem call_zip_bytes {b c : Array UInt8} {t u : Tok} {ks ls : List Int} {Q : Value → Shared → Prop} (hh : A.handled = none) (hb : bInts b = ks) (hc : bInts c = ls)
    (F : Fr h₀ L s.heap m) (N : News h₀ L s.heap news)
    (h : ∀ h' e, Fr h₀ L h' m → News h₀ L h' news → PairSrc2L prog w A E h₀ L ItemKind.int ItemKind.int ks ls (.ref e) { s with heap := h' } m news → Q (.ref e) { s with heap := h' }) :
    wpAny (model prog w) A (call (.type "zip") [.bytes b t, .bytes c u]) Q E s := by
  subst hb hc
  have D1 := drawsBytes (prog := prog) (w := w) (A := A.in1) (by exact hh) s.heap.objs.size b t
  have D2 := drawsBytes (prog := prog) (w := w) (A := A.in1) (by exact hh) (s.heap.objs.size + 1) c u
  rw [← ints_length b] at D1
  rw [← ints_length c] at D2
  refine call_zipD (K₁ := ItemKind.int) (K₂ := ItemKind.int) (as := bInts b) (bs := bInts c) (pushIter_bytes b t) (pushIter_bytes c u) rfl rfl D1 D2 (fun h e => ⟨_, e, rfl, rfl⟩) (fun h e => ⟨_, e, rfl, rfl⟩) ?_ ?_ F N h
  · rintro i x ⟨c, u, hc, rfl⟩
    exact ⟨_, ints_get hc, u, rfl⟩
  · rintro i x ⟨c, u, hc, rfl⟩
    exact ⟨_, ints_get hc, u, rfl⟩

theorem drawsStr (hh : A.handled = none) (it : Addr) (x : Str) (t : Tok) :
    ∃ St : Nat → Heap → Prop, Draws prog w A it [it] (signs x).length (fun i v => ∃ c u, x.cps[i]? = some c ∧ v = .str ⟨#[c]⟩ u) St ∧ ∀ h : Heap, h.get? it = some { cls := .type (strIterType x), data := .fields #[.str x t, .int 0 0] } → St 0 h := by
  rw [signs_length]
  cases ha : x.cps.all (· < 128)
  · refine ⟨_, Draws.strWide hh it x t, fun h e => ⟨_, e, ?_, rfl⟩⟩
    simp [strIterType, ha]
  · refine ⟨_, Draws.strAscii hh it x t, fun h e => ⟨_, e, ?_, rfl⟩⟩
    simp [strIterType, ha]

theorem call_zip_strs {x y : Str} {t u : Tok} {Q : Value → Shared → Prop} (hh : A.handled = none)
    (F : Fr h₀ L s.heap m) (N : News h₀ L s.heap news)
    (h : ∀ h' e, Fr h₀ L h' m → News h₀ L h' news → PairSrc2L prog w A E h₀ L ItemKind.str ItemKind.str (signs x) (signs y) (.ref e) { s with heap := h' } m news → Q (.ref e) { s with heap := h' }) :
    wpAny (model prog w) A (call (.type "zip") [.str x t, .str y u]) Q E s := by
  obtain ⟨St1, D1, h1⟩ := drawsStr (prog := prog) (w := w) (A := A.in1) (by exact hh) s.heap.objs.size x t
  obtain ⟨St2, D2, h2⟩ := drawsStr (prog := prog) (w := w) (A := A.in1) (by exact hh) (s.heap.objs.size + 1) y u
  refine call_zipD (K₁ := ItemKind.str) (K₂ := ItemKind.str) (as := signs x) (bs := signs y) (pushIter_str x t) (pushIter_str y u) rfl rfl D1 D2 h1 h2 ?_ ?_ F N h
  · rintro i v ⟨c, u, hc, rfl⟩
    exact ⟨_, signs_get hc, u, rfl⟩
  · rintro i v ⟨c, u, hc, rfl⟩
    exact ⟨_, signs_get hc, u, rfl⟩
end
end Mine

-- part Pl
namespace Mine

/-! ## bits -/
theorem and_xor_nat : ∀ n a b : Nat, a < n → a + b = (a ^^^ b) + 2 * (a &&& b) := by
  intro n
  induction n with
  | zero => intro a b h; omega
  | succ n ih =>
    intro a b h
    by_cases ha : a = 0
    · subst ha; simp
    · have e := ih (a / 2) (b / 2) (by omega)
      have h1 : (a ^^^ b) / 2 = a / 2 ^^^ b / 2 := Nat.xor_div_two
      have h2 : (a &&& b) / 2 = a / 2 &&& b / 2 := Nat.and_div_two
      have h3 := @Nat.xor_mod_two_eq_one a b
      have h4 := @Nat.and_mod_two_eq_one a b
      rw [← h1, ← h2] at e
      by_cases qa : a % 2 = 1 <;> by_cases qb : b % 2 = 1
      · have g3 : ¬ ((a ^^^ b) % 2 = 1) := fun q => (h3.mp q) ⟨fun _ => qb, fun _ => qa⟩
        have g4 : (a &&& b) % 2 = 1 := h4.mpr ⟨qa, qb⟩
        omega
      · have g3 : (a ^^^ b) % 2 = 1 := h3.mpr fun q => qb (q.mp qa)
        have g4 : ¬ ((a &&& b) % 2 = 1) := fun q => qb (h4.mp q).2
        omega
      · have g3 : (a ^^^ b) % 2 = 1 := h3.mpr fun q => qa (q.mpr qb)
        have g4 : ¬ ((a &&& b) % 2 = 1) := fun q => qa (h4.mp q).1
        omega
      · have g3 : ¬ ((a ^^^ b) % 2 = 1) := fun q => (h3.mp q) ⟨fun q => absurd q qa, fun q => absurd q qb⟩
        have g4 : ¬ ((a &&& b) % 2 = 1) := fun q => qa (h4.mp q).1
        omega

theorem xor_cast (a b : Nat) : Builtin.bitXor (a : Int) (b : Int) = ((a ^^^ b : Nat) : Int) := by
  have h := and_xor_nat (a + 1) a b (by omega)
  rw [bitXor_and, bitAnd_pp (by omega) (by omega), Int.toNat_natCast, Int.toNat_natCast]
  omega
theorem or_cast (a b : Nat) : Builtin.bitOr (a : Int) (b : Int) = ((a ||| b : Nat) : Int) := by
  have h1 : ∀ n a b : Nat, a < n → a + b = (a ||| b) + (a &&& b) := by
    intro n
    induction n with
    | zero => intro a b h; omega
    | succ n ih =>
      intro a b h
      by_cases ha : a = 0
      · subst ha; simp
      · have e := ih (a / 2) (b / 2) (by omega)
        have h1 : (a ||| b) / 2 = a / 2 ||| b / 2 := Nat.or_div_two
        have h2 : (a &&& b) / 2 = a / 2 &&& b / 2 := Nat.and_div_two
        have h3 := @Nat.or_mod_two_eq_one a b
        have h4 := @Nat.and_mod_two_eq_one a b
        rw [← h1, ← h2] at e
        omega
  have h := h1 (a + 1) a b (by omega)
  rw [bitOr_and, bitAnd_pp (by omega) (by omega), Int.toNat_natCast, Int.toNat_natCast]
  omega
theorem nat_xor_zero {a b : Nat} : a ^^^ b = 0 ↔ a = b := by
  constructor
  · intro h
    have e : a ^^^ b ^^^ b = b := by rw [h, Nat.zero_xor]
    rw [Nat.xor_assoc, Nat.xor_self, Nat.xor_zero] at e
    exact e
  · intro h; subst h; exact Nat.xor_self a
theorem xor_nonneg {a b : Int} (ha : 0 ≤ a) (hb : 0 ≤ b) : 0 ≤ Builtin.bitXor a b := by
  obtain ⟨x, rfl⟩ := Int.eq_ofNat_of_zero_le ha
  obtain ⟨y, rfl⟩ := Int.eq_ofNat_of_zero_le hb
  rw [xor_cast]; omega
theorem xor_eq_zero {a b : Int} (ha : 0 ≤ a) (hb : 0 ≤ b) : Builtin.bitXor a b = 0 ↔ a = b := by
  obtain ⟨x, rfl⟩ := Int.eq_ofNat_of_zero_le ha
  obtain ⟨y, rfl⟩ := Int.eq_ofNat_of_zero_le hb
  rw [xor_cast]
  have := @nat_xor_zero x y
  omega
theorem or_nonneg {a b : Int} (ha : 0 ≤ a) (hb : 0 ≤ b) : 0 ≤ Builtin.bitOr a b := by
  obtain ⟨x, rfl⟩ := Int.eq_ofNat_of_zero_le ha
  obtain ⟨y, rfl⟩ := Int.eq_ofNat_of_zero_le hb
  rw [or_cast]; omega
theorem or_eq_zero {a b : Int} (ha : 0 ≤ a) (hb : 0 ≤ b) : Builtin.bitOr a b = 0 ↔ a = 0 ∧ b = 0 := by
  obtain ⟨x, rfl⟩ := Int.eq_ofNat_of_zero_le ha
  obtain ⟨y, rfl⟩ := Int.eq_ofNat_of_zero_le hb
  rw [or_cast]
  have := @Nat.or_eq_zero_iff x y
  omega
theorem xor_lt {a b : Int} {n : Nat} (ha : 0 ≤ a) (hb : 0 ≤ b) (ha' : a < 2 ^ n) (hb' : b < 2 ^ n) : Builtin.bitXor a b < 2 ^ n := by
  obtain ⟨x, rfl⟩ := Int.eq_ofNat_of_zero_le ha
  obtain ⟨y, rfl⟩ := Int.eq_ofNat_of_zero_le hb
  have c : ((2 : Int) ^ n) = ((2 ^ n : Nat) : Int) := by rw [Int.natCast_pow]; rfl
  rw [xor_cast]
  rw [c] at ha' hb' ⊢
  have := Nat.xor_lt_two_pow (x := x) (y := y) (n := n) (by omega) (by omega)
  omega
theorem xor_twice {a b : Int} (ha : 0 ≤ a) (hb : 0 ≤ b) : Builtin.bitXor (Builtin.bitXor a b) b = a := by
  obtain ⟨x, rfl⟩ := Int.eq_ofNat_of_zero_le ha
  obtain ⟨y, rfl⟩ := Int.eq_ofNat_of_zero_le hb
  rw [xor_cast, xor_cast, Nat.xor_assoc, Nat.xor_self, Nat.xor_zero]
theorem xor_comm' {a b : Int} (ha : 0 ≤ a) (hb : 0 ≤ b) : Builtin.bitXor a b = Builtin.bitXor b a := by
  obtain ⟨x, rfl⟩ := Int.eq_ofNat_of_zero_le ha
  obtain ⟨y, rfl⟩ := Int.eq_ofNat_of_zero_le hb
  rw [xor_cast, xor_cast, Nat.xor_comm]
/-- crossing digit by digit -/
theorem xor_digits {q q' r r' : Int} {n : Nat} (hq : 0 ≤ q) (hq' : 0 ≤ q') (hr : 0 ≤ r) (hr' : 0 ≤ r') (h : r < 2 ^ n) (h' : r' < 2 ^ n) :
    Builtin.bitXor (q * 2 ^ n + r) (q' * 2 ^ n + r') = Builtin.bitXor q q' * 2 ^ n + Builtin.bitXor r r' := by
  obtain ⟨x, rfl⟩ := Int.eq_ofNat_of_zero_le hq
  obtain ⟨x', rfl⟩ := Int.eq_ofNat_of_zero_le hq'
  obtain ⟨y, rfl⟩ := Int.eq_ofNat_of_zero_le hr
  obtain ⟨y', rfl⟩ := Int.eq_ofNat_of_zero_le hr'
  have c : ((2 : Int) ^ n) = ((2 ^ n : Nat) : Int) := by rw [Int.natCast_pow]; rfl
  rw [c] at h h' ⊢
  have hy : y < 2 ^ n := by omega
  have hy' : y' < 2 ^ n := by omega
  rw [← Int.natCast_mul, ← Int.natCast_mul, ← Int.natCast_add, ← Int.natCast_add, xor_cast, xor_cast, xor_cast, ← Int.natCast_mul, ← Int.natCast_add]
  congr 1
  have hp : 0 < 2 ^ n := Nat.pow_pos (by decide)
  have d1 : (x * 2 ^ n + y) / 2 ^ n = x := by rw [Nat.mul_comm, Nat.mul_add_div hp, Nat.div_eq_of_lt hy]; rfl
  have d2 : (x' * 2 ^ n + y') / 2 ^ n = x' := by rw [Nat.mul_comm, Nat.mul_add_div hp, Nat.div_eq_of_lt hy']; rfl
  have m1 : (x * 2 ^ n + y) % 2 ^ n = y := by rw [Nat.mul_comm, Nat.mul_add_mod, Nat.mod_eq_of_lt hy]
  have m2 : (x' * 2 ^ n + y') % 2 ^ n = y' := by rw [Nat.mul_comm, Nat.mul_add_mod, Nat.mod_eq_of_lt hy']
  have e1 := @Nat.xor_div_two_pow (x * 2 ^ n + y) (x' * 2 ^ n + y') n
  have e2 := @Nat.xor_mod_two_pow (x * 2 ^ n + y) (x' * 2 ^ n + y') n
  rw [d1, d2] at e1
  rw [m1, m2] at e2
  have e3 := Nat.div_add_mod ((x * 2 ^ n + y) ^^^ (x' * 2 ^ n + y')) (2 ^ n)
  rw [e1, e2, Nat.mul_comm] at e3
  exact e3.symm

/-! ## consteq's fold -/
theorem fold_or : ∀ (l : List (Int × Int)) (T : Int), 0 ≤ T → (∀ p ∈ l, 0 ≤ p.1 ∧ 0 ≤ p.2) →
    (l.foldl (fun T p => Builtin.bitOr T (Builtin.bitXor p.1 p.2)) T = 0 ↔ T = 0 ∧ ∀ p ∈ l, p.1 = p.2)
  | [], T, _, _ => by simp
  | p :: r, T, h0, hp => by
    obtain ⟨h1, h2⟩ := hp p (List.mem_cons_self ..)
    have hx := xor_nonneg h1 h2
    rw [List.foldl_cons, fold_or r _ (or_nonneg h0 hx) fun q hq => hp q (List.mem_cons_of_mem _ hq), or_eq_zero h0 hx, xor_eq_zero h1 h2]
    constructor
    · rintro ⟨⟨a, b⟩, c⟩
      exact ⟨a, fun q hq => (List.mem_cons.mp hq).elim (fun e => e ▸ b) (c q)⟩
    · rintro ⟨a, b⟩
      exact ⟨⟨a, b p (List.mem_cons_self ..)⟩, fun q hq => b q (List.mem_cons_of_mem _ hq)⟩
theorem zip_all_eq {α : Type} : ∀ {ks ls : List α}, ks.length = ls.length → ((∀ p ∈ ks.zip ls, p.1 = p.2) ↔ ks = ls)
  | [], [], _ => by simp
  | [], _ :: _, h => by simp at h
  | _ :: _, [], h => by simp at h
  | k :: r, l :: r', h => by
    have ih := zip_all_eq (ks := r) (ls := r') (by simpa using h)
    rw [List.zip_cons_cons]
    constructor
    · intro hp
      have e := hp (k, l) (List.mem_cons_self ..)
      have e2 := ih.mp fun p hm => hp p (List.mem_cons_of_mem _ hm)
      simp only at e
      rw [e, e2]
    · intro e p hm
      injection e with e1 e2
      rcases List.mem_cons.mp hm with rfl | hm
      · exact e1
      · exact ih.mpr e2 p hm
theorem zip_nonneg {ks ls : List Int} (hk : ∀ k ∈ ks, 0 ≤ k) (hl : ∀ k ∈ ls, 0 ≤ k) : ∀ p ∈ ks.zip ls, 0 ≤ p.1 ∧ 0 ≤ p.2 := fun p hp => by
  obtain ⟨a, b⟩ := p
  have h := List.of_mem_zip hp
  exact ⟨hk _ h.1, hl _ h.2⟩
theorem same_fold {ks ls : List Int} (hk : ∀ k ∈ ks, 0 ≤ k) (hl : ∀ k ∈ ls, 0 ≤ k) (h : (ks.length : Int) = (ls.length : Int)) :
    ((ks.zip ls).foldl (fun T p => Builtin.bitOr T (Builtin.bitXor p.1 p.2)) 0 == 0) = decide (ks = ls) := by
  rw [Bool.eq_iff_iff, beq_iff_eq, decide_eq_true_eq, fold_or _ _ (by decide) (zip_nonneg hk hl), zip_all_eq (by omega)]
  simp
theorem unlike_fold {ks ls ms : List Int} (hm : ∀ k ∈ ms, 0 ≤ k) (hl : ∀ k ∈ ls, 0 ≤ k) (h : (ks.length : Int) ≠ (ls.length : Int)) :
    ((ms.zip ls).foldl (fun T p => Builtin.bitOr T (Builtin.bitXor p.1 p.2)) 1 == 0) = decide (ks = ls) := by
  have hne : ¬ ks = ls := fun e => h (by rw [e])
  rw [Bool.eq_iff_iff, beq_iff_eq, decide_eq_true_eq, fold_or _ _ (by decide) (zip_nonneg hm hl)]
  simp [hne]

/-! ## values and digits -/
theorem value_nil : KFB.value [] = 0 := rfl
theorem value_snoc (ks : List Int) (k : Int) : KFB.value (ks ++ [k]) = KFB.value ks * 256 + k := by
  simp [KFB.value, List.foldl_append]
theorem foldv (l : List Int) : ∀ a : Int, l.foldl (fun a k => a * 256 + k) a = a * 256 ^ l.length + l.foldl (fun a k => a * 256 + k) 0 := by
  induction l with
  | nil => intro a; simp
  | cons k r ih =>
    intro a
    rw [List.foldl_cons, List.foldl_cons, ih (a * 256 + k), ih (0 * 256 + k), List.length_cons, Int.pow_succ]
    have e1 : (a * 256 + k) * 256 ^ r.length = a * 256 * 256 ^ r.length + k * 256 ^ r.length := Int.add_mul ..
    have e2 : a * (256 ^ r.length * 256) = a * 256 * 256 ^ r.length := by rw [Int.mul_comm (256 ^ r.length) 256, Int.mul_assoc]
    rw [e1, e2, Int.zero_mul, Int.zero_add]
    omega
theorem value_app (ks ls : List Int) : KFB.value (ks ++ ls) = KFB.value ks * 256 ^ ls.length + KFB.value ls := by
  unfold KFB.value
  rw [List.foldl_append, foldv]
theorem pow256 (n : Nat) : (256 : Int) ^ n = 2 ^ (8 * n) := by
  rw [Int.pow_mul]; rfl
theorem pow256_pos (n : Nat) : (0 : Int) < 256 ^ n := Int.pow_pos (by decide)

theorem in_nonneg {ks : List Int} (h : KBa.In ks) : ∀ k ∈ ks, 0 ≤ k := fun k hk => (h k hk).1
theorem in_app {ks ls : List Int} (h : KBa.In ks) (h' : KBa.In ls) : KBa.In (ks ++ ls) := fun k hk => (List.mem_append.mp hk).elim (h k) (h' k)
theorem in_take {ks : List Int} (h : KBa.In ks) (n : Nat) : KBa.In (ks.take n) := fun k hk => h k (List.mem_of_mem_take hk)
theorem in_drop {ks : List Int} (h : KBa.In ks) (n : Nat) : KBa.In (ks.drop n) := fun k hk => h k (List.mem_of_mem_drop hk)
theorem in_zeros (n : Nat) : KBa.In (List.replicate n 0) := fun k hk => by rw [(List.mem_replicate.mp hk).2]; decide
theorem in_bytes (b : Array UInt8) : KBa.In (KBw.bInts b) := fun _ hk => KBw.ints_in hk
theorem in_of {b : Array UInt8} {ks : List Int} (h : KBw.bInts b = ks) : KBa.In ks := h ▸ in_bytes b

theorem value_range : ∀ {ks : List Int}, KBa.In ks → 0 ≤ KFB.value ks ∧ KFB.value ks < 256 ^ ks.length := by
  intro ks
  induction ks with
  | nil => intro _; simp [KFB.value]
  | cons k r ih =>
    intro h
    obtain ⟨h0, h1⟩ := h k (List.mem_cons_self ..)
    obtain ⟨i0, i1⟩ := ih fun q hq => h q (List.mem_cons_of_mem _ hq)
    have e : KFB.value (k :: r) = k * 256 ^ r.length + KFB.value r := by
      have := value_app [k] r
      simp only [List.cons_append, List.nil_append] at this
      rw [this]; simp [KFB.value]
    rw [e, List.length_cons, Int.pow_succ]
    have hp := pow256_pos r.length
    have a1 : 0 ≤ k * 256 ^ r.length := Int.mul_nonneg h0 (Int.le_of_lt hp)
    have a2 : k * 256 ^ r.length ≤ 255 * 256 ^ r.length := Int.mul_le_mul_of_nonneg_right (by omega) (Int.le_of_lt hp)
    omega
theorem value_zeros (n : Nat) : KFB.value (List.replicate n 0) = 0 := by
  induction n with
  | zero => rfl
  | succ n ih => rw [List.replicate_succ', value_snoc, ih]; rfl
theorem value_pad (n : Nat) (ks : List Int) : KFB.value (List.replicate n 0 ++ ks) = KFB.value ks := by
  rw [value_app, value_zeros]; simp
/-- the digits by the greatest first -/
abbrev big (n : Nat) (x : Int) : List Int := (KTBy.little n x).reverse
theorem big_value : ∀ {n : Nat} {ks : List Int}, KBa.In ks → ks.length = n → big n (KFB.value ks) = ks := by
  intro n
  induction n with
  | zero => intro ks _ h; rw [List.length_eq_zero_iff.mp h]; rfl
  | succ n ih =>
    intro ks hk h
    have hne : ks ≠ [] := fun e => by rw [e] at h; cases h
    obtain ⟨r, k, rfl⟩ : ∃ r k, ks = r ++ [k] := ⟨ks.dropLast, ks.getLast hne, (List.dropLast_concat_getLast hne).symm⟩
    obtain ⟨h0, h1⟩ := hk k (by simp)
    have e1 : (KFB.value r * 256 + k) % 256 = k := by omega
    have e2 : (KFB.value r * 256 + k) / 256 = KFB.value r := by omega
    show (KTBy.little (n + 1) (KFB.value (r ++ [k]))).reverse = _
    rw [value_snoc, KTBy.little, e1, e2, List.reverse_cons]
    have e3 : (KTBy.little n (KFB.value r)).reverse = r := ih (ks := r) (fun q hq => hk q (List.mem_append_left _ hq)) (by simpa using h)
    rw [e3]
theorem value_zero_iff : ∀ {ks : List Int}, KBa.In ks → (KFB.value ks = 0 ↔ ∀ k ∈ ks, k = 0) := by
  intro ks hk
  constructor
  · intro h
    have e := big_value hk rfl
    rw [h] at e
    have e2 := big_value (in_zeros ks.length) (List.length_replicate ..)
    rw [value_zeros] at e2
    intro k hkm
    rw [← e, e2] at hkm
    exact (List.mem_replicate.mp hkm).2
  · intro h
    have e : ks = List.replicate ks.length 0 := List.eq_replicate_iff.mpr ⟨rfl, h⟩
    rw [e, value_zeros]

/-! ## crossing -/
abbrev crossL (ks ls : List Int) : List Int := List.zipWith Builtin.bitXor ks ls
theorem in_cross {ks ls : List Int} (hk : KBa.In ks) (hl : KBa.In ls) : KBa.In (crossL ks ls) := by
  intro x hx
  obtain ⟨i, hi, rfl⟩ := List.mem_iff_getElem.mp hx
  rw [List.getElem_zipWith]
  have hi' : i < ks.length ∧ i < ls.length := by rw [List.length_zipWith] at hi; omega
  obtain ⟨a0, a1⟩ := hk _ (List.getElem_mem hi'.1)
  obtain ⟨b0, b1⟩ := hl _ (List.getElem_mem hi'.2)
  exact ⟨xor_nonneg a0 b0, xor_lt (n := 8) a0 b0 a1 b1⟩
theorem value_cross : ∀ {ks ls : List Int}, KBa.In ks → KBa.In ls → ks.length = ls.length → Builtin.bitXor (KFB.value ks) (KFB.value ls) = KFB.value (crossL ks ls)
  | [], [], _, _, _ => by rw [value_nil]; exact bitXor_self 0
  | [], _ :: _, _, _, h => by simp at h
  | _ :: _, [], _, _, h => by simp at h
  | k :: r, l :: r', hk, hl, h => by
    have hlen : r.length = r'.length := by simpa using h
    have hr : KBa.In r := fun q hq => hk q (List.mem_cons_of_mem _ hq)
    have hr' : KBa.In r' := fun q hq => hl q (List.mem_cons_of_mem _ hq)
    have ih := value_cross hr hr' hlen
    have c1 : ∀ (k : Int) (r : List Int), KFB.value (k :: r) = k * 256 ^ r.length + KFB.value r := fun k r => by
      have := value_app [k] r
      simp only [List.cons_append, List.nil_append] at this
      rw [this]; simp [KFB.value]
    obtain ⟨a0, a1⟩ := value_range hr
    obtain ⟨b0, b1⟩ := value_range hr'
    show _ = KFB.value (Builtin.bitXor k l :: crossL r r')
    rw [c1, c1, c1, ← ih, List.length_zipWith, ← hlen, Nat.min_self, pow256]
    rw [pow256] at a1
    rw [← hlen, pow256] at b1
    exact xor_digits (hk k (List.mem_cons_self ..)).1 (hl l (List.mem_cons_self ..)).1 a0 b0 a1 b1

/-- the right row brought to n octets: noughts in front, or its end -/
abbrev fit (n : Nat) (ls : List Int) : List Int := List.replicate (n - ls.length) 0 ++ ls.drop (ls.length - n)
theorem fit_length (n : Nat) (ls : List Int) : (fit n ls).length = n := by simp; omega
theorem in_fit {ls : List Int} (h : KBa.In ls) (n : Nat) : KBa.In (fit n ls) := in_app (in_zeros _) (in_drop h _)
theorem value_fit (ls : List Int) (n : Nat) : KFB.value ls = KFB.value (ls.take (ls.length - n)) * 256 ^ n + KFB.value (fit n ls) := by
  rw [value_pad]
  by_cases h : ls.length ≤ n
  · have e : ls.length - n = 0 := by omega
    rw [e, List.take_zero, List.drop_zero, value_nil]; simp
  · have e := List.take_append_drop (ls.length - n) ls
    have e2 : (ls.drop (ls.length - n)).length = n := by rw [List.length_drop]; omega
    conv => lhs; rw [← e]
    rw [value_app, e2]
theorem cross_value {ks ls : List Int} (hk : KBa.In ks) (hl : KBa.In ls) :
    Builtin.bitXor (KFB.value ks) (KFB.value ls) = KFB.value (ls.take (ls.length - ks.length)) * 256 ^ ks.length + KFB.value (crossL ks (fit ks.length ls)) := by
  have h1 := value_fit ls ks.length
  obtain ⟨a0, a1⟩ := value_range hk
  obtain ⟨b0, b1⟩ := value_range (in_fit hl ks.length)
  obtain ⟨c0, _⟩ := value_range (in_take hl (ls.length - ks.length))
  rw [fit_length] at b1
  rw [← value_cross hk (in_fit hl _) (fit_length _ _).symm, h1, pow256]
  rw [pow256] at a1 b1
  have h := xor_digits (q := 0) (r := KFB.value ks) (Int.le_refl 0) c0 a0 b0 a1 b1
  rw [Int.zero_mul, Int.zero_add] at h
  rw [h, xor_comm' (Int.le_refl 0) c0, bitXor_zero]
/-- what is in front of the right row is nought -/
abbrev clear (ks ls : List Int) : Bool := (ls.take (ls.length - ks.length)).all (· == 0)
theorem clear_iff {ks ls : List Int} (hl : KBa.In ls) : clear ks ls = true ↔ KFB.value (ls.take (ls.length - ks.length)) = 0 := by
  rw [value_zero_iff (in_take hl _), List.all_eq_true]
  simp
theorem cross_clear {ks ls : List Int} (hk : KBa.In ks) (hl : KBa.In ls) (h : clear ks ls = true) :
    Builtin.bitXor (KFB.value ks) (KFB.value ls) = KFB.value (crossL ks (fit ks.length ls)) := by
  rw [cross_value hk hl, (clear_iff hl).mp h]; simp
theorem cross_length (ks ls : List Int) : (crossL ks (fit ks.length ls)).length = ks.length := by
  rw [List.length_zipWith, fit_length, Nat.min_self]
theorem cross_over {ks ls : List Int} (hk : KBa.In ks) (hl : KBa.In ls) (h : clear ks ls = false) :
    256 ^ ks.length ≤ Builtin.bitXor (KFB.value ks) (KFB.value ls) := by
  have hne : ¬ KFB.value (ls.take (ls.length - ks.length)) = 0 := fun e => by rw [(clear_iff hl).mpr e] at h; cases h
  obtain ⟨c0, _⟩ := value_range (in_take hl (ls.length - ks.length))
  obtain ⟨d0, _⟩ := value_range (in_cross hk (in_fit hl ks.length))
  rw [cross_value hk hl]
  have hp := pow256_pos ks.length
  have : 1 * 256 ^ ks.length ≤ KFB.value (ls.take (ls.length - ks.length)) * 256 ^ ks.length := Int.mul_le_mul_of_nonneg_right (by omega) (Int.le_of_lt hp)
  omega
theorem fit_same {n : Nat} {ls : List Int} (h : ls.length = n) : fit n ls = ls := by
  have e1 : n - ls.length = 0 := by omega
  have e2 : ls.length - n = 0 := by omega
  show List.replicate (n - ls.length) 0 ++ ls.drop (ls.length - n) = ls
  rw [e1, e2]; rfl
theorem clear_same {ks ls : List Int} (h : ls.length ≤ ks.length) : clear ks ls = true := by
  have e : ls.length - ks.length = 0 := by omega
  show (ls.take (ls.length - ks.length)).all (· == 0) = true
  rw [e]; rfl
theorem cross_twice : ∀ {ks ls : List Int}, KBa.In ks → KBa.In ls → ks.length = ls.length → crossL (crossL ks ls) ls = ks
  | [], [], _, _, _ => rfl
  | [], _ :: _, _, _, h => by simp at h
  | _ :: _, [], _, _, h => by simp at h
  | k :: r, l :: r', hk, hl, h => by
    show Builtin.bitXor (Builtin.bitXor k l) l :: crossL (crossL r r') r' = k :: r
    rw [cross_twice (fun q hq => hk q (List.mem_cons_of_mem _ hq)) (fun q hq => hl q (List.mem_cons_of_mem _ hq)) (by simpa using h), xor_twice (hk k (List.mem_cons_self ..)).1 (hl l (List.mem_cons_self ..)).1]
theorem cross_zero : ∀ {ks ls : List Int}, KBa.In ks → KBa.In ls → ks.length = ls.length → (KFB.value (crossL ks ls) = 0 ↔ ks = ls) := by
  intro ks ls hk hl h
  rw [← value_cross hk hl h, xor_eq_zero (value_range hk).1 (value_range hl).1]
  constructor
  · intro e
    rw [← big_value hk rfl, ← big_value hl rfl, e, h]
  · intro e; rw [e]
end Mine

-- part Hp
namespace Mine

theorem clip_pos {n : Nat} {x : Int} (h : 0 ≤ x) : clipAt n x = min x.toNat n := by
  obtain ⟨k, rfl⟩ := Int.eq_ofNat_of_zero_le h
  rw [clipAt_nat, Int.toNat_natCast]
theorem picked_take {b : Array UInt8} {ks : List Int} {x : Int} (hb : KBw.bInts b = ks) (h : 0 ≤ x) : KBw.bInts (KBy.picked b none (some x)) = ks.take x.toNat := by
  rw [KBc.ints_picked hb]
  show (ks.drop 0).take (clipAt ks.length x - 0) = _
  rw [clip_pos h, List.drop_zero, Nat.sub_zero]
  by_cases hx : x.toNat ≤ ks.length
  · rw [Nat.min_eq_left hx]
  · rw [Nat.min_eq_right (by omega), List.take_of_length_le (Nat.le_refl _), List.take_of_length_le (by omega)]
theorem picked_drop {b : Array UInt8} {ks : List Int} {x : Int} (hb : KBw.bInts b = ks) (h : 0 ≤ x) : KBw.bInts (KBy.picked b (some x) none) = ks.drop x.toNat := by
  rw [KBc.ints_picked hb]
  show (ks.drop (clipAt ks.length x)).take (ks.length - clipAt ks.length x) = _
  rw [clip_pos h]
  by_cases hx : x.toNat ≤ ks.length
  · rw [Nat.min_eq_left hx, List.take_of_length_le (by simp)]
  · rw [Nat.min_eq_right (by omega), List.drop_of_length_le (Nat.le_refl _), List.drop_of_length_le (by omega)]; simp
theorem flat_rep {α : Type} (p : α) (n : Nat) : (List.replicate n [p]).flatten = List.replicate n p := by
  induction n with
  | zero => rfl
  | succ n ih => rw [List.replicate_succ, List.flatten_cons, ih]; rfl
theorem rep_size (p : UInt8) (n : Nat) : ((List.replicate n [p]).flatten.toArray).size = n := by rw [flat_rep]; simp
theorem rep_ints (p : UInt8) (n : Nat) : KBw.bInts ((List.replicate n [p]).flatten.toArray) = List.replicate n ((p.toNat : Nat) : Int) := by
  rw [flat_rep, KBw.ints_list, List.map_replicate]
theorem size_of {b : Array UInt8} {ks : List Int} (h : KBw.bInts b = ks) : b.size = ks.length := by rw [← h, KBw.ints_length]
theorem pad_take {α : Type} {ks : List α} {p : α} {n s : Nat} (h : s ≤ ks.length + n) : (ks ++ List.replicate n p).take s = if ks.length < s then ks ++ List.replicate (s - ks.length) p else ks.take s := by
  by_cases hs : ks.length < s
  · rw [if_pos hs, List.take_append, List.take_of_length_le (by omega), List.take_replicate, Nat.min_eq_left (by omega)]
  · rw [if_neg hs, List.take_append_of_le_length (by omega)]
end Mine

-- part Ib
namespace Mine
open PySem PySem.W PySem.Calls PyProof.Rows PySem.Builtin.Int

section
variable {prog : Program} {w : World} {M : Model} {A : Around} {E : Value → Shared → Prop} {s : Shared}
theorem grown64 {n : Nat} {Q : Value → Shared → Prop} (hn : n < 256 ^ 64) (h : Q (.int (n : Int) s.toks) { s with toks := s.toks + 1 }) : wpAny M A (mkIntGrown (n : Int)) Q E s := by
  unfold mkIntGrown
  have hl : ¬ ((n : Int).natAbs.log2 ≥ bitsLine) := by
    rw [Int.natAbs_natCast]
    have hb : bitsLine = 134217728 := by first | rfl | decide
    by_cases hz : n = 0
    · subst hz
      rw [hb]
      decide
    · have e : ∀ k : Nat, 256 ^ k = 2 ^ (8 * k) := fun k => by rw [Nat.pow_mul]
      rw [e] at hn
      have h1 := (Nat.log2_lt hz).mpr hn
      omega
  rw [if_neg hl]
  exact wpAny_mkInt h

theorem from_tree {b : Array UInt8} {t u : Tok} {P : Fin → Shared → Prop} (hl : b.size ≤ 64) (h : P (.done (.ret (.int (KFB.value (KBw.bInts b)) s.toks))) { s with toks := s.toks + 1 }) :
    wpAny M A (Builtin.«int.from_bytes» ⟨[.type "int", .bytes b t, .str (PySem.Str.ofString "big") u], []⟩) P E s := by
  have hv : ((b.toList.foldl (fun (acc : Nat) (b : UInt8) => acc * 256 + b.toNat) 0 : Nat) : Int) = KFB.value (KBw.bInts b) := KFB.fold_cast b.toList 0
  have hn : b.toList.foldl (fun (acc : Nat) (b : UInt8) => acc * 256 + b.toNat) 0 < 256 ^ 64 := by
    have h1 := KFB.fold_lt b.toList 0
    rw [Nat.zero_add, Nat.one_mul, Array.length_toList] at h1
    have h2 : 256 ^ b.size ≤ 256 ^ 64 := Nat.pow_le_pow_right (by decide) hl
    exact Nat.lt_of_lt_of_le h1 h2
  unfold Builtin.«int.from_bytes»
  refine wpAny_bind (wpAny_of_eq (a := true) KFB.type_int ?_)
  refine KFB.if_not rfl ?_
  refine wpAny_bind (wpAny_of_eq (a := true) F.conv_sub_int ?_)
  refine KFB.if_not rfl ?_
  refine wpAny_bind (wpAny_of_eq (a := [some (.bytes b t), some (.str (PySem.Str.ofString "big") u), none]) (by kernel_rfl) ?_)
  refine wpAny_bind (wpAny_of_eq (a := PySem.Str.ofString "big") (by kernel_rfl) ?_)
  refine wpAny_bind (wpAny_of_eq (a := false) rfl ?_)
  refine wpAny_bind (wpAny_of_eq (a := false) (by kernel_rfl) ?_)
  refine wpAny_bind (wpAny_of_eq (a := b) rfl ?_)
  show wpAny _ _ (mkIntGrown (b.toList.foldl (fun (acc : Int) (b : UInt8) => acc * 256 + (b.toNat : Int)) ((0 : Nat) : Int)) >>= fun v => _) _ _ _
  rw [KFB.foldI_eq]
  refine wpAny_bind (grown64 hn ?_)
  rw [hv]
  refine KFB.if_so (by decide +kernel) ?_
  exact wpAny_bind (wpAny_pure (wpAny_pure h))

theorem call_from {h₀ : Heap} {L : Addr} {news : List (Addr × Obj)} {x : Addr} {b : Array UInt8} {t u : Tok} {ks : List Int} {Q : Value → Shared → Prop} (N : News h₀ L s.heap news) (hm : (x, KFB.bound) ∈ news) (hb : KBw.bInts b = ks) (hl : ks.length ≤ 64)
    (h : ∀ t' k, Q (.int (KFB.value ks) t') { s with toks := k }) : wpAny (model prog w) A (call (.ref x) [.bytes b t, .str (PySem.Str.ofString "big") u]) Q E s := by
  subst hb
  exact KFB.call_of (KFB.at_of N hm) (fun z => from_tree (by rw [← KBw.ints_length]; exact hl) z) (h _ _)

/-- to_bytes by the greatest first: the looks ahead of the three ends -/
theorem to_head {x : Int} {k : Nat} {t u v : Tok} {Q : Value → Shared → Prop} (hk : k ≤ 64) (hA : A.handled = none)
    (h0 : x < 0 → ∀ h' tk e, Heap.NewExc s.heap h' e "OverflowError" → E (.ref e) { s with heap := h', toks := tk })
    (h1 : 256 ^ k ≤ x → ∀ h' tk e, Heap.NewExc s.heap h' e "OverflowError" → E (.ref e) { s with heap := h', toks := tk })
    (h2 : 0 ≤ x → x < 256 ^ k → ∀ (b : Array UInt8) t' k', KBw.bInts b = big k x → Q (.bytes b t') { s with toks := k' }) :
    wpAny (model prog w) A (call (.builtin "int.to_bytes") [.int x t, .int (k : Int) u, .str (PySem.Str.ofString "big") v]) Q E s := by
  refine wpAny_call_entry KTBy.slot (typeIs_int s x t) KTBy.entry ?_ (KTBy.args _ _ _)
  show wpAny _ _ (Builtin.Int.intOfSelf (.int x t) >>= fun y => _) _ _ s
  refine wpAny_bind (wpAny_of_eq (a := x) rfl ?_)
  show wpAny _ _ (Builtin.Int.intBindNamed "to_bytes" ["length", "byteorder", "signed"] 0 2 [.int (k : Int) u, .str (PySem.Str.ofString "big") v] [] >>= fun l => _) _ _ s
  refine wpAny_bind (wpAny_of_eq (a := [some (.int (k : Int) u), some (.str (PySem.Str.ofString "big") v), none]) (by kernel_rfl) ?_)
  show wpAny _ _ (Builtin.Int.intIndex "int.to_bytes" (.int (k : Int) u) >>= fun n => _) _ _ s
  refine wpAny_bind (wpAny_of_eq (a := (k : Int)) rfl ?_)
  refine KTBy.if_not (by show (decide ((k : Int) < -(2 ^ 63 : Int)) || decide ((k : Int) ≥ 2 ^ 63)) = false; rw [decide_eq_false (show ¬ ((k : Int) < -(2 ^ 63 : Int)) by omega), decide_eq_false (show ¬ ((k : Int) ≥ 2 ^ 63) by omega)]; rfl) ?_
  refine wpAny_bind (wpAny_of_eq (a := PySem.Str.ofString "big") (by kernel_rfl) ?_)
  refine wpAny_bind (wpAny_of_eq (a := false) rfl ?_)
  refine wpAny_bind (wpAny_of_eq (a := false) (by kernel_rfl) ?_)
  refine wpAny_ite_false (decide_eq_false (show ¬ ((k : Int) < 0) by omega)) ?_
  refine wpAny_ite_false (decide_eq_false (show ¬ ((k : Int) > 2 ^ 63 - 1 - 33) by omega)) ?_
  refine wpAny_ite_false (decide_eq_false (show ¬ ((k : Int) > (sizeLine : Int)) by rw [sizeLine_eq]; omega)) ?_
  by_cases hx : x < 0
  · refine KFB.if_so (by show (decide (x < 0) && !false) = true; rw [decide_eq_true hx]; rfl) ?_
    refine wpAny_bind (wpAny_rule ?_)
    refine wpAny_bind ?_
    exact raiseErrorWords_exc PyProof.Rows.excClass_OverflowError (by exact hA) (h0 hx)
  · refine KTBy.if_not (by show (decide (x < 0) && !false) = false; rw [decide_eq_false hx]; rfl) ?_
    by_cases hb : x < 256 ^ k
    · have hbits := KTBy.bits_le (B := 256 ^ k) rfl (by omega) hb
      refine KTBy.if_not (by show (_ && decide ((intBits x : Int) > 8 * (k : Int))) = false; rw [decide_eq_false (show ¬ ((intBits x : Int) > 8 * (k : Int)) by omega), Bool.and_false]) ?_
      refine wpAny_bind (wpAny_mkBytes (wpAny_pure ⟨_, rfl, h2 (by omega) hb _ _ _ ?_⟩) (by show (List.reverse (KTBy.low x (Int.toNat (k : Int)))).length ≤ sizeLine; rw [List.length_reverse, KTBy.low_length, Int.toNat_natCast, sizeLine_eq]; omega))
      show (List.map (fun c : UInt8 => ((c.toNat : Nat) : Int)) (List.reverse (KTBy.low x (Int.toNat (k : Int))))) = (KTBy.little k x).reverse
      rw [Int.toNat_natCast, List.map_reverse, KTBy.low_ints (by omega) hb, ← KTBy.little_eq]
    · have hp := pow256_pos k
      have hne : (x != 0) = true := by simp; omega
      have hbits : ¬ intBits x ≤ 8 * k := by
        intro q
        have q2 := intBits_le_iff.mp q
        have e2 : (2 : Nat) ^ 8 = 256 := by decide
        rw [Nat.pow_mul, e2] at q2
        rw [KTBy.p256] at hb
        omega
      refine KFB.if_so (by show ((x != 0) && decide ((intBits x : Int) > 8 * (k : Int))) = true; rw [hne, decide_eq_true (show ((intBits x : Int) > 8 * (k : Int)) by omega)]; rfl) ?_
      refine wpAny_bind (wpAny_rule ?_)
      refine wpAny_bind ?_
      exact raiseErrorWords_exc PyProof.Rows.excClass_OverflowError (by exact hA) (h1 (by omega))
end
end Mine

-- part C1
namespace Mine

local macro_rules | `(tactic| walk_at "call type:zip") => `(tactic| ((with_reducible show wpAny _ _ (call (Value.type _) [Value.bytes _ _, Value.bytes _ _]) (fun xv s₁ => wpAny _ _ (pyIter xv) (fun it s₂ => PairAt3 _ _ _ _ _ _ _ _ _ _ it s₂) _ s₁) _ _); (with_unfolding_all refine call_zip_bytes rfl (by assumption) (by assumption) (by assumption) (by assumption) ?_); intro _ _ _ _ _))
local macro_rules | `(tactic| walk_at "call type:zip") => `(tactic| ((with_reducible show wpAny _ _ (call (Value.type _) [Value.str _ _, Value.str _ _]) (fun xv s₁ => wpAny _ _ (pyIter xv) (fun it s₂ => PairAt3 _ _ _ _ _ _ _ _ _ _ it s₂) _ s₁) _ _); (with_unfolding_all refine call_zip_strs rfl (by assumption) (by assumption) ?_); intro _ _ _ _ _))

theorem consteq_bb {p : Program} {loose : List Str} {w : World} {mean mg mb} {b c : Array UInt8} {ks ls : List Int} {t u : Tok} (hb : KBw.bInts b = ks) (hc : KBw.bInts c = ls) (hlk : ks.length ≤ 64) (hll : ls.length ≤ 64) :
    Gives p loose w mean mg mb 4 32 21 [.bytes b t, .bytes c u] (fun v => v = .bool (decide (ks = ls))) := by
  unfold Gives
  w_top off
  k_fill
  intro dp un gd cn cs a ccd cl outer A₀ base h₀ L m news s Q E B F X N T hk hd hu hret
  refine wpAny_call ?_
  k_dflt cell_enter
  k_steps
  all_goals first
    | (exfalso; omega)
    | exact hret _ _ _ (congrArg Value.bool (same_fold (in_nonneg (in_of hb)) (in_nonneg (in_of hc)) (by assumption))) (by k_asm) (by k_asm)
    | exact hret _ _ _ (congrArg Value.bool (unlike_fold (in_nonneg (in_of hc)) (in_nonneg (in_of hc)) (by assumption))) (by k_asm) (by k_asm)

end Mine

-- part C1b
namespace Mine
local macro_rules | `(tactic| walk_at "zz") => `(tactic| skip)
local macro_rules | `(tactic| walk_at "zz") => `(tactic| skip)
local macro_rules | `(tactic| walk_at "zz") => `(tactic| skip)

abbrev ordI (a : Str) : Int := ((a.cps.getD 0 0 : Nat) : Int)
theorem signs_ord (x : Str) : (signs x).map ordI = x.cps.toList.map fun n => ((n : Nat) : Int) := by
  unfold signs
  rw [List.map_map]
  rfl
theorem fold_ords (as bs : List Str) (T : Int) : (as.zip bs).foldl (fun T p => Builtin.bitOr T (Builtin.bitXor (ordI p.1) (ordI p.2))) T
    = ((as.map ordI).zip (bs.map ordI)).foldl (fun T p => Builtin.bitOr T (Builtin.bitXor p.1 p.2)) T := by
  rw [List.zip_map, List.foldl_map]
  rfl
theorem ords_nonneg (x : Str) : ∀ k ∈ (signs x).map ordI, 0 ≤ k := fun k hk => by
  obtain ⟨a, _, rfl⟩ := List.mem_map.mp hk
  exact Int.natCast_nonneg _
theorem ords_inj {x y : Str} : (signs x).map ordI = (signs y).map ordI ↔ x = y := by
  rw [signs_ord, signs_ord]
  constructor
  · intro h
    have e : x.cps.toList = y.cps.toList := by
      have := congrArg (List.map Int.toNat) h
      simpa [List.map_map, Function.comp_def] using this
    cases x; cases y
    have e2 := congrArg List.toArray e
    simp at e2
    rw [e2]
  · intro h; rw [h]
theorem same_foldS {x y : Str} (h : (x.length : Int) = (y.length : Int)) :
    (((signs x).zip (signs y)).foldl (fun T p => Builtin.bitOr T (Builtin.bitXor (ordI p.1) (ordI p.2))) 0 == 0) = decide (x = y) := by
  rw [fold_ords, same_fold (ords_nonneg x) (ords_nonneg y) (by rw [List.length_map, List.length_map, signs_length, signs_length]; exact h)]
  exact decide_eq_decide.mpr ords_inj
theorem unlike_foldS {x y z : Str} (h : (x.length : Int) ≠ (y.length : Int)) :
    (((signs z).zip (signs y)).foldl (fun T p => Builtin.bitOr T (Builtin.bitXor (ordI p.1) (ordI p.2))) 1 == 0) = decide (x = y) := by
  rw [fold_ords, unlike_fold (ks := (signs x).map ordI) (ords_nonneg z) (ords_nonneg y) (by rw [List.length_map, List.length_map, signs_length, signs_length]; exact h)]
  exact decide_eq_decide.mpr ords_inj

local macro_rules | `(tactic| walk_at "call type:zip") => `(tactic| ((with_reducible show wpAny _ _ (call (Value.type _) [Value.str _ _, Value.str _ _]) (fun xv s₁ => wpAny _ _ (pyIter xv) (fun it s₂ => PairAt3 _ _ _ _ _ _ _ _ _ _ it s₂) _ s₁) _ _); (with_unfolding_all refine call_zip_strs rfl (by assumption) (by assumption) ?_); intro _ _ _ _ _))
local macro_rules | `(tactic| walk_at "call builtin:ord") => `(tactic| (refine ord_of_one (len_of_sign (List.mem_of_getElem? (by assumption))) ?_))

local macro_rules | `(tactic| walk_at "pyIter ref") => `(tactic| ((with_reducible show wpAny _ _ _ (fun it s₂ => PairAt3 _ _ _ _ _ _ _ _ _ _ it s₂) _ _); (rename PairSrc2L _ _ _ _ _ _ _ _ _ _ _ _ _ _ => S2'); (with_unfolding_all refine' Pair2_acc (stp := fun T a b => Builtin.bitOr T (Builtin.bitXor (ordI a) (ordI b))) (PairSrc2L.at S2' _ rfl) ?ht ?hmt ?h0 ?htc ?hti ?_ ?_); (case ht => with_unfolding_all rfl); (case hmt => with_unfolding_all rfl); (case h0 => first | exact ItemKind.int_mk _ _ | exact ItemKind.str_mk _ _); (case htc => decide); (case hti => decide); (intro _ _ _ _ _ _ _ _ _ hgx' hgy' hi' hj' hT' _ _; (obtain ⟨_, e1'⟩ := ItemKind.str_is hi'; subst e1'); (obtain ⟨_, e3'⟩ := ItemKind.str_is hj'; subst e3'); (obtain ⟨_, e2'⟩ := ItemKind.int_is hT'; subst e2')); rotate_left; (intro _ _ _ _ _ _ _ hT'; (obtain ⟨_, e2'⟩ := ItemKind.int_is hT'; subst e2')); rotate_left))

theorem consteq_ss {p : Program} {loose : List Str} {w : World} {mean mg mb} {x y : Str} {t u : Tok} (hlk : x.length ≤ 64) (hll : y.length ≤ 64) :
    Gives p loose w mean mg mb 4 32 21 [.str x t, .str y u] (fun v => v = .bool (decide (x = y))) := by
  unfold Gives
  w_top off
  k_fill
  intro dp un gd cn cs a ccd cl outer A₀ base h₀ L m news s Q E B F X N T hk hd hu hret
  refine wpAny_call ?_
  k_dflt cell_enter
  k_steps
  all_goals first
    | (exfalso; omega)
    | exact hret _ _ _ (congrArg Value.bool (same_foldS (by assumption))) (by k_asm) (by k_asm)
    | exact hret _ _ _ (congrArg Value.bool (unlike_foldS (by assumption))) (by k_asm) (by k_asm)
end Mine

-- part C2
namespace Mine
local macro_rules | `(tactic| walk_at "zz") => `(tactic| skip)
local macro_rules | `(tactic| walk_at "zz") => `(tactic| skip)
local macro_rules | `(tactic| walk_at "zz") => `(tactic| skip)
local macro_rules | `(tactic| walk_at "zz") => `(tactic| skip)
local macro_rules | `(tactic| walk_at "zz") => `(tactic| skip)
local macro_rules | `(tactic| walk_at "zz") => `(tactic| skip)
local macro_rules | `(tactic| walk_at "zz") => `(tactic| skip)

local macro_rules | `(tactic| walk_at "call ref") => `(tactic| (k_here; (with_reducible show wpAny _ _ (call (Value.ref _) [Value.bytes _ _, Value.str _ _]) _ _ _); kfb_any; (refine call_from (by k_asm) (by k_mem) (by assumption) (by assumption) ?_); intro _ _))

theorem bti {p : Program} {loose : List Str} {w : World} {mean mg mb} {b : Array UInt8} {ks : List Int} {t : Tok} (hb : KBw.bInts b = ks) (hlk : ks.length ≤ 64) :
    Gives p loose w mean mg mb 2 16 28 [.bytes b t] (fun v => ∃ t, v = .int (KFB.value ks) t) := by
  unfold Gives
  w_top off
  k_fill
  intro dp un gd cn cs a ccd cl outer A₀ base h₀ L m news s Q E B F X N T hk hd hu hret
  refine wpAny_call ?_
  k_dflt cell_enter
  k_steps
  all_goals first
    | exact hret _ _ _ ⟨_, rfl⟩ (by k_asm) (cb_drop (by assumption) (fun p hp => List.mem_cons_of_mem _ hp))

local macro_rules | `(tactic| walk_at "call builtin:int.to_bytes") => `(tactic| (k_here; k_dflt (show wpAny _ _ (call (Value.builtin "int.to_bytes") [Value.int _ _, Value.int _ _, Value.str _ _]) _ _ _); (refine to_head (by assumption) rfl (fun h1 => absurd h1 (by omega)) (fun h1 => absurd h1 (by omega)) ?_); (intro _ _ _ _ _ ktbIn)))

theorem itb {p : Program} {loose : List Str} {w : World} {mean mg mb} {x : Int} {k : Nat} {t u : Tok} (hk64 : k ≤ 64) (hx0 : 0 ≤ x) (hx1 : x < 256 ^ k) :
    Gives p loose w mean mg mb 2 16 35 [.int x t, .int (k : Int) u] (fun v => ∃ b t, v = .bytes b t ∧ KBw.bInts b = big k x) := by
  unfold Gives
  k_fill
  intro dp un gd cn cs a ccd cl outer A₀ base h₀ L m news s Q E B F X N T hk hd hu hret
  refine wpAny_call ?_
  k_dflt cell_enter
  k_steps
  all_goals first
    | exact hret _ _ _ ⟨_, _, rfl, by assumption⟩ (by k_asm) (by k_asm)

local macro_rules | `(tactic| walk_at "call ref") => `(tactic| (k_here; (with_reducible show wpAny _ _ (call (Value.ref 28) [Value.bytes _ _]) _ _ _); k_dflt (refine' Gives.use (bti (by assumption) (by assumption)) ?k1 ?k2 ?k3 ?k4 ?k5 ?kK ?kd ?ku ?_; (case k1 => k_asm); (case k2 => k_asm); (case k3 => k_asm); (case k4 => k_asm); (case k5 => k_asm); (case kK => first | exact rfl | assumption); (case kd => ktr_room); (case ku => ktr_units)); (intro _ _ _ rv F9 N9); (obtain ⟨_, rvE⟩ := rv); subst rvE; (try dsimp only); (try k_fold)))
local macro_rules | `(tactic| walk_at "call ref") => `(tactic| (k_here; (with_reducible show wpAny _ _ (call (Value.ref 35) [Value.int _ _, Value.int _ _]) _ _ _); k_dflt (refine' Gives.use (itb (by assumption) (by assumption) (by assumption)) ?k1 ?k2 ?k3 ?k4 ?k5 ?kK ?kd ?ku ?_; (case k1 => k_asm); (case k2 => k_asm); (case k3 => k_asm); (case k4 => k_asm); (case k5 => k_asm); (case kK => first | exact rfl | assumption); (case kd => ktr_room); (case ku => ktr_units)); (intro _ _ _ rv F9 N9); (obtain ⟨_, _, rvE, itbIn⟩ := rv); subst rvE; (try dsimp only); (try k_fold)))

theorem xob {p : Program} {loose : List Str} {w : World} {mean mg mb} {b c : Array UInt8} {ks ls : List Int} {t u : Tok} (hb : KBw.bInts b = ks) (hc : KBw.bInts c = ls) (hlk : ks.length ≤ 64) (hll : ls.length ≤ 64) (hcl : clear ks ls = true) :
    Gives p loose w mean mg mb 4 32 42 [.bytes b t, .bytes c u] (fun v => ∃ b t, v = .bytes b t ∧ KBw.bInts b = crossL ks (fit ks.length ls)) := by
  have hx := cross_clear (in_of hb) (in_of hc) hcl
  have hr := value_range (in_cross (in_of hb) (in_fit (in_of hc) ks.length))
  have hx0 : 0 ≤ Builtin.bitXor (KFB.value ks) (KFB.value ls) := by rw [hx]; exact hr.1
  have hx1 : Builtin.bitXor (KFB.value ks) (KFB.value ls) < 256 ^ ks.length := by rw [hx]; have := hr.2; rw [cross_length] at this; exact this
  have hbig := big_value (in_cross (in_of hb) (in_fit (in_of hc) ks.length)) (cross_length ks ls)
  rw [← hx] at hbig
  clear hr hx
  unfold Gives
  k_fill
  intro dp un gd cn cs a ccd cl outer A₀ base h₀ L m news s Q E B F X N T hk hd hu hret
  refine wpAny_call ?_
  k_dflt cell_enter
  k_steps
  all_goals first
    | exact hret _ _ _ ⟨_, _, rfl, by rw [← hbig]; assumption⟩ (by k_asm) (by k_asm)
end Mine

-- part C3
namespace Mine
local macro_rules | `(tactic| walk_at "zz") => `(tactic| skip)
local macro_rules | `(tactic| walk_at "zz") => `(tactic| skip)
local macro_rules | `(tactic| walk_at "zz") => `(tactic| skip)
local macro_rules | `(tactic| walk_at "zz") => `(tactic| skip)
local macro_rules | `(tactic| walk_at "zz") => `(tactic| skip)
local macro_rules | `(tactic| walk_at "zz") => `(tactic| skip)
local macro_rules | `(tactic| walk_at "zz") => `(tactic| skip)
local macro_rules | `(tactic| walk_at "zz") => `(tactic| skip)
local macro_rules | `(tactic| walk_at "zz") => `(tactic| skip)
local macro_rules | `(tactic| walk_at "zz") => `(tactic| skip)
local macro_rules | `(tactic| walk_at "zz") => `(tactic| skip)
local macro_rules | `(tactic| walk_at "zz") => `(tactic| skip)
local macro_rules | `(tactic| k_room) => `(tactic| ktr_room)
local macro_rules | `(tactic| walk_at "binaryOp Add bytes bytes") => `(tactic| (k_here; (with_reducible show wpAny _ _ (binaryOp Operator.Add (Value.bytes _ _) (Value.bytes _ _)) _ _ _); (refine KBy.add_bytes (by rw [rep_size, size_of (by assumption)]; omega) ?_); intro _ _))

theorem rps_end {b : Array UInt8} {ks : List Int} {size : Int} {p : UInt8} (hb : KBw.bInts b = ks) (hlk : ks.length ≤ 20) (h0 : 0 ≤ size) (h1 : size ≤ 20) (h : size > (ks.length : Int)) :
    KBw.bInts (b ++ (List.replicate (size - (ks.length : Int)).toNat [p]).flatten.toArray) = (ks ++ List.replicate 21 ((p.toNat : Nat) : Int)).take size.toNat := by
  rw [KBw.ints_app hb (rep_ints p _), pad_take (by omega), if_pos (by omega)]
  have e : (size - (ks.length : Int)).toNat = size.toNat - ks.length := by omega
  rw [e]
theorem rps_end2 {b : Array UInt8} {ks : List Int} {size : Int} {p : Int} (hb : KBw.bInts b = ks) (hlk : ks.length ≤ 20) (h0 : 0 ≤ size) (h1 : size ≤ 20) (h : ¬ size > (ks.length : Int)) :
    KBw.bInts (KBy.picked b none (some size)) = (ks ++ List.replicate 21 p).take size.toNat := by
  rw [picked_take hb h0, pad_take (by omega), if_neg (by omega)]

theorem rps_b {p : Program} {loose : List Str} {w : World} {mean mg mb} {b : Array UInt8} {ks : List Int} {size : Int} {t u : Tok} (hb : KBw.bInts b = ks) (hlk : ks.length ≤ 20) (h0 : 0 ≤ size) (h1 : size ≤ 20) :
    Gives p loose w mean mg mb 4 32 57 [.bytes b t, .int size u] (fun v => ∃ b t, v = .bytes b t ∧ KBw.bInts b = (ks ++ List.replicate 21 0).take size.toNat) := by
  unfold Gives
  w_top off
  k_fill
  intro dp un gd cn cs a ccd cl outer A₀ base h₀ L m news s Q E B F X N T hk hd hu hret
  obtain ⟨ck, cnm, cg, cco, cmo⟩ := cs
  cases hk
  k_steps
  all_goals first
    | exact hret _ _ _ ⟨_, _, rfl, rps_end hb hlk h0 h1 (by omega)⟩ (by k_asm) (by k_asm)
    | exact hret _ _ _ ⟨_, _, rfl, rps_end2 hb hlk h0 h1 (by omega)⟩ (by k_asm) (by k_asm)

theorem rps_bp {p : Program} {loose : List Str} {w : World} {mean mg mb} {b : Array UInt8} {ks : List Int} {size : Int} {t u v : Tok} {q : UInt8} (hb : KBw.bInts b = ks) (hlk : ks.length ≤ 20) (h0 : 0 ≤ size) (h1 : size ≤ 20) :
    Gives p loose w mean mg mb 4 32 57 [.bytes b t, .int size u, .bytes [q].toArray v] (fun v => ∃ b t, v = .bytes b t ∧ KBw.bInts b = (ks ++ List.replicate 21 ((q.toNat : Nat) : Int)).take size.toNat) := by
  unfold Gives
  k_fill
  intro dp un gd cn cs a ccd cl outer A₀ base h₀ L m news s Q E B F X N T hk hd hu hret
  obtain ⟨ck, cnm, cg, cco, cmo⟩ := cs
  cases hk
  k_steps
  all_goals first
    | exact hret _ _ _ ⟨_, _, rfl, rps_end hb hlk h0 h1 (by omega)⟩ (by k_asm) (by k_asm)
    | exact hret _ _ _ ⟨_, _, rfl, rps_end2 hb hlk h0 h1 (by omega)⟩ (by k_asm) (by k_asm)

theorem str_ext {x y : Str} (h : x.cps.toList = y.cps.toList) : x = y := by
  cases x; cases y
  have e := congrArg List.toArray h
  simp at e
  rw [e]
theorem slice_cps {x : Str} {j : Int} (h0 : 0 ≤ j) (h1 : j ≤ (x.length : Int)) : (Txt.slice x none (some j)).cps.toList = x.cps.toList.take j.toNat := by
  have h := slice_closes_toL h0 h1
  have e : Txt.slice x none (some j) = _ := eq_of_beq h
  rw [e]
  simp
theorem foldl_app {α : Type} (p : α) : ∀ (n : Nat) (acc : Array α), ((List.replicate n #[p]).foldl (· ++ ·) acc).toList = acc.toList ++ List.replicate n p
  | 0, acc => by simp
  | n + 1, acc => by
    rw [List.replicate_succ, List.foldl_cons, foldl_app p n, Array.toList_append, List.append_assoc]
    rfl
theorem mul_cps (c : Nat) {n : Int} (h : 0 ≤ n) : (Txt.mul ⟨#[c]⟩ n).cps.toList = List.replicate n.toNat c := by
  unfold Txt.mul
  by_cases h1 : n < 1
  · rw [if_pos h1]
    have e : n.toNat = 0 := by omega
    rw [e]; rfl
  · rw [if_neg h1]
    by_cases h2 : (n == 1 || Str.length ⟨#[c]⟩ == 0) = true
    · rw [if_pos h2]
      have e : n = 1 := by
        simpa [Str.length] using h2
      rw [e]; rfl
    · rw [if_neg h2]
      simpa using foldl_app c n.toNat #[]
theorem zero_str : Str.ofString "\x00" = ⟨#[0]⟩ := by decide
theorem app_cps (x y : Str) : (x ++ y).cps.toList = x.cps.toList ++ y.cps.toList := by
  rw [Str.cps_append, Array.toList_append]
theorem len_cps (x : Str) : x.cps.toList.length = x.length := by simp [Str.length]
theorem pad_len (x : Str) : ((x ++ Txt.mul (Str.ofString "\x00") 21).length : Int) = (x.length : Int) + 21 := by
  rw [← len_cps, app_cps, List.length_append, len_cps, zero_str, mul_cps 0 (by decide), List.length_replicate]
  rfl
abbrev padded (x : Str) (size : Int) : Str := Txt.slice (x ++ Txt.mul (Str.ofString "\x00") 21) none (some size)
theorem padded_cps {x : Str} {size : Int} (h0 : 0 ≤ size) (h1 : size ≤ 20) : (padded x size).cps.toList = (x.cps.toList ++ List.replicate 21 0).take size.toNat := by
  rw [slice_cps h0 (by rw [pad_len]; omega), app_cps, zero_str, mul_cps 0 (by decide)]
  rfl
theorem rps_send {x : Str} {size : Int} (h0 : 0 ≤ size) (h1 : size ≤ 20) (h : size > (x.length : Int)) : x ++ Txt.mul (Str.ofString "\x00") (size - (x.length : Int)) = padded x size := by
  refine str_ext ?_
  rw [padded_cps h0 h1, app_cps, zero_str, mul_cps 0 (by omega), pad_take (by omega), if_pos (by rw [len_cps]; omega), len_cps]
  have e : (size - (x.length : Int)).toNat = size.toNat - x.length := by omega
  rw [e]
theorem rps_send2 {x : Str} {size : Int} (h0 : 0 ≤ size) (h1 : size ≤ 20) (h : ¬ size > (x.length : Int)) : Txt.slice x none (some size) = padded x size := by
  refine str_ext ?_
  rw [padded_cps h0 h1, slice_cps h0 (by omega), pad_take (by omega), if_neg (by rw [len_cps]; omega)]

theorem rps_s {p : Program} {loose : List Str} {w : World} {mean mg mb} {x : Str} {size : Int} {t u : Tok} (hlk : x.length ≤ 20) (h0 : 0 ≤ size) (h1 : size ≤ 20) :
    Gives p loose w mean mg mb 4 32 57 [.str x t, .int size u] (fun v => ∃ t, v = .str (padded x size) t) := by
  unfold Gives
  k_fill
  intro dp un gd cn cs a ccd cl outer A₀ base h₀ L m news s Q E B F X N T hk hd hu hret
  obtain ⟨ck, cnm, cg, cco, cmo⟩ := cs
  cases hk
  k_steps
  all_goals first
    | exact hret _ _ _ ⟨_, congrArg (Value.str · _) (rps_send h0 h1 (by omega))⟩ (by k_asm) (by k_asm)
    | exact hret _ _ _ ⟨_, congrArg (Value.str · _) (rps_send2 h0 h1 (by omega))⟩ (by k_asm) (by k_asm)
end Mine

-- part C4
namespace Mine
local macro_rules | `(tactic| walk_at "zz") => `(tactic| skip)
local macro_rules | `(tactic| walk_at "zz") => `(tactic| skip)
local macro_rules | `(tactic| walk_at "zz") => `(tactic| skip)
local macro_rules | `(tactic| walk_at "zz") => `(tactic| skip)
local macro_rules | `(tactic| walk_at "zz") => `(tactic| skip)
local macro_rules | `(tactic| walk_at "zz") => `(tactic| skip)
local macro_rules | `(tactic| walk_at "zz") => `(tactic| skip)
local macro_rules | `(tactic| walk_at "zz") => `(tactic| skip)
local macro_rules | `(tactic| walk_at "zz") => `(tactic| skip)
local macro_rules | `(tactic| walk_at "zz") => `(tactic| skip)
local macro_rules | `(tactic| walk_at "zz") => `(tactic| skip)
local macro_rules | `(tactic| walk_at "zz") => `(tactic| skip)
local macro_rules | `(tactic| walk_at "zz") => `(tactic| skip)
local macro_rules | `(tactic| walk_at "zz") => `(tactic| skip)
local macro_rules | `(tactic| k_room) => `(tactic| ktr_room)

section
variable {prog : Program} {w : World} {A : Around} {E : Value → Shared → Prop} {s : Shared}
theorem mul_bytes {b : Array UInt8} {ks : List Int} {n : Int} {t u : Tok} {Q : Value → Shared → Prop} (hb : KBw.bInts b = ks) (hne : 0 < ks.length) (hs : ks.length ≤ 16) (hlo : -1048576 ≤ n) (hn : n ≤ 1048576)
    (h : ∀ r t' k, KBw.bInts r = (List.replicate n.toNat ks).flatten → Q (.bytes r t') { s with toks := k }) : wpAny (model prog w) A (binaryOp .Mult (.bytes b t) (.int n u)) Q E s := by
  have e : b.toList.toArray = b := Array.toArray_toList
  have hsz := size_of hb
  rw [← e]
  refine bytes_mul_any (fun q => ?_) hlo hn ?_ fun t' k => h _ t' k ?_
  · have : b.toList.length = 0 := by rw [q]; rfl
    rw [Array.length_toList] at this
    omega
  · rw [Array.length_toList]; omega
  · rw [KBw.ints_list, List.map_flatten, List.map_replicate]
    rw [← hb]
    rfl
end

theorem rep_take (ks : List Int) : ∀ (c m : Nat), m ≤ c * ks.length → ((List.replicate c ks).flatten).take m = (List.range m).map fun k => ks.getD (k % ks.length) 0 := by
  intro c
  induction c with
  | zero => intro m h; have : m = 0 := by omega
            subst this; rfl
  | succ c ih =>
    intro m h
    rw [List.replicate_succ, List.flatten_cons, List.take_append]
    by_cases hm : m ≤ ks.length
    · have e : m - ks.length = 0 := by omega
      rw [e, List.take_zero, List.append_nil]
      refine List.ext_getElem (by simp; omega) fun i h1 h2 => ?_
      have hi : i < ks.length := by simp at h1; omega
      rw [List.getElem_take, List.getElem_map, List.getElem_range, Nat.mod_eq_of_lt hi]
      simp [List.getD, hi]
    · have hpos : 0 < ks.length := by
        rcases Nat.eq_zero_or_pos ks.length with q | q
        · rw [q] at h; omega
        · exact q
      rw [ih (m - ks.length) (by rw [Nat.succ_mul] at h; omega), List.take_of_length_le (by omega)]
      have e : m = ks.length + (m - ks.length) := by omega
      conv => rhs; rw [e, List.range_add, List.map_append, List.map_map]
      congr 1
      · refine List.ext_getElem (by simp) fun i h1 h2 => ?_
        rw [List.getElem_map, List.getElem_range, Nat.mod_eq_of_lt h1]
        simp [List.getD, h1]
      · refine List.map_congr_left fun k _ => ?_
        show _ = ks.getD ((ks.length + k) % ks.length) 0
        rw [Nat.add_mod_left]

/-- a row said again to m octets -/
abbrev saidL (ks : List Int) (m : Nat) : List Int := (List.range m).map fun k => ks.getD (k % ks.length) 0

theorem mult_facts {l m : Nat} (hl : 0 < l) (hm : m ≤ 64) : 0 ≤ 1 + ((m : Int) - 1).fdiv (l : Int) ∧ 1 + ((m : Int) - 1).fdiv (l : Int) ≤ 64 ∧ m ≤ (1 + ((m : Int) - 1).fdiv (l : Int)).toNat * l := by
  rw [Int.fdiv_eq_ediv_of_nonneg _ (by omega)]
  rcases Nat.eq_zero_or_pos m with h | h
  · subst h
    have e : (((0 : Nat) : Int) - 1) / (l : Int) = -1 := by
      have := Int.ediv_emod_unique (a := -1) (b := (l : Int)) (q := -1) (r := (l : Int) - 1) (by omega)
      have h2 := this.mpr ⟨by omega, by omega, by omega⟩
      simpa using h2.1
    rw [e]; omega
  · have e1 : ((m : Int) - 1) = ((m - 1 : Nat) : Int) := by omega
    rw [e1, ← Int.natCast_ediv]
    have h1 : (m - 1) / l ≤ m - 1 := Nat.div_le_self _ _
    have h2 := Nat.div_add_mod (m - 1) l
    have h3 := Nat.mod_lt (m - 1) hl
    generalize (m - 1) / l = q at h1 h2 ⊢
    have e2 : (1 + (q : Int)).toNat = q + 1 := by omega
    rw [e2, Nat.succ_mul, Nat.mul_comm]
    omega

local macro_rules | `(tactic| walk_at "binaryOp Mult bytes int") => `(tactic| (k_here; (with_reducible show wpAny _ _ (binaryOp Operator.Mult (Value.bytes _ _) (Value.int _ _)) _ _ _); (refine mul_bytes (by assumption) (by assumption) (by assumption) (by omega) (by omega) ?_); (intro _ _ _ mulIn)))
local macro_rules | `(tactic| walk_at "subscriptTail") => `(tactic| (k_here; (with_reducible show wpAny _ _ (subscriptTail _ (Expr.Slice _ _ none _) (Value.bytes _ _) (Value.ref _)) _ _ _); (with_reducible rename Fr _ _ _ _ => F'); (with_reducible rename News _ _ _ _ => N'); (refine KBc.slice_K (s := ⟨_, _, _, _, _⟩) F' N' (by assumption) (by constructor) (by constructor) (by assumption) ?_); intro _ _ _ _ _ _))

theorem rpt {p : Program} {loose : List Str} {w : World} {mean mg mb} {b : Array UInt8} {ks : List Int} {m₁ : Nat} {t u : Tok} (hb : KBw.bInts b = ks) (hpos : 0 < ks.length) (hlk : ks.length ≤ 16) (hm₁ : m₁ ≤ 64) :
    Gives p loose w mean mg mb 4 32 49 [.bytes b t, .int (m₁ : Int) u] (fun v => ∃ b t, v = .bytes b t ∧ KBw.bInts b = saidL ks m₁) := by
  obtain ⟨hm0, hm1, hm2⟩ := mult_facts hpos hm₁
  have hfl : (List.replicate (1 + ((m₁ : Int) - 1).fdiv (ks.length : Int)).toNat ks).flatten.length ≤ 16777216 := by
    rw [List.length_flatten, List.map_replicate, List.sum_replicate_nat]
    have : (1 + ((m₁ : Int) - 1).fdiv (ks.length : Int)).toNat * ks.length ≤ 64 * 16 := Nat.mul_le_mul (by omega) hlk
    omega
  unfold Gives
  w_top off
  k_fill
  intro dp un gd cn cs a ccd cl outer A₀ base h₀ L m news s Q E B F X N T hk hd hu hret
  obtain ⟨ck, cnm, cg, cco, cmo⟩ := cs
  cases hk
  k_steps
  all_goals first
    | exact hret _ _ _ ⟨_, _, rfl, by rw [picked_take (by assumption) (by omega), Int.toNat_natCast, rep_take ks _ _ hm2]⟩ (by k_asm) (by k_asm)
end Mine

-- part C5
namespace Mine
local macro_rules | `(tactic| walk_at "zz") => `(tactic| skip)
local macro_rules | `(tactic| walk_at "zz") => `(tactic| skip)
local macro_rules | `(tactic| walk_at "zz") => `(tactic| skip)
local macro_rules | `(tactic| walk_at "zz") => `(tactic| skip)
local macro_rules | `(tactic| walk_at "zz") => `(tactic| skip)
local macro_rules | `(tactic| walk_at "zz") => `(tactic| skip)
local macro_rules | `(tactic| walk_at "zz") => `(tactic| skip)
local macro_rules | `(tactic| walk_at "zz") => `(tactic| skip)
local macro_rules | `(tactic| walk_at "zz") => `(tactic| skip)
local macro_rules | `(tactic| walk_at "zz") => `(tactic| skip)
local macro_rules | `(tactic| walk_at "zz") => `(tactic| skip)
local macro_rules | `(tactic| walk_at "zz") => `(tactic| skip)
local macro_rules | `(tactic| walk_at "zz") => `(tactic| skip)
local macro_rules | `(tactic| walk_at "zz") => `(tactic| skip)
local macro_rules | `(tactic| walk_at "zz") => `(tactic| skip)
local macro_rules | `(tactic| walk_at "zz") => `(tactic| skip)
local macro_rules | `(tactic| walk_at "zz") => `(tactic| skip)
local macro_rules | `(tactic| k_room) => `(tactic| ktr_room)
local macro_rules | `(tactic| walk_at "call ref") => `(tactic| (k_here; (with_reducible show wpAny _ _ (call (Value.ref 42) [Value.bytes _ _, Value.bytes _ _]) _ _ _); k_dflt (refine' Gives.use (xob (by assumption) (by assumption) (by assumption) (by assumption) (by assumption)) ?k1 ?k2 ?k3 ?k4 ?k5 ?kK ?kd ?ku ?_; (case k1 => k_asm); (case k2 => k_asm); (case k3 => k_asm); (case k4 => k_asm); (case k5 => k_asm); (case kK => first | exact rfl | assumption); (case kd => ktr_room); (case ku => ktr_units)); (intro _ _ _ rv F9 N9); (obtain ⟨_, _, rvE, itbIn⟩ := rv); subst rvE; (try dsimp only); (try k_fold)))

theorem lt0_ok {p : Program} {loose : List Str} {w : World} {mean mg mb} {b c : Array UInt8} {ks ls : List Int} {t t' u : Tok} (hb : KBw.bInts b = ks) (hc : KBw.bInts c = ls) (hlk : ks.length ≤ 64) (hll : ls.length ≤ 64) (hcl : clear ks ls = true) :
    Gives p loose w mean mg mb 6 64 71 [.int 0 t', .bytes b t, .bytes c u] (fun v => ∃ b t, v = .bytes b t ∧ KBw.bInts b = crossL ks (fit ks.length ls)) := by
  unfold Gives
  w_top off
  k_fill
  intro dp un gd cn cs a ccd cl outer A₀ base h₀ L m news s Q E B F X N T hk hd hu hret
  obtain ⟨ck, cnm, cg, cco, cmo⟩ := cs
  cases hk
  k_steps
  all_goals first
    | exact hret _ _ _ ⟨_, _, rfl, by assumption⟩ (by k_asm) (by k_asm)

local macro_rules | `(tactic| walk_at "call ref") => `(tactic| (k_here; (with_reducible show wpAny _ _ (call (Value.ref 28) [Value.bytes _ _]) _ _ _); k_dflt (refine' Gives.use (bti (by assumption) (by assumption)) ?k1 ?k2 ?k3 ?k4 ?k5 ?kK ?kd ?ku ?_; (case k1 => k_asm); (case k2 => k_asm); (case k3 => k_asm); (case k4 => k_asm); (case k5 => k_asm); (case kK => first | exact rfl | assumption); (case kd => ktr_room); (case ku => ktr_units)); (intro _ _ _ rv F9 N9); (obtain ⟨_, rvE⟩ := rv); subst rvE; (try dsimp only); (try k_fold)))
local macro_rules | `(tactic| walk_at "call ref") => `(tactic| (k_here; (with_reducible show wpAny _ _ (call (Value.ref 42) _) _ _ _); k_dflt (refine wpAny_call ?_; k_enter)))
local macro_rules | `(tactic| walk_at "call builtin:int.to_bytes") => `(tactic| (k_here; k_dflt (show wpAny _ _ (call (Value.builtin "int.to_bytes") [Value.int _ _, Value.int _ _, Value.str _ _]) _ _ _); (refine to_head (by assumption) rfl (fun h1 => absurd h1 (by omega)) (fun _ => ?_) (fun _ h1 => absurd h1 (by omega))); (intro _ _ _ newX)))

theorem lt0_over {p : Program} {loose : List Str} {w : World} {mean mg mb} {b c : Array UInt8} {ks ls : List Int} {t t' u : Tok} (hb : KBw.bInts b = ks) (hc : KBw.bInts c = ls) (hlk : ks.length ≤ 64) (hll : ls.length ≤ 64) (hcl : clear ks ls = false) :
    GivesTop p loose w mean mg mb 6 64 71 [.int 0 t', .bytes b t, .bytes c u] (fun v => ∃ t, v = .str (Str.ofString "OverflowError") t) := by
  have hov := cross_over (in_of hb) (in_of hc) hcl
  have hpos := pow256_pos ks.length
  unfold GivesTop
  k_fill
  intro dp un gd cn cs a ccd cl A₀ h₀ L m news s Q E B F X N T hk hd hu hret
  obtain ⟨ck, cnm, cg, cco, cmo⟩ := cs
  cases hk
  refine wpAny_call ?_
  k_dflt (refine' enterS0 ?k1 ?k2 ?k3 ?k4 ?k5 ?kA ?kf ?kk ?k6 ?k7 ?k8 ?k9 ?kB ?_ ?c2 ?c3 ?c4 ?c5; (case kA => exact rfl); (case kf => exact rfl); (case kk => exact rfl); (case k1 => k_asm); (case k2 => k_asm); (case k3 => k_asm); (case k4 => k_asm); (case k5 => k_asm); (case k6 => k_is); (case k7 => k_is); (case k8 => ktr_room); (case k9 => exact BindsTo.of_eq rfl); (case kB => exact locs rfl); (case c2 => exact rfl); (case c3 => exact rfl); (case c4 => exact rfl); (case c5 => decide); k_whole; intro g' L' h' FG' F' N' B' X' T' D'; (try dsimp only); (try k_fold))
  k_steps
  all_goals first
    | exact hret _ _ _ ⟨_, rfl⟩ (by k_asm) (by k_asm)
end Mine

-- part C6
namespace Mine
local macro_rules | `(tactic| walk_at "zz") => `(tactic| skip)
local macro_rules | `(tactic| walk_at "zz") => `(tactic| skip)
local macro_rules | `(tactic| walk_at "zz") => `(tactic| skip)
local macro_rules | `(tactic| walk_at "zz") => `(tactic| skip)
local macro_rules | `(tactic| walk_at "zz") => `(tactic| skip)
local macro_rules | `(tactic| walk_at "zz") => `(tactic| skip)
local macro_rules | `(tactic| walk_at "zz") => `(tactic| skip)
local macro_rules | `(tactic| walk_at "zz") => `(tactic| skip)
local macro_rules | `(tactic| walk_at "zz") => `(tactic| skip)
local macro_rules | `(tactic| walk_at "zz") => `(tactic| skip)
local macro_rules | `(tactic| walk_at "zz") => `(tactic| skip)
local macro_rules | `(tactic| walk_at "zz") => `(tactic| skip)
local macro_rules | `(tactic| walk_at "zz") => `(tactic| skip)
local macro_rules | `(tactic| walk_at "zz") => `(tactic| skip)
local macro_rules | `(tactic| walk_at "zz") => `(tactic| skip)
local macro_rules | `(tactic| walk_at "zz") => `(tactic| skip)
local macro_rules | `(tactic| walk_at "zz") => `(tactic| skip)
local macro_rules | `(tactic| walk_at "zz") => `(tactic| skip)
local macro_rules | `(tactic| walk_at "zz") => `(tactic| skip)
local macro_rules | `(tactic| walk_at "zz") => `(tactic| skip)
local macro_rules | `(tactic| walk_at "zz") => `(tactic| skip)
local macro_rules | `(tactic| walk_at "zz") => `(tactic| skip)
local macro_rules | `(tactic| k_room) => `(tactic| ktr_room)
local macro_rules | `(tactic| walk_at "call builtin:int.to_bytes") => `(tactic| (k_here; k_dflt (show wpAny _ _ (call (Value.builtin "int.to_bytes") [Value.int _ _, Value.int _ _, Value.str _ _]) _ _ _); (refine to_head (by assumption) rfl (fun h1 => absurd h1 (by omega)) (fun _ => ?_) (fun _ h1 => absurd h1 (by omega))); (intro _ _ _ newX)))
theorem lt1_over {p : Program} {loose : List Str} {w : World} {mean mg mb} {x : Int} {k : Nat} {t t' u : Tok} (hk64 : k ≤ 64) (hov : 256 ^ k ≤ x) :
    GivesTop p loose w mean mg mb 6 64 71 [.int 1 t', .int x t, .int (k : Int) u] (fun v => ∃ t, v = .str (Str.ofString "OverflowError") t) := by
  have hpos := pow256_pos k
  unfold GivesTop
  w_top off
  k_fill
  intro dp un gd cn cs a ccd cl A₀ h₀ L m news s Q E B F X N T hk hd hu hret
  obtain ⟨ck, cnm, cg, cco, cmo⟩ := cs
  cases hk
  refine wpAny_call ?_
  k_dflt (refine' enterS0 ?k1 ?k2 ?k3 ?k4 ?k5 ?kA ?kf ?kk ?k6 ?k7 ?k8 ?k9 ?kB ?_ ?c2 ?c3 ?c4 ?c5; (case kA => exact rfl); (case kf => exact rfl); (case kk => exact rfl); (case k1 => k_asm); (case k2 => k_asm); (case k3 => k_asm); (case k4 => k_asm); (case k5 => k_asm); (case k6 => k_is); (case k7 => k_is); (case k8 => ktr_room); (case k9 => exact BindsTo.of_eq rfl); (case kB => exact locs rfl); (case c2 => exact rfl); (case c3 => exact rfl); (case c4 => exact rfl); (case c5 => decide); k_whole; intro g' L' h' FG' F' N' B' X' T' D'; (try dsimp only); (try k_fold))
  k_steps
  all_goals first
    | exact hret _ _ _ ⟨_, rfl⟩ (by k_asm) (by k_asm)
local macro_rules | `(tactic| walk_at "call builtin:int.to_bytes") => `(tactic| (k_here; k_dflt (show wpAny _ _ (call (Value.builtin "int.to_bytes") [Value.int _ _, Value.int _ _, Value.str _ _]) _ _ _); (refine to_head (by assumption) rfl (fun _ => ?_) (fun h1 => absurd h1 (by omega)) (fun h1 _ => absurd h1 (by omega))); (intro _ _ _ newX)))
theorem lt1_neg {p : Program} {loose : List Str} {w : World} {mean mg mb} {x : Int} {k : Nat} {t t' u : Tok} (hk64 : k ≤ 64) (hneg : x < 0) :
    GivesTop p loose w mean mg mb 6 64 71 [.int 1 t', .int x t, .int (k : Int) u] (fun v => ∃ t, v = .str (Str.ofString "OverflowError") t) := by
  have hpos := pow256_pos k
  unfold GivesTop
  k_fill
  intro dp un gd cn cs a ccd cl A₀ h₀ L m news s Q E B F X N T hk hd hu hret
  obtain ⟨ck, cnm, cg, cco, cmo⟩ := cs
  cases hk
  refine wpAny_call ?_
  k_dflt (refine' enterS0 ?k1 ?k2 ?k3 ?k4 ?k5 ?kA ?kf ?kk ?k6 ?k7 ?k8 ?k9 ?kB ?_ ?c2 ?c3 ?c4 ?c5; (case kA => exact rfl); (case kf => exact rfl); (case kk => exact rfl); (case k1 => k_asm); (case k2 => k_asm); (case k3 => k_asm); (case k4 => k_asm); (case k5 => k_asm); (case k6 => k_is); (case k7 => k_is); (case k8 => ktr_room); (case k9 => exact BindsTo.of_eq rfl); (case kB => exact locs rfl); (case c2 => exact rfl); (case c3 => exact rfl); (case c4 => exact rfl); (case c5 => decide); k_whole; intro g' L' h' FG' F' N' B' X' T' D'; (try dsimp only); (try k_fold))
  k_steps
  all_goals first
    | exact hret _ _ _ ⟨_, rfl⟩ (by k_asm) (by k_asm)
theorem lt2_bs {p : Program} {loose : List Str} {w : World} {mean mg mb} {b : Array UInt8} {x : Str} {t t' u : Tok} :
    GivesTop p loose w mean mg mb 6 64 71 [.int 2 t', .bytes b t, .str x u] (fun v => ∃ t, v = .str (Str.ofString "TypeError") t) := by
  unfold GivesTop
  k_fill
  intro dp un gd cn cs a ccd cl A₀ h₀ L m news s Q E B F X N T hk hd hu hret
  obtain ⟨ck, cnm, cg, cco, cmo⟩ := cs
  cases hk
  refine wpAny_call ?_
  k_dflt (refine' enterS0 ?k1 ?k2 ?k3 ?k4 ?k5 ?kA ?kf ?kk ?k6 ?k7 ?k8 ?k9 ?kB ?_ ?c2 ?c3 ?c4 ?c5; (case kA => exact rfl); (case kf => exact rfl); (case kk => exact rfl); (case k1 => k_asm); (case k2 => k_asm); (case k3 => k_asm); (case k4 => k_asm); (case k5 => k_asm); (case k6 => k_is); (case k7 => k_is); (case k8 => ktr_room); (case k9 => exact BindsTo.of_eq rfl); (case kB => exact locs rfl); (case c2 => exact rfl); (case c3 => exact rfl); (case c4 => exact rfl); (case c5 => decide); k_whole; intro g' L' h' FG' F' N' B' X' T' D'; (try dsimp only); (try k_fold))
  k_steps
  all_goals first
    | exact hret _ _ _ ⟨_, rfl⟩ (by k_asm) (by k_asm)
theorem lt2_sb {p : Program} {loose : List Str} {w : World} {mean mg mb} {b : Array UInt8} {x : Str} {t t' u : Tok} :
    GivesTop p loose w mean mg mb 6 64 71 [.int 2 t', .str x u, .bytes b t] (fun v => ∃ t, v = .str (Str.ofString "TypeError") t) := by
  unfold GivesTop
  k_fill
  intro dp un gd cn cs a ccd cl A₀ h₀ L m news s Q E B F X N T hk hd hu hret
  obtain ⟨ck, cnm, cg, cco, cmo⟩ := cs
  cases hk
  refine wpAny_call ?_
  k_dflt (refine' enterS0 ?k1 ?k2 ?k3 ?k4 ?k5 ?kA ?kf ?kk ?k6 ?k7 ?k8 ?k9 ?kB ?_ ?c2 ?c3 ?c4 ?c5; (case kA => exact rfl); (case kf => exact rfl); (case kk => exact rfl); (case k1 => k_asm); (case k2 => k_asm); (case k3 => k_asm); (case k4 => k_asm); (case k5 => k_asm); (case k6 => k_is); (case k7 => k_is); (case k8 => ktr_room); (case k9 => exact BindsTo.of_eq rfl); (case kB => exact locs rfl); (case c2 => exact rfl); (case c3 => exact rfl); (case c4 => exact rfl); (case c5 => decide); k_whole; intro g' L' h' FG' F' N' B' X' T' D'; (try dsimp only); (try k_fold))
  k_steps
  all_goals first
    | exact hret _ _ _ ⟨_, rfl⟩ (by k_asm) (by k_asm)
theorem lt2_nb {p : Program} {loose : List Str} {w : World} {mean mg mb} {b : Array UInt8} {t t' : Tok} :
    GivesTop p loose w mean mg mb 6 64 71 [.int 2 t', .none, .bytes b t] (fun v => ∃ t, v = .str (Str.ofString "TypeError") t) := by
  unfold GivesTop
  k_fill
  intro dp un gd cn cs a ccd cl A₀ h₀ L m news s Q E B F X N T hk hd hu hret
  obtain ⟨ck, cnm, cg, cco, cmo⟩ := cs
  cases hk
  refine wpAny_call ?_
  k_dflt (refine' enterS0 ?k1 ?k2 ?k3 ?k4 ?k5 ?kA ?kf ?kk ?k6 ?k7 ?k8 ?k9 ?kB ?_ ?c2 ?c3 ?c4 ?c5; (case kA => exact rfl); (case kf => exact rfl); (case kk => exact rfl); (case k1 => k_asm); (case k2 => k_asm); (case k3 => k_asm); (case k4 => k_asm); (case k5 => k_asm); (case k6 => k_is); (case k7 => k_is); (case k8 => ktr_room); (case k9 => exact BindsTo.of_eq rfl); (case kB => exact locs rfl); (case c2 => exact rfl); (case c3 => exact rfl); (case c4 => exact rfl); (case c5 => decide); k_whole; intro g' L' h' FG' F' N' B' X' T' D'; (try dsimp only); (try k_fold))
  k_steps
  all_goals first
    | exact hret _ _ _ ⟨_, rfl⟩ (by k_asm) (by k_asm)
end Mine

-- part Gn
namespace Mine

section
variable {prog : Program} {w : World} {A : Around} {E : Value → Shared → Prop} {s : Shared}

/-- what stands behind the iterator of a generator expression's source -/
def GPost (prog : Program) (w : World) (A : Around) (env : Env) (scope : Scope) (cl : List (Str × Addr)) (x : Str) (elt : Expr) (pos : Pos) (Q : Value → Shared → Prop) (E : Value → Shared → Prop) (it : Value) (s₂ : Shared) : Prop :=
  s₂.heap.NoLimit ∧
      wpAny (model prog w) A (genexprCode env pos (env.qual ++ "<genexpr>") scope) (fun code s₃ => wpAny (model prog w) A (builtinsFor env.globals env.builtins) (fun bi s₄ =>
        ∃ I fp wr n₀ P St₀ pz F, it = .ref I ∧ (∀ A' : Around, A'.handled = none → Walks prog w A' I fp wr n₀ P St₀) ∧ St₀ 0 s₄.heap ∧ (∀ b ∈ fp, b < s₄.heap.objs.size) ∧ s₄.heap.NoLimit ∧ cStatics ∉ wr ∧
          (∀ href : Heap, (∀ b o, s₄.heap.get? b = some o → href.get? b = some o) →
            QuietGenD prog w (genEnv scope cl s₄.heap.objs.size code bi env) x [] elt (List.range s₄.heap.objs.size) wr P pz F href (A.depth + 1) (A.units + 8)) ∧
          (∀ a h₅ tk gs, gs.bare = true → s₄.heap.objs.size < a → h₅.objs.size = a + 1 → (∀ b o, s₄.heap.get? b = some o → h₅.get? b = some o) →
            WalksS prog w A.in4 a (a :: s₄.heap.objs.size :: List.range s₄.heap.objs.size) (s₄.heap.objs.size :: wr) (GenOnlyQ s₄.gens.size) (passing pz n₀ 0).length
              (fun j y => ∃ i, (passing pz n₀ 0)[j]? = some i ∧ F i y) (GenAt prog w A.in4 a s₄.gens.size s₄.heap.objs.size (List.range s₄.heap.objs.size) wr pz n₀ F) →
            GenAt prog w A.in4 a s₄.gens.size s₄.heap.objs.size (List.range s₄.heap.objs.size) wr pz n₀ F 0 { s₄ with gens := s₄.gens.push gs, toks := tk, heap := h₅ } →
            Q (.ref a) { s₄ with gens := s₄.gens.push gs, toks := tk, heap := h₅ })) E s₃) E s₂

theorem gen_eval {env : Env} {elt iter : Expr} {x : Str} {px : Pos} {scope : Scope} {cl : List (Str × Addr)} {pos : Pos} {Q : Value → Shared → Prop}
    (hh : A.handled = none) (hco : scope.isCoroutine = false) (hclos : closureFor scope env = pure cl) (hcell : ∀ y ∈ scope.names, y.2 ≠ .cell) (h0 : scope.names.lookup (".0" : Str) = some NameKind.local)
    (hx : scope.names.lookup x = some .local) (hkind : scope.kind = .function) (hroom : A.depth < recursionLimit)
    (h : wpAny (model prog w) A (eval iter env) (fun xv s₁ => wpAny (model prog w) A (pyIter xv) (GPost prog w A env scope cl x elt pos Q E) E s₁) E s)
    (hs : ∀ x, genFold iter env x = pure x) :
    wpAny (model prog w) A (eval (.GeneratorExp elt [⟨.Name x px, iter, [], 0⟩] scope pos) env) Q E s :=
  wpAny_GeneratorExp_walksQD hh hco hclos hcell h0 hx hkind hroom h hs

/-- a ledger with one entry put in another's place -/
theorem News.swap {h₀ h h' : Heap} {L P : Addr} {pre post : List (Addr × Obj)} {o o' : Obj} (N : News h₀ L h (pre ++ (P, o) :: post)) (hne : ∀ p ∈ pre ++ post, p.1 ≠ P) (hk : Heap.ExtBut P h h') (ho : h'.get? P = some o') : News h₀ L h' (pre ++ (P, o') :: post) := fun p hp => by
  rcases List.mem_append.mp hp with hp | hp
  · have n := N p (List.mem_append_left _ hp)
    exact ⟨hk _ _ (hne p (List.mem_append_left _ hp)) n.1, n.2⟩
  · rcases List.mem_cons.mp hp with rfl | hp
    · have n := N (P, o) (List.mem_append_right _ (.head _))
      exact ⟨ho, n.2⟩
    · have n := N p (List.mem_append_right _ (.tail _ hp))
      exact ⟨hk _ _ (hne p (List.mem_append_right _ hp)) n.1, n.2⟩

variable {h₀ : Heap} {L c P : Addr} {m mg mb : Str → Option Value} {pre post : List (Addr × Obj)} {ps : Array Value} {p : Program} {loose : List Str} {mean : ExcName → Option Value}

theorem gen_bytes {env : Env} {elt : Expr} {x : Str} {scope : Scope} {cl : List (Str × Addr)} {pos : Pos} {Q : Value → Shared → Prop} {b : Array UInt8} {t : Tok} {ks : List Int} {q : Int → Bool}
    (hh : A.handled = none) (F : Fr h₀ L s.heap m) (N : News h₀ L s.heap (pre ++ (P, tabObj ps) :: post)) (hne : ∀ p ∈ pre ++ post, p.1 ≠ P) (G : AllBare s.gens) (C : CodeHd h₀ c P) (T : Top p loose mean mg mb h₀)
    (hcode : env.code = .ref c) (hglob : env.globals = mainGlobals) (ht : TriplesOk ps.toList) (hb : KBw.bInts b = ks)
    (helt : ∀ (C : Addr) (code : Value) (A' : Around) (E' : Value → Shared → Prop) (k : Int) (tk : Tok) (u : Shared) (m₂ : Str → Option Value), A'.handled = none → u.heap.Ns C m₂ → m₂ x = some (.int k tk) →
      wpAny (model prog w) A' (eval elt (genEnv scope cl C code builtinsNs env)) (fun y s₃ => y = .bool (q k) ∧ Keeps u s₃) E' u)
    (hQ : ∀ a s₅ ps' Kb, Fr h₀ L s₅.heap m → News h₀ L s₅.heap (pre ++ (P, tabObj ps') :: post) → TriplesOk ps'.toList → AllBare s₅.gens → s₅.os = s.os → L ≤ Kb → (∀ p ∈ pre ++ (P, tabObj ps') :: post, p.1 ≤ Kb) →
      GenOnD prog w A Kb a ks (fun _ => true) (fun k => .bool (q k)) s₅ → Q (.ref a) s₅) :
    wpAny (model prog w) A (pyIter (.bytes b t)) (GPost prog w A env scope cl x elt pos Q E) E s := by
  refine KBw.pyIter_bytes ?_
  have hlim : s.heap.NoLimit := T.nolimit.keeps F.keep
  have hLs : L < s.heap.objs.size := F.ns.lt
  have nP := N (P, tabObj ps) (List.mem_append_right _ (.head _))
  have hPs : P < s.heap.objs.size := Heap.lt_size nP.1
  have hcP : cStatics ≠ P := fun e => by
    obtain ⟨_, hns, _⟩ := hlim
    obtain ⟨o, es, ep, ho, hd, _⟩ := hns
    rw [e, nP.1] at ho; cases ho; cases hd
  have hLP : L ≠ P := fun e => nP.2.1 e.symm
  let I := s.heap.objs.size
  let h₂ := s.heap.push { cls := .type "bytes_iterator", data := .fields #[.bytes b t, .int 0 0] }
  have up₂ : ∀ b o, s.heap.get? b = some o → h₂.get? b = some o := fun _ _ e => Heap.get?_push_of_some _ e
  have F₂ : Fr h₀ L h₂ m := F.keeps up₂
  have N₂ : News h₀ L h₂ (pre ++ (P, tabObj ps) :: post) := N.grown up₂
  have hit₂ : KBw.IsBytesIter h₂ I b t 0 := ⟨_, Heap.get?_push_size _ rfl, rfl, rfl⟩
  have hsz₂ : h₂.objs.size = s.heap.objs.size + 1 := Heap.size_push ..
  have hIP : I ≠ P := Nat.ne_of_gt hPs
  -- behind the code object
  have rest : ∀ (code : Value) (h₃ : Heap) (tk₃ : Nat) (ps' : Array Value), Heap.ExtBut P h₂ h₃ → h₂.objs.size ≤ h₃.objs.size → h₃.get? P = some (tabObj ps') → TriplesOk ps'.toList →
      wpAny (model prog w) A (builtinsFor env.globals env.builtins) (fun bi s₄ =>
        ∃ I fp wr n₀ P St₀ pz F, Value.ref s.heap.objs.size = .ref I ∧ (∀ A' : Around, A'.handled = none → Walks prog w A' I fp wr n₀ P St₀) ∧ St₀ 0 s₄.heap ∧ (∀ b ∈ fp, b < s₄.heap.objs.size) ∧ s₄.heap.NoLimit ∧ cStatics ∉ wr ∧
          (∀ href : Heap, (∀ b o, s₄.heap.get? b = some o → href.get? b = some o) →
            QuietGenD prog w (genEnv scope cl s₄.heap.objs.size code bi env) x [] elt (List.range s₄.heap.objs.size) wr P pz F href (A.depth + 1) (A.units + 8)) ∧
          (∀ a h₅ tk gs, gs.bare = true → s₄.heap.objs.size < a → h₅.objs.size = a + 1 → (∀ b o, s₄.heap.get? b = some o → h₅.get? b = some o) →
            WalksS prog w A.in4 a (a :: s₄.heap.objs.size :: List.range s₄.heap.objs.size) (s₄.heap.objs.size :: wr) (GenOnlyQ s₄.gens.size) (passing pz n₀ 0).length
              (fun j y => ∃ i, (passing pz n₀ 0)[j]? = some i ∧ F i y) (GenAt prog w A.in4 a s₄.gens.size s₄.heap.objs.size (List.range s₄.heap.objs.size) wr pz n₀ F) →
            GenAt prog w A.in4 a s₄.gens.size s₄.heap.objs.size (List.range s₄.heap.objs.size) wr pz n₀ F 0 { s₄ with gens := s₄.gens.push gs, toks := tk, heap := h₅ } →
            Q (.ref a) { s₄ with gens := s₄.gens.push gs, toks := tk, heap := h₅ })) E { s with heap := h₃, toks := tk₃ } := by
    intro code h₃ tk₃ ps' hx hsz hP' ht'
    have old₃ : ∀ b o, h₀.get? b = some o → h₃.get? b = some o := fun b o e => hx b o (fun z => by rw [z, nP.2.2] at e; cases e) (F₂.keep b o e)
    have F₃ : Fr h₀ L h₃ m := ⟨F₂.ns.extBut hx hLP, old₃, F.above⟩
    have N₃ : News h₀ L h₃ (pre ++ (P, tabObj ps') :: post) := News.swap N₂ hne hx hP'
    obtain ⟨bm, ob, b1, b2, b3, b4, b5, b6⟩ := T.bmain
    have hg : h₃.Ns env.globals mg := by rw [hglob]; exact T.g.keeps old₃
    refine wpAny_builtinsFor hg b1 b2 (old₃ _ _ b3) b4 b5 b6 ?_
    have hI₃ : I < h₃.objs.size := Nat.lt_of_lt_of_le (by rw [hsz₂]; exact Nat.lt_succ_self _) hsz
    have hn0 : (KBw.bInts b).length = b.size := KBw.ints_length b
    refine ⟨I, [I], [I], b.size, _, _, (fun i => (ks[i]?.map fun _ => true).getD false), (fun i y => ∃ k, ks[i]? = some k ∧ Carried y (.bool (q k))), rfl,
      (fun A' hA => KBw.walks hA I b t), ?_, ?_, T.nolimit.keeps old₃, ?_, ?_, ?_⟩
    · obtain ⟨o, ho, r⟩ := hit₂
      exact ⟨o, hx _ _ hIP ho, r⟩
    · intro z hz
      rw [List.mem_singleton.mp hz]; exact hI₃
    · intro hm
      have e := List.mem_singleton.mp hm
      obtain ⟨_, hns, _⟩ := hlim
      have := hns.lt
      rw [e] at this
      exact absurd this (Nat.lt_irrefl _)
    · intro href _
      refine ⟨fun A' E' i v s₂ m₂ hA _ _ hP hn hm _ => ?_, fun A' E' i v s₂ m₂ hA _ _ hP _ hn hm _ => ?_⟩
      · obtain ⟨cc, u, hcc, rfl⟩ := hP
        have hg := KBw.ints_get hcc
        rw [hb] at hg
        refine wpAny_pure ⟨?_, s₂.heap, s₂.toks, rfl, fun _ _ e => e⟩
        rw [hg]; rfl
      · obtain ⟨cc, u, hcc, rfl⟩ := hP
        have hg := KBw.ints_get hcc
        rw [hb] at hg
        refine wpAny_mono (helt _ code A' E' _ _ s₂ m₂ hA hn hm) (fun y s₃ hy => ?_) fun _ _ e => e
        obtain ⟨rfl, hk⟩ := hy
        exact ⟨⟨_, hg, .bool _⟩, hk⟩
    · intro a h₅ tk gs hgb hag hsz₅ hk₅ W hat
      refine hQ a _ ps' (I - 1) (F₃.keeps hk₅) (N₃.grown hk₅) ht' (G.push hgb) rfl (Nat.le_sub_one_of_lt hLs) ?_ ?_
      · intro p hp
        have : p.1 < I := by
          rcases List.mem_append.mp hp with hp | hp
          · exact Heap.lt_size (N p (List.mem_append_left _ hp)).1
          · rcases List.mem_cons.mp hp with rfl | hp
            · exact hPs
            · exact Heap.lt_size (N p (List.mem_append_right _ (.tail _ hp))).1
        exact Nat.le_sub_one_of_lt this
      · have hks : ks.length = b.size := by rw [← hb, hn0]
        refine Gen.toOnD ks (fun _ => true) (fun k => .bool (q k)) ?_
        rw [hks]
        refine ⟨_, _, _, _, W, hat, (fun i s' st => st.1.typeIs), List.mem_cons_self, ?_, ?_⟩
        · intro z hz
          show z < h₅.objs.size
          rw [hsz₅]
          rcases List.mem_cons.mp hz with rfl | hz
          · exact Nat.lt_succ_self _
          · rcases List.mem_cons.mp hz with rfl | hz
            · exact Nat.lt_succ_of_lt hag
            · exact Nat.lt_succ_of_lt (Nat.lt_trans (List.mem_range.mp hz) hag)
        · intro z hz
          have hpos : 0 < I := Nat.lt_of_le_of_lt (Nat.zero_le _) hLs
          rcases List.mem_cons.mp hz with rfl | hz
          · exact Nat.lt_of_le_of_lt (Nat.sub_le _ _) hI₃
          · rw [List.mem_singleton.mp hz]
            exact Nat.sub_lt hpos Nat.one_pos
  refine ⟨hlim.push _, ?_⟩
  have hIs : h₂.IsCode c P ps := (C.keeps F₂.keep).code (N₂ _ (List.mem_append_right _ (.head _))).1 ht
  have hTab : h₂.TableAt c P ps := (C.keeps F₂.keep).tab (N₂ _ (List.mem_append_right _ (.head _))).1
  cases hf : codeAmong pos ps.toList with
  | some cv => exact wpAny_genexprCode_hit hcode hIs hf (rest cv h₂ _ ps (Heap.ExtBut.refl _ _) (Nat.le_refl _) hTab.2 ht)
  | none =>
    refine wpAny_genexprCodeX hcode hIs hTab hf fun c' h' tk hx hge hlt hcode' _ htab' _ => ?_
    obtain ⟨o, vs, file, tf, flags, tg, inF, text, tt, op, ho, hd, h11, h2, h7, h9, h10, hop, hpd, htr, hne'⟩ := hcode'
    exact rest _ h' tk _ hx (Nat.le_trans hge (Nat.le_of_lt hlt)) htab'.2 htr
end
end Mine

-- part Cb
namespace Mine

section
variable {prog : Program} {w : World} {A : Around} {E : Value → Shared → Prop} {s : Shared} {h₀ : Heap} {L : Addr} {m : Str → Option Value} {news : List (Addr × Obj)}

theorem paired_map {α β γ : Type} {F : α → β → Prop} {G : γ → β → Prop} {f : γ → α → Prop} : ∀ {as : List α} {cs : List γ} {bs : List β}, as.length = cs.length → (∀ (i : Nat) a c, as[i]? = some a → cs[i]? = some c → f c a) → (∀ a b c, f c a → F a b → G c b) → Paired F as bs → Paired G cs bs
  | [], [], _, _, _, _, .nil => .nil
  | a :: as, c :: cs, _, hl, hf, hg, .cons h r => .cons (hg _ _ _ (hf 0 a c rfl rfl) h) (paired_map (by simpa using hl) (fun i x y hx hy => hf (i + 1) x y (by simpa using hx) (by simpa using hy)) hg r)

theorem comp_bytes {env : Env} {scope : Scope} {x : Str} {elt : Expr} {Q : Value → Shared → Prop} {b : Array UInt8} {t : Tok} {ks : List Int} {G : Int → Value → Prop}
    (hh : A.handled = none) (F : Fr h₀ L s.heap m) (N : News h₀ L s.heap news) (hb : KBw.bInts b = ks) (hz : ks.length ≤ 64)
    (helt : ∀ (C : Addr) (k : Int) (tk : Tok) (u : Shared) (m₂ : Str → Option Value) (E' : Value → Shared → Prop), u.heap.Ns C m₂ → m₂ x = some (.int k tk) → 0 ≤ k → k < 256 → (∀ b o, h₀.get? b = some o → u.heap.get? b = some o) →
      wpAny (model prog w) A (eval elt (compEnv scope C env)) (fun y s₄ => G k y ∧ Keeps u s₄) E' u)
    (hQ : ∀ D h' tk n (ys : List Value), Fr h₀ L h' m → News h₀ L h' ((D, listOf ys.toArray n) :: news) → GnNe D news → Paired G ks ys → Q (.ref D) { s with heap := h', toks := tk }) :
    wpAny (model prog w) A (pyIter (.bytes b t)) (CompPost prog w A env scope x [] elt Q) E s := by
  refine KBw.pyIter_bytes ?_
  have hLs : L < s.heap.objs.size := F.ns.lt
  let I := s.heap.objs.size
  have up₂ : ∀ z o, s.heap.get? z = some o → (s.heap.push { cls := .type "bytes_iterator", data := .fields #[.bytes b t, .int 0 0] }).get? z = some o := fun _ _ e => Heap.get?_push_of_some _ e
  have hI0 : h₀.get? I = none := Heap.get?_none_of_le (Nat.le_trans F.above (Nat.le_of_lt hLs))
  have hLI : L ≠ I := Nat.ne_of_lt hLs
  refine ⟨fun _ => true, fun v y => ∃ k u, v = .int k u ∧ 0 ≤ k ∧ k < 256 ∧ G k y, I, [I], [I], b.size, _, _, rfl, KBw.walks hh I b t, ?_, ⟨_, Heap.get?_push_size _ rfl, rfl, rfl⟩, ?_, ⟨?_, ?_⟩, ?_⟩
  · rw [← KBw.ints_length b, hb, sizeLine_eq]; omega
  · intro z hz
    rw [List.mem_singleton.mp hz]
    show I < (s.heap.push _).objs.size
    rw [Heap.size_push]; exact Nat.lt_succ_self _
  · intro C i v s₃ m₃ E' _ _ _ _ _
    exact wpAny_pure ⟨rfl, s₃.heap, s₃.toks, rfl, fun _ _ e => e⟩
  · intro C i v s₃ m₃ E' hP _ hn hm hk _
    obtain ⟨cc, u, hcc, rfl⟩ := hP
    have hr := cc.toNat_lt
    refine wpAny_mono (helt C _ u s₃ m₃ E' hn hm (by omega) (by omega) fun z o e => hk z o (fun q => ?_) (up₂ _ _ (F.keep _ _ e))) (fun y s₄ hy => ⟨⟨_, u, rfl, by omega, by omega, hy.1⟩, hy.2⟩) fun _ _ e => e
    rw [List.mem_singleton.mp q, hI0] at e; cases e
  · intro D h' tk ys vs hD _ hpl hlen hP hF hk
    obtain ⟨n, hget⟩ := hpl
    have hkI : ∀ b o, b ≠ I → s.heap.get? b = some o → h'.get? b = some o := fun z o hz e => hk z o (fun q => hz (List.mem_singleton.mp q)) (up₂ _ _ e)
    have hD' : s.heap.get? D = none := by
      cases q : s.heap.get? D with
      | none => rfl
      | some o => rw [up₂ _ _ q] at hD; cases hD
    have hD0 : h₀.get? D = none := by
      cases q : h₀.get? D with
      | none => rfl
      | some o => rw [F.keep _ _ q] at hD'; cases hD'
    have F' : Fr h₀ L h' m := ⟨F.ns.at' fun o e => hkI L o hLI e, fun z o e => hkI z o (fun q => by rw [q, hI0] at e; cases e) (F.keep _ _ e), F.above⟩
    have hDL : D ≠ L := fun q => by
      obtain ⟨o, _, _, ho, _⟩ := F.ns
      rw [← q, hD'] at ho; cases ho
    have hnI : ∀ p ∈ news, p.1 ≠ I := fun p hp q => absurd (Heap.lt_size (N p hp).1) (q ▸ Nat.lt_irrefl _)
    refine hQ D h' tk n ys.toList F' (fun p hp => ?_) (gnNe_of fun p hp q => ?_) ?_
    · rcases List.mem_cons.mp hp with rfl | hp
      · refine ⟨?_, hDL, hD0⟩
        rw [hget]
      · exact ⟨hkI _ _ (hnI p hp) (N p hp).1, (N p hp).2⟩
    · rw [← q, (N p hp).1] at hD'; cases hD'
    · have hv : vs.filter (fun _ => true) = vs := by simp
      rw [hv] at hF
      refine paired_map (f := fun k v => ∃ u, v = .int k u) (by rw [hlen, ← hb, KBw.ints_length]) (fun i v k hv hk => ?_) (fun v y k hf hy => ?_) hF
      · obtain ⟨cc, u, hcc, rfl⟩ := hP i v hv
        have hg := KBw.ints_get hcc
        rw [hb, hk] at hg
        cases hg
        exact ⟨u, rfl⟩
      · obtain ⟨u, rfl⟩ := hf
        obtain ⟨k', u', e, _, _, hg⟩ := hy
        cases e
        exact hg

/-- an octet by its name -/
theorem elt_octet {scope : Scope} {px : Pos} {env : Env} (hk : scope.kind = .function) (hx : scope.names.lookup (Str.ofString "octet") = some .local) :
    ∀ (C : Addr) (k : Int) (tk : Tok) (u : Shared) (m₂ : Str → Option Value) (E' : Value → Shared → Prop), u.heap.Ns C m₂ → m₂ (Str.ofString "octet") = some (.int k tk) → 0 ≤ k → k < 256 → (∀ b o, h₀.get? b = some o → u.heap.get? b = some o) →
      wpAny (model prog w) A (eval (.Name (Str.ofString "octet") px) (compEnv scope C env)) (fun y s₄ => (∃ t, y = .int k t) ∧ Keeps u s₄) E' u := by
  intro C k tk u m₂ E' hn hm _ _ _
  refine wpAny_Name (wpAny_loadName_local (m := m₂) hk hx hn hm ?_) (by decide)
  exact ⟨⟨_, rfl⟩, _, _, rfl, fun _ _ e => e⟩
theorem ints_of_paired : ∀ {ks : List Int} {ys : List Value}, Paired (fun k (y : Value) => ∃ t, y = .int k t) ks ys → IntsAre ys ks
  | [], _, .nil => .nil
  | _ :: _, _, .cons ⟨t, e⟩ r => e ▸ .cons _ t (ints_of_paired r)
end
end Mine

-- part C7
namespace Mine
local macro_rules | `(tactic| walk_at "zz") => `(tactic| skip)
local macro_rules | `(tactic| walk_at "zz") => `(tactic| skip)
local macro_rules | `(tactic| walk_at "zz") => `(tactic| skip)
local macro_rules | `(tactic| walk_at "zz") => `(tactic| skip)
local macro_rules | `(tactic| walk_at "zz") => `(tactic| skip)
local macro_rules | `(tactic| walk_at "zz") => `(tactic| skip)
local macro_rules | `(tactic| walk_at "zz") => `(tactic| skip)
local macro_rules | `(tactic| walk_at "zz") => `(tactic| skip)
local macro_rules | `(tactic| walk_at "zz") => `(tactic| skip)
local macro_rules | `(tactic| walk_at "zz") => `(tactic| skip)
local macro_rules | `(tactic| walk_at "zz") => `(tactic| skip)
local macro_rules | `(tactic| walk_at "zz") => `(tactic| skip)
local macro_rules | `(tactic| walk_at "zz") => `(tactic| skip)
local macro_rules | `(tactic| walk_at "zz") => `(tactic| skip)
local macro_rules | `(tactic| walk_at "zz") => `(tactic| skip)
local macro_rules | `(tactic| walk_at "zz") => `(tactic| skip)
local macro_rules | `(tactic| walk_at "zz") => `(tactic| skip)
local macro_rules | `(tactic| walk_at "zz") => `(tactic| skip)
local macro_rules | `(tactic| walk_at "zz") => `(tactic| skip)
local macro_rules | `(tactic| walk_at "zz") => `(tactic| skip)
local macro_rules | `(tactic| walk_at "zz") => `(tactic| skip)
local macro_rules | `(tactic| walk_at "zz") => `(tactic| skip)
local macro_rules | `(tactic| walk_at "zz") => `(tactic| skip)
local macro_rules | `(tactic| walk_at "zz") => `(tactic| skip)
local macro_rules | `(tactic| walk_at "zz") => `(tactic| skip)
local macro_rules | `(tactic| k_room) => `(tactic| ktr_room)

theorem tab_crossed (w : World) : tabIn (hd.heap_39 w.params) (Str.ofString "_law_crossed") = some (75, 73) := by kernel_rfl

theorem octet_elt {prog : Program} {w : World} {scope : Scope} {px pos : Pos} {n : Nat} {env : Env} {k2 : Pos} (hk : scope.kind = .function) (hx : scope.names.lookup (Str.ofString "octet") = some .local) :
    ∀ (C : Addr) (code : Value) (A' : Around) (E' : Value → Shared → Prop) (k : Int) (tk : Tok) (u : Shared) (m₂ : Str → Option Value), A'.handled = none → u.heap.Ns C m₂ → m₂ (Str.ofString "octet") = some (.int k tk) →
      wpAny (model prog w) A' (eval (.Compare (.Name (Str.ofString "octet") px) [.NotEq] [.Constant (.int 0) n k2] pos) (genEnv scope [] C code builtinsNs env)) (fun y s₃ => y = .bool (k != 0) ∧ Keeps u s₃) E' u := by
  intro C code A' E' k tk u m₂ hA hn hm
  refine wpAny_Compare1 ?_
  refine wpAny_Name (wpAny_loadName_local (m := m₂) hk hx hn hm ?_) (by decide)
  refine wpAny_Constant_int ?_
  refine PyProof.Rows.ne_int ?_
  exact ⟨rfl, _, _, rfl, fun _ _ e => e⟩

/-- as Gives, of the def that makes a generator expression: its code's table stands in the ledger -/
def GivesC (p : Program) (loose : List Str) (w : World) (mean : ExcName → Option Value) (mg mb : Str → Option Value) (D U : Nat) (vs : List Value) (R : Value → Prop) : Prop :=
  ∀ (dp un : Nat) (gd : Option (List Code)) (cn : Str) (cs : Scope) (a : Addr) (ccd : Value) (cl : List (Str × Addr)) (outer : List Env) (A₀ : Around) (base h₀ : Heap) (L : Addr) (m : Str → Option Value) (news : List (Addr × Obj)) (ps : Array Value) (s : Shared) (Q E : Value → Shared → Prop),
    Below A₀ base outer h₀ → Fr h₀ L s.heap m → (hd.heap_39 w.params).In h₀ → News h₀ L s.heap ((73, tabObj ps) :: news) → (∀ p ∈ news, p.1 ≠ 73) → CodeHd h₀ 75 73 → TriplesOk ps.toList → AllBare s.gens → Top p loose mean mg mb h₀ → cs.kind = .function →
    dp + D < recursionLimit → un + U < cLine →
    (∀ v (s' : Shared) (ps' : Array Value), R v → Fr h₀ L s'.heap m → News h₀ L s'.heap ((73, tabObj ps') :: news) → TriplesOk ps'.toList → AllBare s'.gens → s'.os = s.os → Q v s') →
      wpAny (model PySem.Challenge.rw_aj5024_01.row.prog w) (ktrTop dp un gd cn cs L a ccd cl outer) (call (.ref 76) vs) Q E s

theorem gen_ne {g h : Heap} {L' : Addr} {m : Str → Option Value} {o o2 : Obj} {news : List (Addr × Obj)} (F : Fr g L' h m) (C : CodeHd g 75 73) (hne : ∀ p ∈ news, p.1 ≠ 73) : ∀ p ∈ [(L' + 1 + 1, o), (L' + 1, o2)] ++ news, p.1 ≠ 73 := by
  obtain ⟨oc, _, _, _, _, _, _, _, _, e, _⟩ := C
  have h1 : @LT.lt Nat _ 75 L' := Nat.lt_of_lt_of_le (Heap.lt_size e) F.above
  intro p hp
  rcases List.mem_append.mp hp with hp | hp
  · rcases List.mem_cons.mp hp with rfl | hp
    · exact show @Ne Nat (L' + 1 + 1) 73 by omega
    · rw [List.mem_singleton.mp hp]
      exact show @Ne Nat (L' + 1) 73 by omega
  · exact hne p hp
theorem any_true (ks : List Int) (q : Int → Bool) : (ks.filter fun _ => true).any q = ks.any q := by simp
theorem any_bytes {prog : Program} {w : World} {A : Around} {E : Value → Shared → Prop} {s : Shared} {h₀ : Heap} {L Kb a : Addr} {m : Str → Option Value} {news : List (Addr × Obj)} {ks : List Int} {q : Int → Bool} {Q : Value → Shared → Prop}
    (F : Fr h₀ L s.heap m) (N : News h₀ L s.heap news) (G : AllBare s.gens) (X : GenOnD prog w A Kb a ks (fun _ => true) (fun k => .bool (q k)) s) (hL : L ≤ Kb) (hK : ∀ p ∈ news, p.1 ≤ Kb)
    (h : ∀ s', Fr h₀ L s'.heap m → News h₀ L s'.heap news → AllBare s'.gens → s'.os = s.os → Q (.bool (ks.any q)) s') : wpAny (model prog w) A (call (.builtin "any") [.ref a]) Q E s := by
  refine any_genD F G X hL fun s' F' G' hos hk => ?_
  rw [any_true]
  exact h s' F' (fun p hp => ⟨hk _ _ (hK p hp) (N p hp).1, (N p hp).2⟩) G' hos

local macro_rules | `(tactic| walk_at "call builtin:any") => `(tactic| (k_here; (with_reducible rename GenOnD _ _ _ _ _ _ _ _ _ => X5); k_dflt (refine' any_bytes ?gF ?gN ?gG X5 ?gL ?gK ?_; (case gF => k_asm); (case gN => k_asm); (case gG => assumption); (case gL => assumption); (case gK => assumption)); clear X5; intro s6 F6 N6 G6 os6))
local macro_rules | `(tactic| walk_at "eval GeneratorExp") => `(tactic| (k_here; k_dflt (refine' gen_eval (cl := []) ?gh ?gc ?gcl ?gce ?g0 ?gx ?gk ?gr ?_ ?gs; (case gh => exact rfl); (case gc => exact rfl); (case gcl => exact rfl); (case gce => decide); (case g0 => exact rfl); (case gx => exact rfl); (case gk => exact rfl); (case gr => ktr_room); (case gs => (intro _; exact rfl)))))
local macro_rules | `(tactic| walk_at "pyIter bytes") => `(tactic| (k_here; (with_reducible show wpAny _ _ (pyIter (Value.bytes _ _)) (GPost _ _ _ _ _ _ _ _ _ _ _) _ _); k_dflt (refine' gen_bytes (pre := [(_, _), (_, _)]) (c := 75) (P := 73) ?gh ?gF ?gN ?gne ?gG ?gC ?gT ?gco ?ggl ?gt ?gb (octet_elt rfl rfl) ?_; (case gh => exact rfl); (case gF => k_asm); (case gN => k_asm); (case gG => assumption); (case gC => exact CodeHd.keeps (by assumption) (Fr.keep (by assumption))); (case gT => k_asm); (case gco => exact rfl); (case ggl => exact rfl); (case gt => assumption); (case gne => exact gen_ne (by k_asm) (CodeHd.keeps (by assumption) (Fr.keep (by assumption))) (by assumption)); (case gb => kba_ints)); (intro a5 s5 ps5 Kb5 F5 N5 ht5 G5 os5 lK5 hK5 X5); (try simp only [List.nil_append, List.cons_append] at N5 hK5)))

local macro_rules | `(tactic| walk_at "pyIter bytes") => `(tactic| (k_here; (with_reducible show wpAny _ _ (pyIter (Value.bytes _ _)) (CompPost _ _ _ _ _ _ _ _ _) _ _); k_dflt (refine' comp_bytes (G := fun k y => ∃ t, y = .int k t) ?gh ?gF ?gN ?gb ?gz (elt_octet rfl rfl) ?_; (case gh => exact rfl); (case gF => k_asm); (case gN => k_asm); (case gb => kba_ints); (case gz => first | omega | ((try simp only [List.length_take, List.length_drop]); omega))); (intro d5 h5 tk5 n5 ys5 F5 N5 gnA pr5); (simp only [GnNe, and_true] at gnA); (have iX5 := ints_of_paired pr5); clear pr5))

theorem allNe {d e : Addr} : ∀ {l : List (Addr × Obj)}, (@LT.lt Nat _ 73 e ∧ AllLt e l) → @LE.le Nat _ e d → ∀ p ∈ l, p.1 ≠ d
  | [], _, _, _, hp => nomatch hp
  | _ :: _, ⟨h0, h1, h2⟩, hle, p, hp => by
    rcases List.mem_cons.mp hp with rfl | hp
    · exact Nat.ne_of_lt (Nat.lt_of_lt_of_le h1 hle)
    · exact allNe ⟨h0, h2⟩ hle p hp
local macro_rules | `(tactic| k_all) => `(tactic| exact allNe (by assumption) (by omega))


theorem max_len {prog : Program} {w : World} {A : Around} {E : Value → Shared → Prop} {s : Shared} {h₀ : Heap} {L : Addr} {m : Str → Option Value} {news : List (Addr × Obj)} {a b : Nat} {t u : Tok} {Q : Value → Shared → Prop} (hh : A.handled = none) (F : Fr h₀ L s.heap m) (N : News h₀ L s.heap news)
    (h : ∀ h' tk tt, Fr h₀ L h' m → News h₀ L h' news → Q (.int ((a - b : Nat) : Int) tt) { s with heap := h', toks := tk }) :
    wpAny (model prog w) A (call (.builtin "max") [.int 0 t, .int ((a : Int) - (b : Int)) u]) Q E s := by
  refine max_two_N hh F N fun h' tk F' N' => ?_
  by_cases hab : (a : Int) - (b : Int) > 0
  · rw [if_pos hab, if_pos hab]
    have e : (a : Int) - (b : Int) = ((a - b : Nat) : Int) := by omega
    rw [e]; exact h _ _ _ F' N'
  · rw [if_neg hab, if_neg hab]
    have e : (0 : Int) = ((a - b : Nat) : Int) := by omega
    rw [e]; exact h _ _ _ F' N'

theorem slice_to {prog : Program} {w : World} {A : Around} {E : Value → Shared → Prop} {s : Shared} {h₀ : Heap} {L : Addr} {m : Str → Option Value} {news : List (Addr × Obj)} {b : Array UInt8} {t : Tok} {ks : List Int} {n : Nat} {tt : Tok} {value slice : Expr} {Q : Value → Shared → Prop}
    (hF : Fr h₀ L s.heap m) (hN : News h₀ L s.heap news) (hk : KBw.bInts b = ks) (hz : ks.length ≤ 64)
    (h : ∀ r h' t' k, Fr h₀ L h' m → News h₀ L h' news → KBw.bInts r = ks.take n → Q (.bytes r t') { s with heap := h', toks := k })
    (hs : subscripted slice false (.bytes b t) (.ref s.heap.objs.size) = operate [.ref s.heap.objs.size, .bytes b t] (getItem (.bytes b t) (.ref s.heap.objs.size)) := by with_unfolding_all rfl)
    (ht : ∀ r, letTemporaryGo value (.bytes b t) r = pure () := by intro _; with_unfolding_all rfl) :
    wpAny (model prog w) A (subscriptTail value slice (.bytes b t) (.ref s.heap.objs.size)) Q E { s with heap := s.heap.push { cls := .type "slice", data := .fields #[.none, .int (n : Int) tt, .none] } } :=
  KBc.slice_K hF hN hk .none (.int _ _) (by omega) (fun h' t' k F' N' _ => h _ _ _ _ F' N' (by rw [picked_take hk (Int.natCast_nonneg n), Int.toNat_natCast])) hs ht
theorem slice_from {prog : Program} {w : World} {A : Around} {E : Value → Shared → Prop} {s : Shared} {h₀ : Heap} {L : Addr} {m : Str → Option Value} {news : List (Addr × Obj)} {b : Array UInt8} {t : Tok} {ks : List Int} {n : Nat} {tt : Tok} {value slice : Expr} {Q : Value → Shared → Prop}
    (hF : Fr h₀ L s.heap m) (hN : News h₀ L s.heap news) (hk : KBw.bInts b = ks) (hz : ks.length ≤ 64)
    (h : ∀ r h' t' k, Fr h₀ L h' m → News h₀ L h' news → KBw.bInts r = ks.drop n → Q (.bytes r t') { s with heap := h', toks := k })
    (hs : subscripted slice false (.bytes b t) (.ref s.heap.objs.size) = operate [.ref s.heap.objs.size, .bytes b t] (getItem (.bytes b t) (.ref s.heap.objs.size)) := by with_unfolding_all rfl)
    (ht : ∀ r, letTemporaryGo value (.bytes b t) r = pure () := by intro _; with_unfolding_all rfl) :
    wpAny (model prog w) A (subscriptTail value slice (.bytes b t) (.ref s.heap.objs.size)) Q E { s with heap := s.heap.push { cls := .type "slice", data := .fields #[.int (n : Int) tt, .none, .none] } } :=
  KBc.slice_K hF hN hk (.int _ _) .none (by omega) (fun h' t' k F' N' _ => h _ _ _ _ F' N' (by rw [picked_drop hk (Int.natCast_nonneg n), Int.toNat_natCast])) hs ht

local macro_rules | `(tactic| walk_at "call builtin:max") => `(tactic| (k_here; k_dflt (refine' max_len ?gh ?gF ?gN ?_; (case gh => exact rfl); (case gF => k_asm); (case gN => k_asm)); intro _ _ _ F9 N9))
local macro_rules | `(tactic| walk_at "subscriptTail") => `(tactic| (k_here; (with_reducible show wpAny _ _ (subscriptTail _ (Expr.Slice (some _) none none _) (Value.bytes _ _) (Value.ref _)) _ _ _); (with_reducible rename Fr _ _ _ _ => F'); (with_reducible rename News _ _ _ _ => N'); (refine slice_from (s := ⟨_, _, _, _, _⟩) F' N' (by assumption) (by assumption) ?_); (intro _ _ _ _ F9 N9 _)))
local macro_rules | `(tactic| walk_at "subscriptTail") => `(tactic| (k_here; (with_reducible show wpAny _ _ (subscriptTail _ (Expr.Slice none (some _) none _) (Value.bytes _ _) (Value.ref _)) _ _ _); (with_reducible rename Fr _ _ _ _ => F'); (with_reducible rename News _ _ _ _ => N'); (refine slice_to (s := ⟨_, _, _, _, _⟩) F' N' (by assumption) (by assumption) ?_); (intro _ _ _ _ F9 N9 _)))


theorem cross_zip : ∀ {ks zs : List Int}, ks.length = zs.length → (List.range ks.length).map (fun i => Builtin.bitXor (ks.getD i 0) (zs.getD i 0)) = crossL ks zs
  | [], [], _ => rfl
  | [], _ :: _, h => by simp at h
  | _ :: _, [], h => by simp at h
  | k :: ks, z :: zs, h => by
    have h' : ks.length = zs.length := by simpa using h
    rw [List.length_cons, List.range_succ_eq_map, List.map_cons, List.map_map]
    show _ = Builtin.bitXor k z :: crossL ks zs
    rw [← cross_zip h']
    rfl
theorem cross_made {ys : List Value} {ks ls : List Int}
    (hi : IntsAre ys (List.map (fun k' => if 0 ≤ ks.getD k'.toNat 0 ∧ ks.getD k'.toNat 0 < 256 then Builtin.bitXor (ks.getD k'.toNat 0) (((List.replicate ((ks.length - ls.length : Nat) : Int).toNat [(0 : Int)]).flatten ++ List.drop (ls.length - ks.length) ls).getD k'.toNat 0) else k') (rangeKs 0 ((ks.length : Int) - 0).toNat))) (hk : KBa.In ks) :
    IntsAre ys (crossL ks (fit ks.length ls)) := by
  rw [flat_rep, Int.toNat_natCast] at hi
  rw [← cross_zip (fit_length ks.length ls).symm]
  have e : ((ks.length : Int) - 0).toNat = ks.length := by omega
  rw [e, rangeKs, List.map_map] at hi
  have e2 : ∀ i ∈ List.range ks.length, ((fun k' : Int => if 0 ≤ ks.getD k'.toNat 0 ∧ ks.getD k'.toNat 0 < 256 then Builtin.bitXor (ks.getD k'.toNat 0) ((List.replicate (ks.length - ls.length) (0 : Int) ++ List.drop (ls.length - ks.length) ls).getD k'.toNat 0) else k') ∘ fun i : Nat => 0 + (i : Int)) i = (fun i => Builtin.bitXor (ks.getD i 0) ((fit ks.length ls).getD i 0)) i := by
    intro i hm
    have hlt := List.mem_range.mp hm
    have e3 : ((0 : Int) + (i : Int)).toNat = i := by omega
    have hin : 0 ≤ ks.getD i 0 ∧ ks.getD i 0 < 256 := by
      have e4 : ks.getD i 0 = ks[i] := by rw [List.getD_eq_getElem?_getD, List.getElem?_eq_getElem hlt]; rfl
      rw [e4]
      exact hk _ (List.getElem_mem hlt)
    show (if 0 ≤ ks.getD ((0 : Int) + (i : Int)).toNat 0 ∧ ks.getD ((0 : Int) + (i : Int)).toNat 0 < 256 then _ else _) = _
    rw [e3, if_pos hin]
  rw [List.map_congr_left e2] at hi
  exact hi
theorem clear_any {ks ls : List Int} (h : (ls.take (ls.length - ks.length)).any (fun k => k != 0) = true) : clear ks ls = false := by
  obtain ⟨x, hm, hx⟩ := List.any_eq_true.mp h
  cases hc : clear ks ls with
  | false => rfl
  | true => have := List.all_eq_true.mp hc x hm; simp_all
theorem bne_of {x : Int} (h : (x == 0) = false) : (x != 0) = true := by simp_all
theorem clear_none {ks ls : List Int} (h : (ls.take (ls.length - ks.length)).any (fun k => k != 0) = false) : clear ks ls = true := by
  refine List.all_eq_true.mpr fun x hm => ?_
  cases hx : x == 0 with
  | true => rfl
  | false => exact absurd (List.any_eq_true.mpr ⟨x, hm, (bne_of hx)⟩) (by rw [h]; decide)
local macro_rules | `(tactic| walk_at "call type:bytes") => `(tactic| (k_here; (have iC9 := cross_made (by assumption) (by assumption)); k_dflt (refine' KBa.make_K ?kbaF ?kbaN ?kbah ?kbal iC9 (in_cross (by assumption) (in_fit (by assumption) _)) ?kban ?_; (case kbaF => k_asm); (case kbaN => k_asm); (case kbah => rfl); (case kbal => kba_isList); (case kban => (rw [cross_length]; omega))); intro _ _ _ F9 N9 kIn9))
theorem r_over {p q : Prop} {b : Bool} (h : b = false) (x : q) : if b = true then p else q := by rw [h]; exact x
theorem r_fine {p q : Prop} {b : Bool} (h : b = true) (x : p) : if b = true then p else q := by rw [h]; exact x
theorem drop_to {h₀ h : Heap} {L : Addr} {l l' : List (Addr × Obj)} (N : News h₀ L h l) (hs : ∀ p ∈ l', p ∈ l) : News h₀ L h l' := fun p hp => N p (hs p hp)
theorem os_chain {s : Shared} {a b : OsState} (h : a = b) (h' : b = s.os) : a = s.os := h.trans h'
theorem rng_hi {n : Nat} {k : Int} (h : k < 0 + (((n : Int) - 0).toNat : Int)) : k < (n : Int) := by omega
theorem rng_fit {n : Nat} {k : Int} (h : k < 0 + (((n : Int) - 0).toNat : Int)) (hn : n ≤ 64) : k < 2 ^ 63 := by omega
theorem rng_two {ks ls : List Int} {k : Int} (h : k < 0 + (((ks.length : Int) - 0).toNat : Int)) :
    k < (((List.replicate ((ks.length - ls.length : Nat) : Int).toNat [(0 : Int)]).flatten ++ List.drop (ls.length - ks.length) ls).length : Int) := by
  rw [flat_rep, Int.toNat_natCast]
  have := fit_length ks.length ls
  show k < ((fit ks.length ls).length : Int)
  omega
theorem fit_le {n : Nat} (h : n ≤ 64) : n ≤ 1099511627776 := by omega
local macro_rules | `(tactic| walk_at "subscriptTail Name Name ref int") => `(tactic| (k_here; k_dflt (refine' item_list_intsR ?gl ?gi ?ga ?gb ?gc ?_; (case gl => exact News.isList (by k_asm) (by k_mem)); (case gi => assumption); (case ga => assumption); (case gb => exact rng_two (by assumption)); (case gc => exact rng_fit (by assumption) (by assumption))); (intro _)))
local macro_rules | `(tactic| walk_at "subscriptTail Name Name bytes int") => `(tactic| (k_here; k_dflt (refine' KBw.item_K ?gl ?gi ?ga ?gb ?_; (case gl => assumption); (case gi => exact fit_le (by assumption)); (case ga => assumption); (case gb => exact rng_hi (by assumption))); (intro _ _ kbaLo kbaHi)))
theorem crs {p : Program} {loose : List Str} {w : World} {mean mg mb} {b c : Array UInt8} {ks ls : List Int} {t u : Tok} (hb : KBw.bInts b = ks) (hc : KBw.bInts c = ls) (hlk : ks.length ≤ 64) (hll : ls.length ≤ 64) :
    GivesC p loose w mean mg mb 6 64 [.bytes b t, .bytes c u] (fun v => if clear ks ls = true then ∃ b t, v = .bytes b t ∧ KBw.bInts b = crossL ks (fit ks.length ls) else ∃ t, v = .str (Str.ofString "OverflowError") t) := by
  have hIb := in_of hb
  have hIc := in_of hc
  unfold GivesC
  w_top off
  k_fill
  intro dp un gd cn cs a ccd cl outer A₀ base h₀ L m news ps s Q E B F X N hne C ht G T hk hd hu hret
  obtain ⟨ck, cnm, cg, cco, cmo⟩ := cs
  cases hk
  refine wpAny_call ?_
  k_dflt k_enter
  k_steps
  all_goals (with_reducible rename News _ _ _ _ => kN')
  all_goals first
    | (refine hret _ _ ?e0 ?e1 ?e2 ?e3 ?e4 ?e5 ?e6; (case e1 => exact r_over (clear_any (by assumption)) ⟨_, rfl⟩); (case e3 => exact drop_to (by assumption) (fun p hp => by repeat (first | exact hp | apply List.mem_cons_of_mem))); (case e2 => k_asm); (case e4 => assumption); (case e5 => assumption); (case e6 => exact os_chain (by assumption) (by assumption)))
    | (refine hret _ _ ?e0 ?e1 ?e2 ?e3 ?e4 ?e5 ?e6; (case e1 => exact r_fine (clear_none (by assumption)) ⟨_, _, rfl, KBa.ints_make (by assumption)⟩); (case e3 => exact drop_to (by assumption) (fun p hp => by repeat (first | exact hp | apply List.mem_cons_of_mem))); (case e2 => k_asm); (case e4 => assumption); (case e5 => assumption); (case e6 => exact os_chain (by assumption) (by assumption)))
end Mine

-- part L1
namespace Mine

/-- what the law's frame has to leave behind -/
def LawEnd (h₁ : Heap) (tabs : List (Addr × Addr)) (os : OsState) (r : Result) (s' : Shared) : Prop :=
  r = .ok (.ret (.bool true)) ∧ (∀ b o, (ghostOf h₁ tabs).get? b = some o → s'.heap.get? b = some o) ∧ GrownAll tabs s'.heap ∧ s'.os = os ∧ AllBare s'.gens

theorem my_post {M : Model} {A : Around} {cd : Code} {s s₁ : Shared} {cw : ClaimW} {cl : Str → Option Addr} {mean : ExcName → Option Value} {args : List WData} {tabs : List (Addr × Addr)} (hT : TabsAt tabs s₁.heap) (hr : ∀ a x, cw.raises a x = false)
    (hp : cw.post args (.bool true) args = true) (h : codeAny M A cd (LawEnd s₁.heap tabs s₁.os) s) : codeAny M A cd (GoodWG cw cl mean args s₁) s :=
  codeAny_mono h fun r s' ⟨hv, hk, hgr, hos, hg⟩ => by
    refine ⟨.inl ⟨_, _, [], hv, fun x => hr args x, ReadsW.bool true, hp, fun _ => ⟨List.nodup_nil, fun _ hm => (nomatch hm)⟩⟩, ⟨fun b o e => ?_, fun b o e => ?_⟩, hos, hg⟩
    · by_cases hb : b ∈ tabs.map (·.2)
      · obtain ⟨q, hq, rfl⟩ := List.mem_map.mp hb
        have e2 := (hT q hq).2
        rw [e] at e2
        cases e2
        obtain ⟨ps, hP⟩ := hgr.get q hq
        exact .inr (.inl ⟨((hT q hq).1.tab (hT q hq).2).isCodeTable, rfl, #[], ps, rfl, by rw [Array.empty_append]; exact hP⟩)
      · exact .inl (hk b o (ghost_ne e hb))
    · by_cases hb : b ∈ tabs.map (·.2)
      · obtain ⟨q, hq, rfl⟩ := List.mem_map.mp hb
        obtain ⟨ps, hP⟩ := hgr.get q hq
        exact ⟨_, hP⟩
      · exact ⟨o, hk b o (ghost_ne e hb)⟩

end Mine

-- part L2
namespace Mine
def lawDef : Option (List Stmt × Scope) := match (PySem.Challenge.pw_aj5024_01.main.body[15]? : Option Stmt) with
  | some (Stmt.FunctionDef _ _ b _ _ _ sc _ _ _) => some (b, sc)
  | _ => none
def lawScope : Scope := (lawDef.getD ([], default)).2
def lawBody : List Stmt := (lawDef.getD ([], default)).1
def lawTail (n : Nat) : List Stmt := lawBody.drop n
def lawStmt (n : Nat) : Stmt := lawBody.getD n default
theorem law_len : lawBody.length = 19 := by rfl
theorem law_cons {n : Nat} (h : n < 19) : lawTail n = lawStmt n :: lawTail (n + 1) := by
  have h' : n < lawBody.length := by rw [law_len]; exact h
  show lawBody.drop n = lawBody.getD n default :: lawBody.drop (n + 1)
  rw [List.drop_eq_getElem_cons h', List.getD_eq_getElem?_getD, List.getElem?_eq_getElem h']
  rfl
theorem law_cut {M : Model} {A : Around} {env : Env} {Q : Flow → Shared → Prop} {E : Value → Shared → Prop} {s : Shared} (n : Nat) (h : n < 19)
    (k : wpAny M A (exec (lawStmt n) env) (fun f s' => match f with | .next => wpAny M A (execs (lawTail (n + 1)) env) Q E s' | f => Q f s') E s) : wpAny M A (execs (lawTail n) env) Q E s := by
  rw [law_cons h]; exact wpAny_execs_cons k

/-- what the law's frame has to leave -/
def Fin (h₀ : Heap) (os : OsState) (v : Value) (s' : Shared) : Prop :=
  v = .bool true ∧ (∀ b o, h₀.get? b = some o → s'.heap.get? b = some o) ∧ GrownAt 73 s'.heap ∧ s'.os = os ∧ AllBare s'.gens
def FinF (h₀ : Heap) (os : OsState) (f : Flow) (s' : Shared) : Prop := Fin h₀ os (match f with | .ret v => v | _ => .none) s'
end Mine

-- part L4
namespace Mine
local macro_rules | `(tactic| walk_at "zz") => `(tactic| skip)
local macro_rules | `(tactic| walk_at "zz") => `(tactic| skip)
local macro_rules | `(tactic| walk_at "zz") => `(tactic| skip)
local macro_rules | `(tactic| walk_at "zz") => `(tactic| skip)
local macro_rules | `(tactic| walk_at "zz") => `(tactic| skip)
local macro_rules | `(tactic| walk_at "zz") => `(tactic| skip)
local macro_rules | `(tactic| walk_at "zz") => `(tactic| skip)
local macro_rules | `(tactic| walk_at "zz") => `(tactic| skip)
local macro_rules | `(tactic| walk_at "zz") => `(tactic| skip)
local macro_rules | `(tactic| walk_at "zz") => `(tactic| skip)
local macro_rules | `(tactic| walk_at "zz") => `(tactic| skip)
local macro_rules | `(tactic| walk_at "zz") => `(tactic| skip)
local macro_rules | `(tactic| walk_at "zz") => `(tactic| skip)
local macro_rules | `(tactic| walk_at "zz") => `(tactic| skip)
local macro_rules | `(tactic| walk_at "zz") => `(tactic| skip)
local macro_rules | `(tactic| walk_at "zz") => `(tactic| skip)
local macro_rules | `(tactic| walk_at "zz") => `(tactic| skip)
local macro_rules | `(tactic| walk_at "zz") => `(tactic| skip)
local macro_rules | `(tactic| walk_at "zz") => `(tactic| skip)
local macro_rules | `(tactic| walk_at "zz") => `(tactic| skip)
local macro_rules | `(tactic| walk_at "zz") => `(tactic| skip)
local macro_rules | `(tactic| walk_at "zz") => `(tactic| skip)
local macro_rules | `(tactic| walk_at "zz") => `(tactic| skip)
local macro_rules | `(tactic| walk_at "zz") => `(tactic| skip)
local macro_rules | `(tactic| walk_at "zz") => `(tactic| skip)
local macro_rules | `(tactic| walk_at "zz") => `(tactic| skip)
local macro_rules | `(tactic| walk_at "zz") => `(tactic| skip)
local macro_rules | `(tactic| walk_at "zz") => `(tactic| skip)
local macro_rules | `(tactic| walk_at "zz") => `(tactic| skip)
local macro_rules | `(tactic| walk_at "zz") => `(tactic| skip)
local macro_rules | `(tactic| walk_at "zz") => `(tactic| skip)
local macro_rules | `(tactic| walk_at "zz") => `(tactic| skip)
local macro_rules | `(tactic| walk_at "zz") => `(tactic| skip)
local macro_rules | `(tactic| walk_at "zz") => `(tactic| skip)
local macro_rules | `(tactic| walk_at "zz") => `(tactic| skip)
local macro_rules | `(tactic| walk_at "zz") => `(tactic| skip)
local macro_rules | `(tactic| k_room) => `(tactic| ktr_room)

/-- the frame of law -/
abbrev lawEnv (L fa : Addr) (cd : Value) : Env := envOfC (Str.ofString "law") lawScope L fa cd
/-- a name's value set, or left open -/
abbrev opt (x : Str) (v : Option Value) (m : Str → Option Value) : Str → Option Value := fun y => if y = x then v else m y
/-- what stands in the frame between two statements -/
def At (h₀ : Heap) (L : Addr) (os : OsState) (m : Str → Option Value) (o1 o2 : Obj) (s : Shared) : Prop :=
  ∃ ps : Array Value, Fr h₀ L s.heap m ∧ News h₀ L s.heap [(L + 1 + 1, o2), (L + 1, o1), (73, tabObj ps)] ∧ TriplesOk ps.toList ∧ AllBare s.gens ∧ s.os = os
theorem At.mk {h₀ : Heap} {L : Addr} {os : OsState} {m m' : Str → Option Value} {o1 o2 : Obj} {s : Shared} {ps : Array Value} {l : List (Addr × Obj)} (F : Fr h₀ L s.heap m) (N : News h₀ L s.heap l) (ht : TriplesOk ps.toList) (G : AllBare s.gens) (hos : s.os = os)
    (hl : ∀ q ∈ [(L + 1 + 1, o2), (L + 1, o1), (73, tabObj ps)], q ∈ l) (hm : m = m') : At h₀ L os m' o1 o2 s := ⟨ps, hm ▸ F, fun q hq => N q (hl q hq), ht, G, hos⟩

/-- statement n of law: from the names m and the cell of `one` to those that post tells -/
def Steps (p : Program) (loose : List Str) (w : World) (mean : ExcName → Option Value) (mg mb : Str → Option Value) (n : Nat) (m : Str → Option Value) (v2 : Option Value) (post : (Str → Option Value) → Option Value → Prop) : Prop :=
  ∀ (h₀ : Heap) (L fa : Addr) (cd : Value) (o1 o2 : Obj) (os : OsState) (s : Shared) (K : Flow → Shared → Prop) (E : Value → Shared → Prop),
    Below callerA h₀ [] h₀ → (hd.heap_39 w.params).In h₀ → Top p loose mean mg mb h₀ → CodeHd h₀ 75 73 → o2.data = .cell v2 → At h₀ L os m o1 o2 s →
    (∀ m' v2' o2' s', post m' v2' → o2'.data = .cell v2' → At h₀ L os m' o1 o2' s' → K .next s') →
      wpAny (model PySem.Challenge.rw_aj5024_01.row.prog w) (callerA.deeper (lawEnv L fa cd)) (exec (lawStmt n) (lawEnv L fa cd)) K E s
/-- as Steps, of the statements that read the script -/
def StepsS (p : Program) (loose : List Str) (w : World) (mean : ExcName → Option Value) (mg mb : Str → Option Value) (xs : List Int) (n : Nat) (m : Str → Option Value) (v2 : Option Value) (post : (Str → Option Value) → Option Value → Prop) : Prop :=
  ∀ (h₀ : Heap) (L fa S : Addr) (cd : Value) (vs : List Value) (o1 o2 : Obj) (os : OsState) (s : Shared) (K : Flow → Shared → Prop) (E : Value → Shared → Prop),
    Below callerA h₀ [] h₀ → (hd.heap_39 w.params).In h₀ → Top p loose mean mg mb h₀ → CodeHd h₀ 75 73 → h₀.IsList S vs.toArray → IntsAre vs xs → o1.data = .cell (some (.ref S)) → o2.data = .cell v2 → At h₀ L os m o1 o2 s →
    (∀ m' v2' o2' s', post m' v2' → o2'.data = .cell v2' → At h₀ L os m' o1 o2' s' → K .next s') →
      wpAny (model PySem.Challenge.rw_aj5024_01.row.prog w) (callerA.deeper (lawEnv L fa cd)) (exec (lawStmt n) (lawEnv L fa cd)) K E s

theorem st0 {p : Program} {loose : List Str} {w : World} {mean mg mb} {xs : List Int} (hlen : xs.length < 2 ^ 62) :
    StepsS p loose w mean mg mb xs 0 (fun _ => none) none (fun m v => ∃ f g t u, m = opt (Str.ofString "first") (some (.int f t)) (opt (Str.ofString "second") (some (.int g u)) (fun _ => none)) ∧ v = none) := by
  unfold StepsS
  w_top off
  k_fill
  intro h₀ L fa S cd vs o1 o2 os s K E B X T C hS hi h1 h2 hA hK
  obtain ⟨ps, F, N, ht, G, hos⟩ := hA
  conv => arg 3; arg 1; whnf
  k_steps
  all_goals exact hK _ _ _ _ ⟨_, _, _, _, rfl, rfl⟩ (by assumption) (At.mk (by assumption) (by assumption) ht G hos (fun _ hq => List.mem_cons_of_mem _ hq) rfl)

theorem len9 {x : Int} {q : Int → Int} (h : x < 10) : ((rangeKs 0 (x - 0).toNat).map q).length ≤ 9 := by rw [List.length_map, rangeKs_length]; omega
/-- the names first and second -/
abbrev mF (f g : Int) (t u : Tok) : Str → Option Value := opt (Str.ofString "first") (some (.int f t)) (opt (Str.ofString "second") (some (.int g u)) (fun _ => none))

theorem st1 {p : Program} {loose : List Str} {w : World} {mean mg mb} {xs : List Int} (hlen : xs.length < 2 ^ 62) {f g : Int} {t u : Tok} :
    StepsS p loose w mean mg mb xs 1 (mF f g t u) none (fun m v => m = mF f g t u ∧ ∃ b t ks, v = some (.bytes b t) ∧ KBw.bInts b = ks ∧ ks.length ≤ 9) := by
  unfold StepsS
  k_fill
  intro h₀ L fa S cd vs o1 o2 os s K E B X T C hS hi h1 h2 hA hK
  obtain ⟨ps, F, N, ht, G, hos⟩ := hA
  conv => arg 3; arg 1; whnf
  k_steps
  all_goals exact hK _ _ _ _ ⟨rfl, _, _, _, rfl, KBa.ints_make (by assumption), len9 (by assumption)⟩ (by assumption) (At.mk (by assumption) (by assumption) ht G hos (fun _ hq => List.mem_append_right _ hq) rfl)

theorem st2 {p : Program} {loose : List Str} {w : World} {mean mg mb} {xs : List Int} (hlen : xs.length < 2 ^ 62) {f g : Int} {t u : Tok} {v : Option Value} :
    StepsS p loose w mean mg mb xs 2 (mF f g t u) v (fun m v' => v' = v ∧ ∃ b t' ks, m = opt (Str.ofString "two") (some (.bytes b t')) (mF f g t u) ∧ KBw.bInts b = ks ∧ ks.length ≤ 9) := by
  unfold StepsS
  k_fill
  intro h₀ L fa S cd vs o1 o2 os s K E B X T C hS hi h1 h2 hA hK
  obtain ⟨ps, F, N, ht, G, hos⟩ := hA
  conv => arg 3; arg 1; whnf
  k_steps
  all_goals exact hK _ _ _ _ ⟨rfl, _, _, _, rfl, KBa.ints_make (by assumption), len9 (by assumption)⟩ h2 (At.mk (by assumption) (by assumption) ht G hos (fun _ hq => List.mem_cons_of_mem _ hq) rfl)
end Mine

-- part Sl
namespace Mine
section
variable {prog : Program} {w : World} {A : Around} {E : Value → Shared → Prop} {s : Shared} {h₀ : Heap} {L : Addr} {m : Str → Option Value} {news : List (Addr × Obj)}
theorem sliceI_to {b : Array UInt8} {t : Tok} {ks : List Int} {x : Int} {tt : Tok} {value slice : Expr} {Q : Value → Shared → Prop}
    (hF : Fr h₀ L s.heap m) (hN : News h₀ L s.heap news) (hk : KBw.bInts b = ks) (hz : ks.length ≤ 64) (hx : 0 ≤ x)
    (h : ∀ r h' t' k, Fr h₀ L h' m → News h₀ L h' news → KBw.bInts r = ks.take x.toNat → Q (.bytes r t') { s with heap := h', toks := k })
    (hs : subscripted slice false (.bytes b t) (.ref s.heap.objs.size) = operate [.ref s.heap.objs.size, .bytes b t] (getItem (.bytes b t) (.ref s.heap.objs.size)) := by with_unfolding_all rfl)
    (ht : ∀ r, letTemporaryGo value (.bytes b t) r = pure () := by intro _; with_unfolding_all rfl) :
    wpAny (model prog w) A (subscriptTail value slice (.bytes b t) (.ref s.heap.objs.size)) Q E { s with heap := s.heap.push { cls := .type "slice", data := .fields #[.none, .int x tt, .none] } } :=
  KBc.slice_K hF hN hk .none (.int _ _) (by omega) (fun h' t' k F' N' _ => h _ _ _ _ F' N' (picked_take hk hx)) hs ht
theorem sliceI_from {b : Array UInt8} {t : Tok} {ks : List Int} {x : Int} {tt : Tok} {value slice : Expr} {Q : Value → Shared → Prop}
    (hF : Fr h₀ L s.heap m) (hN : News h₀ L s.heap news) (hk : KBw.bInts b = ks) (hz : ks.length ≤ 64) (hx : 0 ≤ x)
    (h : ∀ r h' t' k, Fr h₀ L h' m → News h₀ L h' news → KBw.bInts r = ks.drop x.toNat → Q (.bytes r t') { s with heap := h', toks := k })
    (hs : subscripted slice false (.bytes b t) (.ref s.heap.objs.size) = operate [.ref s.heap.objs.size, .bytes b t] (getItem (.bytes b t) (.ref s.heap.objs.size)) := by with_unfolding_all rfl)
    (ht : ∀ r, letTemporaryGo value (.bytes b t) r = pure () := by intro _; with_unfolding_all rfl) :
    wpAny (model prog w) A (subscriptTail value slice (.bytes b t) (.ref s.heap.objs.size)) Q E { s with heap := s.heap.push { cls := .type "slice", data := .fields #[.int x tt, .none, .none] } } :=
  KBc.slice_K hF hN hk (.int _ _) .none (by omega) (fun h' t' k F' N' _ => h _ _ _ _ F' N' (picked_drop hk hx)) hs ht
end
theorem opt_opt (x : Str) (v u : Option Value) (m : Str → Option Value) : opt x v (opt x u m) = opt x v m := by
  funext y
  by_cases h : y = x
  · simp [opt, h]
  · simp [opt, h]
theorem opt_comm {x z : Str} (hz : x ≠ z) (v u : Option Value) (m : Str → Option Value) : opt x v (opt z u m) = opt z u (opt x v m) := by
  funext y
  by_cases h : y = x
  · subst h; simp [opt, hz]
  · simp [opt, h]
theorem opt_none {x : Str} {m : Str → Option Value} (h : m x = none) : m = opt x none m := by
  funext y
  by_cases e : y = x
  · subst e; simp [opt, h]
  · simp [opt, e]
end Mine

-- part S3
namespace Mine
local macro_rules | `(tactic| walk_at "zz") => `(tactic| skip)
local macro_rules | `(tactic| walk_at "zz") => `(tactic| skip)
local macro_rules | `(tactic| walk_at "zz") => `(tactic| skip)
local macro_rules | `(tactic| walk_at "zz") => `(tactic| skip)
local macro_rules | `(tactic| walk_at "zz") => `(tactic| skip)
local macro_rules | `(tactic| walk_at "zz") => `(tactic| skip)
local macro_rules | `(tactic| walk_at "zz") => `(tactic| skip)
local macro_rules | `(tactic| walk_at "zz") => `(tactic| skip)
local macro_rules | `(tactic| walk_at "zz") => `(tactic| skip)
local macro_rules | `(tactic| walk_at "zz") => `(tactic| skip)
local macro_rules | `(tactic| walk_at "zz") => `(tactic| skip)
local macro_rules | `(tactic| walk_at "zz") => `(tactic| skip)
local macro_rules | `(tactic| walk_at "zz") => `(tactic| skip)
local macro_rules | `(tactic| walk_at "zz") => `(tactic| skip)
local macro_rules | `(tactic| walk_at "zz") => `(tactic| skip)
local macro_rules | `(tactic| walk_at "zz") => `(tactic| skip)
local macro_rules | `(tactic| walk_at "zz") => `(tactic| skip)
local macro_rules | `(tactic| walk_at "zz") => `(tactic| skip)
local macro_rules | `(tactic| walk_at "zz") => `(tactic| skip)
local macro_rules | `(tactic| walk_at "zz") => `(tactic| skip)
local macro_rules | `(tactic| walk_at "zz") => `(tactic| skip)
local macro_rules | `(tactic| walk_at "zz") => `(tactic| skip)
local macro_rules | `(tactic| walk_at "zz") => `(tactic| skip)
local macro_rules | `(tactic| walk_at "zz") => `(tactic| skip)
local macro_rules | `(tactic| walk_at "zz") => `(tactic| skip)
local macro_rules | `(tactic| walk_at "zz") => `(tactic| skip)
local macro_rules | `(tactic| walk_at "zz") => `(tactic| skip)
local macro_rules | `(tactic| walk_at "zz") => `(tactic| skip)
local macro_rules | `(tactic| walk_at "zz") => `(tactic| skip)
local macro_rules | `(tactic| walk_at "zz") => `(tactic| skip)
local macro_rules | `(tactic| walk_at "zz") => `(tactic| skip)
local macro_rules | `(tactic| walk_at "zz") => `(tactic| skip)
local macro_rules | `(tactic| walk_at "zz") => `(tactic| skip)
local macro_rules | `(tactic| walk_at "zz") => `(tactic| skip)
local macro_rules | `(tactic| walk_at "zz") => `(tactic| skip)
local macro_rules | `(tactic| walk_at "zz") => `(tactic| skip)
local macro_rules | `(tactic| walk_at "zz") => `(tactic| skip)
local macro_rules | `(tactic| k_room) => `(tactic| ktr_room)

theorem st3 {p : Program} {loose : List Str} {w : World} {mean mg mb} {f g : Int} {t u : Tok} {b c : Array UInt8} {tb tc : Tok} {ks ls : List Int} (hb : KBw.bInts b = ks) (hc : KBw.bInts c = ls) (hlk : ks.length ≤ 9) (hll : ls.length ≤ 9) :
    Steps p loose w mean mg mb 3 (opt (Str.ofString "two") (some (.bytes c tc)) (mF f g t u)) (some (.bytes b tb)) (fun m v => v = some (.bytes b tb) ∧ ∃ c tc ls, m = opt (Str.ofString "two") (some (.bytes c tc)) (mF f g t u) ∧ KBw.bInts c = ls ∧ ls.length ≤ 9) := by
  unfold Steps
  w_top off
  k_fill
  intro h₀ L fa cd o1 o2 os s K E B X T C h2 hA hK
  obtain ⟨ps, F, N, ht, G, hos⟩ := hA
  conv => arg 3; arg 1; whnf
  k_steps
  all_goals first
    | exact hK _ _ _ _ ⟨rfl, _, _, _, rfl, hc, hll⟩ h2 (At.mk (by assumption) (by assumption) ht G hos (fun _ hq => hq) rfl)
    | exact hK _ _ _ _ ⟨rfl, _, _, _, rfl, hb, hlk⟩ h2 (At.mk (by assumption) (by assumption) ht G hos (fun _ hq => hq) (opt_opt _ _ _ _))

theorem cut_len {α : Type} {ks y : List α} {p : Int} (h0 : 0 ≤ p) (h1 : p < (ks.length : Int)) (hy : y.length = 1) (h9 : ks.length ≤ 9) :
    (ks.take (clipAt ks.length p) ++ y ++ (ks.drop (clipAt ks.length (p + 1))).take (ks.length - clipAt ks.length (p + 1))).length ≤ 9 := by
  rw [clip_pos h0, clip_pos (show 0 ≤ p + 1 by omega)]
  simp only [List.length_append, List.length_take, List.length_drop, hy]
  omega
theorem two_place (V P U : Option Value) (m : Str → Option Value) : opt (Str.ofString "two") V (opt (Str.ofString "place") P (opt (Str.ofString "two") U m)) = opt (Str.ofString "two") V (opt (Str.ofString "place") P m) := by
  rw [opt_comm (show Str.ofString "place" ≠ Str.ofString "two" by decide) P U m, opt_opt]
theorem st4 {p : Program} {loose : List Str} {w : World} {mean mg mb} {f g : Int} {t u : Tok} {b c : Array UInt8} {tb tc : Tok} {ks ls : List Int} (hb : KBw.bInts b = ks) (hc : KBw.bInts c = ls) (hlk : ks.length ≤ 9) (hll : ls.length ≤ 9) :
    Steps p loose w mean mg mb 4 (opt (Str.ofString "two") (some (.bytes c tc)) (mF f g t u)) (some (.bytes b tb)) (fun m v => v = some (.bytes b tb) ∧ ∃ c tc ls pl, m = opt (Str.ofString "two") (some (.bytes c tc)) (opt (Str.ofString "place") pl (mF f g t u)) ∧ KBw.bInts c = ls ∧ ls.length ≤ 9) := by
  unfold Steps
  k_fill
  intro h₀ L fa cd o1 o2 os s K E B X T C h2 hA hK
  obtain ⟨ps, F, N, ht, G, hos⟩ := hA
  conv => arg 3; arg 1; whnf
  k_steps
  all_goals first
    | exact hK _ _ _ _ ⟨rfl, _, _, _, none, rfl, hc, hll⟩ h2 (At.mk (by assumption) (by assumption) ht G hos (fun _ hq => hq) (by rw [← opt_none rfl]))
    | exact hK _ _ _ _ ⟨rfl, _, _, _, some _, rfl, by assumption, cut_len (Int.fmod_nonneg_of_pos _ (by omega)) (Int.fmod_lt_of_pos _ (by omega)) rfl hlk⟩ h2 (At.mk (by assumption) (by assumption) ht G hos (fun _ hq => List.mem_cons_of_mem _ hq) (two_place _ _ _ _))

theorem st5 {p : Program} {loose : List Str} {w : World} {mean mg mb} {f g : Int} {t u : Tok} {m : Str → Option Value} {v : Option Value} (hm : m = opt (Str.ofString "two") v2 (opt (Str.ofString "place") pl (mF f g t u))) :
    Steps p loose w mean mg mb 5 m v (fun m' v' => v' = v ∧ ∃ z t, m' = opt (Str.ofString "size") (some (.int z t)) m ∧ 0 ≤ z ∧ z ≤ 20) := by
  subst hm
  unfold Steps
  k_fill
  intro h₀ L fa cd o1 o2 os s K E B X T C h2 hA hK
  obtain ⟨ps, F, N, ht, G, hos⟩ := hA
  conv => arg 3; arg 1; whnf
  k_steps
  all_goals first
    | exact hK _ _ _ _ ⟨rfl, _, _, rfl, Int.fmod_nonneg_of_pos _ (by omega), Int.le_of_lt_add_one (Int.fmod_lt_of_pos _ (by omega))⟩ h2 (At.mk (by assumption) (by assumption) ht G hos (fun _ hq => hq) rfl)
end Mine

-- part S6
namespace Mine
local macro_rules | `(tactic| walk_at "zz") => `(tactic| skip)
local macro_rules | `(tactic| walk_at "zz") => `(tactic| skip)
local macro_rules | `(tactic| walk_at "zz") => `(tactic| skip)
local macro_rules | `(tactic| walk_at "zz") => `(tactic| skip)
local macro_rules | `(tactic| walk_at "zz") => `(tactic| skip)
local macro_rules | `(tactic| walk_at "zz") => `(tactic| skip)
local macro_rules | `(tactic| walk_at "zz") => `(tactic| skip)
local macro_rules | `(tactic| walk_at "zz") => `(tactic| skip)
local macro_rules | `(tactic| walk_at "zz") => `(tactic| skip)
local macro_rules | `(tactic| walk_at "zz") => `(tactic| skip)
local macro_rules | `(tactic| walk_at "zz") => `(tactic| skip)
local macro_rules | `(tactic| walk_at "zz") => `(tactic| skip)
local macro_rules | `(tactic| walk_at "zz") => `(tactic| skip)
local macro_rules | `(tactic| walk_at "zz") => `(tactic| skip)
local macro_rules | `(tactic| walk_at "zz") => `(tactic| skip)
local macro_rules | `(tactic| walk_at "zz") => `(tactic| skip)
local macro_rules | `(tactic| walk_at "zz") => `(tactic| skip)
local macro_rules | `(tactic| walk_at "zz") => `(tactic| skip)
local macro_rules | `(tactic| walk_at "zz") => `(tactic| skip)
local macro_rules | `(tactic| walk_at "zz") => `(tactic| skip)
local macro_rules | `(tactic| walk_at "zz") => `(tactic| skip)
local macro_rules | `(tactic| walk_at "zz") => `(tactic| skip)
local macro_rules | `(tactic| walk_at "zz") => `(tactic| skip)
local macro_rules | `(tactic| walk_at "zz") => `(tactic| skip)
local macro_rules | `(tactic| walk_at "zz") => `(tactic| skip)
local macro_rules | `(tactic| walk_at "zz") => `(tactic| skip)
local macro_rules | `(tactic| walk_at "zz") => `(tactic| skip)
local macro_rules | `(tactic| walk_at "zz") => `(tactic| skip)
local macro_rules | `(tactic| walk_at "zz") => `(tactic| skip)
local macro_rules | `(tactic| walk_at "zz") => `(tactic| skip)
local macro_rules | `(tactic| walk_at "zz") => `(tactic| skip)
local macro_rules | `(tactic| walk_at "zz") => `(tactic| skip)
local macro_rules | `(tactic| walk_at "zz") => `(tactic| skip)
local macro_rules | `(tactic| walk_at "zz") => `(tactic| skip)
local macro_rules | `(tactic| walk_at "zz") => `(tactic| skip)
local macro_rules | `(tactic| walk_at "zz") => `(tactic| skip)
local macro_rules | `(tactic| walk_at "zz") => `(tactic| skip)
local macro_rules | `(tactic| walk_at "zz") => `(tactic| skip)
local macro_rules | `(tactic| k_room) => `(tactic| ktr_room)
local macro_rules | `(tactic| walk_at "call ref") => `(tactic| (k_here; (with_reducible show wpAny _ _ (call (Value.ref 57) [Value.bytes _ _, Value.int _ _]) _ _ _); k_dflt (refine' Gives.use (rps_b (by with_reducible assumption) (by omega) (by with_reducible assumption) (by with_reducible assumption)) ?k1 ?k2 ?k3 ?k4 ?k5 ?kK ?kd ?ku ?_; (case k1 => k_asm); (case k2 => k_asm); (case k3 => k_asm); (case k4 => k_asm); (case k5 => k_asm); (case kK => first | exact rfl | assumption); (case kd => ktr_room); (case ku => ktr_units)); (intro _ _ _ rv F9 N9); (obtain ⟨_, _, rvE, rpIn⟩ := rv); subst rvE; (try dsimp only); (try k_fold)))
local macro_rules | `(tactic| walk_at "call ref") => `(tactic| (k_here; (with_reducible show wpAny _ _ (call (Value.ref 57) [Value.bytes _ _, Value.int _ _, Value.bytes _ _]) _ _ _); k_dflt (refine' Gives.use (rps_bp (by with_reducible assumption) (by omega) (by with_reducible assumption) (by with_reducible assumption)) ?k1 ?k2 ?k3 ?k4 ?k5 ?kK ?kd ?ku ?_; (case k1 => k_asm); (case k2 => k_asm); (case k3 => k_asm); (case k4 => k_asm); (case k5 => k_asm); (case kK => first | exact rfl | assumption); (case kd => ktr_room); (case ku => ktr_units)); (intro _ _ _ rv F9 N9); (obtain ⟨_, _, rvE, rpIn⟩ := rv); subst rvE; (try dsimp only); (try k_fold)))

theorem ints_inj {b c : Array UInt8} (h : KBw.bInts b = KBw.bInts c) : b.toList = c.toList := by
  have e : ∀ (x y : List UInt8), x.map (fun c => ((c.toNat : Nat) : Int)) = y.map (fun c => ((c.toNat : Nat) : Int)) → x = y := by
    intro x
    induction x with
    | nil => intro y h; cases y with
      | nil => rfl
      | cons _ _ => cases h
    | cons a x ih => intro y h; cases y with
      | nil => cases h
      | cons c y =>
        rw [List.map_cons, List.map_cons] at h
        injection h with h1 h2
        rw [ih y h2, UInt8.toNat_inj.mp (Int.ofNat.inj h1)]
  exact e _ _ h
theorem ne_same {prog : Program} {w : World} {A : Around} {E : Value → Shared → Prop} {s : Shared} {b c : Array UInt8} {t u : Tok} {ks : List Int} {Q : Value → Shared → Prop} (hb : KBw.bInts b = ks) (hc : KBw.bInts c = ks) (h : Q (.bool false) s) :
    wpAny (model prog w) A (compareOp .NotEq (.bytes b t) (.bytes c u)) Q E s := by
  refine ne_bytes ?_
  rw [ints_inj (hb.trans hc.symm)]
  rw [bne_self_eq_false]
  exact h
theorem ne_pad {prog : Program} {w : World} {A : Around} {E : Value → Shared → Prop} {s : Shared} {b c : Array UInt8} {t u : Tok} {ks xs ys : List Int} {z : Nat} {Q : Value → Shared → Prop} (hb : KBw.bInts b = (ks ++ xs).take z) (hc : KBw.bInts c = (ks ++ ys).take z) (e : ys = xs) (h : Q (.bool false) s) :
    wpAny (model prog w) A (compareOp .NotEq (.bytes b t) (.bytes c u)) Q E s := by
  subst e; exact ne_same hb hc h
theorem pad_le {ks : List Int} {x : List UInt8} {q : UInt8 → Int} (h : ks.length ≤ 9) (hx : x.length = 21) : (ks ++ x.map q).length ≤ 64 := by rw [List.length_append, List.length_map, hx]; omega
local macro_rules | `(tactic| walk_at "subscriptTail") => `(tactic| (k_here; (with_reducible show wpAny _ _ (subscriptTail _ (Expr.Slice none (some _) none _) (Value.bytes _ _) (Value.ref _)) _ _ _); (with_reducible rename Fr _ _ _ _ => F'); (with_reducible rename News _ _ _ _ => N'); (refine sliceI_to (s := ⟨_, _, _, _, _⟩) F' N' (by with_reducible assumption) (pad_le (by with_reducible assumption) rfl) (by with_reducible assumption) ?_); (intro _ _ _ _ F9 N9 _)))
local macro_rules | `(tactic| walk_at "compareOp NotEq bytes bytes") => `(tactic| (k_here; refine ne_pad (by with_reducible assumption) (by with_reducible assumption) (by with_unfolding_all rfl) ?_))
/-- the names in front of statement 6 -/
abbrev mS (z : Int) (tz : Tok) (c : Array UInt8) (tc : Tok) (pl : Option Value) (f g : Int) (t u : Tok) : Str → Option Value := opt (Str.ofString "size") (some (.int z tz)) (opt (Str.ofString "two") (some (.bytes c tc)) (opt (Str.ofString "place") pl (mF f g t u)))

theorem st6 {p : Program} {loose : List Str} {w : World} {mean mg mb} {m : Str → Option Value} {z : Int} {tz : Tok} {b : Array UInt8} {tb : Tok} {ks : List Int} (hb : KBw.bInts b = ks) (hlk : ks.length ≤ 9) (hz0 : 0 ≤ z) (hz1 : z ≤ 20) :
    Steps p loose w mean mg mb 6 (opt (Str.ofString "size") (some (.int z tz)) m) (some (.bytes b tb)) (fun m' v => v = some (.bytes b tb) ∧ m' = opt (Str.ofString "size") (some (.int z tz)) m) := by
  unfold Steps
  w_top off
  k_fill
  intro h₀ L fa cd o1 o2 os s K E B X T C h2 hA hK
  obtain ⟨ps, F, N, ht, G, hos⟩ := hA
  conv => arg 3; arg 1; whnf
  k_steps
  all_goals exact hK _ _ _ _ ⟨rfl, rfl⟩ h2 (At.mk (by assumption) (by assumption) ht G hos (fun _ hq => hq) rfl)
end Mine

-- part Sg
namespace Mine
/-- the sign that stands for an octet -/
abbrev sgn (k : Int) : Str := ⟨#[(33 + k.fmod 90).toNat]⟩
theorem elt_sign {prog : Program} {w : World} {A : Around} {h₀ : Heap} {mg mb : Str → Option Value} {p : Program} {loose : List Str} {mean : ExcName → Option Value} {scope : Scope} {env : Env} {p1 q1 px q2 q3 q4 pos : Pos} {n1 n2 : Nat} (T : Top p loose mean mg mb h₀) (hmg : mg (Str.ofString "chr") = none) (hgl : env.globals = mainGlobals) (hbi : env.builtins = builtinsNs) (hk : scope.kind = .function) (hx : scope.names.lookup (Str.ofString "octet") = some .local) (hc : scope.names.lookup (Str.ofString "chr") = some .globalImplicit) :
    ∀ (C : Addr) (k : Int) (tk : Tok) (u : Shared) (m₂ : Str → Option Value) (E' : Value → Shared → Prop), u.heap.Ns C m₂ → m₂ (Str.ofString "octet") = some (.int k tk) → 0 ≤ k → k < 256 → (∀ b o, h₀.get? b = some o → u.heap.get? b = some o) →
      wpAny (model prog w) A (eval (.Call (.Name (Str.ofString "chr") p1) [.BinOp (.Constant (.int 33) n1 q1) .Add (.BinOp (.Name (Str.ofString "octet") px) .Mod (.Constant (.int 90) n2 q2) q3) q4] [] pos) (compEnv scope C env)) (fun y s₄ => (∃ t, y = .str (sgn k) t) ∧ Keeps u s₄) E' u := by
  intro C k tk u m₂ E' hn hm h0 h1 hkp
  refine wpAny_Call_NameR ?_
  refine Name_function_global hk hc (loadGlobal_builtin (by show u.heap.Ns env.globals mg; rw [hgl]; exact T.g.keeps hkp) hmg (by show u.heap.Ns env.builtins mb; rw [hbi]; exact T.b.keeps hkp) ((T.builtins (Str.ofString "chr") (by decide)).trans boot_chr) ?_) (by decide)
  walk1
  walk1
  refine wpAny_BinOp ?_
  refine wpAny_Constant_int ?_
  refine wpAny_BinOp ?_
  refine wpAny_Name (wpAny_loadName_local (m := m₂) hk hx hn hm ?_) (by decide)
  refine wpAny_Constant_int ?_
  refine mod_int (by decide) ?_
  refine add_int ?_
  walk1
  have hf0 := Int.fmod_nonneg_of_pos k (show (0 : Int) < 90 by decide)
  have hf1 := Int.fmod_lt_of_pos k (show (0 : Int) < 90 by decide)
  refine chr_of_range (by omega) (by omega) ?_
  exact ⟨⟨_, rfl⟩, _, _, rfl, fun _ _ e => e⟩
theorem signs_carried : ∀ {ks : List Int} {ys : List Value}, Paired (fun k (y : Value) => ∃ t, y = .str (sgn k) t) ks ys → CarriedAll ys (ks.map fun k => PyData.str (sgn k))
  | [], _, .nil => .nil
  | _ :: _, _, .cons ⟨t, e⟩ r => e ▸ .cons (.str _ t) (signs_carried r)
end Mine

-- part S7
namespace Mine
local macro_rules | `(tactic| walk_at "zz") => `(tactic| skip)
local macro_rules | `(tactic| walk_at "zz") => `(tactic| skip)
local macro_rules | `(tactic| walk_at "zz") => `(tactic| skip)
local macro_rules | `(tactic| walk_at "zz") => `(tactic| skip)
local macro_rules | `(tactic| walk_at "zz") => `(tactic| skip)
local macro_rules | `(tactic| walk_at "zz") => `(tactic| skip)
local macro_rules | `(tactic| walk_at "zz") => `(tactic| skip)
local macro_rules | `(tactic| walk_at "zz") => `(tactic| skip)
local macro_rules | `(tactic| walk_at "zz") => `(tactic| skip)
local macro_rules | `(tactic| walk_at "zz") => `(tactic| skip)
local macro_rules | `(tactic| walk_at "zz") => `(tactic| skip)
local macro_rules | `(tactic| walk_at "zz") => `(tactic| skip)
local macro_rules | `(tactic| walk_at "zz") => `(tactic| skip)
local macro_rules | `(tactic| walk_at "zz") => `(tactic| skip)
local macro_rules | `(tactic| walk_at "zz") => `(tactic| skip)
local macro_rules | `(tactic| walk_at "zz") => `(tactic| skip)
local macro_rules | `(tactic| walk_at "zz") => `(tactic| skip)
local macro_rules | `(tactic| walk_at "zz") => `(tactic| skip)
local macro_rules | `(tactic| walk_at "zz") => `(tactic| skip)
local macro_rules | `(tactic| walk_at "zz") => `(tactic| skip)
local macro_rules | `(tactic| walk_at "zz") => `(tactic| skip)
local macro_rules | `(tactic| walk_at "zz") => `(tactic| skip)
local macro_rules | `(tactic| walk_at "zz") => `(tactic| skip)
local macro_rules | `(tactic| walk_at "zz") => `(tactic| skip)
local macro_rules | `(tactic| walk_at "zz") => `(tactic| skip)
local macro_rules | `(tactic| walk_at "zz") => `(tactic| skip)
local macro_rules | `(tactic| walk_at "zz") => `(tactic| skip)
local macro_rules | `(tactic| walk_at "zz") => `(tactic| skip)
local macro_rules | `(tactic| walk_at "zz") => `(tactic| skip)
local macro_rules | `(tactic| walk_at "zz") => `(tactic| skip)
local macro_rules | `(tactic| walk_at "zz") => `(tactic| skip)
local macro_rules | `(tactic| walk_at "zz") => `(tactic| skip)
local macro_rules | `(tactic| walk_at "zz") => `(tactic| skip)
local macro_rules | `(tactic| walk_at "zz") => `(tactic| skip)
local macro_rules | `(tactic| walk_at "zz") => `(tactic| skip)
local macro_rules | `(tactic| walk_at "zz") => `(tactic| skip)
local macro_rules | `(tactic| walk_at "zz") => `(tactic| skip)
local macro_rules | `(tactic| walk_at "zz") => `(tactic| skip)
local macro_rules | `(tactic| walk_at "zz") => `(tactic| skip)
local macro_rules | `(tactic| walk_at "zz") => `(tactic| skip)
local macro_rules | `(tactic| walk_at "zz") => `(tactic| skip)
local macro_rules | `(tactic| walk_at "zz") => `(tactic| skip)
local macro_rules | `(tactic| walk_at "zz") => `(tactic| skip)
local macro_rules | `(tactic| k_room) => `(tactic| ktr_room)

theorem chr_free {w : World} : nsIn (hd.heap_39 w.params) mainGlobals (Str.ofString "chr") = some none := by kernel_rfl
local macro_rules | `(tactic| walk_at "eval ListComp") => `(tactic| (k_here; (with_reducible apply ListComp_rowsP); (case hfree => decide); (case hcell => decide); (case hkind => with_unfolding_all rfl); (case hnames => decide); (case hx => with_unfolding_all rfl); (case hs => intro _; with_unfolding_all rfl)))
local macro_rules | `(tactic| walk_at "pyIter bytes") => `(tactic| (k_here; (with_reducible show wpAny _ _ (pyIter (Value.bytes _ _)) (CompPost _ _ _ _ _ _ _ _ _) _ _); k_dflt (refine' comp_bytes (G := fun k y => ∃ t, y = .str (sgn k) t) ?gh ?gF ?gN ?gb ?gz (elt_sign (by assumption) (mg_none_of (by assumption) (Top.g (by assumption)) chr_free) rfl rfl rfl rfl rfl) ?_; (case gh => exact rfl); (case gF => k_asm); (case gN => k_asm); (case gb => with_reducible assumption); (case gz => omega)); (intro d5 h5 tk5 n5 ys5 F5 N5 gnA pr5); (simp only [GnNe, and_true] at gnA); (have iX5 := signs_carried pr5); clear pr5))
theorem st7 {p : Program} {loose : List Str} {w : World} {mean mg mb} {m : Str → Option Value} {b : Array UInt8} {tb : Tok} {ks : List Int} (hb : KBw.bInts b = ks) (hlk : ks.length ≤ 9) :
    Steps p loose w mean mg mb 7 m (some (.bytes b tb)) (fun m' v => v = some (.bytes b tb) ∧ ∃ x t, m' = opt (Str.ofString "text") (some (.str x t)) m ∧ x.length = ks.length) := by
  unfold Steps
  w_top off
  k_fill
  intro h₀ L fa cd o1 o2 os s K E B X T C h2 hA hK
  obtain ⟨ps, F, N, ht, G, hos⟩ := hA
  conv => arg 3; arg 1; whnf
  k_steps
  all_goals exact hK _ _ _ _ ⟨rfl, _, _, rfl, by assumption⟩ h2 (At.mk (by assumption) (by assumption) ht G hos (fun _ hq => List.mem_cons_of_mem _ hq) rfl)

/-- the names behind statement 9 -/
abbrev mD (sd : Option Value) (x : Str) (tx : Tok) (z : Int) (tz : Tok) (c : Array UInt8) (tc : Tok) (m : Str → Option Value) : Str → Option Value :=
  opt (Str.ofString "said") sd (opt (Str.ofString "text") (some (.str x tx)) (opt (Str.ofString "size") (some (.int z tz)) (opt (Str.ofString "two") (some (.bytes c tc)) m)))
theorem st13 {p : Program} {loose : List Str} {w : World} {mean mg mb} {m : Str → Option Value} {sd v : Option Value} {x : Str} {tx tz tc : Tok} {z : Int} {c : Array UInt8} {ls : List Int} (hc : KBw.bInts c = ls) (hll : ls.length ≤ 9) :
    Steps p loose w mean mg mb 13 (mD sd x tx z tz c tc m) v (fun m' v' => v' = v ∧ ∃ y t, m' = opt (Str.ofString "other") (some (.str y t)) (mD sd x tx z tz c tc m) ∧ y.length = ls.length) := by
  unfold Steps
  k_fill
  intro h₀ L fa cd o1 o2 os s K E B X T C h2 hA hK
  obtain ⟨ps, F, N, ht, G, hos⟩ := hA
  conv => arg 3; arg 1; whnf
  k_steps
  all_goals exact hK _ _ _ _ ⟨rfl, _, _, rfl, by assumption⟩ h2 (At.mk (by assumption) (by assumption) ht G hos (fun _ hq => List.mem_cons_of_mem _ hq) rfl)
end Mine

-- part S8
namespace Mine
local macro_rules | `(tactic| walk_at "zz") => `(tactic| skip)
local macro_rules | `(tactic| walk_at "zz") => `(tactic| skip)
local macro_rules | `(tactic| walk_at "zz") => `(tactic| skip)
local macro_rules | `(tactic| walk_at "zz") => `(tactic| skip)
local macro_rules | `(tactic| walk_at "zz") => `(tactic| skip)
local macro_rules | `(tactic| walk_at "zz") => `(tactic| skip)
local macro_rules | `(tactic| walk_at "zz") => `(tactic| skip)
local macro_rules | `(tactic| walk_at "zz") => `(tactic| skip)
local macro_rules | `(tactic| walk_at "zz") => `(tactic| skip)
local macro_rules | `(tactic| walk_at "zz") => `(tactic| skip)
local macro_rules | `(tactic| walk_at "zz") => `(tactic| skip)
local macro_rules | `(tactic| walk_at "zz") => `(tactic| skip)
local macro_rules | `(tactic| walk_at "zz") => `(tactic| skip)
local macro_rules | `(tactic| walk_at "zz") => `(tactic| skip)
local macro_rules | `(tactic| walk_at "zz") => `(tactic| skip)
local macro_rules | `(tactic| walk_at "zz") => `(tactic| skip)
local macro_rules | `(tactic| walk_at "zz") => `(tactic| skip)
local macro_rules | `(tactic| walk_at "zz") => `(tactic| skip)
local macro_rules | `(tactic| walk_at "zz") => `(tactic| skip)
local macro_rules | `(tactic| walk_at "zz") => `(tactic| skip)
local macro_rules | `(tactic| walk_at "zz") => `(tactic| skip)
local macro_rules | `(tactic| walk_at "zz") => `(tactic| skip)
local macro_rules | `(tactic| walk_at "zz") => `(tactic| skip)
local macro_rules | `(tactic| walk_at "zz") => `(tactic| skip)
local macro_rules | `(tactic| walk_at "zz") => `(tactic| skip)
local macro_rules | `(tactic| walk_at "zz") => `(tactic| skip)
local macro_rules | `(tactic| walk_at "zz") => `(tactic| skip)
local macro_rules | `(tactic| walk_at "zz") => `(tactic| skip)
local macro_rules | `(tactic| walk_at "zz") => `(tactic| skip)
local macro_rules | `(tactic| walk_at "zz") => `(tactic| skip)
local macro_rules | `(tactic| walk_at "zz") => `(tactic| skip)
local macro_rules | `(tactic| walk_at "zz") => `(tactic| skip)
local macro_rules | `(tactic| walk_at "zz") => `(tactic| skip)
local macro_rules | `(tactic| walk_at "zz") => `(tactic| skip)
local macro_rules | `(tactic| walk_at "zz") => `(tactic| skip)
local macro_rules | `(tactic| walk_at "zz") => `(tactic| skip)
local macro_rules | `(tactic| walk_at "zz") => `(tactic| skip)
local macro_rules | `(tactic| walk_at "zz") => `(tactic| skip)
local macro_rules | `(tactic| walk_at "zz") => `(tactic| skip)
local macro_rules | `(tactic| walk_at "zz") => `(tactic| skip)
local macro_rules | `(tactic| walk_at "zz") => `(tactic| skip)
local macro_rules | `(tactic| walk_at "zz") => `(tactic| skip)
local macro_rules | `(tactic| walk_at "zz") => `(tactic| skip)
local macro_rules | `(tactic| walk_at "zz") => `(tactic| skip)
local macro_rules | `(tactic| walk_at "zz") => `(tactic| skip)
local macro_rules | `(tactic| walk_at "zz") => `(tactic| skip)
local macro_rules | `(tactic| k_room) => `(tactic| ktr_room)
local macro_rules | `(tactic| walk_at "call ref") => `(tactic| (k_here; (with_reducible show wpAny _ _ (call (Value.ref 57) [Value.str _ _, Value.int _ _]) _ _ _); k_dflt (refine' Gives.use (rps_s (by with_reducible assumption) (by with_reducible assumption) (by with_reducible assumption)) ?k1 ?k2 ?k3 ?k4 ?k5 ?kK ?kd ?ku ?_; (case k1 => k_asm); (case k2 => k_asm); (case k3 => k_asm); (case k4 => k_asm); (case k5 => k_asm); (case kK => first | exact rfl | assumption); (case kd => ktr_room); (case ku => ktr_units)); (intro _ _ _ rv F9 N9); (obtain ⟨_, rvE⟩ := rv); subst rvE; (try dsimp only); (try k_fold)))

theorem pad_fit {x : Str} (h : x.length ≤ 20) : (x ++ Txt.mul (Str.ofString "\x00") 21).length ≤ sizeLine := by
  have := pad_len x
  rw [sizeLine_eq]; omega
local macro_rules | `(tactic| walk_at "subscriptTail") => `(tactic| (k_here; (with_reducible show wpAny _ _ (subscriptTail _ (Expr.Slice none (some _) none _) (Value.str _ _) (Value.ref _)) _ _ _); (with_reducible rename Fr _ _ _ _ => F'); (with_reducible rename News _ _ _ _ => N'); (refine slice_strN_ns (hsz := pad_fit (by assumption)) (s := ⟨_, _, _, _, _⟩) F' N' ?_); (intro _ _ _ F9 N9)))
theorem ne_str_self {prog : Program} {w : World} {A : Around} {E : Value → Shared → Prop} {s : Shared} {x : Str} {t u : Tok} {Q : Value → Shared → Prop} (h : Q (.bool false) s) : wpAny (model prog w) A (compareOp .NotEq (.str x t) (.str x u)) Q E s := by
  refine ne_str ?_
  rw [bne_self_eq_false]
  exact h
local macro_rules | `(tactic| walk_at "compareOp NotEq str str") => `(tactic| (k_here; refine ne_str_self ?_))
theorem st8 {p : Program} {loose : List Str} {w : World} {mean mg mb} {m : Str → Option Value} {z : Int} {tz tx : Tok} {x : Str} {v : Option Value} (hlk : x.length ≤ 20) (hz0 : 0 ≤ z) (hz1 : z ≤ 20) :
    Steps p loose w mean mg mb 8 (opt (Str.ofString "text") (some (.str x tx)) (opt (Str.ofString "size") (some (.int z tz)) m)) v (fun m' v' => v' = v ∧ m' = opt (Str.ofString "text") (some (.str x tx)) (opt (Str.ofString "size") (some (.int z tz)) m)) := by
  unfold Steps
  w_top off
  k_fill
  intro h₀ L fa cd o1 o2 os s K E B X T C h2 hA hK
  obtain ⟨ps, F, N, ht, G, hos⟩ := hA
  conv => arg 3; arg 1; whnf
  k_steps
  all_goals exact hK _ _ _ _ ⟨rfl, rfl⟩ h2 (At.mk (by assumption) (by assumption) ht G hos (fun _ hq => hq) rfl)
end Mine

-- part S9
namespace Mine
local macro_rules | `(tactic| walk_at "zz") => `(tactic| skip)
local macro_rules | `(tactic| walk_at "zz") => `(tactic| skip)
local macro_rules | `(tactic| walk_at "zz") => `(tactic| skip)
local macro_rules | `(tactic| walk_at "zz") => `(tactic| skip)
local macro_rules | `(tactic| walk_at "zz") => `(tactic| skip)
local macro_rules | `(tactic| walk_at "zz") => `(tactic| skip)
local macro_rules | `(tactic| walk_at "zz") => `(tactic| skip)
local macro_rules | `(tactic| walk_at "zz") => `(tactic| skip)
local macro_rules | `(tactic| walk_at "zz") => `(tactic| skip)
local macro_rules | `(tactic| walk_at "zz") => `(tactic| skip)
local macro_rules | `(tactic| walk_at "zz") => `(tactic| skip)
local macro_rules | `(tactic| walk_at "zz") => `(tactic| skip)
local macro_rules | `(tactic| walk_at "zz") => `(tactic| skip)
local macro_rules | `(tactic| walk_at "zz") => `(tactic| skip)
local macro_rules | `(tactic| walk_at "zz") => `(tactic| skip)
local macro_rules | `(tactic| walk_at "zz") => `(tactic| skip)
local macro_rules | `(tactic| walk_at "zz") => `(tactic| skip)
local macro_rules | `(tactic| walk_at "zz") => `(tactic| skip)
local macro_rules | `(tactic| walk_at "zz") => `(tactic| skip)
local macro_rules | `(tactic| walk_at "zz") => `(tactic| skip)
local macro_rules | `(tactic| walk_at "zz") => `(tactic| skip)
local macro_rules | `(tactic| walk_at "zz") => `(tactic| skip)
local macro_rules | `(tactic| walk_at "zz") => `(tactic| skip)
local macro_rules | `(tactic| walk_at "zz") => `(tactic| skip)
local macro_rules | `(tactic| walk_at "zz") => `(tactic| skip)
local macro_rules | `(tactic| walk_at "zz") => `(tactic| skip)
local macro_rules | `(tactic| walk_at "zz") => `(tactic| skip)
local macro_rules | `(tactic| walk_at "zz") => `(tactic| skip)
local macro_rules | `(tactic| walk_at "zz") => `(tactic| skip)
local macro_rules | `(tactic| walk_at "zz") => `(tactic| skip)
local macro_rules | `(tactic| walk_at "zz") => `(tactic| skip)
local macro_rules | `(tactic| walk_at "zz") => `(tactic| skip)
local macro_rules | `(tactic| walk_at "zz") => `(tactic| skip)
local macro_rules | `(tactic| walk_at "zz") => `(tactic| skip)
local macro_rules | `(tactic| walk_at "zz") => `(tactic| skip)
local macro_rules | `(tactic| walk_at "zz") => `(tactic| skip)
local macro_rules | `(tactic| walk_at "zz") => `(tactic| skip)
local macro_rules | `(tactic| walk_at "zz") => `(tactic| skip)
local macro_rules | `(tactic| walk_at "zz") => `(tactic| skip)
local macro_rules | `(tactic| walk_at "zz") => `(tactic| skip)
local macro_rules | `(tactic| walk_at "zz") => `(tactic| skip)
local macro_rules | `(tactic| walk_at "zz") => `(tactic| skip)
local macro_rules | `(tactic| walk_at "zz") => `(tactic| skip)
local macro_rules | `(tactic| walk_at "zz") => `(tactic| skip)
local macro_rules | `(tactic| walk_at "zz") => `(tactic| skip)
local macro_rules | `(tactic| walk_at "zz") => `(tactic| skip)
local macro_rules | `(tactic| walk_at "zz") => `(tactic| skip)
local macro_rules | `(tactic| walk_at "zz") => `(tactic| skip)
local macro_rules | `(tactic| walk_at "zz") => `(tactic| skip)
local macro_rules | `(tactic| walk_at "zz") => `(tactic| skip)
local macro_rules | `(tactic| k_room) => `(tactic| ktr_room)
theorem Gives.weaken {p : Program} {loose : List Str} {w : World} {mean : ExcName → Option Value} {mg mb : Str → Option Value} {D U : Nat} {f : Addr} {vs : List Value} {R R' : Value → Prop} (G : Gives p loose w mean mg mb D U f vs R) (h : ∀ v, R v → R' v) : Gives p loose w mean mg mb D U f vs R' :=
  fun _ _ _ _ _ _ _ _ _ _ _ _ _ _ _ _ _ _ B F X N T hk hd hu hret => G.use B F X N T hk hd hu fun v h' tk' r => hret v h' tk' (h v r)
theorem xob_eq {p : Program} {loose : List Str} {w : World} {mean mg mb} {b c : Array UInt8} {ks ls : List Int} {t u : Tok} (hb : KBw.bInts b = ks) (hc : KBw.bInts c = ls) (hl : ls.length = ks.length) (hlk : ks.length ≤ 64) :
    Gives p loose w mean mg mb 4 32 42 [.bytes b t, .bytes c u] (fun v => ∃ b t, v = .bytes b t ∧ KBw.bInts b = crossL ks ls) :=
  (xob hb hc hlk (by omega) (clear_same (by omega))).weaken fun v ⟨b, t, e, h⟩ => ⟨b, t, e, by rw [h, fit_same hl]⟩
theorem consteq_tw {p : Program} {loose : List Str} {w : World} {mean mg mb} {b c : Array UInt8} {ls sd : List Int} {t u : Tok} (hb : KBw.bInts b = crossL (crossL ls sd) sd) (hc : KBw.bInts c = ls) (hs : KBa.In sd) (hl : sd.length = ls.length) (hll : ls.length ≤ 64) :
    Gives p loose w mean mg mb 4 32 21 [.bytes b t, .bytes c u] (fun v => v = .bool true) := by
  rw [cross_twice (in_of hc) hs hl.symm] at hb
  exact (consteq_bb hb hc hll hll).weaken fun v e => by rw [e, decide_eq_true rfl]
theorem said_len (ks : List Int) (m : Nat) : (saidL ks m).length = m := by simp
theorem cross_len {ls sd : List Int} (h : sd.length = ls.length) : sd.length = (crossL ls sd).length := by rw [List.length_zipWith, h, Nat.min_self]
theorem cross_le {ls sd : List Int} (h : ls.length ≤ 9) : (crossL ls sd).length ≤ 64 := by rw [List.length_zipWith]; omega
theorem le64 {n : Nat} (h : n ≤ 9) : n ≤ 64 := by omega
theorem le16 {n : Nat} (h : n ≤ 9) : n ≤ 16 := by omega

local macro_rules | `(tactic| walk_at "call ref") => `(tactic| (k_here; (with_reducible show wpAny _ _ (call (Value.ref 49) [Value.bytes _ _, Value.int _ _]) _ _ _); k_dflt (refine' Gives.use (rpt (by with_reducible assumption) (by with_reducible assumption) (le16 (by with_reducible assumption)) (le64 (by with_reducible assumption))) ?k1 ?k2 ?k3 ?k4 ?k5 ?kK ?kd ?ku ?_; (case k1 => k_asm); (case k2 => k_asm); (case k3 => k_asm); (case k4 => k_asm); (case k5 => k_asm); (case kK => first | exact rfl | assumption); (case kd => ktr_room); (case ku => ktr_units)); (intro _ _ _ rv F9 N9); (obtain ⟨_, _, rvE, sdIn⟩ := rv); subst rvE; (try dsimp only); (try k_fold)))

theorem fmod_nat (i n : Nat) : (((0 : Int) + (i : Int)).fmod (n : Int)).toNat = i % n := by
  rw [Int.fmod_eq_emod_of_nonneg _ (Int.natCast_nonneg n), Int.zero_add]
  exact Int.toNat_natCast (i % n)
theorem said_made {ys : List Value} {ks : List Int} {m : Nat}
    (hi : IntsAre ys (List.map (fun k' => if 0 ≤ ks.getD (k'.fmod (ks.length : Int)).toNat 0 ∧ ks.getD (k'.fmod (ks.length : Int)).toNat 0 < 256 then ks.getD (k'.fmod (ks.length : Int)).toNat 0 else k') (rangeKs 0 ((m : Int) - 0).toNat))) (hk : KBa.In ks) (hpos : 0 < ks.length) :
    IntsAre ys (saidL ks m) := by
  have e : ((m : Int) - 0).toNat = m := by omega
  rw [e, rangeKs, List.map_map] at hi
  have e2 : ∀ i ∈ List.range m, ((fun k' : Int => if 0 ≤ ks.getD (k'.fmod (ks.length : Int)).toNat 0 ∧ ks.getD (k'.fmod (ks.length : Int)).toNat 0 < 256 then ks.getD (k'.fmod (ks.length : Int)).toNat 0 else k') ∘ fun i : Nat => 0 + (i : Int)) i = (fun k => ks.getD (k % ks.length) 0) i := by
    intro i _
    have hlt : i % ks.length < ks.length := Nat.mod_lt _ hpos
    have hin : 0 ≤ ks.getD (i % ks.length) 0 ∧ ks.getD (i % ks.length) 0 < 256 := by
      have e4 : ks.getD (i % ks.length) 0 = ks[i % ks.length] := by rw [List.getD_eq_getElem?_getD, List.getElem?_eq_getElem hlt]; rfl
      rw [e4]
      exact hk _ (List.getElem_mem hlt)
    show (if 0 ≤ ks.getD (((0 : Int) + (i : Int)).fmod (ks.length : Int)).toNat 0 ∧ ks.getD (((0 : Int) + (i : Int)).fmod (ks.length : Int)).toNat 0 < 256 then ks.getD (((0 : Int) + (i : Int)).fmod (ks.length : Int)).toNat 0 else 0 + (i : Int)) = ks.getD (i % ks.length) 0
    rw [fmod_nat, if_pos hin]
  rw [List.map_congr_left e2] at hi
  exact hi
theorem in_said {ks : List Int} (hk : KBa.In ks) (hpos : 0 < ks.length) (m : Nat) : KBa.In (saidL ks m) := by
  intro x hx
  obtain ⟨i, _, rfl⟩ := List.mem_map.mp hx
  have hlt : i % ks.length < ks.length := Nat.mod_lt _ hpos
  have e4 : ks.getD (i % ks.length) 0 = ks[i % ks.length] := by rw [List.getD_eq_getElem?_getD, List.getElem?_eq_getElem hlt]; rfl
  rw [e4]
  exact hk _ (List.getElem_mem hlt)
theorem said_big {ks : List Int} {m : Nat} (h : m ≤ 9) : (saidL ks m).length ≤ 16777216 := by rw [said_len]; omega
local macro_rules | `(tactic| walk_at "call type:bytes") => `(tactic| (k_here; (have iC9 := said_made (by with_reducible assumption) (by with_reducible assumption) (by with_reducible assumption)); k_dflt (refine' KBa.make_K ?kbaF ?kbaN ?kbah ?kbal iC9 (in_said (by with_reducible assumption) (by with_reducible assumption) _) ?kban ?_; (case kbaF => k_asm); (case kbaN => k_asm); (case kbah => rfl); (case kbal => kba_isList); (case kban => exact said_big (by with_reducible assumption))); intro _ _ _ F9 N9 kIn9))
local macro_rules | `(tactic| walk_at "compareOp NotEq bytes bytes") => `(tactic| (k_here; refine ne_same (by with_reducible assumption) (KBa.ints_make (by with_reducible assumption)) ?_))
local macro_rules | `(tactic| walk_at "call ref") => `(tactic| (k_here; (with_reducible show wpAny _ _ (call (Value.ref 42) [Value.bytes _ _, Value.bytes _ _]) _ _ _); k_dflt (refine' Gives.use (xob_eq (by with_reducible assumption) (by with_reducible assumption) ?kl ?kz) ?k1 ?k2 ?k3 ?k4 ?k5 ?kK ?kd ?ku ?_; (case kl => first | exact said_len _ _ | exact cross_len (said_len _ _)); (case kz => first | exact le64 (by with_reducible assumption) | exact cross_le (by with_reducible assumption)); (case k1 => k_asm); (case k2 => k_asm); (case k3 => k_asm); (case k4 => k_asm); (case k5 => k_asm); (case kK => first | exact rfl | assumption); (case kd => ktr_room); (case ku => ktr_units)); (intro _ _ _ rv F9 N9); (obtain ⟨_, _, rvE, xoIn⟩ := rv); subst rvE; (try dsimp only); (try k_fold)))
local macro_rules | `(tactic| walk_at "call ref") => `(tactic| (k_here; (with_reducible show wpAny _ _ (call (Value.ref 21) [Value.bytes _ _, Value.bytes _ _]) _ _ _); k_dflt (refine' Gives.use (consteq_tw (by with_reducible assumption) (by with_reducible assumption) (by with_reducible assumption) (said_len _ _) (le64 (by with_reducible assumption))) ?k1 ?k2 ?k3 ?k4 ?k5 ?kK ?kd ?ku ?_; (case k1 => k_asm); (case k2 => k_asm); (case k3 => k_asm); (case k4 => k_asm); (case k5 => k_asm); (case kK => first | exact rfl | assumption); (case kd => ktr_room); (case ku => ktr_units)); (intro _ _ _ rv F9 N9); (cases rv); (try dsimp only); (try k_fold)))
theorem st9 {p : Program} {loose : List Str} {w : World} {mean mg mb} {m : Str → Option Value} {z : Int} {tz tx tb tc : Tok} {x : Str} {b c : Array UInt8} {ks ls : List Int} (hb : KBw.bInts b = ks) (hc : KBw.bInts c = ls) (hlk : ks.length ≤ 9) (hll : ls.length ≤ 9) (hms : m (Str.ofString "said") = none) :
    Steps p loose w mean mg mb 9 (opt (Str.ofString "text") (some (.str x tx)) (opt (Str.ofString "size") (some (.int z tz)) (opt (Str.ofString "two") (some (.bytes c tc)) m))) (some (.bytes b tb)) (fun m' v' => v' = some (.bytes b tb) ∧ ∃ sd, m' = opt (Str.ofString "said") sd (opt (Str.ofString "text") (some (.str x tx)) (opt (Str.ofString "size") (some (.int z tz)) (opt (Str.ofString "two") (some (.bytes c tc)) m)))) := by
  have hIk := in_of hb
  unfold Steps
  w_top off
  k_fill
  intro h₀ L fa cd o1 o2 os s K E B X T C h2 hA hK
  obtain ⟨ps, F, N, ht, G, hos⟩ := hA
  conv => arg 3; arg 1; whnf
  k_steps
  all_goals first
    | exact hK _ _ _ _ ⟨rfl, none, rfl⟩ h2 (At.mk (by assumption) (by assumption) ht G hos (fun _ hq => hq) (opt_none hms))
    | exact hK _ _ _ _ ⟨rfl, some _, rfl⟩ h2 (At.mk (by assumption) (by assumption) ht G hos (fun _ hq => List.mem_cons_of_mem _ hq) rfl)
end Mine

-- part S10
namespace Mine
local macro_rules | `(tactic| walk_at "zz") => `(tactic| skip)
local macro_rules | `(tactic| walk_at "zz") => `(tactic| skip)
local macro_rules | `(tactic| walk_at "zz") => `(tactic| skip)
local macro_rules | `(tactic| walk_at "zz") => `(tactic| skip)
local macro_rules | `(tactic| walk_at "zz") => `(tactic| skip)
local macro_rules | `(tactic| walk_at "zz") => `(tactic| skip)
local macro_rules | `(tactic| walk_at "zz") => `(tactic| skip)
local macro_rules | `(tactic| walk_at "zz") => `(tactic| skip)
local macro_rules | `(tactic| walk_at "zz") => `(tactic| skip)
local macro_rules | `(tactic| walk_at "zz") => `(tactic| skip)
local macro_rules | `(tactic| walk_at "zz") => `(tactic| skip)
local macro_rules | `(tactic| walk_at "zz") => `(tactic| skip)
local macro_rules | `(tactic| walk_at "zz") => `(tactic| skip)
local macro_rules | `(tactic| walk_at "zz") => `(tactic| skip)
local macro_rules | `(tactic| walk_at "zz") => `(tactic| skip)
local macro_rules | `(tactic| walk_at "zz") => `(tactic| skip)
local macro_rules | `(tactic| walk_at "zz") => `(tactic| skip)
local macro_rules | `(tactic| walk_at "zz") => `(tactic| skip)
local macro_rules | `(tactic| walk_at "zz") => `(tactic| skip)
local macro_rules | `(tactic| walk_at "zz") => `(tactic| skip)
local macro_rules | `(tactic| walk_at "zz") => `(tactic| skip)
local macro_rules | `(tactic| walk_at "zz") => `(tactic| skip)
local macro_rules | `(tactic| walk_at "zz") => `(tactic| skip)
local macro_rules | `(tactic| walk_at "zz") => `(tactic| skip)
local macro_rules | `(tactic| walk_at "zz") => `(tactic| skip)
local macro_rules | `(tactic| walk_at "zz") => `(tactic| skip)
local macro_rules | `(tactic| walk_at "zz") => `(tactic| skip)
local macro_rules | `(tactic| walk_at "zz") => `(tactic| skip)
local macro_rules | `(tactic| walk_at "zz") => `(tactic| skip)
local macro_rules | `(tactic| walk_at "zz") => `(tactic| skip)
local macro_rules | `(tactic| walk_at "zz") => `(tactic| skip)
local macro_rules | `(tactic| walk_at "zz") => `(tactic| skip)
local macro_rules | `(tactic| walk_at "zz") => `(tactic| skip)
local macro_rules | `(tactic| walk_at "zz") => `(tactic| skip)
local macro_rules | `(tactic| walk_at "zz") => `(tactic| skip)
local macro_rules | `(tactic| walk_at "zz") => `(tactic| skip)
local macro_rules | `(tactic| walk_at "zz") => `(tactic| skip)
local macro_rules | `(tactic| walk_at "zz") => `(tactic| skip)
local macro_rules | `(tactic| walk_at "zz") => `(tactic| skip)
local macro_rules | `(tactic| walk_at "zz") => `(tactic| skip)
local macro_rules | `(tactic| walk_at "zz") => `(tactic| skip)
local macro_rules | `(tactic| walk_at "zz") => `(tactic| skip)
local macro_rules | `(tactic| walk_at "zz") => `(tactic| skip)
local macro_rules | `(tactic| walk_at "zz") => `(tactic| skip)
local macro_rules | `(tactic| walk_at "zz") => `(tactic| skip)
local macro_rules | `(tactic| walk_at "zz") => `(tactic| skip)
local macro_rules | `(tactic| walk_at "zz") => `(tactic| skip)
local macro_rules | `(tactic| walk_at "zz") => `(tactic| skip)
local macro_rules | `(tactic| walk_at "zz") => `(tactic| skip)
local macro_rules | `(tactic| walk_at "zz") => `(tactic| skip)
local macro_rules | `(tactic| walk_at "zz") => `(tactic| skip)
local macro_rules | `(tactic| walk_at "zz") => `(tactic| skip)
local macro_rules | `(tactic| walk_at "zz") => `(tactic| skip)
local macro_rules | `(tactic| walk_at "zz") => `(tactic| skip)
local macro_rules | `(tactic| walk_at "zz") => `(tactic| skip)
local macro_rules | `(tactic| walk_at "zz") => `(tactic| skip)
local macro_rules | `(tactic| k_room) => `(tactic| ktr_room)
theorem GivesTop.weaken {p : Program} {loose : List Str} {w : World} {mean : ExcName → Option Value} {mg mb : Str → Option Value} {D U : Nat} {f : Addr} {vs : List Value} {R R' : Value → Prop} (G : GivesTop p loose w mean mg mb D U f vs R) (h : ∀ v, R v → R' v) : GivesTop p loose w mean mg mb D U f vs R' :=
  fun _ _ _ _ _ _ _ _ _ _ _ _ _ _ _ _ B F X N T hk hd hu hret => G.use B F X N T hk hd hu fun v h' tk' r => hret v h' tk' (h v r)
/-- one row crossed with another -/
def CrossR (ks ls : List Int) (v : Value) : Prop := if clear ks ls = true then ∃ b t, v = .bytes b t ∧ KBw.bInts b = crossL ks (fit ks.length ls) else ∃ t, v = .str (Str.ofString "OverflowError") t
theorem lt0 {p : Program} {loose : List Str} {w : World} {mean mg mb} {b c : Array UInt8} {ks ls : List Int} {t t' u : Tok} (hb : KBw.bInts b = ks) (hc : KBw.bInts c = ls) (hlk : ks.length ≤ 9) (hll : ls.length ≤ 9) :
    GivesTop p loose w mean mg mb 6 64 71 [.int 0 t', .bytes b t, .bytes c u] (CrossR ks ls) := by
  cases h : clear ks ls with
  | true => exact (lt0_ok hb hc (by omega) (by omega) h).top.weaken fun v r => r_fine h r
  | false => exact (lt0_over hb hc (by omega) (by omega) h).weaken fun v r => r_over h r
theorem crs_call {p : Program} {loose : List Str} {w : World} {mean mg mb} {b c : Array UInt8} {ks ls : List Int} {t u : Tok} {dp un : Nat} {gd : Option (List Code)} {cn : Str} {cs : Scope} {a : Addr} {ccd : Value} {cl : List (Str × Addr)} {A₀ : Around} {h₀ : Heap} {L : Addr} {m : Str → Option Value} {o1 o2 : Obj} {ps : Array Value} {os : OsState} {s : Shared} {Q E : Value → Shared → Prop}
    (hb : KBw.bInts b = ks) (hc : KBw.bInts c = ls) (hlk : ks.length ≤ 9) (hll : ls.length ≤ 9)
    (B : Below A₀ h₀ [] h₀) (F : Fr h₀ L s.heap m) (X : (hd.heap_39 w.params).In h₀) (N : News h₀ L s.heap [(L + 1 + 1, o2), (L + 1, o1), (73, tabObj ps)]) (C : CodeHd h₀ 75 73) (ht : TriplesOk ps.toList) (G : AllBare s.gens) (hos : s.os = os) (T : Top p loose mean mg mb h₀) (hk : cs.kind = .function)
    (hd : dp + 6 < recursionLimit) (hu : un + 64 < cLine)
    (ret : ∀ v (s' : Shared) (ps' : Array Value), CrossR ks ls v → Fr h₀ L s'.heap m → News h₀ L s'.heap [(L + 1 + 1, o2), (L + 1, o1), (73, tabObj ps')] → TriplesOk ps'.toList → AllBare s'.gens → s'.os = os → Q v s') :
    wpAny (model PySem.Challenge.rw_aj5024_01.row.prog w) (ktrTop dp un gd cn cs L a ccd cl []) (call (.ref 76) [.bytes b t, .bytes c u]) Q E s :=
  crs hb hc (by omega) (by omega) _ _ _ _ _ _ _ _ _ _ _ _ _ _ [(L + 1 + 1, o2), (L + 1, o1)] _ _ _ _ B F X (fun q hq => N q (by
    rcases List.mem_cons.mp hq with rfl | hq
    · exact .tail _ (.tail _ (.head _))
    · rcases List.mem_cons.mp hq with rfl | hq
      · exact .head _
      · rw [List.mem_singleton.mp hq]; exact .tail _ (.head _))) (gen_ne (news := []) F C (fun _ h => nomatch h)) C ht G T hk hd hu
    fun v s' ps' r F' N' ht' G' hos' => ret v s' ps' r F' (fun q hq => N' q (by
      rcases List.mem_cons.mp hq with rfl | hq
      · exact .tail _ (.head _)
      · rcases List.mem_cons.mp hq with rfl | hq
        · exact .tail _ (.tail _ (.head _))
        · rw [List.mem_singleton.mp hq]; exact .head _)) ht' G' (hos'.trans hos)
theorem bytes_inj {b c : Array UInt8} (h : KBw.bInts b = KBw.bInts c) : b.toList = c.toList := by
  have e : ∀ (x y : List UInt8), x.map (fun c => ((c.toNat : Nat) : Int)) = y.map (fun c => ((c.toNat : Nat) : Int)) → x = y := by
    intro x
    induction x with
    | nil => intro y h; cases y with
      | nil => rfl
      | cons _ _ => cases h
    | cons a x ih => intro y h; cases y with
      | nil => cases h
      | cons c y =>
        rw [List.map_cons, List.map_cons] at h
        injection h with h1 h2
        rw [ih y h2, UInt8.toNat_inj.mp (Int.ofNat.inj h1)]
  exact e _ _ h
theorem ne_cross {w : World} {prog : Program} {A : Around} {E : Value → Shared → Prop} {s : Shared} {ks ls : List Int} {v v' : Value} {Q : Value → Shared → Prop} (r : CrossR ks ls v) (r' : CrossR ks ls v') (h : Q (.bool false) s) :
    wpAny (model prog w) A (compareOp .NotEq v v') Q E s := by
  unfold CrossR at r r'
  cases hc : clear ks ls with
  | true =>
    rw [if_pos hc] at r r'
    obtain ⟨b, t, rfl, hb⟩ := r
    obtain ⟨b', t', rfl, hb'⟩ := r'
    refine ne_bytes ?_
    rw [bytes_inj (hb.trans hb'.symm), bne_self_eq_false]
    exact h
  | false =>
    rw [if_neg (by rw [hc]; decide)] at r r'
    obtain ⟨t, rfl⟩ := r
    obtain ⟨t', rfl⟩ := r'
    refine ne_str ?_
    rw [bne_self_eq_false]
    exact h
local macro_rules | `(tactic| walk_at "call ref") => `(tactic| (k_here; (with_reducible show wpAny _ _ (call (Value.ref 71) [Value.int 0 _, Value.bytes _ _, Value.bytes _ _]) _ _ _); k_dflt (refine' GivesTop.use (lt0 (by with_reducible assumption) (by with_reducible assumption) (by with_reducible assumption) (by with_reducible assumption)) ?k1 ?k2 ?k3 ?k4 ?k5 ?kK ?kd ?ku ?_; (case k1 => k_asm); (case k2 => k_asm); (case k3 => k_asm); (case k4 => k_asm); (case k5 => k_asm); (case kK => first | exact rfl | assumption); (case kd => ktr_room); (case ku => ktr_units)); (intro _ _ _ rv F9 N9); (try dsimp only); (try k_fold)))
local macro_rules | `(tactic| walk_at "call ref") => `(tactic| (k_here; (with_reducible show wpAny _ _ (call (Value.ref 76) [Value.bytes _ _, Value.bytes _ _]) _ _ _); k_dflt (refine' crs_call (by with_reducible assumption) (by with_reducible assumption) (by with_reducible assumption) (by with_reducible assumption) ?k1 ?k2 ?k3 ?k4 ?kC ?kt ?kG ?ko ?k5 ?kK ?kd ?ku ?_; (case k1 => k_asm); (case k2 => k_asm); (case k3 => k_asm); (case k4 => k_asm); (case kC => k_asm); (case kt => k_asm); (case kG => k_asm); (case ko => k_asm); (case k5 => k_asm); (case kK => first | exact rfl | assumption); (case kd => ktr_room); (case ku => ktr_units)); (intro _ _ _ rv F9 N9 ht9 G9 os9); (try dsimp only); (try k_fold)))
local macro_rules | `(tactic| walk_at "compareOp NotEq") => `(tactic| (k_here; refine ne_cross (by with_reducible assumption) (by with_reducible assumption) ?_))

theorem st10 {p : Program} {loose : List Str} {w : World} {mean mg mb} {m : Str → Option Value} {sd : Option Value} {z : Int} {tz tx tb tc : Tok} {x : Str} {b c : Array UInt8} {ks ls : List Int} (hb : KBw.bInts b = ks) (hc : KBw.bInts c = ls) (hlk : ks.length ≤ 9) (hll : ls.length ≤ 9) :
    Steps p loose w mean mg mb 10 (opt (Str.ofString "said") sd (opt (Str.ofString "text") (some (.str x tx)) (opt (Str.ofString "size") (some (.int z tz)) (opt (Str.ofString "two") (some (.bytes c tc)) m)))) (some (.bytes b tb)) (fun m' v' => v' = some (.bytes b tb) ∧ m' = opt (Str.ofString "said") sd (opt (Str.ofString "text") (some (.str x tx)) (opt (Str.ofString "size") (some (.int z tz)) (opt (Str.ofString "two") (some (.bytes c tc)) m)))) := by
  unfold Steps
  w_top off
  k_fill
  intro h₀ L fa cd o1 o2 os s K E B X T C h2 hA hK
  obtain ⟨ps, F, N, ht, G, hos⟩ := hA
  conv => arg 3; arg 1; whnf
  k_steps
  all_goals first
    | exact hK _ _ _ _ ⟨rfl, rfl⟩ h2 (At.mk (by assumption) (by assumption) (by assumption) (by assumption) (by assumption) (fun _ hq => hq) rfl)
end Mine

-- part S11
namespace Mine
local macro_rules | `(tactic| walk_at "zz") => `(tactic| skip)
local macro_rules | `(tactic| walk_at "zz") => `(tactic| skip)
local macro_rules | `(tactic| walk_at "zz") => `(tactic| skip)
local macro_rules | `(tactic| walk_at "zz") => `(tactic| skip)
local macro_rules | `(tactic| walk_at "zz") => `(tactic| skip)
local macro_rules | `(tactic| walk_at "zz") => `(tactic| skip)
local macro_rules | `(tactic| walk_at "zz") => `(tactic| skip)
local macro_rules | `(tactic| walk_at "zz") => `(tactic| skip)
local macro_rules | `(tactic| walk_at "zz") => `(tactic| skip)
local macro_rules | `(tactic| walk_at "zz") => `(tactic| skip)
local macro_rules | `(tactic| walk_at "zz") => `(tactic| skip)
local macro_rules | `(tactic| walk_at "zz") => `(tactic| skip)
local macro_rules | `(tactic| walk_at "zz") => `(tactic| skip)
local macro_rules | `(tactic| walk_at "zz") => `(tactic| skip)
local macro_rules | `(tactic| walk_at "zz") => `(tactic| skip)
local macro_rules | `(tactic| walk_at "zz") => `(tactic| skip)
local macro_rules | `(tactic| walk_at "zz") => `(tactic| skip)
local macro_rules | `(tactic| walk_at "zz") => `(tactic| skip)
local macro_rules | `(tactic| walk_at "zz") => `(tactic| skip)
local macro_rules | `(tactic| walk_at "zz") => `(tactic| skip)
local macro_rules | `(tactic| walk_at "zz") => `(tactic| skip)
local macro_rules | `(tactic| walk_at "zz") => `(tactic| skip)
local macro_rules | `(tactic| walk_at "zz") => `(tactic| skip)
local macro_rules | `(tactic| walk_at "zz") => `(tactic| skip)
local macro_rules | `(tactic| walk_at "zz") => `(tactic| skip)
local macro_rules | `(tactic| walk_at "zz") => `(tactic| skip)
local macro_rules | `(tactic| walk_at "zz") => `(tactic| skip)
local macro_rules | `(tactic| walk_at "zz") => `(tactic| skip)
local macro_rules | `(tactic| walk_at "zz") => `(tactic| skip)
local macro_rules | `(tactic| walk_at "zz") => `(tactic| skip)
local macro_rules | `(tactic| walk_at "zz") => `(tactic| skip)
local macro_rules | `(tactic| walk_at "zz") => `(tactic| skip)
local macro_rules | `(tactic| walk_at "zz") => `(tactic| skip)
local macro_rules | `(tactic| walk_at "zz") => `(tactic| skip)
local macro_rules | `(tactic| walk_at "zz") => `(tactic| skip)
local macro_rules | `(tactic| walk_at "zz") => `(tactic| skip)
local macro_rules | `(tactic| walk_at "zz") => `(tactic| skip)
local macro_rules | `(tactic| walk_at "zz") => `(tactic| skip)
local macro_rules | `(tactic| walk_at "zz") => `(tactic| skip)
local macro_rules | `(tactic| walk_at "zz") => `(tactic| skip)
local macro_rules | `(tactic| walk_at "zz") => `(tactic| skip)
local macro_rules | `(tactic| walk_at "zz") => `(tactic| skip)
local macro_rules | `(tactic| walk_at "zz") => `(tactic| skip)
local macro_rules | `(tactic| walk_at "zz") => `(tactic| skip)
local macro_rules | `(tactic| walk_at "zz") => `(tactic| skip)
local macro_rules | `(tactic| walk_at "zz") => `(tactic| skip)
local macro_rules | `(tactic| walk_at "zz") => `(tactic| skip)
local macro_rules | `(tactic| walk_at "zz") => `(tactic| skip)
local macro_rules | `(tactic| walk_at "zz") => `(tactic| skip)
local macro_rules | `(tactic| walk_at "zz") => `(tactic| skip)
local macro_rules | `(tactic| walk_at "zz") => `(tactic| skip)
local macro_rules | `(tactic| walk_at "zz") => `(tactic| skip)
local macro_rules | `(tactic| walk_at "zz") => `(tactic| skip)
local macro_rules | `(tactic| walk_at "zz") => `(tactic| skip)
local macro_rules | `(tactic| walk_at "zz") => `(tactic| skip)
local macro_rules | `(tactic| walk_at "zz") => `(tactic| skip)
local macro_rules | `(tactic| walk_at "zz") => `(tactic| skip)
local macro_rules | `(tactic| walk_at "zz") => `(tactic| skip)
local macro_rules | `(tactic| walk_at "zz") => `(tactic| skip)
local macro_rules | `(tactic| walk_at "zz") => `(tactic| skip)
local macro_rules | `(tactic| k_room) => `(tactic| ktr_room)
theorem ints_inj' {b c : Array UInt8} (h : KBw.bInts b = KBw.bInts c) : b.toList = c.toList := by
  have e : ∀ (x y : List UInt8), x.map (fun c => ((c.toNat : Nat) : Int)) = y.map (fun c => ((c.toNat : Nat) : Int)) → x = y := by
    intro x
    induction x with
    | nil => intro y h; cases y with
      | nil => rfl
      | cons _ _ => cases h
    | cons a x ih => intro y h; cases y with
      | nil => cases h
      | cons c y =>
        rw [List.map_cons, List.map_cons] at h
        injection h with h1 h2
        rw [ih y h2, UInt8.toNat_inj.mp (Int.ofNat.inj h1)]
  exact e _ _ h
theorem eq_ints {prog : Program} {w : World} {A : Around} {E : Value → Shared → Prop} {s : Shared} {b c : Array UInt8} {t u : Tok} {ks ls : List Int} {Q : Value → Shared → Prop} (hb : KBw.bInts b = ks) (hc : KBw.bInts c = ls) (h : Q (.bool (decide (ks = ls))) s) :
    wpAny (model prog w) A (compareOp .Eq (.bytes b t) (.bytes c u)) Q E s := by
  refine eq_bytes ?_
  have e : (b.toList == c.toList) = decide (ks = ls) := by
    by_cases hk : ks = ls
    · rw [ints_inj' (hb.trans (hk.trans hc.symm)), decide_eq_true hk, beq_self_eq_true]
    · rw [decide_eq_false hk]
      refine beq_eq_false_iff_ne.mpr fun q => hk ?_
      rw [← hb, ← hc]
      exact congrArg (List.map fun c => ((c.toNat : Nat) : Int)) q
  rw [e]; exact h
theorem ne_bool_eq {prog : Program} {w : World} {A : Around} {E : Value → Shared → Prop} {s : Shared} {x y : Bool} {Q : Value → Shared → Prop} (e : x = y) (h : Q (.bool false) s) : wpAny (model prog w) A (compareOp .NotEq (.bool x) (.bool y)) Q E s := by
  subst e
  refine ne_bool ?_
  rw [bne_self_eq_false]; exact h
theorem decide_comm {α : Type} {x y : α} [Decidable (x = y)] [Decidable (y = x)] : decide (x = y) = decide (y = x) := decide_eq_decide.mpr ⟨Eq.symm, Eq.symm⟩
theorem le64' {n : Nat} (h : n ≤ 9) : n ≤ 64 := by omega
local macro_rules | `(tactic| walk_at "call ref") => `(tactic| (k_here; (with_reducible show wpAny _ _ (call (Value.ref 21) [Value.bytes _ _, Value.bytes _ _]) _ _ _); k_dflt (refine' Gives.use (consteq_bb (by with_reducible assumption) (by with_reducible assumption) (le64' (by with_reducible assumption)) (le64' (by with_reducible assumption))) ?k1 ?k2 ?k3 ?k4 ?k5 ?kK ?kd ?ku ?_; (case k1 => k_asm); (case k2 => k_asm); (case k3 => k_asm); (case k4 => k_asm); (case k5 => k_asm); (case kK => first | exact rfl | assumption); (case kd => ktr_room); (case ku => ktr_units)); (intro _ _ _ rv F9 N9); (cases rv); (try dsimp only); (try k_fold)))
local macro_rules | `(tactic| walk_at "compareOp Eq bytes bytes") => `(tactic| (k_here; refine eq_ints (by with_reducible assumption) (by with_reducible assumption) ?_))
local macro_rules | `(tactic| walk_at "compareOp NotEq bool bool") => `(tactic| (k_here; first | refine ne_bool_eq rfl ?_ | refine ne_bool_eq decide_comm ?_))

/-- the names behind statement 9 -/
abbrev mW (sd : Option Value) (x : Str) (tx : Tok) (z : Int) (tz : Tok) (c : Array UInt8) (tc : Tok) (m : Str → Option Value) : Str → Option Value :=
  opt (Str.ofString "said") sd (opt (Str.ofString "text") (some (.str x tx)) (opt (Str.ofString "size") (some (.int z tz)) (opt (Str.ofString "two") (some (.bytes c tc)) m)))
theorem st11 {p : Program} {loose : List Str} {w : World} {mean mg mb} {m : Str → Option Value} {sd : Option Value} {z : Int} {tz tx tb tc : Tok} {x : Str} {b c : Array UInt8} {ks ls : List Int} (hb : KBw.bInts b = ks) (hc : KBw.bInts c = ls) (hlk : ks.length ≤ 9) (hll : ls.length ≤ 9) :
    Steps p loose w mean mg mb 11 (mW sd x tx z tz c tc m) (some (.bytes b tb)) (fun m' v' => v' = some (.bytes b tb) ∧ m' = mW sd x tx z tz c tc m) := by
  unfold Steps
  w_top off
  k_fill
  intro h₀ L fa cd o1 o2 os s K E B X T C h2 hA hK
  obtain ⟨ps, F, N, ht, G, hos⟩ := hA
  conv => arg 3; arg 1; whnf
  k_steps
  all_goals first
    | exact hK _ _ _ _ ⟨rfl, rfl⟩ h2 (At.mk (by assumption) (by assumption) (by assumption) (by assumption) (by assumption) (fun _ hq => hq) rfl)

theorem xob_eq' {p : Program} {loose : List Str} {w : World} {mean mg mb} {b c : Array UInt8} {ks ls : List Int} {t u : Tok} (hb : KBw.bInts b = ks) (hc : KBw.bInts c = ls) (hlk : ks.length ≤ 9) (hll : ls.length ≤ 9) (hl : ls.length = ks.length) :
    Gives p loose w mean mg mb 4 32 42 [.bytes b t, .bytes c u] (fun v => ∃ b t, v = .bytes b t ∧ KBw.bInts b = crossL ks ls) :=
  fun _ _ _ _ _ _ _ _ _ _ _ _ _ _ _ _ _ _ B F X N T hk hd hu hret => (xob hb hc (by omega) (by omega) (clear_same (by omega))).use B F X N T hk hd hu fun v h' tk' ⟨b, t, e, h⟩ => hret v h' tk' ⟨b, t, e, by rw [h, fit_same hl]⟩
theorem cross_le' {ls sd : List Int} (h : ls.length ≤ 9) : (crossL ls sd).length ≤ 64 := by rw [List.length_zipWith]; omega
theorem cross_dec {ks ls : List Int} (hk : KBa.In ks) (hl : KBa.In ls) (h : ls.length = ks.length) : decide (ks = ls) = (KFB.value (crossL ks ls) == 0) := by
  have e := cross_zero hk hl h.symm
  by_cases hq : ks = ls
  · rw [decide_eq_true hq, e.mpr hq]; rfl
  · rw [decide_eq_false hq]
    exact (beq_eq_false_iff_ne.mpr fun q => hq (e.mp q)).symm
local macro_rules | `(tactic| walk_at "call ref") => `(tactic| (k_here; (with_reducible show wpAny _ _ (call (Value.ref 42) [Value.bytes _ _, Value.bytes _ _]) _ _ _); k_dflt (refine' Gives.use (xob_eq' (by with_reducible assumption) (by with_reducible assumption) (by with_reducible assumption) (by with_reducible assumption) (by omega)) ?k1 ?k2 ?k3 ?k4 ?k5 ?kK ?kd ?ku ?_; (case k1 => k_asm); (case k2 => k_asm); (case k3 => k_asm); (case k4 => k_asm); (case k5 => k_asm); (case kK => first | exact rfl | assumption); (case kd => ktr_room); (case ku => ktr_units)); (intro _ _ _ rv F9 N9); (obtain ⟨_, _, rvE, xoIn⟩ := rv); subst rvE; (try dsimp only); (try k_fold)))
local macro_rules | `(tactic| walk_at "call ref") => `(tactic| (k_here; (with_reducible show wpAny _ _ (call (Value.ref 28) [Value.bytes _ _]) _ _ _); k_dflt (refine' Gives.use (bti (by with_reducible assumption) (cross_le' (by with_reducible assumption))) ?k1 ?k2 ?k3 ?k4 ?k5 ?kK ?kd ?ku ?_; (case k1 => k_asm); (case k2 => k_asm); (case k3 => k_asm); (case k4 => k_asm); (case k5 => k_asm); (case kK => first | exact rfl | assumption); (case kd => ktr_room); (case ku => ktr_units)); (intro _ _ _ rv F9 N9); (obtain ⟨_, rvE⟩ := rv); subst rvE; (try dsimp only); (try k_fold)))
local macro_rules | `(tactic| walk_at "compareOp NotEq bool bool") => `(tactic| (k_here; refine ne_bool_eq (cross_dec (by with_reducible assumption) (by with_reducible assumption) (by omega)) ?_))
theorem st12 {p : Program} {loose : List Str} {w : World} {mean mg mb} {m : Str → Option Value} {sd : Option Value} {z : Int} {tz tx tb tc : Tok} {x : Str} {b c : Array UInt8} {ks ls : List Int} (hb : KBw.bInts b = ks) (hc : KBw.bInts c = ls) (hlk : ks.length ≤ 9) (hll : ls.length ≤ 9) :
    Steps p loose w mean mg mb 12 (mW sd x tx z tz c tc m) (some (.bytes b tb)) (fun m' v' => v' = some (.bytes b tb) ∧ m' = mW sd x tx z tz c tc m) := by
  have hIb := in_of hb
  have hIc := in_of hc
  unfold Steps
  k_fill
  intro h₀ L fa cd o1 o2 os s K E B X T C h2 hA hK
  obtain ⟨ps, F, N, ht, G, hos⟩ := hA
  conv => arg 3; arg 1; whnf
  k_steps
  all_goals first
    | exact hK _ _ _ _ ⟨rfl, rfl⟩ h2 (At.mk (by assumption) (by assumption) (by assumption) (by assumption) (by assumption) (fun _ hq => hq) rfl)
end Mine

-- part S14
namespace Mine
local macro_rules | `(tactic| walk_at "zz") => `(tactic| skip)
local macro_rules | `(tactic| walk_at "zz") => `(tactic| skip)
local macro_rules | `(tactic| walk_at "zz") => `(tactic| skip)
local macro_rules | `(tactic| walk_at "zz") => `(tactic| skip)
local macro_rules | `(tactic| walk_at "zz") => `(tactic| skip)
local macro_rules | `(tactic| walk_at "zz") => `(tactic| skip)
local macro_rules | `(tactic| walk_at "zz") => `(tactic| skip)
local macro_rules | `(tactic| walk_at "zz") => `(tactic| skip)
local macro_rules | `(tactic| walk_at "zz") => `(tactic| skip)
local macro_rules | `(tactic| walk_at "zz") => `(tactic| skip)
local macro_rules | `(tactic| walk_at "zz") => `(tactic| skip)
local macro_rules | `(tactic| walk_at "zz") => `(tactic| skip)
local macro_rules | `(tactic| walk_at "zz") => `(tactic| skip)
local macro_rules | `(tactic| walk_at "zz") => `(tactic| skip)
local macro_rules | `(tactic| walk_at "zz") => `(tactic| skip)
local macro_rules | `(tactic| walk_at "zz") => `(tactic| skip)
local macro_rules | `(tactic| walk_at "zz") => `(tactic| skip)
local macro_rules | `(tactic| walk_at "zz") => `(tactic| skip)
local macro_rules | `(tactic| walk_at "zz") => `(tactic| skip)
local macro_rules | `(tactic| walk_at "zz") => `(tactic| skip)
local macro_rules | `(tactic| walk_at "zz") => `(tactic| skip)
local macro_rules | `(tactic| walk_at "zz") => `(tactic| skip)
local macro_rules | `(tactic| walk_at "zz") => `(tactic| skip)
local macro_rules | `(tactic| walk_at "zz") => `(tactic| skip)
local macro_rules | `(tactic| walk_at "zz") => `(tactic| skip)
local macro_rules | `(tactic| walk_at "zz") => `(tactic| skip)
local macro_rules | `(tactic| walk_at "zz") => `(tactic| skip)
local macro_rules | `(tactic| walk_at "zz") => `(tactic| skip)
local macro_rules | `(tactic| walk_at "zz") => `(tactic| skip)
local macro_rules | `(tactic| walk_at "zz") => `(tactic| skip)
local macro_rules | `(tactic| walk_at "zz") => `(tactic| skip)
local macro_rules | `(tactic| walk_at "zz") => `(tactic| skip)
local macro_rules | `(tactic| walk_at "zz") => `(tactic| skip)
local macro_rules | `(tactic| walk_at "zz") => `(tactic| skip)
local macro_rules | `(tactic| walk_at "zz") => `(tactic| skip)
local macro_rules | `(tactic| walk_at "zz") => `(tactic| skip)
local macro_rules | `(tactic| walk_at "zz") => `(tactic| skip)
local macro_rules | `(tactic| walk_at "zz") => `(tactic| skip)
local macro_rules | `(tactic| walk_at "zz") => `(tactic| skip)
local macro_rules | `(tactic| walk_at "zz") => `(tactic| skip)
local macro_rules | `(tactic| walk_at "zz") => `(tactic| skip)
local macro_rules | `(tactic| walk_at "zz") => `(tactic| skip)
local macro_rules | `(tactic| walk_at "zz") => `(tactic| skip)
local macro_rules | `(tactic| walk_at "zz") => `(tactic| skip)
local macro_rules | `(tactic| walk_at "zz") => `(tactic| skip)
local macro_rules | `(tactic| walk_at "zz") => `(tactic| skip)
local macro_rules | `(tactic| walk_at "zz") => `(tactic| skip)
local macro_rules | `(tactic| walk_at "zz") => `(tactic| skip)
local macro_rules | `(tactic| walk_at "zz") => `(tactic| skip)
local macro_rules | `(tactic| walk_at "zz") => `(tactic| skip)
local macro_rules | `(tactic| walk_at "zz") => `(tactic| skip)
local macro_rules | `(tactic| walk_at "zz") => `(tactic| skip)
local macro_rules | `(tactic| walk_at "zz") => `(tactic| skip)
local macro_rules | `(tactic| walk_at "zz") => `(tactic| skip)
local macro_rules | `(tactic| walk_at "zz") => `(tactic| skip)
local macro_rules | `(tactic| walk_at "zz") => `(tactic| skip)
local macro_rules | `(tactic| walk_at "zz") => `(tactic| skip)
local macro_rules | `(tactic| walk_at "zz") => `(tactic| skip)
local macro_rules | `(tactic| walk_at "zz") => `(tactic| skip)
local macro_rules | `(tactic| walk_at "zz") => `(tactic| skip)
local macro_rules | `(tactic| walk_at "zz") => `(tactic| skip)
local macro_rules | `(tactic| walk_at "zz") => `(tactic| skip)
local macro_rules | `(tactic| walk_at "zz") => `(tactic| skip)
local macro_rules | `(tactic| walk_at "zz") => `(tactic| skip)
local macro_rules | `(tactic| walk_at "zz") => `(tactic| skip)
local macro_rules | `(tactic| walk_at "zz") => `(tactic| skip)
local macro_rules | `(tactic| walk_at "zz") => `(tactic| skip)
local macro_rules | `(tactic| k_room) => `(tactic| ktr_room)
theorem ne_bool_eq4 {prog : Program} {w : World} {A : Around} {E : Value → Shared → Prop} {s : Shared} {x y : Bool} {Q : Value → Shared → Prop} (e : x = y) (h : Q (.bool false) s) : wpAny (model prog w) A (compareOp .NotEq (.bool x) (.bool y)) Q E s := by
  subst e
  refine ne_bool ?_
  rw [bne_self_eq_false]; exact h
theorem dec_beq {x y : Str} : decide (x = y) = (x == y) := by
  by_cases h : x = y
  · subst h; rw [decide_eq_true rfl, beq_self_eq_true]
  · rw [decide_eq_false h]; exact (beq_eq_false_iff_ne.mpr h).symm
theorem le64s {n : Nat} (h : n ≤ 9) : n ≤ 64 := by omega
local macro_rules | `(tactic| walk_at "call ref") => `(tactic| (k_here; (with_reducible show wpAny _ _ (call (Value.ref 21) [Value.str _ _, Value.str _ _]) _ _ _); k_dflt (refine' Gives.use (consteq_ss (le64s (by with_reducible assumption)) (le64s (by with_reducible assumption))) ?k1 ?k2 ?k3 ?k4 ?k5 ?kK ?kd ?ku ?_; (case k1 => k_asm); (case k2 => k_asm); (case k3 => k_asm); (case k4 => k_asm); (case k5 => k_asm); (case kK => first | exact rfl | assumption); (case kd => ktr_room); (case ku => ktr_units)); (intro _ _ _ rv F9 N9); (cases rv); (try dsimp only); (try k_fold)))
local macro_rules | `(tactic| walk_at "call ref") => `(tactic| (k_here; (with_reducible show wpAny _ _ (call (Value.ref 71) [Value.int 2 _, Value.bytes _ _, Value.str _ _]) _ _ _); k_dflt (refine' GivesTop.use lt2_bs ?k1 ?k2 ?k3 ?k4 ?k5 ?kK ?kd ?ku ?_; (case k1 => k_asm); (case k2 => k_asm); (case k3 => k_asm); (case k4 => k_asm); (case k5 => k_asm); (case kK => first | exact rfl | assumption); (case kd => ktr_room); (case ku => ktr_units)); (intro _ _ _ rv F9 N9); (obtain ⟨_, rvE⟩ := rv); subst rvE; (try dsimp only); (try k_fold)))
local macro_rules | `(tactic| walk_at "call ref") => `(tactic| (k_here; (with_reducible show wpAny _ _ (call (Value.ref 71) [Value.int 2 _, Value.str _ _, Value.bytes _ _]) _ _ _); k_dflt (refine' GivesTop.use lt2_sb ?k1 ?k2 ?k3 ?k4 ?k5 ?kK ?kd ?ku ?_; (case k1 => k_asm); (case k2 => k_asm); (case k3 => k_asm); (case k4 => k_asm); (case k5 => k_asm); (case kK => first | exact rfl | assumption); (case kd => ktr_room); (case ku => ktr_units)); (intro _ _ _ rv F9 N9); (obtain ⟨_, rvE⟩ := rv); subst rvE; (try dsimp only); (try k_fold)))
local macro_rules | `(tactic| walk_at "call ref") => `(tactic| (k_here; (with_reducible show wpAny _ _ (call (Value.ref 71) [Value.int 2 _, Value.none, Value.bytes _ _]) _ _ _); k_dflt (refine' GivesTop.use lt2_nb ?k1 ?k2 ?k3 ?k4 ?k5 ?kK ?kd ?ku ?_; (case k1 => k_asm); (case k2 => k_asm); (case k3 => k_asm); (case k4 => k_asm); (case k5 => k_asm); (case kK => first | exact rfl | assumption); (case kd => ktr_room); (case ku => ktr_units)); (intro _ _ _ rv F9 N9); (obtain ⟨_, rvE⟩ := rv); subst rvE; (try dsimp only); (try k_fold)))
local macro_rules | `(tactic| walk_at "compareOp NotEq bool bool") => `(tactic| (k_here; refine ne_bool_eq4 dec_beq ?_))

/-- the names behind statement 13 -/
abbrev mO (y : Str) (ty : Tok) (sd : Option Value) (x : Str) (tx : Tok) (m : Str → Option Value) : Str → Option Value :=
  opt (Str.ofString "other") (some (.str y ty)) (opt (Str.ofString "said") sd (opt (Str.ofString "text") (some (.str x tx)) m))
theorem st14 {p : Program} {loose : List Str} {w : World} {mean mg mb} {m : Str → Option Value} {sd : Option Value} {tx ty tb : Tok} {x y : Str} {b : Array UInt8} (hx : x.length ≤ 9) (hy : y.length ≤ 9) :
    Steps p loose w mean mg mb 14 (mO y ty sd x tx m) (some (.bytes b tb)) (fun m' v' => v' = some (.bytes b tb) ∧ m' = mO y ty sd x tx m) := by
  unfold Steps
  w_top off
  k_fill
  intro h₀ L fa cd o1 o2 os s K E B X T C h2 hA hK
  obtain ⟨ps, F, N, ht, G, hos⟩ := hA
  conv => arg 3; arg 1; whnf
  k_steps
  all_goals exact hK _ _ _ _ ⟨rfl, rfl⟩ h2 (At.mk (by assumption) (by assumption) (by assumption) (by assumption) (by assumption) (fun _ hq => List.mem_cons_of_mem _ (List.mem_cons_of_mem _ (List.mem_cons_of_mem _ hq))) rfl)
end Mine

-- part S16
namespace Mine
local macro_rules | `(tactic| walk_at "zz") => `(tactic| skip)
local macro_rules | `(tactic| walk_at "zz") => `(tactic| skip)
local macro_rules | `(tactic| walk_at "zz") => `(tactic| skip)
local macro_rules | `(tactic| walk_at "zz") => `(tactic| skip)
local macro_rules | `(tactic| walk_at "zz") => `(tactic| skip)
local macro_rules | `(tactic| walk_at "zz") => `(tactic| skip)
local macro_rules | `(tactic| walk_at "zz") => `(tactic| skip)
local macro_rules | `(tactic| walk_at "zz") => `(tactic| skip)
local macro_rules | `(tactic| walk_at "zz") => `(tactic| skip)
local macro_rules | `(tactic| walk_at "zz") => `(tactic| skip)
local macro_rules | `(tactic| walk_at "zz") => `(tactic| skip)
local macro_rules | `(tactic| walk_at "zz") => `(tactic| skip)
local macro_rules | `(tactic| walk_at "zz") => `(tactic| skip)
local macro_rules | `(tactic| walk_at "zz") => `(tactic| skip)
local macro_rules | `(tactic| walk_at "zz") => `(tactic| skip)
local macro_rules | `(tactic| walk_at "zz") => `(tactic| skip)
local macro_rules | `(tactic| walk_at "zz") => `(tactic| skip)
local macro_rules | `(tactic| walk_at "zz") => `(tactic| skip)
local macro_rules | `(tactic| walk_at "zz") => `(tactic| skip)
local macro_rules | `(tactic| walk_at "zz") => `(tactic| skip)
local macro_rules | `(tactic| walk_at "zz") => `(tactic| skip)
local macro_rules | `(tactic| walk_at "zz") => `(tactic| skip)
local macro_rules | `(tactic| walk_at "zz") => `(tactic| skip)
local macro_rules | `(tactic| walk_at "zz") => `(tactic| skip)
local macro_rules | `(tactic| walk_at "zz") => `(tactic| skip)
local macro_rules | `(tactic| walk_at "zz") => `(tactic| skip)
local macro_rules | `(tactic| walk_at "zz") => `(tactic| skip)
local macro_rules | `(tactic| walk_at "zz") => `(tactic| skip)
local macro_rules | `(tactic| walk_at "zz") => `(tactic| skip)
local macro_rules | `(tactic| walk_at "zz") => `(tactic| skip)
local macro_rules | `(tactic| walk_at "zz") => `(tactic| skip)
local macro_rules | `(tactic| walk_at "zz") => `(tactic| skip)
local macro_rules | `(tactic| walk_at "zz") => `(tactic| skip)
local macro_rules | `(tactic| walk_at "zz") => `(tactic| skip)
local macro_rules | `(tactic| walk_at "zz") => `(tactic| skip)
local macro_rules | `(tactic| walk_at "zz") => `(tactic| skip)
local macro_rules | `(tactic| walk_at "zz") => `(tactic| skip)
local macro_rules | `(tactic| walk_at "zz") => `(tactic| skip)
local macro_rules | `(tactic| walk_at "zz") => `(tactic| skip)
local macro_rules | `(tactic| walk_at "zz") => `(tactic| skip)
local macro_rules | `(tactic| walk_at "zz") => `(tactic| skip)
local macro_rules | `(tactic| walk_at "zz") => `(tactic| skip)
local macro_rules | `(tactic| walk_at "zz") => `(tactic| skip)
local macro_rules | `(tactic| walk_at "zz") => `(tactic| skip)
local macro_rules | `(tactic| walk_at "zz") => `(tactic| skip)
local macro_rules | `(tactic| walk_at "zz") => `(tactic| skip)
local macro_rules | `(tactic| walk_at "zz") => `(tactic| skip)
local macro_rules | `(tactic| walk_at "zz") => `(tactic| skip)
local macro_rules | `(tactic| walk_at "zz") => `(tactic| skip)
local macro_rules | `(tactic| walk_at "zz") => `(tactic| skip)
local macro_rules | `(tactic| walk_at "zz") => `(tactic| skip)
local macro_rules | `(tactic| walk_at "zz") => `(tactic| skip)
local macro_rules | `(tactic| walk_at "zz") => `(tactic| skip)
local macro_rules | `(tactic| walk_at "zz") => `(tactic| skip)
local macro_rules | `(tactic| walk_at "zz") => `(tactic| skip)
local macro_rules | `(tactic| walk_at "zz") => `(tactic| skip)
local macro_rules | `(tactic| walk_at "zz") => `(tactic| skip)
local macro_rules | `(tactic| walk_at "zz") => `(tactic| skip)
local macro_rules | `(tactic| walk_at "zz") => `(tactic| skip)
local macro_rules | `(tactic| walk_at "zz") => `(tactic| skip)
local macro_rules | `(tactic| walk_at "zz") => `(tactic| skip)
local macro_rules | `(tactic| walk_at "zz") => `(tactic| skip)
local macro_rules | `(tactic| walk_at "zz") => `(tactic| skip)
local macro_rules | `(tactic| walk_at "zz") => `(tactic| skip)
local macro_rules | `(tactic| walk_at "zz") => `(tactic| skip)
local macro_rules | `(tactic| walk_at "zz") => `(tactic| skip)
local macro_rules | `(tactic| walk_at "zz") => `(tactic| skip)
local macro_rules | `(tactic| walk_at "zz") => `(tactic| skip)
local macro_rules | `(tactic| walk_at "zz") => `(tactic| skip)
local macro_rules | `(tactic| walk_at "zz") => `(tactic| skip)
local macro_rules | `(tactic| walk_at "zz") => `(tactic| skip)
local macro_rules | `(tactic| walk_at "zz") => `(tactic| skip)
local macro_rules | `(tactic| walk_at "zz") => `(tactic| skip)
local macro_rules | `(tactic| k_room) => `(tactic| ktr_room)

theorem st15 {p : Program} {loose : List Str} {w : World} {mean mg mb} {m : Str → Option Value} {v : Option Value} :
    Steps p loose w mean mg mb 15 m v (fun m' v' => v' = v ∧ ∃ t, m' = opt (Str.ofString "number") (some (.int 0 t)) m) := by
  unfold Steps
  w_top off
  k_fill
  intro h₀ L fa cd o1 o2 os s K E B X T C h2 hA hK
  obtain ⟨ps, F, N, ht, G, hos⟩ := hA
  conv => arg 3; arg 1; whnf
  k_steps
  all_goals first
    | exact hK _ _ _ _ ⟨rfl, _, rfl⟩ h2 (At.mk (by assumption) (by assumption) (by assumption) (by assumption) (by assumption) (fun _ hq => hq) rfl)

local macro_rules | `(tactic| walk_at "exec For Name Name cons nil") => `(tactic| (k_here; (rename Fr _ _ _ _ => lF'); (with_unfolding_all refine' For_invVF lF' ?k1 ?k2 ?_ (hE := by assumption); (case k1 => exact rfl); (case k2 => exact rfl); k_whole)))
theorem octet_out {N : Option Value} {u m : Str → Option Value} {V : Option Value} : (fun z => if z = Str.ofString "octet" then u z else if z = Str.ofString "number" then N else opt (Str.ofString "number") V m z) = opt (Str.ofString "number") N (opt (Str.ofString "octet") (u (Str.ofString "octet")) m) := by
  funext y
  by_cases h : y = Str.ofString "octet"
  · subst h
    have e : Str.ofString "octet" ≠ Str.ofString "number" := by decide
    simp [opt, e]
  · by_cases h' : y = Str.ofString "number"
    · subst h'; simp [opt, h]
    · simp [opt, h, h']
theorem st16 {p : Program} {loose : List Str} {w : World} {mean mg mb} {m : Str → Option Value} {t tb : Tok} {b : Array UInt8} {ks : List Int} (hb : KBw.bInts b = ks) (hlk : ks.length ≤ 9) :
  ∀ (h₀ : Heap) (L fa : Addr) (cd : Value) (o1 o2 : Obj) (os : OsState) (s : Shared) (K : Flow → Shared → Prop) (E : Value → Shared → Prop),
    Below callerA h₀ [] h₀ → (hd.heap_39 w.params).In h₀ → Top p loose mean mg mb h₀ → CodeHd h₀ 75 73 → PassesOwn (model PySem.Challenge.rw_aj5024_01.row.prog w) (callerA.deeper (lawEnv L fa cd)) (lawEnv L fa cd) E → o2.data = .cell (some (.bytes b tb)) → At h₀ L os (opt (Str.ofString "number") (some (.int 0 t)) m) o1 o2 s →
    (∀ (t' : Tok) (oc : Option Value) o2' s', o2'.data = .cell (some (.bytes b tb)) → At h₀ L os (opt (Str.ofString "number") (some (.int (KFB.value ks) t')) (opt (Str.ofString "octet") oc m)) o1 o2' s' → K .next s') →
      wpAny (model PySem.Challenge.rw_aj5024_01.row.prog w) (callerA.deeper (lawEnv L fa cd)) (exec (lawStmt 16) (lawEnv L fa cd)) K E s := by
  k_fill
  intro h₀ L fa cd o1 o2 os s K E B X T C hE h2 hA hK
  obtain ⟨ps, F, N, ht, G, hos⟩ := hA
  conv => arg 3; arg 1; whnf
  k_steps
  all_goals first
    | exact hK _ _ _ _ h2 (At.mk (by assumption) (by assumption) (by assumption) (by assumption) (by assumption) (fun _ hq => hq) octet_out)
end Mine

-- part S17
namespace Mine
local macro_rules | `(tactic| walk_at "zz") => `(tactic| skip)
local macro_rules | `(tactic| walk_at "zz") => `(tactic| skip)
local macro_rules | `(tactic| walk_at "zz") => `(tactic| skip)
local macro_rules | `(tactic| walk_at "zz") => `(tactic| skip)
local macro_rules | `(tactic| walk_at "zz") => `(tactic| skip)
local macro_rules | `(tactic| walk_at "zz") => `(tactic| skip)
local macro_rules | `(tactic| walk_at "zz") => `(tactic| skip)
local macro_rules | `(tactic| walk_at "zz") => `(tactic| skip)
local macro_rules | `(tactic| walk_at "zz") => `(tactic| skip)
local macro_rules | `(tactic| walk_at "zz") => `(tactic| skip)
local macro_rules | `(tactic| walk_at "zz") => `(tactic| skip)
local macro_rules | `(tactic| walk_at "zz") => `(tactic| skip)
local macro_rules | `(tactic| walk_at "zz") => `(tactic| skip)
local macro_rules | `(tactic| walk_at "zz") => `(tactic| skip)
local macro_rules | `(tactic| walk_at "zz") => `(tactic| skip)
local macro_rules | `(tactic| walk_at "zz") => `(tactic| skip)
local macro_rules | `(tactic| walk_at "zz") => `(tactic| skip)
local macro_rules | `(tactic| walk_at "zz") => `(tactic| skip)
local macro_rules | `(tactic| walk_at "zz") => `(tactic| skip)
local macro_rules | `(tactic| walk_at "zz") => `(tactic| skip)
local macro_rules | `(tactic| walk_at "zz") => `(tactic| skip)
local macro_rules | `(tactic| walk_at "zz") => `(tactic| skip)
local macro_rules | `(tactic| walk_at "zz") => `(tactic| skip)
local macro_rules | `(tactic| walk_at "zz") => `(tactic| skip)
local macro_rules | `(tactic| walk_at "zz") => `(tactic| skip)
local macro_rules | `(tactic| walk_at "zz") => `(tactic| skip)
local macro_rules | `(tactic| walk_at "zz") => `(tactic| skip)
local macro_rules | `(tactic| walk_at "zz") => `(tactic| skip)
local macro_rules | `(tactic| walk_at "zz") => `(tactic| skip)
local macro_rules | `(tactic| walk_at "zz") => `(tactic| skip)
local macro_rules | `(tactic| walk_at "zz") => `(tactic| skip)
local macro_rules | `(tactic| walk_at "zz") => `(tactic| skip)
local macro_rules | `(tactic| walk_at "zz") => `(tactic| skip)
local macro_rules | `(tactic| walk_at "zz") => `(tactic| skip)
local macro_rules | `(tactic| walk_at "zz") => `(tactic| skip)
local macro_rules | `(tactic| walk_at "zz") => `(tactic| skip)
local macro_rules | `(tactic| walk_at "zz") => `(tactic| skip)
local macro_rules | `(tactic| walk_at "zz") => `(tactic| skip)
local macro_rules | `(tactic| walk_at "zz") => `(tactic| skip)
local macro_rules | `(tactic| walk_at "zz") => `(tactic| skip)
local macro_rules | `(tactic| walk_at "zz") => `(tactic| skip)
local macro_rules | `(tactic| walk_at "zz") => `(tactic| skip)
local macro_rules | `(tactic| walk_at "zz") => `(tactic| skip)
local macro_rules | `(tactic| walk_at "zz") => `(tactic| skip)
local macro_rules | `(tactic| walk_at "zz") => `(tactic| skip)
local macro_rules | `(tactic| walk_at "zz") => `(tactic| skip)
local macro_rules | `(tactic| walk_at "zz") => `(tactic| skip)
local macro_rules | `(tactic| walk_at "zz") => `(tactic| skip)
local macro_rules | `(tactic| walk_at "zz") => `(tactic| skip)
local macro_rules | `(tactic| walk_at "zz") => `(tactic| skip)
local macro_rules | `(tactic| walk_at "zz") => `(tactic| skip)
local macro_rules | `(tactic| walk_at "zz") => `(tactic| skip)
local macro_rules | `(tactic| walk_at "zz") => `(tactic| skip)
local macro_rules | `(tactic| walk_at "zz") => `(tactic| skip)
local macro_rules | `(tactic| walk_at "zz") => `(tactic| skip)
local macro_rules | `(tactic| walk_at "zz") => `(tactic| skip)
local macro_rules | `(tactic| walk_at "zz") => `(tactic| skip)
local macro_rules | `(tactic| walk_at "zz") => `(tactic| skip)
local macro_rules | `(tactic| walk_at "zz") => `(tactic| skip)
local macro_rules | `(tactic| walk_at "zz") => `(tactic| skip)
local macro_rules | `(tactic| walk_at "zz") => `(tactic| skip)
local macro_rules | `(tactic| walk_at "zz") => `(tactic| skip)
local macro_rules | `(tactic| walk_at "zz") => `(tactic| skip)
local macro_rules | `(tactic| walk_at "zz") => `(tactic| skip)
local macro_rules | `(tactic| walk_at "zz") => `(tactic| skip)
local macro_rules | `(tactic| walk_at "zz") => `(tactic| skip)
local macro_rules | `(tactic| walk_at "zz") => `(tactic| skip)
local macro_rules | `(tactic| walk_at "zz") => `(tactic| skip)
local macro_rules | `(tactic| walk_at "zz") => `(tactic| skip)
local macro_rules | `(tactic| walk_at "zz") => `(tactic| skip)
local macro_rules | `(tactic| walk_at "zz") => `(tactic| skip)
local macro_rules | `(tactic| walk_at "zz") => `(tactic| skip)
local macro_rules | `(tactic| walk_at "zz") => `(tactic| skip)
local macro_rules | `(tactic| walk_at "zz") => `(tactic| skip)
local macro_rules | `(tactic| walk_at "zz") => `(tactic| skip)
local macro_rules | `(tactic| k_room) => `(tactic| ktr_room)
theorem ints_inj7 {b c : Array UInt8} (h : KBw.bInts b = KBw.bInts c) : b.toList = c.toList := by
  have e : ∀ (x y : List UInt8), x.map (fun c => ((c.toNat : Nat) : Int)) = y.map (fun c => ((c.toNat : Nat) : Int)) → x = y := by
    intro x
    induction x with
    | nil => intro y h; cases y with
      | nil => rfl
      | cons _ _ => cases h
    | cons a x ih => intro y h; cases y with
      | nil => cases h
      | cons c y =>
        rw [List.map_cons, List.map_cons] at h
        injection h with h1 h2
        rw [ih y h2, UInt8.toNat_inj.mp (Int.ofNat.inj h1)]
  exact e _ _ h
theorem ne_same7 {prog : Program} {w : World} {A : Around} {E : Value → Shared → Prop} {s : Shared} {b c : Array UInt8} {t u : Tok} {ks ls : List Int} {Q : Value → Shared → Prop} (hb : KBw.bInts b = ks) (hc : KBw.bInts c = ls) (e : ks = ls) (h : Q (.bool false) s) :
    wpAny (model prog w) A (compareOp .NotEq (.bytes b t) (.bytes c u)) Q E s := by
  refine ne_bytes ?_
  rw [ints_inj7 (hb.trans (e.trans hc.symm))]
  rw [bne_self_eq_false]
  exact h
theorem ne_int_self {prog : Program} {w : World} {A : Around} {E : Value → Shared → Prop} {s : Shared} {x : Int} {t u : Tok} {Q : Value → Shared → Prop} (h : Q (.bool false) s) : wpAny (model prog w) A (compareOp .NotEq (.int x t) (.int x u)) Q E s := by
  refine ne_int ?_
  rw [bne_self_eq_false]
  exact h
theorem itb_v {p : Program} {loose : List Str} {w : World} {mean mg mb} {ks : List Int} {t u : Tok} (hI : KBa.In ks) (hlk : ks.length ≤ 9) :
    Gives p loose w mean mg mb 2 16 35 [.int (KFB.value ks) t, .int (ks.length : Int) u] (fun v => ∃ b t, v = .bytes b t ∧ KBw.bInts b = ks) := by
  have h := itb (p := p) (loose := loose) (w := w) (mean := mean) (mg := mg) (mb := mb) (t := t) (u := u) (show ks.length ≤ 64 by omega) (value_range hI).1 (value_range hI).2
  rw [big_value hI rfl] at h
  exact h
theorem itb_v2 {p : Program} {loose : List Str} {w : World} {mean mg mb} {ks : List Int} {t u : Tok} (hI : KBa.In ks) (hlk : ks.length ≤ 9) :
    Gives p loose w mean mg mb 2 16 35 [.int (KFB.value ks) t, .int ((ks.length : Int) + 2) u] (fun v => ∃ b t, v = .bytes b t ∧ KBw.bInts b = [0, 0] ++ ks) := by
  have hI2 : KBa.In (List.replicate 2 0 ++ ks) := in_app (in_zeros 2) hI
  have hl2 : (List.replicate 2 (0 : Int) ++ ks).length = ks.length + 2 := by rw [List.length_append, List.length_replicate]; omega
  have hv : KFB.value (List.replicate 2 0 ++ ks) = KFB.value ks := value_pad 2 ks
  have hr := value_range hI2
  rw [hv, hl2] at hr
  have hbv := big_value hI2 hl2
  rw [hv] at hbv
  have h := itb (p := p) (loose := loose) (w := w) (mean := mean) (mg := mg) (mb := mb) (t := t) (u := u) (show ks.length + 2 ≤ 64 by omega) hr.1 hr.2
  rw [hbv] at h
  exact h
theorem le64v {n : Nat} (h : n ≤ 9) : n ≤ 64 := by omega
local macro_rules | `(tactic| walk_at "call ref") => `(tactic| (k_here; (with_reducible show wpAny _ _ (call (Value.ref 28) [Value.bytes _ _]) _ _ _); k_dflt (refine' Gives.use (bti (by with_reducible assumption) (le64v (by with_reducible assumption))) ?k1 ?k2 ?k3 ?k4 ?k5 ?kK ?kd ?ku ?_; (case k1 => k_asm); (case k2 => k_asm); (case k3 => k_asm); (case k4 => k_asm); (case k5 => k_asm); (case kK => first | exact rfl | assumption); (case kd => ktr_room); (case ku => ktr_units)); (intro _ _ _ rv F9 N9); (obtain ⟨_, rvE⟩ := rv); subst rvE; (try dsimp only); (try k_fold)))
local macro_rules | `(tactic| walk_at "call ref") => `(tactic| (k_here; (with_reducible show wpAny _ _ (call (Value.ref 35) [Value.int _ _, Value.int _ _]) _ _ _); k_dflt (first | refine' Gives.use (itb_v (by with_reducible assumption) (by with_reducible assumption)) ?k1 ?k2 ?k3 ?k4 ?k5 ?kK ?kd ?ku ?_ | refine' Gives.use (itb_v2 (by with_reducible assumption) (by with_reducible assumption)) ?k1 ?k2 ?k3 ?k4 ?k5 ?kK ?kd ?ku ?_); k_dflt ((case k1 => k_asm); (case k2 => k_asm); (case k3 => k_asm); (case k4 => k_asm); (case k5 => k_asm); (case kK => first | exact rfl | assumption); (case kd => ktr_room); (case ku => ktr_units)); (intro _ _ _ rv F9 N9); (obtain ⟨_, _, rvE, ibIn⟩ := rv); subst rvE; (try dsimp only); (try k_fold)))
local macro_rules | `(tactic| walk_at "compareOp NotEq int int") => `(tactic| (k_here; refine ne_int_self ?_))
local macro_rules | `(tactic| walk_at "compareOp NotEq bytes bytes") => `(tactic| (k_here; refine ne_same7 (by with_reducible assumption) (by with_reducible assumption) (by first | rfl | with_unfolding_all rfl) ?_))

/-- the names behind statement 16 -/
abbrev mN (ks : List Int) (t : Tok) (oc : Option Value) (m : Str → Option Value) : Str → Option Value := opt (Str.ofString "number") (some (.int (KFB.value ks) t)) (opt (Str.ofString "octet") oc m)
theorem st17 {p : Program} {loose : List Str} {w : World} {mean mg mb} {m : Str → Option Value} {oc : Option Value} {t tb : Tok} {b : Array UInt8} {ks : List Int} (hb : KBw.bInts b = ks) (hlk : ks.length ≤ 9) :
    Steps p loose w mean mg mb 17 (mN ks t oc m) (some (.bytes b tb)) (fun m' v' => v' = some (.bytes b tb) ∧ m' = mN ks t oc m) := by
  have hIb := in_of hb
  unfold Steps
  w_top off
  k_fill
  intro h₀ L fa cd o1 o2 os s K E B X T C h2 hA hK
  obtain ⟨ps, F, N, ht, G, hos⟩ := hA
  conv => arg 3; arg 1; whnf
  k_steps
  all_goals first
    | exact hK _ _ _ _ ⟨rfl, rfl⟩ h2 (At.mk (by assumption) (by assumption) (by assumption) (by assumption) (by assumption) (fun _ hq => hq) rfl)
end Mine

-- part S18
namespace Mine
local macro_rules | `(tactic| walk_at "zz") => `(tactic| skip)
local macro_rules | `(tactic| walk_at "zz") => `(tactic| skip)
local macro_rules | `(tactic| walk_at "zz") => `(tactic| skip)
local macro_rules | `(tactic| walk_at "zz") => `(tactic| skip)
local macro_rules | `(tactic| walk_at "zz") => `(tactic| skip)
local macro_rules | `(tactic| walk_at "zz") => `(tactic| skip)
local macro_rules | `(tactic| walk_at "zz") => `(tactic| skip)
local macro_rules | `(tactic| walk_at "zz") => `(tactic| skip)
local macro_rules | `(tactic| walk_at "zz") => `(tactic| skip)
local macro_rules | `(tactic| walk_at "zz") => `(tactic| skip)
local macro_rules | `(tactic| walk_at "zz") => `(tactic| skip)
local macro_rules | `(tactic| walk_at "zz") => `(tactic| skip)
local macro_rules | `(tactic| walk_at "zz") => `(tactic| skip)
local macro_rules | `(tactic| walk_at "zz") => `(tactic| skip)
local macro_rules | `(tactic| walk_at "zz") => `(tactic| skip)
local macro_rules | `(tactic| walk_at "zz") => `(tactic| skip)
local macro_rules | `(tactic| walk_at "zz") => `(tactic| skip)
local macro_rules | `(tactic| walk_at "zz") => `(tactic| skip)
local macro_rules | `(tactic| walk_at "zz") => `(tactic| skip)
local macro_rules | `(tactic| walk_at "zz") => `(tactic| skip)
local macro_rules | `(tactic| walk_at "zz") => `(tactic| skip)
local macro_rules | `(tactic| walk_at "zz") => `(tactic| skip)
local macro_rules | `(tactic| walk_at "zz") => `(tactic| skip)
local macro_rules | `(tactic| walk_at "zz") => `(tactic| skip)
local macro_rules | `(tactic| walk_at "zz") => `(tactic| skip)
local macro_rules | `(tactic| walk_at "zz") => `(tactic| skip)
local macro_rules | `(tactic| walk_at "zz") => `(tactic| skip)
local macro_rules | `(tactic| walk_at "zz") => `(tactic| skip)
local macro_rules | `(tactic| walk_at "zz") => `(tactic| skip)
local macro_rules | `(tactic| walk_at "zz") => `(tactic| skip)
local macro_rules | `(tactic| walk_at "zz") => `(tactic| skip)
local macro_rules | `(tactic| walk_at "zz") => `(tactic| skip)
local macro_rules | `(tactic| walk_at "zz") => `(tactic| skip)
local macro_rules | `(tactic| walk_at "zz") => `(tactic| skip)
local macro_rules | `(tactic| walk_at "zz") => `(tactic| skip)
local macro_rules | `(tactic| walk_at "zz") => `(tactic| skip)
local macro_rules | `(tactic| walk_at "zz") => `(tactic| skip)
local macro_rules | `(tactic| walk_at "zz") => `(tactic| skip)
local macro_rules | `(tactic| walk_at "zz") => `(tactic| skip)
local macro_rules | `(tactic| walk_at "zz") => `(tactic| skip)
local macro_rules | `(tactic| walk_at "zz") => `(tactic| skip)
local macro_rules | `(tactic| walk_at "zz") => `(tactic| skip)
local macro_rules | `(tactic| walk_at "zz") => `(tactic| skip)
local macro_rules | `(tactic| walk_at "zz") => `(tactic| skip)
local macro_rules | `(tactic| walk_at "zz") => `(tactic| skip)
local macro_rules | `(tactic| walk_at "zz") => `(tactic| skip)
local macro_rules | `(tactic| walk_at "zz") => `(tactic| skip)
local macro_rules | `(tactic| walk_at "zz") => `(tactic| skip)
local macro_rules | `(tactic| walk_at "zz") => `(tactic| skip)
local macro_rules | `(tactic| walk_at "zz") => `(tactic| skip)
local macro_rules | `(tactic| walk_at "zz") => `(tactic| skip)
local macro_rules | `(tactic| walk_at "zz") => `(tactic| skip)
local macro_rules | `(tactic| walk_at "zz") => `(tactic| skip)
local macro_rules | `(tactic| walk_at "zz") => `(tactic| skip)
local macro_rules | `(tactic| walk_at "zz") => `(tactic| skip)
local macro_rules | `(tactic| walk_at "zz") => `(tactic| skip)
local macro_rules | `(tactic| walk_at "zz") => `(tactic| skip)
local macro_rules | `(tactic| walk_at "zz") => `(tactic| skip)
local macro_rules | `(tactic| walk_at "zz") => `(tactic| skip)
local macro_rules | `(tactic| walk_at "zz") => `(tactic| skip)
local macro_rules | `(tactic| walk_at "zz") => `(tactic| skip)
local macro_rules | `(tactic| walk_at "zz") => `(tactic| skip)
local macro_rules | `(tactic| walk_at "zz") => `(tactic| skip)
local macro_rules | `(tactic| walk_at "zz") => `(tactic| skip)
local macro_rules | `(tactic| walk_at "zz") => `(tactic| skip)
local macro_rules | `(tactic| walk_at "zz") => `(tactic| skip)
local macro_rules | `(tactic| walk_at "zz") => `(tactic| skip)
local macro_rules | `(tactic| walk_at "zz") => `(tactic| skip)
local macro_rules | `(tactic| walk_at "zz") => `(tactic| skip)
local macro_rules | `(tactic| walk_at "zz") => `(tactic| skip)
local macro_rules | `(tactic| walk_at "zz") => `(tactic| skip)
local macro_rules | `(tactic| walk_at "zz") => `(tactic| skip)
local macro_rules | `(tactic| walk_at "zz") => `(tactic| skip)
local macro_rules | `(tactic| walk_at "zz") => `(tactic| skip)
local macro_rules | `(tactic| walk_at "zz") => `(tactic| skip)
local macro_rules | `(tactic| walk_at "zz") => `(tactic| skip)
local macro_rules | `(tactic| walk_at "zz") => `(tactic| skip)
local macro_rules | `(tactic| walk_at "zz") => `(tactic| skip)
local macro_rules | `(tactic| walk_at "zz") => `(tactic| skip)
local macro_rules | `(tactic| walk_at "zz") => `(tactic| skip)
local macro_rules | `(tactic| k_room) => `(tactic| ktr_room)
theorem eq_str_self {prog : Program} {w : World} {A : Around} {E : Value → Shared → Prop} {s : Shared} {x : Str} {t u : Tok} {Q : Value → Shared → Prop} (h : Q (.bool true) s) : wpAny (model prog w) A (compareOp .Eq (.str x t) (.str x u)) Q E s := by
  refine eq_str ?_
  rw [beq_self_eq_true]
  exact h
theorem pow_len {prog : Program} {w : World} {A : Around} {E : Value → Shared → Prop} {s : Shared} {n : Nat} {t u : Tok} {Q : Value → Shared → Prop} (hn : n ≤ 9) (h : ∀ t' k, Q (.int (256 ^ n) t') { s with toks := k }) : wpAny (model prog w) A (binaryOp .Pow (.int 256 t) (.int (n : Int) u)) Q E s := by
  refine pow_int_small (Int.natCast_nonneg n) (by omega) (by decide) ?_
  rw [Int.toNat_natCast]
  exact h _ _
theorem over_v {p : Program} {loose : List Str} {w : World} {mean mg mb} {ks : List Int} {t t' u : Tok} (hI : KBa.In ks) (hlk : ks.length ≤ 9) :
    GivesTop p loose w mean mg mb 6 64 71 [.int 1 t', .int (KFB.value ks + 256 ^ ks.length) t, .int (ks.length : Int) u] (fun v => ∃ t, v = .str (Str.ofString "OverflowError") t) :=
  lt1_over (show ks.length ≤ 64 by omega) (Int.le_add_of_nonneg_left (value_range hI).1)
theorem neg_v {p : Program} {loose : List Str} {w : World} {mean mg mb} {ks : List Int} {t t' u : Tok} (hI : KBa.In ks) (hlk : ks.length ≤ 9) :
    GivesTop p loose w mean mg mb 6 64 71 [.int 1 t', .int (-1 - KFB.value ks) t, .int ((ks.length : Int) + 1) u] (fun v => ∃ t, v = .str (Str.ofString "OverflowError") t) :=
  lt1_neg (k := ks.length + 1) (show ks.length + 1 ≤ 64 by omega) (by have := (value_range hI).1; omega)
local macro_rules | `(tactic| walk_at "call ref") => `(tactic| (k_here; (with_reducible show wpAny _ _ (call (Value.ref 71) [Value.int 1 _, Value.int _ _, Value.int _ _]) _ _ _); k_dflt (first | refine' GivesTop.use (over_v (by with_reducible assumption) (by with_reducible assumption)) ?k1 ?k2 ?k3 ?k4 ?k5 ?kK ?kd ?ku ?_ | refine' GivesTop.use (neg_v (by with_reducible assumption) (by with_reducible assumption)) ?k1 ?k2 ?k3 ?k4 ?k5 ?kK ?kd ?ku ?_); k_dflt ((case k1 => k_asm); (case k2 => k_asm); (case k3 => k_asm); (case k4 => k_asm); (case k5 => k_asm); (case kK => first | exact rfl | assumption); (case kd => ktr_room); (case ku => ktr_units)); (intro _ _ _ rv F9 N9); (obtain ⟨_, rvE⟩ := rv); subst rvE; (try dsimp only); (try k_fold)))
local macro_rules | `(tactic| walk_at "compareOp Eq str str") => `(tactic| (k_here; refine eq_str_self ?_))
local macro_rules | `(tactic| walk_at "binaryOp Pow int int") => `(tactic| (k_here; refine pow_len (by with_reducible assumption) ?_; intro _ _))

theorem st18 {p : Program} {loose : List Str} {w : World} {mean mg mb} {m : Str → Option Value} {oc : Option Value} {t tb : Tok} {b : Array UInt8} {ks : List Int} (hb : KBw.bInts b = ks) (hlk : ks.length ≤ 9) :
  ∀ (h₀ : Heap) (L fa : Addr) (cd : Value) (o1 o2 : Obj) (os : OsState) (s : Shared) (K : Flow → Shared → Prop) (E : Value → Shared → Prop),
    Below callerA h₀ [] h₀ → (hd.heap_39 w.params).In h₀ → Top p loose mean mg mb h₀ → CodeHd h₀ 75 73 → o2.data = .cell (some (.bytes b tb)) → At h₀ L os (opt (Str.ofString "number") (some (.int (KFB.value ks) t)) (opt (Str.ofString "octet") oc m)) o1 o2 s →
    (∀ m' s', At h₀ L os m' o1 o2 s' → K (.ret (.bool true)) s') →
      wpAny (model PySem.Challenge.rw_aj5024_01.row.prog w) (callerA.deeper (lawEnv L fa cd)) (exec (lawStmt 18) (lawEnv L fa cd)) K E s := by
  have hIb := in_of hb
  w_top off
  k_fill
  intro h₀ L fa cd o1 o2 os s K E B X T C h2 hA hK
  obtain ⟨ps, F, N, ht, G, hos⟩ := hA
  conv => arg 3; arg 1; whnf
  k_steps
  all_goals first
    | exact hK _ _ (At.mk (by assumption) (by assumption) (by assumption) (by assumption) (by assumption) (fun _ hq => hq) rfl)
end Mine

-- part LA
namespace Mine
theorem law_all {p : Program} {loose : List Str} {w : World} {mean mg mb} {xs : List Int} (hlen : xs.length < 2 ^ 62) {h₀ : Heap} {L fa S : Addr} {cd : Value} {vs : List Value} {o1 o2 : Obj} {os : OsState} {s : Shared}
    (B : Below callerA h₀ [] h₀) (X : (hd.heap_39 w.params).In h₀) (T : Top p loose mean mg mb h₀) (C : CodeHd h₀ 75 73) (hS : h₀.IsList S vs.toArray) (hi : IntsAre vs xs) (h1 : o1.data = .cell (some (.ref S))) (h2 : o2.data = .cell none) (A : At h₀ L os (fun _ => none) o1 o2 s) :
    wpAny (model PySem.Challenge.rw_aj5024_01.row.prog w) (callerA.deeper (lawEnv L fa cd)) (execs (lawTail 0) (lawEnv L fa cd)) (fun f s' => f = .ret (.bool true) ∧ ∃ m' o1' o2', At h₀ L os m' o1' o2' s') (fun _ _ => False) s := by
  refine law_cut 0 (by decide) (st0 hlen _ _ _ _ _ _ _ _ _ _ _ _ B X T C hS hi h1 h2 A ?_)
  rintro _ _ o2 s ⟨f, g, t, u, rfl, rfl⟩ h2 A
  refine law_cut 1 (by decide) (st1 hlen _ _ _ _ _ _ _ _ _ _ _ _ B X T C hS hi h1 h2 A ?_)
  rintro _ _ o2 s ⟨rfl, b, tb, ks, rfl, hb, hlk⟩ h2 A
  refine law_cut 2 (by decide) (st2 hlen _ _ _ _ _ _ _ _ _ _ _ _ B X T C hS hi h1 h2 A ?_)
  rintro _ _ o2 s ⟨rfl, c, tc, ls, rfl, hc, hll⟩ h2 A
  refine law_cut 3 (by decide) (st3 hb hc hlk hll _ _ _ _ _ _ _ _ _ _ B X T C h2 A ?_)
  rintro _ _ o2 s ⟨rfl, c, tc, ls, rfl, hc, hll⟩ h2 A
  refine law_cut 4 (by decide) (st4 hb hc hlk hll _ _ _ _ _ _ _ _ _ _ B X T C h2 A ?_)
  rintro _ _ o2 s ⟨rfl, c, tc, ls, pl, rfl, hc, hll⟩ h2 A
  refine law_cut 5 (by decide) (st5 rfl _ _ _ _ _ _ _ _ _ _ B X T C h2 A ?_)
  rintro _ _ o2 s ⟨rfl, z, tz, rfl, hz0, hz1⟩ h2 A
  refine law_cut 6 (by decide) (st6 hb hlk hz0 hz1 _ _ _ _ _ _ _ _ _ _ B X T C h2 A ?_)
  rintro _ _ o2 s ⟨rfl, rfl⟩ h2 A
  refine law_cut 7 (by decide) (st7 hb hlk _ _ _ _ _ _ _ _ _ _ B X T C h2 A ?_)
  rintro _ _ o2 s ⟨rfl, x, tx, rfl, hx⟩ h2 A
  refine law_cut 8 (by decide) (st8 (show x.length ≤ 20 by omega) hz0 hz1 _ _ _ _ _ _ _ _ _ _ B X T C h2 A ?_)
  rintro _ _ o2 s ⟨rfl, rfl⟩ h2 A
  refine law_cut 9 (by decide) (st9 hb hc hlk hll rfl _ _ _ _ _ _ _ _ _ _ B X T C h2 A ?_)
  rintro _ _ o2 s ⟨rfl, sd, rfl⟩ h2 A
  refine law_cut 10 (by decide) (st10 hb hc hlk hll _ _ _ _ _ _ _ _ _ _ B X T C h2 A ?_)
  rintro _ _ o2 s ⟨rfl, rfl⟩ h2 A
  refine law_cut 11 (by decide) (st11 hb hc hlk hll _ _ _ _ _ _ _ _ _ _ B X T C h2 A ?_)
  rintro _ _ o2 s ⟨rfl, rfl⟩ h2 A
  refine law_cut 12 (by decide) (st12 hb hc hlk hll _ _ _ _ _ _ _ _ _ _ B X T C h2 A ?_)
  rintro _ _ o2 s ⟨rfl, rfl⟩ h2 A
  refine law_cut 13 (by decide) (st13 hc hll _ _ _ _ _ _ _ _ _ _ B X T C h2 A ?_)
  rintro _ _ o2 s ⟨rfl, y, ty, rfl, hy⟩ h2 A
  refine law_cut 14 (by decide) (st14 (show x.length ≤ 9 by omega) (show y.length ≤ 9 by omega) _ _ _ _ _ _ _ _ _ _ B X T C h2 A ?_)
  rintro _ _ o2 s ⟨rfl, rfl⟩ h2 A
  refine law_cut 15 (by decide) (st15 _ _ _ _ _ _ _ _ _ _ B X T C h2 A ?_)
  rintro _ _ o2 s ⟨rfl, tn, rfl⟩ h2 A
  refine law_cut 16 (by decide) (st16 hb hlk _ _ _ _ _ _ _ _ _ _ B X T C .never h2 A ?_)
  rintro tn oc o2 s h2 A
  refine law_cut 17 (by decide) (st17 hb hlk _ _ _ _ _ _ _ _ _ _ B X T C h2 A ?_)
  rintro _ _ o2 s ⟨rfl, rfl⟩ h2 A
  refine law_cut 18 (by decide) (st18 hb hlk _ _ _ _ _ _ _ _ _ _ B X T C h2 A ?_)
  rintro m' s A
  exact ⟨rfl, m', _, _, A⟩
end Mine

-- part L9
namespace Mine
theorem lawT : PySem.Challenge.rw_aj5024_01.Holds := hd (by
  k_fill
  intro w s₀ s₁ mg mb G Y fa o pm cd doc dV kV ho hd hcd hD hmg hg args vals as hpre hlay hrd hwl hlo
  have KX := kIn_of Y
  have X := (Ground.X G).1
  have V := (Ground.X G).2
  refine Ground.open G ?_
  intro T B D TE TW
  try (refine guard_noD D (by decide +kernel) ?_; clear D)
  have hT9 : TabsAt [(75, 73)] s₁.heap := List.forall_mem_cons.mpr ⟨tab_of (x := PySem.Str.ofString "_law_crossed") (c := 75) (P := 73) T KX rfl (by kernel_rfl), fun _ h => nomatch h⟩
  clear hmg
  wrow_args hpre hlay hrd hwl hlo
  all_goals (
    refine enter_call ?_
    w_top on
    refine my_post hT9 (fun _ _ => rfl) (by wrow_post) ?_
    w_call any ho hd hcd hD T F
    clear hd
    kn_ghosts F T
    k_drop)
  all_goals (
    rename IntsAre _ _ => hI9
    rename ¬ ((_ : Int) < _) => hlen9
    rename News _ _ _ _ => N9
    rename Top _ _ _ _ _ _ => T9
    show wpAny _ _ (execs (lawTail 0) (envOfC (Str.ofString "law") lawScope _ _ _)) _ _ _
    refine wpAny_mono (law_all (h₀ := ghostOf s₁.heap [(75, 73)]) (os := s₁.os) ?hl ?hB ?hX T9 codeHd lifted hI9 ?h1 ?h2 ⟨#[], ?hF, N9, ?ht, .of_eq hg, rfl⟩) (fun f s' h => ?hpost) (fun _ _ h => h.elim)
    case hl => omega
    case hB => assumption
    case hX => assumption
    case hF => assumption
    case h1 => assumption
    case h2 => assumption
    case ht => exact True.intro
    case hpost =>
      obtain ⟨rfl, _, _, _, ps, F, N, _, G, hos⟩ := h
      exact ⟨rfl, F.keep, ⟨⟨ps, (N _ (.tail _ (.tail _ (.head _)))).1⟩, True.intro⟩, hos, G⟩))
end Mine

set_option maxRecDepth 100000 in
set_option maxHeartbeats 8000000 in
theorem PySem.Challenge.cw_aj5024_01_holds : PySem.Challenge.rw_aj5024_01.Holds := by
  exact Mine.lawT

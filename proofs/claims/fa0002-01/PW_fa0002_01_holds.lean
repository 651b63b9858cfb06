import PyProof.Rows.All
import Wide.All
import OpenK.AllK
import Wide.FinOn
import PySem.Challenge.RW_fa0002_01
set_option Elab.async false

-- part Hd
section
open PySem PySem.W PyProof.Rows
namespace Mine
local macro_rules | `(tactic| o_head (kmHook $k $a $p $_)) => `(tactic| o_head kmHook $k $a $p [188, 200, 207])
set_option maxRecDepth 100000 in
set_option maxHeartbeats 8000000 in
open_top hd for PySem.Challenge.rw_fa0002_01
/-- the head leaves the walk's switch on: off again -/
theorem calm : True := by
  w_top off
  trivial
end Mine
end

-- part Bs
section
open PySem PySem.W PySem.Calls PyProof.Rows PySem.Spec
set_option maxRecDepth 100000
namespace Mine

/-- what a call is asked in: no exception handled, at most that deep, the frames above (a claim is called at depth 301) -/
abbrev AR (D U : Nat) (out : List Env) : Around := { handled := none, depth := D + 250, frames := some out, guards := none, units := U }

theorem ar_raise {α : Type} {M : Model} {A : Around} {t : Sem α} {Q : α → Shared → Prop} {E : Value → Shared → Prop} {s : Shared} {D U : Nat} {out : List Env}
    (hh : A.handled = none) (hd : A.depth ≤ D + 250) (hu : A.units ≤ U) (hf : A.frames = some out) (h : wpAny M (AR D U out) t Q E s) : wpAny M A t Q E s :=
  fun Γ p hΓ => h Γ p ⟨hΓ.1.trans hh, Nat.le_trans hΓ.2.1 hd, fun l hl => hΓ.2.2.1 l (hf.trans hl), (fun _ hg => nomatch hg), Nat.le_trans hΓ.2.2.2.2 hu⟩

/-- all kept but at W -/
def Kp (W : List Addr) (h h' : Heap) : Prop := ∀ b o, h.get? b = some o → b ∉ W → h'.get? b = some o
theorem Kp.refl (W : List Addr) (h : Heap) : Kp W h h := fun _ _ e _ => e
theorem Kp.trans {W : List Addr} {h h' h'' : Heap} (x : Kp W h h') (y : Kp W h' h'') : Kp W h h'' := fun b o e n => y b o (x b o e n) n
theorem Kp.mono {W V : List Addr} {h h' : Heap} (x : Kp W h h') (k : ∀ a ∈ W, a ∈ V) : Kp V h h' := fun b o e n => x b o e fun q => n (k b q)
theorem Kp.all {h h' : Heap} (x : Kp [] h h') : ∀ b o, h.get? b = some o → h'.get? b = some o := fun b o e => x b o e (fun q => nomatch q)

/-- where a call stands: the written part is there, the frames above are frames, what it may change is not of the written part nor a frame -/
structure Cx (hb : Heap) (out : List Env) (h : Heap) (W : List Addr) : Prop where
  stays : hb.StaysIn h
  frames : h.FunFrames hb out
  off : ∀ a ∈ W, hb.get? a = none ∧ ∀ env ∈ out, env.frame ≠ some a

theorem Cx.sub {hb : Heap} {out : List Env} {h : Heap} {W V : List Addr} (x : Cx hb out h W) (k : ∀ a ∈ V, a ∈ W) : Cx hb out h V := ⟨x.stays, x.frames, fun a ha => x.off a (k a ha)⟩

theorem Cx.below {hb : Heap} {out : List Env} {h : Heap} {W : List Addr} {D U : Nat} (x : Cx hb out h W) : Below (AR D U out) hb out h := ⟨rfl, x.stays, x.frames⟩

section
variable {hb g h : Heap} {out : List Env} {L a : Addr} {m : Str → Option Value} {cn : Str} {cs : Scope} {ccd : Value} {news : List (Addr × Obj)} {A₀ : Around}
/-- from the caller's facts -/
theorem cx_of (B : Below A₀ hb out g) (F : Fr g L h m) (N : News g L h news) (hk : cs.kind = .function := by rfl) : Cx hb (envOf cn cs L a ccd :: out) h (news.map (·.1)) := by
  have B' := B.push (name := cn) (scope := cs) (a := a) (cd := ccd) F hk
  refine ⟨B'.stays, B'.frames, fun b hb' => ?_⟩
  obtain ⟨p, hp, rfl⟩ := List.mem_map.mp hb'
  refine ⟨fresh_of_stays B.stays (N p hp).2.2, fun env he hf => ?_⟩
  rcases List.mem_cons.mp he with rfl | he
  · exact (N p hp).2.1 (Option.some.inj hf).symm
  · obtain ⟨L₁, o₁, hf₁, ho₁⟩ := funFrames_in B.frames env he
    rw [hf₁] at hf
    have := (N p hp).2.2
    rw [← Option.some.inj hf, ho₁] at this; cases this

theorem fr_back {h' : Heap} {W : List Addr} (F : Fr g L h m) (N : News g L h news) (k : Kp W h h') (hW : ∀ a ∈ W, a ∈ news.map (·.1)) : Fr g L h' m := by
  have nW : ∀ b o, g.get? b = some o → b ∉ W := fun b o e q => by
    obtain ⟨p, hp, rfl⟩ := List.mem_map.mp (hW b q)
    rw [(N p hp).2.2] at e; cases e
  obtain ⟨o, es, ep, e, r⟩ := F.ns
  refine ⟨⟨o, es, ep, k _ _ e fun q => ?_, r⟩, fun b o e => k b o (F.keep b o e) (nW b o e), F.above⟩
  obtain ⟨p, hp, e'⟩ := List.mem_map.mp (hW L q)
  exact (N p hp).2.1 e'

theorem news_back {h' : Heap} {W : List Addr} {news' : List (Addr × Obj)} (N : News g L h news) (k : Kp W h h')
    (e : ∀ p ∈ news', (p ∈ news ∧ p.1 ∉ W) ∨ (p.1 ∈ news.map (·.1) ∧ h'.get? p.1 = some p.2)) : News g L h' news' := fun p hp => by
  rcases e p hp with ⟨x, y⟩ | ⟨x, y⟩
  · exact ⟨k _ _ (N p x).1 y, (N p x).2⟩
  · obtain ⟨q, hq, e'⟩ := List.mem_map.mp x
    exact ⟨y, e' ▸ (N q hq).2⟩
theorem news_new {h' : Heap} {news' : List (Addr × Obj)} (F : Fr g L h m) (N : News g L h' news) (e : ∀ p ∈ news', h.get? p.1 = none ∧ h'.get? p.1 = some p.2) : News g L h' (news' ++ news) := fun p hp => by
  rcases List.mem_append.mp hp with hp | hp
  · refine ⟨(e p hp).2, fun q => ?_, ?_⟩
    · obtain ⟨o, _, _, e1, _⟩ := F.ns
      have := (e p hp).1; rw [q, e1] at this; cases this
    · cases q : g.get? p.1 with
      | none => rfl
      | some o => have := (e p hp).1; rw [F.keep _ _ q] at this; cases this
  · exact N p hp
end

section
variable {prog : Program} {w : World} {K : Frag} {D U : Nat} {out : List Env} {hb : Heap} {s : Shared} {p : Program} {loose : List Str} {mean : ExcName → Option Value} {mg mb : Str → Option Value} {R : Result → Shared → Prop}
  {name qual : Str} {params : Arguments} {body : List Stmt} {scope : Scope} {dV kV doc pm cdv ct oc : Value} {an od : Option Addr} {osl : Array (Option Value)} {f : Addr} {args : Args} {binds : List (Str × Value)}

/-- into a def of the text: what it may change lies in the ledger, all else is its ground -/
theorem enter (news : List (Addr × Obj)) (X : K.In hb) (T : Top p loose mean mg mb hb) (cx : Cx hb out s.heap (news.map (·.1))) (hn : ∀ q ∈ news, s.heap.get? q.1 = some q.2)
    (ho : K.lookup f = some ⟨oc, od, .func (fnOf name qual params body scope dV kV doc pm an cdv ct), osl⟩) (hcd : codeIn K cdv qual = true) (hroom : D + 250 < recursionLimit)
    (hbind : BindsTo s (fnOf name qual params body scope dV kV doc pm an cdv ct) args binds) (hloc : ∀ y ∈ binds, scope.names.lookup y.1 = some .local)
    (h : ∀ g L' h₁, hb.StaysIn g → (∀ b o, s.heap.get? b = some o → b ∉ news.map (·.1) → g.get? b = some o) → (∀ b o, g.get? b = some o → s.heap.get? b = some o) → s.heap.objs.size ≤ L' → Fr g L' h₁ (fun y => binds.reverse.lookup y) → News g L' h₁ news → Below (AR D U out) hb out g → K.In g → Top p loose mean mg mb g →
      wpAny (model prog w) ((AR D U out).deeper (envOf qual scope L' f cdv)) (execs body (envOf qual scope L' f cdv))
        (fun fl s' => R (.ok (.ret (match fl with | .ret v => v | _ => .none))) s')
        (fun e s' => wpAny (model prog w) ((AR D U out).deeper (envOf qual scope L' f cdv)) (leaving (envOf qual scope L' f cdv) e) (fun _ s'' => R (.error e) s'') (fun e' s'' => R (.error e') s'') s')
        { s with heap := h₁, toks := s.toks + binds.length })
    (hco : scope.isCoroutine = false) (hgen : scope.isGenerator = false) (hk : scope.kind = .function)
    (hcell : ∀ x ∈ scope.names, x.2 ≠ .cell) : codeAny (model prog w) (AR D U out) (.call (.ref f) args) R s := by
  have XS := X.keeps cx.stays
  have TS := T.keeps cx.stays
  refine codeAny_call_def (fd := fnOf name qual params body scope dV kV doc pm an cdv ct) (body := body) (binds := binds) hroom (XS _ _ ho) rfl TS.nolimit (codeRec_of XS hcd) rfl hbind hcell hloc (fun h₁ hns hk₁ => ?_) hco hgen hk
  have st : hb.StaysIn (hideAll s.heap (news.map (·.1))) := fun b o e => hideAll_get _ (cx.stays b o e) fun q => by
    rw [(cx.off b q).1] at e; cases e
  exact h _ s.heap.objs.size h₁ st (fun b o e n => hideAll_get _ e n) (fun b o e => of_hideAll _ e) (Nat.le_refl _) ⟨hns, fun b o e => hk₁ b o (of_hideAll _ e), Nat.le_of_eq (hideAll_size _ _)⟩
    (fun q hq => ⟨hk₁ _ _ (hn q hq), Nat.ne_of_lt (Heap.lt_size (hn q hq)), hideAll_none _ (List.mem_map_of_mem hq)⟩)
    ⟨rfl, st, funFrames_hideAll cx.frames fun env he b hb' hf => (cx.off b hb').2 env he hf⟩ (X.keeps st) (T.keeps st)
end

/-- out of it: what was there is there -/
theorem kp_out {g h₀ h' : Heap} {L' : Addr} {m' : Str → Option Value} {W : List Addr} (hg : ∀ b o, h₀.get? b = some o → b ∉ W → g.get? b = some o) (F : Fr g L' h' m') : Kp W h₀ h' :=
  fun b o e n => F.keep b o (hg b o e n)
end Mine
end

-- part St
section
open PySem PySem.W PySem.Calls PyProof.Rows PySem.Spec
set_option maxRecDepth 100000
namespace Mine
def skey (ks : List Str) : Str → Bool := fun k => decide (k ∈ ks)
/-- are sets walked by the text's order here -/
def byTxt (w : World) : Bool := w.params.followText "set-order"
/-- a set of texts that holds something is plain no more, and its maker was led -/
def SetP (w : World) (so : Obj) : Prop := ∀ es ep t, so.data = .set es ep t → (es.size = 0 ∨ t.plain = false) ∧ (byTxt w = false → t.led = true)

/-- a set of texts in the heap -/
def SetS (prog : Program) (w : World) (h : Heap) (a : Addr) (S : Str → Bool) (n : Nat) : Prop := ∃ so, h.get? a = some so ∧ so.SetObjOf (PySem.strKind prog w) S n ∧ SetP w so
theorem SetS.at_ {prog : Program} {w : World} {h h' : Heap} {a : Addr} {S : Str → Bool} {n : Nat} (x : SetS prog w h a S n) (k : ∀ o, h.get? a = some o → h'.get? a = some o) : SetS prog w h' a S n :=
  let ⟨so, e, r⟩ := x; ⟨so, k _ e, r⟩
theorem SetS.congr {prog : Program} {w : World} {h : Heap} {a : Addr} {S S' : Str → Bool} {n : Nat} (e : ∀ k, S k = S' k) (x : SetS prog w h a S n) : SetS prog w h a S' n := (funext e : S = S') ▸ x
theorem SetS.fresh {prog : Program} {w : World} {h : Heap} {a : Addr} (e : h.get? a = some { cls := .type "set", dict := none, data := .set #[] 0 (.fresh 0 0 (!byTxt w)) }) : SetS prog w h a (skey []) 0 :=
  ⟨_, e, (funext fun k => by simp [skey] : (fun _ : Str => false) = skey []) ▸ setObjOf_fresh _, fun es ep t q => by cases q; exact ⟨.inl rfl, fun h => by show (!byTxt w) = true; rw [h]; rfl⟩⟩

theorem laid_plain {mask finger moves : Nat} {led plain : Bool} {hs : Array Int} {t : SetTable} {o : Array Nat} (h : SetTable.laid mask finger moves led plain hs = some (t, o)) : t.plain = plain := by
  unfold SetTable.laid at h
  cases e : SetTable.layClean mask hs with
  | none => rw [e] at h; cases h
  | some ow => rw [e] at h; cases h; rfl
theorem laid_led {mask finger moves : Nat} {led plain : Bool} {hs : Array Int} {t : SetTable} {o : Array Nat} (h : SetTable.laid mask finger moves led plain hs = some (t, o)) : t.led = led := by
  unfold SetTable.laid at h
  cases e : SetTable.layClean mask hs with
  | none => rw [e] at h; cases h
  | some ow => rw [e] at h; cases h; rfl
theorem layNew_led (t : SetTable) (es : Array (Int × Value)) (h : Int) (x : Value) : (layNew t es h x).2.1.led = t.led := by
  unfold layNew
  split
  · dsimp only
    unfold SetTable.orStandIn
    split <;> rfl
  · rfl
theorem relayAll_led (t : SetTable) (es : Array (Int × Value)) (n : Nat) : (relayAll t es n).2.1.led = t.led := by
  unfold relayAll SetTable.relaid
  split
  · rename_i t' o e
    dsimp only
    split
    · exact laid_led e
    · rfl
  · rfl
theorem relayAll_plain (t : SetTable) (es : Array (Int × Value)) (n : Nat) (h : t.plain = false) : (relayAll t es n).2.1.plain = false := by
  unfold relayAll SetTable.relaid
  split
  · rename_i t' o e
    dsimp only
    split
    · exact (laid_plain e).trans h
    · rfl
  · rfl

section
variable {prog : Program} {w : World} {A : Around} {E : Value → Shared → Prop} {s : Shared} {a : Addr} {y : Str} {t : Tok} {S : Str → Bool} {n : Nat} {so : Obj}
theorem setAdd_str {Q : Bool → Shared → Prop} (ho : s.heap.get? a = some so) (hso : so.SetObjOf (PySem.strKind prog w) S n) (sp : SetP w so) (hb : n + 1 < scanBound)
    (h : ∀ h' so', Heap.SameBut a s.heap h' → h'.get? a = some so' → so'.SetObjOf (PySem.strKind prog w) (fun k' => S k' || decide (k' = y)) (if S y then n else n + 1) → SetP w so' → Q (!S y) { s with heap := h' }) :
    wpAny (model prog w) A (setAddHashed a (.str y t) ((PySem.strKind prog w).hash y)) Q E s := by
  have hkey := strKind_is prog w y t
  obtain ⟨hex, es, ep, tb, hd, hel, hmem, hn, hf⟩ := hso
  have hbs : es.size < scanBound := by omega
  unfold setAddHashed setAddHashedIn
  refine wpAny_holding (wpAny_bind (wpAny_setState_of ho hd hf ?_))
  dsimp only
  rw [byScan_of (by rfl) hbs hel]
  simp only [↓reduceIte]
  unfold setAddByScan
  refine wpAny_bind ?_
  refine wpAny_bind (wpAny_rule ?_)
  refine wpAny_bind (wpAny_setScan_of hkey ho hd hf hel ?_)
  cases hr : List.findIdx? (fun e => (PySem.strKind prog w).is y e.2) es.toList with
  | some j =>
    dsimp only
    obtain ⟨hj, hpj, _⟩ := List.findIdx?_eq_some_iff_getElem.mp hr
    have hSk : S y = true := (hmem y).mpr ⟨es.toList[j], List.getElem_mem hj, hpj⟩
    refine wpAny_pure (wpAny_pure ?_)
    have := h s.heap so (Heap.SameBut.refl a s.heap) ho ⟨hex, es, ep, tb, hd, hel, fun k' => by
      rw [Bool.or_eq_true, decide_eq_true_eq, ← hmem k']
      exact ⟨fun hk => hk.elim id (fun e => e ▸ hSk), .inl⟩, by rw [hSk]; exact hn, hf⟩ sp
    rw [hSk] at this; exact this
  | none =>
    dsimp only
    have hSk : S y = false := by
      cases hk : S y with
      | false => rfl
      | true => obtain ⟨e, he, hp⟩ := (hmem y).mp hk; have := List.findIdx?_eq_none_iff.mp hr e he; rw [hp] at this; exact Bool.noConfusion this
    have hgw : ∀ (b : Bool) {s₁ : Shared} {Q' : Unit → Shared → Prop}, Q' () s₁ → wpAny (model prog w) A (match b with | true => rule "set.scan.the-table-gave-way" | false => pure ()) Q' E s₁ :=
      fun b s₁ Q' hq => by cases b <;> first | exact wpAny_pure hq | exact wpAny_rule hq
    have hperm := layNew_perm tb es ((PySem.strKind prog w).hash y) (.str y t)
    have hfits := layNew_fits tb es ((PySem.strKind prog w).hash y) (.str y t)
    have hled := layNew_led tb es ((PySem.strKind prog w).hash y) (.str y t)
    generalize hL : layNew tb es ((PySem.strKind prog w).hash y) (.str y t) = L at hperm hfits hled ⊢
    obtain ⟨es1, t1, wasDummy, gave⟩ := L
    dsimp only at hperm hfits hled ⊢
    rw [Array.toList_push] at hperm
    have hel1 : ElemsOf (PySem.strKind prog w) es1.toList := (hel.push hkey rfl).perm hperm
    have hmem1 : ∀ k', (S k' || decide (k' = y)) = true ↔ ∃ e ∈ es1.toList, (PySem.strKind prog w).is k' e.2 = true := mem_push_iff hkey hmem hperm
    have hsz1 : es1.size = n + 1 := by rw [← Array.length_toList, hperm.length_eq, List.length_append, Array.length_toList, hn]; rfl
    have hb1 : es1.size < scanBound := by omega
    refine wpAny_bind (hgw _ ?_)
    have hl1 : byTxt w = false → t1.led = true := fun e => hled.trans ((sp _ _ _ hd).2 e)
    have fin : ∀ t2 : SetTable, t2.led = t1.led → t2.plain = false → t2.fits es1.size = true → wpAny (model prog w) A (do
        storeSet a es1 t2
        if (!wasDummy && t2.tooFull) = true then do
            (match (relayAll t2 es1 (SetTable.grown es1.size)).2.2 with | true => rule "set.scan.the-table-gave-way" | false => pure ())
            storeSet a (relayAll t2 es1 (SetTable.grown es1.size)).1 (relayAll t2 es1 (SetTable.grown es1.size)).2.1
            pure (some true)
          else pure (some true)) (fun r s' => wpAny (model prog w) A (match r with | some added => pure added | none => setAddHashedIn a (.str y t) ((PySem.strKind prog w).hash y) 99999) Q E s') E s := fun t2 hle2 hp2 hf2 => by
      refine wpAny_bind (wpAny_storeSet_of ho hd ?_ (fits_of_scanBound hb1))
      obtain ⟨ho1, hS1⟩ := SetOf_store (knd := PySem.strKind prog w) ho hex hd hel1 hmem1 hb1 hf2
      split
      · have hp := relayAll_perm t2 es1 (SetTable.grown es1.size)
        have hfr := relayAll_fits t2 es1 (SetTable.grown es1.size)
        have hrl := relayAll_led t2 es1 (SetTable.grown es1.size)
        have hpl := relayAll_plain t2 es1 (SetTable.grown es1.size) hp2
        generalize hRl : relayAll t2 es1 (SetTable.grown es1.size) = Rl at hp hfr hpl hrl ⊢
        obtain ⟨es2, t3, gave2⟩ := Rl
        dsimp only at hp hfr hpl hrl ⊢
        have hel2 : ElemsOf (PySem.strKind prog w) es2.toList := hel1.perm hp
        have hmem2 : ∀ k', (S k' || decide (k' = y)) = true ↔ ∃ e ∈ es2.toList, (PySem.strKind prog w).is k' e.2 = true := fun k' => (hmem1 k').trans ⟨fun ⟨e, he, q⟩ => ⟨e, hp.mem_iff.mpr he, q⟩, fun ⟨e, he, q⟩ => ⟨e, hp.mem_iff.mp he, q⟩⟩
        have hsz : es2.size = es1.size := by rw [← Array.length_toList, hp.length_eq, Array.length_toList]
        refine wpAny_bind (hgw _ ?_)
        refine wpAny_bind (wpAny_storeSet_of ho1 rfl ?_ (fits_of_scanBound (by rw [hsz]; exact hb1)))
        obtain ⟨ho2, _⟩ := SetOf_store (knd := PySem.strKind prog w) ho1 hex rfl hel2 hmem2 (by rw [hsz]; exact hb1) hfr
        refine wpAny_pure (wpAny_pure ?_)
        have := h _ _ ((Heap.SameBut.update s.heap a (Obj.putSet es1 t2)).trans (Heap.SameBut.update _ a _)) ho2 ⟨hex, es2, _, t3, rfl, hel2, hmem2, by rw [hSk, hsz, hsz1]; rfl, hfr⟩ (fun es' ep' t' e => by cases e; exact ⟨.inr hpl, fun e => hrl.trans (hle2.trans (hl1 e))⟩)
        rw [hSk] at this
        exact this
      · refine wpAny_pure (wpAny_pure ?_)
        have := h _ _ (Heap.SameBut.update s.heap a (Obj.putSet es1 t2)) ho1 ⟨hex, es1, _, t2, rfl, hel1, hmem1, by rw [hSk, hsz1]; rfl, hf2⟩ (fun es' ep' t' e => by cases e; exact ⟨.inr hp2, fun e => hle2.trans (hl1 e)⟩)
        rw [hSk] at this
        exact this
    split
    · refine wpAny_bind ?_
      rw [hashByValue_scannable 8 (by rfl)]
      refine wpAny_pure ?_
      exact fin _ rfl rfl (SetTable.fits_plain_off hfits)
    · rename_i hpl
      refine wpAny_bind (wpAny_pure ?_)
      simp only [↓reduceIte]
      exact fin t1 rfl (by simpa using hpl) hfits

theorem set_add_rule {Q : Value → Shared → Prop} (ho : s.heap.get? a = some so) (hso : so.SetObjOf (PySem.strKind prog w) S n) (sp : SetP w so) (hb : n + 1 < scanBound)
    (h : ∀ h' so', Heap.SameBut a s.heap h' → h'.get? a = some so' → so'.SetObjOf (PySem.strKind prog w) (fun k' => S k' || decide (k' = y)) (if S y then n else n + 1) → SetP w so' → Q .none { s with heap := h', toks := s.toks + 1 }) :
    wpAny (model prog w) A (call (.builtin "set.add") [.ref a, .str y t]) Q E s := by
  have hT : s.TypeIs (.ref a) "set" := ⟨so, ho, hso.1.1⟩
  refine wpAny_call_entry F.slot_set_add hT F.entry_set_add ?_ (F.args_set_add_2 _ _)
  unfold Builtin.«set.add» Builtin.Frozenset.oneOther
  simp only [List.isEmpty_nil, bind_assoc]
  unfold Builtin.Frozenset.addrOf setAdd
  refine wpAny_bind (wpAny_pure ?_)
  try dsimp only
  refine wpAny_bind (wpAny_pure ?_)
  try dsimp only
  refine wpAny_bind ?_
  refine wpAny_holding ?_
  refine wpAny_bind ((PySem.strKind prog w).pyHash (strKind_is _ _ y t) ?_)
  refine setAdd_str (s := { s with toks := s.toks + 1 }) ho hso sp hb fun h' so' hsb ho' hS' sp' => ?_
  show wpAny _ _ (ret Value.none) _ _ _
  exact wpAny_pure ⟨_, rfl, h h' so' hsb ho' hS' sp'⟩

theorem newSet_led {Q : Value → Shared → Prop} (h : Q (.ref s.heap.objs.size) { s with heap := s.heap.push { cls := .type "set", dict := none, data := .set #[] 0 (.fresh 0 0 (!byTxt w)) } }) :
    wpAny (model prog w) A (newSet (.type "set")) Q E s := by
  unfold newSet setsByText
  refine wpAny_bind (wpAny_bind (wpAny_askSetting (wpAny_pure ?_)))
  exact wpAny_bind (wpAny_alloc (wpAny_pure h))
end
end Mine
end

-- part Cm
section
open PySem PySem.W PySem.Calls PyProof.Rows PySem.Spec
set_option maxRecDepth 100000
namespace Mine

section
variable {prog : Program} {w : World} {A : Around} {E : Value → Shared → Prop} {R : Result → Shared → Prop} {s : Shared}

theorem compTurn_set (elt target iter : Expr) (ifs : List Expr) (scope : Scope) (pos : Pos) (it acc : Value) (env : Env) :
    compTurn (.SetComp elt [⟨target, iter, ifs, 0⟩] scope pos) 0 it acc env = (do
      standAt iter.pos
      match ← pyNext it with
      | none => pure (.done .next)
      | some v =>
        letOwnedTupleGo target it v
        assign target env v
        let mut ok := true
        for c in ifs do
          if ok then ok ← isTrue c env (eval c env)
        if ok then
          (do let v ← eval elt env; standAt elt.pos; let _ ← call (.builtin "set.add") [acc, v])
        again (.compLoop (.SetComp elt [⟨target, iter, ifs, 0⟩] scope pos) 0 it acc env)) := by rfl

theorem codeAny_compLoop_set {elt target iter : Expr} {ifs : List Expr} {scope : Scope} {pos : Pos} {it acc : Value} {env : Env} (I : Nat → Shared → Prop)
    (turn : ∀ n s, I n s → wpAny (model prog w) A (pyNext it) (fun r s₁ => match r with
      | none => R (.ok .next) s₁
      | some v => wpAny (model prog w) A (assign target env v) (fun _ s₂ =>
          wpAny (model prog w) A (forIn ifs true fun c r => if r = true then do let ok ← isTrue c env (eval c env); pure (ForInStep.yield ok) else pure (ForInStep.yield r)) (fun ok s₃ =>
            if ok = true then wpAny (model prog w) A (eval elt env) (fun x s₄ =>
              wpAny (model prog w) A (call (.builtin "set.add") [acc, x]) (fun _ s₅ => ∃ m, m < n ∧ I m s₅) (notedBy (model prog w) A env fun e s' => R (.error e) s') s₄) (notedBy (model prog w) A env fun e s' => R (.error e) s') s₃
            else ∃ m, m < n ∧ I m s₃) (notedBy (model prog w) A env fun e s' => R (.error e) s') s₂) (notedBy (model prog w) A env fun e s' => R (.error e) s') s₁) (notedBy (model prog w) A env fun e s' => R (.error e) s') s)
    (n : Nat) (h : I n s) (ht : ∀ v, letOwnedTupleGo target it v = pure () := by intro _; rfl) :
    codeAny (model prog w) A (.compLoop (.SetComp elt [⟨target, iter, ifs, 0⟩] scope pos) 0 it acc env) R s := by
  refine codeAny_loop rfl I (fun n s hI => ?_) n h
  show wpAny _ A ((compTurn (.SetComp elt [⟨target, iter, ifs, 0⟩] scope pos) 0 it acc env).onRaise (fun x => do noteFrame x env; theTreesLotGoes x)) _ _ s
  refine wpAny_noted ?_
  rw [compTurn_set]
  refine wpAny_bind (wpAny_standAt (wpAny_bind (wpAny_mono (turn n s hI) (fun r s₁ h₁ => ?_) fun _ _ h' => h')))
  cases r with
  | none => exact wpAny_pure h₁
  | some v =>
    refine wpAny_bind (wpAny_of_eq (ht v) ?_)
    refine wpAny_bind (wpAny_mono h₁ (fun _ s₂ h₂ => wpAny_bind (wpAny_mono h₂ (fun ok s₃ h₃ => ?_) fun _ _ h' => h')) fun _ _ h' => h')
    cases ok with
    | false => exact wpAny_pure ⟨rfl, h₃⟩
    | true =>
      exact wpAny_bind (wpAny_bind (wpAny_mono h₃ (fun x s₄ h₄ => wpAny_bind (wpAny_standAt (wpAny_bind (wpAny_mono h₄ (fun _ s₅ h₅ => wpAny_pure (wpAny_pure ⟨rfl, h₅⟩)) fun _ _ h' => h')))) fun _ _ h' => h'))

theorem codeAny_compStart_set {elt target iter ifs rest scope pos it acc env}
    (h0 : codeAny (model prog w) A (.compLoop (.SetComp elt (⟨target, iter, ifs, 0⟩ :: rest) scope pos) 0 it acc env) R s)
    (h : wpAny (model prog w) A (pyIter it) (fun it' s' => codeAny (model prog w) A (.compLoop (.SetComp elt (⟨target, iter, ifs, 0⟩ :: rest) scope pos) 0 it' acc env) R s')
      (notedBy (model prog w) A env fun x s' => R (.error x) s') s) :
    codeAny (model prog w) A (.compStart (.SetComp elt (⟨target, iter, ifs, 0⟩ :: rest) scope pos) 0 it acc env) R s := by
  refine codeAny_of_tree ?_
  show wpAny _ A ((compStart (.SetComp elt (⟨target, iter, ifs, 0⟩ :: rest) scope pos) 0 it acc env).onRaise (fun x => do noteFrame x env; standAt theWindowsPlace)) _ _ s
  refine wpAny_notedAt ?_
  unfold compStart
  show wpAny _ A (ask >>= _) _ _ s
  refine wpAny_bind (wpAny_askSetting (wpAny_ite ?_))
  split
  · first
      | exact wpAny_bind (wpAny_pure (wpAny_pure (And.intro rfl h0)))
      | exact wpAny_pure (And.intro rfl h0)
  · first
      | exact wpAny_bind (wpAny_rule (wpAny_bind (wpAny_standAt (wpAny_bind (wpAny_mono h (fun it' s' h' => wpAny_pure (And.intro rfl h')) fun _ _ x => x)))))
      | (refine wpAny_bind (wpAny_rule ?_); show wpAny _ _ (standAt iter.pos >>= _) _ _ s; exact wpAny_bind (wpAny_standAt (wpAny_bind (wpAny_mono h (fun it' s' h' => wpAny_pure (And.intro rfl h')) fun _ _ x => x))))

/-- a turn of a comprehension has moved the ground from s₃ to s₅: the word holds again; what the comprehension itself made stands -/
def Moved (own : List Addr) (J : Heap → Prop) (s₃ s₅ : Shared) : Prop :=
  ∃ h tk, s₅ = { s₃ with heap := h, toks := tk } ∧ J h ∧ ∀ b ∈ own, ∀ o, s₃.heap.get? b = some o → h.get? b = some o

/-- J speaks of what was there before N, the iterator aside -/
def Old (N : Nat) (wr : List Addr) (J : Heap → Prop) : Prop := ∀ h h', J h → (∀ b o, b < N → b ∉ wr → h.get? b = some o → h'.get? b = some o) → J h'

/-- what a comprehension over one clause asks of its source, its test and its element -/
structure Turns (prog : Program) (w : World) (A : Around) (env : Env) (scope : Scope) (cl : List (Str × Addr)) (x : Str) (ifs : List Expr) (elt : Expr) (I : Addr) (fp wr : List Addr) (n : Nat) (P : Nat → Value → Prop) (St : Nat → Heap → Prop)
    (J : Nat → List Value → Heap → Prop) (s₂ : Shared) : Prop where
  W : Walks prog w A I fp wr n P St
  st : St 0 s₂.heap
  lt : ∀ b ∈ fp, b < s₂.heap.objs.size
  j0 : J 0 [] s₂.heap
  old : ∀ i ys, Old s₂.heap.objs.size wr (J i ys)
  len : ∀ i ys h, J i ys h → ys.length ≤ i
  fit : n ≤ 4000
  turn : ∀ i v C D ys s₃ m₃ E', i < n → P i v → J i ys s₃.heap → St (i + 1) s₃.heap → s₃.heap.Ns C m₃ → m₃ x = some v → s₂.heap.objs.size ≤ C → s₃.heap.PlainList D ys.toArray → s₂.heap.objs.size ≤ D → D ≠ C → (∃ h tk, s₃ = { s₂ with heap := h, toks := tk }) →
    wpAny (model prog w) A (forIn ifs true fun c r => if r = true then do let ok ← isTrue c (compEnvC scope cl C env) (eval c (compEnvC scope cl C env)); pure (ForInStep.yield ok) else pure (ForInStep.yield r))
      (fun ok s₄ => if ok = true then wpAny (model prog w) A (eval elt (compEnvC scope cl C env)) (fun y s₅ => Moved (C :: D :: fp) (J (i + 1) (ys ++ [y])) s₃ s₅) E' s₄ else Moved (C :: D :: fp) (J (i + 1) ys) s₃ s₄) E' s₃

theorem listcomp_loop {elt iter : Expr} {x : Str} {px : Pos} {ifs : List Expr} {scope : Scope} {cl : List (Str × Addr)} {pos : Pos} {env : Env} {s₂ : Shared} {I : Addr} {fp wr : List Addr} {n : Nat} {P : Nat → Value → Prop}
    {St : Nat → Heap → Prop} {J : Nat → List Value → Heap → Prop} (T : Turns prog w A env scope cl x ifs elt I fp wr n P St J s₂) (hx : scope.names.lookup x = some .local) (hkind : scope.kind = .function) {C D : Addr} {H : Heap} {tk : Nat} {m : Str → Option Value}
    (hC : s₂.heap.objs.size ≤ C) (hD : s₂.heap.objs.size ≤ D) (hDC : D ≠ C) (hold : ∀ b o, s₂.heap.get? b = some o → H.get? b = some o) (hacc : H.PlainList D #[]) (hn : H.Ns C m)
    (hR : ∀ h' tk' m' ys, h'.Ns C m' → h'.PlainList D ys.toArray → J n ys h' → R (.ok .next) { s₂ with heap := h', toks := tk' }) :
    codeAny (model prog w) A (.compLoop (.ListComp elt [⟨.Name x px, iter, ifs, 0⟩] scope pos) 0 (.ref I) (.ref D) (compEnvC scope cl C env)) R { s₂ with heap := H, toks := tk } := by
  have hxk : (compEnvC scope cl C env).kindOf x = some .local := lookup_relabel_local hx
  have hp : ((compEnvC scope cl C env).scope.kind == .class || ((compEnvC scope cl C env).scope.kind == .module && (compEnvC scope cl C env).locals != (compEnvC scope cl C env).globals)) = false := by simp [compEnvC, relabel, hkind]
  have hCf : C ∉ fp := fun q => absurd (T.lt C q) (Nat.not_lt.mpr hC)
  have hDf : D ∉ fp := fun q => absurd (T.lt D q) (Nat.not_lt.mpr hD)
  refine codeAny_compLoop_tests
    (fun k s' => ∃ h' tk' m' ys i, s' = { s₂ with heap := h', toks := tk' } ∧ St i h' ∧ h'.PlainList D (List.toArray ys) ∧ h'.Ns C m' ∧ J i ys h' ∧ i ≤ n ∧ k = n + 1 - i) ?_ (n + 1)
    ⟨H, tk, m, [], 0, rfl, T.W.frame _ _ _ T.st fun b _ o e => hold b o e, hacc, hn, T.old 0 [] _ _ T.j0 fun b o _ _ e => hold b o e, Nat.zero_le _, rfl⟩
  rintro k s' ⟨h', tk', m', ys, i, rfl, hst, ha, hns, hJ, hi, rfl⟩
  have hCw : C ∉ wr := fun q => hCf (T.W.sub _ q)
  have hDw : D ∉ wr := fun q => hDf (T.W.sub _ q)
  by_cases hlt : i < n
  · refine T.W.item i _ _ _ hlt hst fun v h₁ tk₁ hP hst₁ hk₁ => ?_
    refine wpAny_assign_Name (wpAny_storeName_local hxk (hns.at' fun o e => hk₁ _ o hCw e) (fun h₂ hn₂ hs₂ => ?_) hp)
    have hs₂' : Heap.SameBut C h₁ h₂ := hs₂
    have up₂ : ∀ b o, b ≠ C → b ∉ wr → h'.get? b = some o → h₂.get? b = some o := fun b o hb hw e => hs₂'.extBut b o hb (hk₁ b o hw e)
    have hst₂ : St (i + 1) h₂ := T.W.frame _ _ _ hst₁ fun b hb o e => hs₂'.extBut b o (fun q => hCf (q ▸ hb)) e
    have hJ₂ : J i ys h₂ := T.old i ys _ _ hJ fun b o hb hw e => up₂ b o (fun q => absurd hb (by rw [q]; exact Nat.not_lt.mpr hC)) hw e
    have ha₂ : h₂.PlainList D (List.toArray ys) := ha.at fun o e => up₂ D o hDC hDw e
    refine wpAny_mono (T.turn i v C D ys { s₂ with heap := h₂, toks := tk₁ + 1 } _ _ hlt hP hJ₂ hst₂ hn₂ (by simp) hC ha₂ hD hDC ⟨_, _, rfl⟩) (fun ok s₃ h₃ => ?_) fun _ _ e => e
    cases ok with
    | false =>
      simp only [Bool.false_eq_true, if_false] at h₃ ⊢
      obtain ⟨h₄, tk₄, rfl, hJ₄, hk₄⟩ := h₃
      exact ⟨n + 1 - (i + 1), by omega, h₄, tk₄, _, ys, i + 1, rfl, T.W.frame _ _ _ hst₂ fun b hb o e => hk₄ b (.tail _ (.tail _ hb)) o e, ha₂.at fun o e => hk₄ D (.tail _ (.head _)) o e, hn₂.at' fun o e => hk₄ C (.head _) o e, hJ₄, hlt, rfl⟩
    | true =>
      simp only [if_true] at h₃ ⊢
      refine wpAny_mono h₃ (fun y s₄ h₄ => ?_) fun _ _ e => e
      obtain ⟨h₄, tk₄, rfl, hJ₄, hk₄⟩ := h₄
      have ha₄ : h₄.PlainList D (List.toArray ys) := ha₂.at fun o e => hk₄ D (.tail _ (.head _)) o e
      have hlen := T.len _ _ _ hJ
      refine wpAny_list_append_plain (hsz := by rw [List.size_toArray, sizeLine_eq]; have := T.fit; omega) ha₄ fun h₅ hl₅ hs₅ => ?_
      have hl₅' : h₅.PlainList D (List.toArray (ys ++ [y])) := by simpa using hl₅
      exact ⟨n + 1 - (i + 1), by omega, h₅, tk₄, _, ys ++ [y], i + 1, rfl, T.W.frame _ _ _ hst₂ fun b hb o e => hs₅.extBut b o (fun q => hDf (q ▸ hb)) (hk₄ b (.tail _ (.tail _ hb)) o e), hl₅', (hn₂.at' fun o e => hk₄ C (.head _) o e).sameBut hs₅ (Ne.symm hDC),
        T.old _ _ _ _ hJ₄ fun b o hb _ e => hs₅.extBut b o (fun q => absurd hb (by rw [q]; exact Nat.not_lt.mpr hD)) e, hlt, rfl⟩
  · have hin : i = n := by omega
    subst hin
    refine T.W.done _ _ _ hst fun h₁ tk₁ hk₁ => ?_
    exact hR h₁ tk₁ m' ys (hns.at' fun o e => hk₁ _ o hCw e) (ha.at fun o e => hk₁ D o hDw e) (T.old _ _ _ _ hJ fun b o _ hw e => hk₁ b o hw e)

theorem eval_listcomp {s : Shared} {elt iter : Expr} {x : Str} {px : Pos} {ifs : List Expr} {scope : Scope} {cl : List (Str × Addr)} {pos : Pos} {env : Env} {Q : Value → Shared → Prop}
    (hclos : closureFor scope env = pure cl) (hcell : ∀ y ∈ scope.names, y.2 ≠ .cell) (hkind : scope.kind = .function)
    (hnames : ∀ y ∈ scope.names, y.2 = .local → scope.names.lookup y.1 = some .local) (hx : scope.names.lookup x = some .local)
    (hs : ∀ x, foldedSetIterable iter env x = pure x)
    (h : wpAny (model prog w) A (eval iter env) (fun xv s₁ => wpAny (model prog w) A (pyIter xv) (fun it s₂ => ∃ I fp wr n P St J, it = .ref I ∧ Turns prog w A env scope cl x ifs elt I fp wr n P St J s₂ ∧
      ∀ D h' tk ys, s₂.heap.objs.size ≤ D → h'.PlainList D ys.toArray → J n ys h' → Q (.ref D) { s₂ with heap := h', toks := tk }) E s₁) E s) :
    wpAny (model prog w) A (eval (.ListComp elt [⟨.Name x px, iter, ifs, 0⟩] scope pos) env) Q E s := by
  rw [eval_ListComp]
  refine wpAny_comprehension_free (use := none) rfl hs hclos hkind hnames (wpAny_mono h (fun xv s₁ h₁ => wpAny_mono h₁ (fun it s₂ h₂ => ?_) fun _ _ e => e) fun _ _ e => e)
  obtain ⟨I, fp, wr, n, P, St, J, rfl, T, hQ⟩ := h₂
  refine wpAny_newObj_type (wpAny_newFunctionEnv hcell (by intro y hy; simp at hy) (fun h₁ hns₁ hsb₁ => ?_) hkind)
  dsimp only at hns₁ hsb₁ ⊢
  generalize hH2 : s₂.heap.push { cls := .type "list", dict := none, data := .seq ([] : List Value).toArray } = H2 at hns₁ hsb₁ ⊢
  have hC : H2.objs.size = s₂.heap.objs.size + 1 := by rw [← hH2, Heap.size_push]
  have hDC : s₂.heap.objs.size ≠ H2.objs.size := by rw [hC]; exact Nat.ne_of_lt (Nat.lt_succ_self _)
  have hCle : s₂.heap.objs.size ≤ H2.objs.size := by rw [hC]; exact Nat.le_succ _
  have old : ∀ b o, s₂.heap.get? b = some o → h₁.get? b = some o := fun b o e => hsb₁.extBut b o (by rw [hC]; exact Nat.ne_of_lt (Nat.lt_succ_of_lt (Heap.lt_size e))) (Heap.get?_push_of_some _ (hH2 ▸ Heap.get?_push_of_some _ e))
  have hacc : h₁.PlainList s₂.heap.objs.size #[] := ⟨_, hsb₁.extBut _ _ hDC (Heap.get?_push_of_some _ (hH2 ▸ Heap.get?_push_size _ rfl))⟩
  have loop : ∀ tk, codeAny (model prog w) A (.compLoop (.ListComp elt [⟨.Name x px, iter, ifs, 0⟩] scope pos) 0 (.ref I) (.ref s₂.heap.objs.size) (compEnvC scope cl H2.objs.size env))
      (compPost (model prog w) A E none Q (.ref s₂.heap.objs.size) H2.objs.size) { s₂ with heap := h₁, toks := tk } := fun tk => by
    refine listcomp_loop T hx hkind hCle (Nat.le_refl _) hDC old hacc hns₁ fun h' tk' m' ys hn hl hJ => ?_
    exact ⟨m', hn, fun h'' hs'' => hQ _ h'' tk' ys (Nat.le_refl _) (hl.extBut hs''.extBut hDC) (T.old _ _ _ _ hJ fun b o hb _ e => hs''.extBut b o (Nat.ne_of_lt (Nat.lt_of_lt_of_le hb hCle)) e)⟩
  exact codeAny_compStart_list (loop _) (T.W.self 0 _ _ _ (T.W.frame _ _ _ T.st fun b _ o e => old b o e) (loop _))

/-- a set comprehension over texts, its keys all different -/
structure TurnsS (prog : Program) (w : World) (A : Around) (env : Env) (scope : Scope) (cl : List (Str × Addr)) (x : Str) (elt : Expr) (I : Addr) (fp wr : List Addr) (n : Nat) (P : Nat → Value → Prop) (St : Nat → Heap → Prop)
    (f : Nat → Str) (s₂ : Shared) : Prop where
  W : Walks prog w A I fp wr n P St
  st : St 0 s₂.heap
  lt : ∀ b ∈ fp, b < s₂.heap.objs.size
  fit : n ≤ 1000
  dist : ((List.range n).map f).Nodup
  turn : ∀ i v C s₃ m₃ E', i < n → P i v → s₃.heap.Ns C m₃ → m₃ x = some v →
    wpAny (model prog w) A (eval elt (compEnvC scope cl C env)) (fun y s₅ => (∃ t, y = .str (f i) t) ∧ Keeps s₃ s₅) E' s₃

theorem setcomp_loop {elt iter : Expr} {x : Str} {px : Pos} {scope : Scope} {cl : List (Str × Addr)} {pos : Pos} {env : Env} {s₂ : Shared} {I : Addr} {fp wr : List Addr} {n : Nat} {P : Nat → Value → Prop}
    {St : Nat → Heap → Prop} {f : Nat → Str} (T : TurnsS prog w A env scope cl x elt I fp wr n P St f s₂) (hx : scope.names.lookup x = some .local) (hkind : scope.kind = .function) {C D : Addr} {H : Heap} {tk : Nat} {m : Str → Option Value}
    (hC : s₂.heap.objs.size ≤ C) (hD : s₂.heap.objs.size ≤ D) (hDC : D ≠ C) (hold : ∀ b o, s₂.heap.get? b = some o → H.get? b = some o) (hacc : SetS prog w H D (skey []) 0) (hn : H.Ns C m)
    (hR : ∀ h' tk' m', h'.Ns C m' → SetS prog w h' D (skey ((List.range n).map f)) n → (∀ b o, b ∉ wr → s₂.heap.get? b = some o → h'.get? b = some o) → R (.ok .next) { s₂ with heap := h', toks := tk' }) :
    codeAny (model prog w) A (.compLoop (.SetComp elt [⟨.Name x px, iter, [], 0⟩] scope pos) 0 (.ref I) (.ref D) (compEnvC scope cl C env)) R { s₂ with heap := H, toks := tk } := by
  have hxk : (compEnvC scope cl C env).kindOf x = some .local := lookup_relabel_local hx
  have hp : ((compEnvC scope cl C env).scope.kind == .class || ((compEnvC scope cl C env).scope.kind == .module && (compEnvC scope cl C env).locals != (compEnvC scope cl C env).globals)) = false := by simp [compEnvC, relabel, hkind]
  have hCf : C ∉ fp := fun q => absurd (T.lt C q) (Nat.not_lt.mpr hC)
  have hDf : D ∉ fp := fun q => absurd (T.lt D q) (Nat.not_lt.mpr hD)
  have hCw : C ∉ wr := fun q => hCf (T.W.sub _ q)
  have hDw : D ∉ wr := fun q => hDf (T.W.sub _ q)
  have oldC : ∀ b o, s₂.heap.get? b = some o → b ≠ C := fun b o e q => absurd (Heap.lt_size e) (by rw [q]; exact Nat.not_lt.mpr hC)
  have oldD : ∀ b o, s₂.heap.get? b = some o → b ≠ D := fun b o e q => absurd (Heap.lt_size e) (by rw [q]; exact Nat.not_lt.mpr hD)
  refine codeAny_compLoop_set
    (fun k s' => ∃ h' tk' m' i, s' = { s₂ with heap := h', toks := tk' } ∧ St i h' ∧ SetS prog w h' D (skey ((List.range i).map f)) i ∧ h'.Ns C m' ∧ (∀ b o, b ∉ wr → s₂.heap.get? b = some o → h'.get? b = some o) ∧ i ≤ n ∧ k = n + 1 - i) ?_ (n + 1)
    ⟨H, tk, m, 0, rfl, T.W.frame _ _ _ T.st fun b _ o e => hold b o e, hacc, hn, fun b o _ e => hold b o e, Nat.zero_le _, rfl⟩
  rintro k s' ⟨h', tk', m', i, rfl, hst, ha, hns, hk, hi, rfl⟩
  by_cases hlt : i < n
  · refine T.W.item i _ _ _ hlt hst fun v h₁ tk₁ hP hst₁ hk₁ => ?_
    refine wpAny_assign_Name (wpAny_storeName_local hxk (hns.at' fun o e => hk₁ _ o hCw e) (fun h₂ hn₂ hs₂ => ?_) hp)
    have hs₂' : Heap.SameBut C h₁ h₂ := hs₂
    have up₂ : ∀ b o, b ≠ C → b ∉ wr → h'.get? b = some o → h₂.get? b = some o := fun b o hb hw e => hs₂'.extBut b o hb (hk₁ b o hw e)
    have hst₂ : St (i + 1) h₂ := T.W.frame _ _ _ hst₁ fun b hb o e => hs₂'.extBut b o (fun q => hCf (q ▸ hb)) e
    have ha₂ := ha.at_ fun o e => up₂ D o hDC hDw e
    refine wpAny_tests_nil ?_
    simp only [if_true]
    refine wpAny_mono (T.turn i v C { s₂ with heap := h₂, toks := tk₁ + 1 } _ _ hlt hP hn₂ (by simp)) (fun y s₄ h₄ => ?_) fun _ _ e => e
    obtain ⟨⟨t, rfl⟩, h₄, tk₄, rfl, hk₄⟩ := h₄
    have ha₄ := ha₂.at_ fun o e => hk₄ D o e
    have hfit := T.fit
    have hnew : skey ((List.range i).map f) (f i) = false := by
      have d := T.dist
      refine decide_eq_false fun q => ?_
      obtain ⟨j, hj, e⟩ := List.mem_map.mp q
      have hj' := List.mem_range.mp hj
      have h1 : ((List.range n).map f)[j]? = some (f j) := by simp [Nat.lt_trans hj' hlt]
      have h2 : ((List.range n).map f)[i]? = some (f i) := by simp [hlt]
      have h3 := (List.getElem?_inj (by simp; omega) d).mp (h1.trans (by rw [e]; exact h2.symm))
      omega
    obtain ⟨so₄, hso₄, hsx₄, hsp₄⟩ := ha₄
    refine set_add_rule (y := f i) hso₄ hsx₄ hsp₄ (by unfold scanBound; omega) fun h₅ so₅ hs₅ hso₅ hsx₅ hsp₅ => ?_
    rw [hnew] at hsx₅
    have hS₅' : SetS prog w h₅ D (skey ((List.range (i + 1)).map f)) (i + 1) := SetS.congr (fun k => by
      simp only [skey, List.range_succ, List.map_append, List.mem_append, List.map_cons, List.map_nil, List.mem_singleton]
      by_cases h1 : k ∈ (List.range i).map f <;> by_cases h2 : k = f i <;> simp [h1, h2]) ⟨so₅, hso₅, hsx₅, hsp₅⟩
    have hs₅' : Heap.SameBut D h₄ h₅ := hs₅
    exact ⟨n + 1 - (i + 1), by omega, h₅, _, _, i + 1, rfl, T.W.frame _ _ _ hst₂ fun b hb o e => hs₅'.extBut b o (fun q => hDf (q ▸ hb)) (hk₄ b o e), hS₅', (hn₂.at' fun o e => hk₄ C o e).sameBut hs₅' (Ne.symm hDC),
      fun b o hw e => hs₅'.extBut b o (oldD b o e) (hk₄ b o (up₂ b o (oldC b o e) hw (hk b o hw e))), hlt, rfl⟩
  · have hin : i = n := by omega
    subst hin
    refine T.W.done _ _ _ hst fun h₁ tk₁ hk₁ => ?_
    exact hR h₁ tk₁ m' (hns.at' fun o e => hk₁ _ o hCw e) (ha.at_ fun o e => hk₁ D o hDw e) fun b o hw e => hk₁ b o hw (hk b o hw e)

theorem eval_setcomp {s : Shared} {elt iter : Expr} {x : Str} {px : Pos} {scope : Scope} {cl : List (Str × Addr)} {pos : Pos} {env : Env} {Q : Value → Shared → Prop}
    (hclos : closureFor scope env = pure cl) (hcell : ∀ y ∈ scope.names, y.2 ≠ .cell) (hkind : scope.kind = .function)
    (hnames : ∀ y ∈ scope.names, y.2 = .local → scope.names.lookup y.1 = some .local) (hx : scope.names.lookup x = some .local)
    (hs : ∀ x, foldedSetIterable iter env x = pure x)
    (h : wpAny (model prog w) A (eval iter env) (fun xv s₁ => wpAny (model prog w) A (pyIter xv) (fun it s₂ => ∃ I fp wr n P St f, it = .ref I ∧ TurnsS prog w A env scope cl x elt I fp wr n P St f s₂ ∧
      ∀ D h' tk, s₂.heap.objs.size ≤ D → SetS prog w h' D (skey ((List.range n).map f)) n → (∀ b o, b ∉ wr → s₂.heap.get? b = some o → h'.get? b = some o) → Q (.ref D) { s₂ with heap := h', toks := tk }) E s₁) E s) :
    wpAny (model prog w) A (eval (.SetComp elt [⟨.Name x px, iter, [], 0⟩] scope pos) env) Q E s := by
  rw [arm_eval_SetComp]
  refine wpAny_comprehension_free (use := none) rfl hs hclos hkind hnames (wpAny_mono h (fun xv s₁ h₁ => wpAny_mono h₁ (fun it s₂ h₂ => ?_) fun _ _ e => e) fun _ _ e => e)
  obtain ⟨I, fp, wr, n, P, St, f, rfl, T, hQ⟩ := h₂
  refine newSet_led ?_
  refine (wpAny_newFunctionEnv hcell (by intro y hy; simp at hy) (fun h₁ hns₁ hsb₁ => ?_) hkind)
  dsimp only at hns₁ hsb₁ ⊢
  have hS0 := SetS.fresh (prog := prog) (w := w) (h := s₂.heap.push { cls := .type "set", dict := none, data := .set #[] 0 (.fresh 0 0 (!byTxt w)) }) (a := s₂.heap.objs.size) (Heap.get?_push_size _ rfl)
  generalize hH2 : s₂.heap.push _ = H2 at hS0 hns₁ hsb₁ ⊢
  have hC : H2.objs.size = s₂.heap.objs.size + 1 := by rw [← hH2, Heap.size_push]
  have hDC : s₂.heap.objs.size ≠ H2.objs.size := by rw [hC]; exact Nat.ne_of_lt (Nat.lt_succ_self _)
  have hCle : s₂.heap.objs.size ≤ H2.objs.size := by rw [hC]; exact Nat.le_succ _
  have old : ∀ b o, s₂.heap.get? b = some o → h₁.get? b = some o := fun b o e => hsb₁.extBut b o (by rw [hC]; exact Nat.ne_of_lt (Nat.lt_succ_of_lt (Heap.lt_size e))) (Heap.get?_push_of_some _ (hH2 ▸ Heap.get?_push_of_some _ e))
  have hacc : SetS prog w h₁ s₂.heap.objs.size (skey []) 0 := hS0.at_ fun o e => hsb₁.extBut _ _ hDC (Heap.get?_push_of_some _ e)
  have loop : ∀ tk, codeAny (model prog w) A (.compLoop (.SetComp elt [⟨.Name x px, iter, [], 0⟩] scope pos) 0 (.ref I) (.ref s₂.heap.objs.size) (compEnvC scope cl H2.objs.size env))
      (compPost (model prog w) A E none Q (.ref s₂.heap.objs.size) H2.objs.size) { s₂ with heap := h₁, toks := tk } := fun tk => by
    refine setcomp_loop T hx hkind hCle (Nat.le_refl _) hDC old hacc hns₁ fun h' tk' m' hn hl hk => ?_
    exact ⟨m', hn, fun h'' hs'' => hQ _ h'' tk' (Nat.le_refl _) (hl.at_ fun o e => hs''.extBut _ o hDC e) fun b o hw e => hs''.extBut b o (Nat.ne_of_lt (Nat.lt_of_lt_of_le (Heap.lt_size e) hCle)) (hk b o hw e)⟩
  exact codeAny_compStart_set (loop _) (T.W.self 0 _ _ _ (T.W.frame _ _ _ T.st fun b _ o e => old b o e) (loop _))
end
end Mine
end

-- part Cs
section
open PySem PySem.W PySem.Calls PyProof.Rows PySem.Spec
set_option maxRecDepth 100000
namespace Mine

theorem strs_get : ∀ {vs : List Value} {R : List Str}, StrsAre vs R → ∀ {i : Nat} {v : Value}, vs[i]? = some v → ∃ y t, R[i]? = some y ∧ v = .str y t
  | _, _, .nil, i, v, e => by simp at e
  | _, _, .cons y t h, 0, v, e => ⟨y, t, by simp, by simpa using e.symm⟩
  | _, _, .cons y t h, i + 1, v, e => by
    obtain ⟨y', t', e1, e2⟩ := strs_get h (i := i) (by simpa using e)
    exact ⟨y', t', by simpa using e1, e2⟩
theorem range_map_getD {α β : Type} (f : α → β) (d : α) : ∀ R : List α, (List.range R.length).map (fun i => f (R.getD i d)) = R.map f := fun R => by
  apply List.ext_getElem
  · simp
  · intro i h1 h2
    have : i < R.length := by simpa using h1
    simp [this]

section
variable {prog : Program} {w : World} {A : Around} {E : Value → Shared → Prop} {s : Shared} {h₀ : Heap} {L l : Addr} {m : Str → Option Value} {news : List (Addr × Obj)} {vs : List Value} {R : List Str} {k : Nat}
theorem news_list {h : Heap} {a : Addr} {its : Array Value} {n : Nat} (N : News h₀ L h news) (hm : (a, listOf its n) ∈ news) : h.IsList a its := ⟨_, (N _ hm).1, rfl, n, rfl⟩
theorem news_lt (N : News h₀ L s.heap news) : ∀ p ∈ news, p.1 < s.heap.objs.size := fun p hp => Heap.lt_size (N p hp).1

theorem setcomp_src {env : Env} {scope : Scope} {cl : List (Str × Addr)} {x : Str} {elt : Expr} {Q : Value → Shared → Prop} (f : Str → Str) (F : Fr h₀ L s.heap m) (N : News h₀ L s.heap news) (hh : A.handled = none) (hl : s.heap.IsList l vs.toArray) (hi : StrsAre vs R)
    (hfit : R.length ≤ 1000) (dist : (R.map f).Nodup)
    (helt : ∀ y ∈ R, ∀ t C s₃ m₃ E', s₃.heap.Ns C m₃ → m₃ x = some (.str y t) → wpAny (model prog w) A (eval elt (compEnvC scope cl C env)) (fun v s₅ => (∃ t, v = .str (f y) t) ∧ Keeps s₃ s₅) E' s₃)
    (h : ∀ D h' tk so, Fr h₀ L h' m → News h₀ L h' ((D, so) :: news) → (∀ p ∈ news, p.1 < D) → so.SetObjOf (strKind prog w) (skey (R.map f)) R.length → SetP w so → (∀ b o, s.heap.get? b = some o → h'.get? b = some o) → Q (.ref D) { s with heap := h', toks := tk }) :
    wpAny (model prog w) A (pyIter (.ref l)) (fun it s₂ => ∃ I fp wr n P St f, it = .ref I ∧ TurnsS prog w A env scope cl x elt I fp wr n P St f s₂ ∧
      ∀ D h' tk, s₂.heap.objs.size ≤ D → SetS prog w h' D (skey ((List.range n).map f)) n → (∀ b o, b ∉ wr → s₂.heap.get? b = some o → h'.get? b = some o) → Q (.ref D) { s₂ with heap := h', toks := tk }) E s := by
  refine wpAny_pyIter_list hl ?_
  have hlt : l < s.heap.objs.size := by obtain ⟨_, e, _⟩ := hl; exact Heap.lt_size e
  have hlen : vs.toArray.size = R.length := by rw [List.size_toArray]; exact hi.len_eq
  refine ⟨s.heap.objs.size, [s.heap.objs.size, l], [s.heap.objs.size], R.length, _, _, fun i => f (R.getD i Str.empty), rfl, ⟨hlen ▸ Walks.list hh s.heap.objs.size l (Nat.ne_of_lt hlt) vs.toArray, ⟨⟨_, Heap.get?_push_size _ rfl, rfl, rfl⟩, hl.push _⟩, ?_, hfit, ?_, ?_⟩, ?_⟩
  · intro b hb
    show b < (s.heap.push _).objs.size
    rw [Heap.size_push]
    rcases List.mem_cons.mp hb with rfl | hb
    · exact Nat.lt_succ_self _
    · rw [List.mem_singleton.mp hb]; exact Nat.lt_succ_of_lt hlt
  · rw [range_map_getD]; exact dist
  · intro i v C s₃ m₃ E' hi' hP hn hm
    obtain ⟨y, t, e1, rfl⟩ := strs_get hi (i := i) (by simpa using hP)
    have e2 : R.getD i Str.empty = y := by rw [List.getD_eq_getElem?_getD, e1]; rfl
    rw [e2]
    exact helt y (List.mem_of_getElem? e1) t C s₃ m₃ E' hn hm
  · intro D h' tk hD hS hk
    rw [range_map_getD] at hS
    have hD' : s.heap.objs.size + 1 ≤ D := by have := hD; rwa [show ({ s with heap := s.heap.push _ } : Shared).heap.objs.size = s.heap.objs.size + 1 from Heap.size_push ..] at this
    have keep : ∀ b o, s.heap.get? b = some o → h'.get? b = some o := fun b o e => hk b o (fun q => by
      have := Heap.lt_size e; rw [List.mem_singleton.mp q] at this; exact Nat.lt_irrefl _ this) (Heap.get?_push_of_some _ e)
    obtain ⟨so, ho, hso, hsp⟩ := hS
    refine h D h' tk so ⟨F.ns.at' fun o e => keep _ o e, fun b o e => keep b o (F.keep b o e), F.above⟩ ?_ (fun p hp => Nat.lt_trans (news_lt N p hp) (by omega)) hso hsp keep
    intro p hp
    rcases List.mem_cons.mp hp with rfl | hp
    · refine ⟨ho, fun q => ?_, Heap.get?_none_of_le (Nat.le_trans F.above (Nat.le_trans (Nat.le_of_lt F.ns.lt) (by omega)))⟩
      have h1 : L < s.heap.objs.size := F.ns.lt
      rw [show L = D from q.symm] at h1
      exact Nat.lt_irrefl _ (Nat.lt_trans h1 hD')
    · exact ⟨keep _ _ (N p hp).1, (N p hp).2⟩
end

section
variable {prog : Program} {w : World} {A : Around} {E : Value → Shared → Prop} {s : Shared} {g : Heap} {env : Env} {l : Addr} {m : Str → Option Value} {led : List (Addr × Obj)} {vs : List Value} {R : List Str} {x : Str} {body : List Stmt} {Q : Flow → Shared → Prop}

/-- what a turn of a loop over texts hands on -/
def TurnEnd (g : Heap) (L I : Addr) (oI : Obj) (J : (Str → Option Value) → List (Addr × Obj) → Prop) (s s₂ : Shared) : Prop :=
  ∃ h' tk' m₂ led₂, s₂ = { s with heap := h', toks := tk' } ∧ Fr g L h' m₂ ∧ News g L h' ((I, oI) :: led₂) ∧ (∀ p ∈ led₂, p.1 ≠ I) ∧ J m₂ led₂
def TurnPost (g : Heap) (L I : Addr) (oI : Obj) (J : (Str → Option Value) → List (Addr × Obj) → Prop) (s : Shared) (Q : Flow → Shared → Prop) (f : Flow) (s₂ : Shared) : Prop := match f with
  | .ret v => Q (.ret v) s₂
  | .brk => Q .next s₂
  | _ => TurnEnd g L I oI J s s₂

theorem loop_gen {I : Addr} {fp : List Addr} {n : Nat} {P : Nat → Value → Prop} {St : Nat → Heap → Prop} (W : Walks prog w A I fp [I] n P St) (hIf : I ∈ fp) (hLf : env.locals ∉ fp) (hfp : ∀ b ∈ fp, b ≠ I → (g.get? b).isSome = true) (hIg : g.get? I = none) (hnw : ∀ p ∈ led, p.1 ≠ I) (hst : St 0 s.heap)
    (hex : ∀ i h, St i h → ∃ o, h.get? I = some o)
    (F : Fr g env.locals s.heap m) (N : News g env.locals s.heap led) (J : Nat → (Str → Option Value) → List (Addr × Obj) → Prop) (h0 : J 0 m led)
    (turn : ∀ i v m₁ led₁ oI h tk, i < n → P i v → J i m₁ led₁ → (∀ p ∈ led₁, p.1 ≠ I) → Fr g env.locals h (fun z => if z = x then some v else m₁ z) → News g env.locals h ((I, oI) :: led₁) →
      wpAny (model prog w) A (execs body env) (TurnPost g env.locals I oI (J (i + 1)) { s with heap := h, toks := tk } Q) E { s with heap := h, toks := tk })
    (done : ∀ h tk m₁ led₁, J n m₁ led₁ → Fr g env.locals h m₁ → News g env.locals h led₁ → Q .next { s with heap := h, toks := tk }) :
    LoopAtV prog w A g env x body Q E (.ref I) s := by
  refine ⟨I, fp, [I], n, P, St, m, led, J, rfl, W, hLf, fun b hb => by rw [List.mem_singleton.mp hb]; exact hIg, fun p hp q => hnw p hp (List.mem_singleton.mp q), hst, F, N, h0, ?_, ?_⟩
  · rintro i v m₁ led₁ s₁ own ⟨h, tk, rfl⟩ hi hP hJ hoff hown hown2 hown3 hst₁ F₁ N₁
    obtain ⟨oI, hoI⟩ := hex _ _ hst₁
    have hmI : (I, oI) ∈ own := hown3 I hIf hIg oI hoI
    have N₂ : News g env.locals h ((I, oI) :: led₁) := fun p hp => by
      rcases List.mem_cons.mp hp with rfl | hp
      · exact N₁ _ (List.mem_append_left _ hmI)
      · exact N₁ _ (List.mem_append_right _ hp)
    refine wpAny_mono (turn i v m₁ led₁ oI h tk hi hP hJ (fun p hp q => hoff p hp (List.mem_singleton.mpr q)) F₁ N₂) (fun f s₂ hf => ?_) fun _ _ e => e
    have fin : TurnEnd g env.locals I oI (J (i + 1)) { s with heap := h, toks := tk } s₂ → LoopStepU g env.locals [I] own (J (i + 1)) { s with heap := h, toks := tk } .next s₂ := by
      rintro ⟨h', tk', m₂, led₂, rfl, F', N', hne, hJ'⟩
      refine ⟨rfl, h', tk', m₂, led₂, rfl, F', fun p hp => ?_, fun p hp q => hne p hp (List.mem_singleton.mp q), hJ'⟩
      rcases List.mem_append.mp hp with hp | hp
      · by_cases hI : p.1 = I
        · have e1 := hown2 p hp
          rw [hI] at e1
          have e2 : p = (I, oI) := by
            have : p.2 = oI := by rw [show ({ s with heap := h, toks := tk } : Shared).heap = h from rfl] at e1; rw [show h.get? I = some oI from hoI] at e1; exact (Option.some.inj e1).symm
            exact Prod.ext hI this
          rw [e2]; exact N' _ (.head _)
        · have hb := hfp p.1 (hown p hp) hI
          have := (N₁ _ (List.mem_append_left _ hp)).2.2
          rw [this] at hb; cases hb
      · exact N' _ (.tail _ hp)
    cases f with
    | ret v => exact .ret hf
    | brk => exact .brk hf
    | next => exact .next (fin hf)
    | cont => exact .cont (fin hf)
  · exact fun h' tk m' led' F' N' _ hJ => done h' tk m' led' hJ F' N'

/-- a loop over a list or a tuple of texts that stands below -/
theorem iter_strs (hl : g.IsList l vs.toArray ∨ g.IsTuple l vs.toArray) (hi : StrsAre vs R) (hh : A.handled = none) (F : Fr g env.locals s.heap m) (N : News g env.locals s.heap led) (J : Nat → (Str → Option Value) → List (Addr × Obj) → Prop) (h0 : J 0 m led)
    (turn : ∀ i y t m₁ led₁ I oI h tk, R[i]? = some y → J i m₁ led₁ → (∀ p ∈ led₁, p.1 ≠ I) → s.heap.objs.size ≤ I → Fr g env.locals h (fun z => if z = x then some (.str y t) else m₁ z) → News g env.locals h ((I, oI) :: led₁) →
      wpAny (model prog w) A (execs body env) (TurnPost g env.locals I oI (J (i + 1)) { s with heap := h, toks := tk } Q) E { s with heap := h, toks := tk })
    (done : ∀ h tk m₁ led₁, J R.length m₁ led₁ → Fr g env.locals h m₁ → News g env.locals h led₁ → Q .next { s with heap := h, toks := tk }) :
    wpAny (model prog w) A (pyIter (.ref l)) (fun it s₂ => LoopAtV prog w A g env x body Q E it s₂) E s := by
  have hlt : l < g.objs.size := by rcases hl with ⟨_, e, _⟩ | ⟨_, e, _⟩ <;> exact Heap.lt_size e
  have hsome : (g.get? l).isSome = true := by rcases hl with ⟨_, e, _⟩ | ⟨_, e, _⟩ <;> (rw [e]; rfl)
  have hLs : env.locals < s.heap.objs.size := F.ns.lt
  have hne : l ≠ s.heap.objs.size := Nat.ne_of_lt (Nat.lt_trans (Nat.lt_of_lt_of_le hlt F.above) hLs)
  have hlen : vs.toArray.size = R.length := by rw [List.size_toArray]; exact hi.len_eq
  have side1 : env.locals ∉ [s.heap.objs.size, l] := fun hm => by
    rcases List.mem_cons.mp hm with e | hm
    · exact absurd hLs (e ▸ Nat.lt_irrefl _)
    · exact absurd (Nat.lt_of_lt_of_le hlt F.above) ((List.mem_singleton.mp hm) ▸ Nat.lt_irrefl _)
  have side2 : ∀ b ∈ [s.heap.objs.size, l], b ≠ s.heap.objs.size → (g.get? b).isSome = true := fun b hb hn => by
    rcases List.mem_cons.mp hb with e | hb
    · exact absurd e hn
    · rw [List.mem_singleton.mp hb]; exact hsome
  have next : ∀ (o : Obj) i v m₁ led₁ oI h tk, i < R.length → vs.toArray[i]? = some v → J i m₁ led₁ → (∀ p ∈ led₁, p.1 ≠ s.heap.objs.size) → Fr g env.locals h (fun z => if z = x then some v else m₁ z) → News g env.locals h ((s.heap.objs.size, oI) :: led₁) →
      wpAny (model prog w) A (execs body env) (TurnPost g env.locals s.heap.objs.size oI (J (i + 1)) { { s with heap := s.heap.push o } with heap := h, toks := tk } Q) E { { s with heap := s.heap.push o } with heap := h, toks := tk } := by
    intro o i v m₁ led₁ oI h tk hi' hP hJ hoff F₁ N₁
    obtain ⟨y, t, e1, rfl⟩ := strs_get hi (i := i) (by simpa using hP)
    exact turn i y t m₁ led₁ _ oI h tk e1 hJ hoff (Nat.le_refl _) F₁ N₁
  rcases hl with hl | hl
  · have hls : s.heap.IsList l vs.toArray := hl.at fun o e => F.keep l o e
    refine wpAny_pyIter_list hls ?_
    exact loop_gen (s := { s with heap := s.heap.push { cls := .type "list_iterator", data := .fields #[.ref l, .int 0 0] } }) (hlen ▸ Walks.list hh s.heap.objs.size l hne vs.toArray) (.head _) side1 side2 (Heap.get?_none_of_le (Nat.le_trans F.above (Nat.le_of_lt hLs))) (fun p hp => Nat.ne_of_lt (Heap.lt_size (N p hp).1)) ⟨⟨_, Heap.get?_push_size _ rfl, rfl, rfl⟩, hls.push _⟩
      (fun i h q => by obtain ⟨⟨o, e, _⟩, _⟩ := q; exact ⟨o, e⟩) (F.push _) (fun p hp => ⟨Heap.get?_push_of_some _ (N p hp).1, (N p hp).2⟩) J h0 (next _) done
  · have hls : s.heap.IsTuple l vs.toArray := let ⟨o, e, r⟩ := hl; ⟨o, F.keep l o e, r⟩
    refine wpAny_pyIter_tuple hls ?_
    exact loop_gen (s := { s with heap := s.heap.push { cls := .type "tuple_iterator", data := .fields #[.ref l, .int 0 0] } }) (hlen ▸ Walks.tuple hh s.heap.objs.size l hne vs.toArray) (.head _) side1 side2 (Heap.get?_none_of_le (Nat.le_trans F.above (Nat.le_of_lt hLs))) (fun p hp => Nat.ne_of_lt (Heap.lt_size (N p hp).1)) ⟨⟨_, Heap.get?_push_size _ rfl, rfl, rfl⟩, let ⟨o, e, r⟩ := hls; ⟨o, Heap.get?_push_of_some _ e, r⟩⟩
      (fun i h q => by obtain ⟨⟨o, e, _⟩, _⟩ := q; exact ⟨o, e⟩) (F.push _) (fun p hp => ⟨Heap.get?_push_of_some _ (N p hp).1, (N p hp).2⟩) J h0 (next _) done
end
end Mine
end

-- part Ec
section
open PySem PySem.W PySem.Calls PyProof.Rows PySem.Spec
set_option maxRecDepth 100000
namespace Mine
section
variable {prog : Program} {w : World} {K : Frag} {D U : Nat} {out : List Env} {hb : Heap} {s : Shared} {p : Program} {loose : List Str} {mean : ExcName → Option Value} {mg mb : Str → Option Value} {R : Result → Shared → Prop}
  {name qual : Str} {params : Arguments} {body : List Stmt} {scope : Scope} {dV kV doc pm cdv ct oc : Value} {an od : Option Addr} {osl : Array (Option Value)} {f : Addr} {args : Args} {binds : List (Str × Value)}

/-- into a def of the text that has cells -/
theorem enterC (news : List (Addr × Obj)) (X : K.In hb) (T : Top p loose mean mg mb hb) (cx : Cx hb out s.heap (news.map (·.1))) (hn : ∀ q ∈ news, s.heap.get? q.1 = some q.2)
    (ho : K.lookup f = some ⟨oc, od, .func (fnOf name qual params body scope dV kV doc pm an cdv ct), osl⟩) (hcd : codeIn K cdv qual = true) (hroom : D + 250 < recursionLimit)
    (hbind : BindsTo s (fnOf name qual params body scope dV kV doc pm an cdv ct) args binds) (hkind : (binds.all fun y => scope.names.lookup y.1 == some .local || scope.names.lookup y.1 == some .cell) = true)
    (hnd : ((cellsFrom 0 scope.names []).map (·.1)).Nodup)
    (h : ∀ g L' h₁ tk cells, hb.StaysIn g → (∀ b o, s.heap.get? b = some o → b ∉ news.map (·.1) → g.get? b = some o) → (∀ b o, g.get? b = some o → s.heap.get? b = some o) → s.heap.objs.size ≤ L' → Fr g L' h₁ (bindL (envOfC qual scope L' f cdv).kindOf binds fun _ => none) → News g L' h₁ (cells ++ news) →
      CellsAre (bindC (envOfC qual scope L' f cdv).kindOf binds fun _ => none) (cellsFrom (L' + 1) scope.names []) cells → (∀ q ∈ news, q.1 < L') → Below (AR D U out) hb out g → K.In g → Top p loose mean mg mb g →
      wpAny (model prog w) ((AR D U out).deeper (envOfC qual scope L' f cdv)) (execs body (envOfC qual scope L' f cdv))
        (fun fl s' => R (.ok (.ret (match fl with | .ret v => v | _ => .none))) s')
        (fun e s' => wpAny (model prog w) ((AR D U out).deeper (envOfC qual scope L' f cdv)) (leaving (envOfC qual scope L' f cdv) e) (fun _ s'' => R (.error e) s'') (fun e' s'' => R (.error e') s'') s')
        { s with heap := h₁, toks := tk })
    (hco : scope.isCoroutine = false) (hgen : scope.isGenerator = false) (hk : scope.kind = .function) : codeAny (model prog w) (AR D U out) (.call (.ref f) args) R s := by
  have XS := X.keeps cx.stays
  have TS := T.keeps cx.stays
  refine codeAny_call_function hroom (XS _ _ ho) rfl hco hgen rfl (codeRec_of XS hcd) (hbind _ _ _ _ ?_)
  refine wpAny_newFunctionEnv_cells hk (kindsX hkind _) fun env' he s' x => ?_
  subst he
  refine ⟨TS.nolimit.keeps x.toInCall.keep, codeAny_func ?_⟩
  obtain ⟨h₁, tk, rfl, _⟩ := x.done
  have hk₁ := x.toInCall.keep
  obtain ⟨cells, NC, Y⟩ := Cl.news (h₀ := s.heap) (Nat.le_refl _) fun n c hm => ⟨x.cell n c (lookup_of_mem_nodup (cellsFrom_names scope.names 0 (s.heap.objs.size + 1) [] [] rfl ▸ hnd) hm), x.above n c hm⟩
  have st : hb.StaysIn (hideAll s.heap (news.map (·.1))) := fun b o e => hideAll_get _ (cx.stays b o e) fun q => by
    rw [(cx.off b q).1] at e; cases e
  refine h _ s.heap.objs.size h₁ tk cells st (fun b o e n => hideAll_get _ e n) (fun b o e => of_hideAll _ e) (Nat.le_refl _) ⟨x.toInCall.ns, fun b o e => hk₁ b o (of_hideAll _ e), Nat.le_of_eq (hideAll_size _ _)⟩ (fun q hq => ?_) Y (fun q hq => Heap.lt_size (hn q hq))
    ⟨rfl, st, funFrames_hideAll cx.frames fun env he b hb' hf => (cx.off b hb').2 env he hf⟩ (X.keeps st) (T.keeps st)
  rcases List.mem_append.mp hq with hq | hq
  · refine ⟨(NC q hq).1, (NC q hq).2.1, ?_⟩
    cases e : (hideAll s.heap (news.map (·.1))).get? q.1 with
    | none => rfl
    | some o => have := of_hideAll _ e; rw [(NC q hq).2.2] at this; cases this
  · exact ⟨hk₁ _ _ (hn q hq), Nat.ne_of_lt (Heap.lt_size (hn q hq)), hideAll_none _ (List.mem_map_of_mem hq)⟩
end
end Mine
end

-- part Ca
section
open PySem PySem.W PySem.Calls PyProof.Rows PySem.Spec
set_option maxRecDepth 100000
namespace Mine
section
variable {prog : Program} {w : World} {A : Around} {E : Value → Shared → Prop} {R : Result → Shared → Prop} {s : Shared}

theorem assign_listcomp {elt iter : Expr} {x y : Str} {px py : Pos} {ifs : List Expr} {scope : Scope} {cl : List (Str × Addr)} {pos spos : Pos} {env : Env} {Q : Flow → Shared → Prop}
    (hsw : swapsWith (.ListComp elt [⟨.Name x px, iter, ifs, 0⟩] scope pos) (some (.Name y py)) spos.line env = pure true)
    (hclos : closureFor scope env = pure cl) (hcell : ∀ z ∈ scope.names, z.2 ≠ .cell) (hkind : scope.kind = .function)
    (hnames : ∀ z ∈ scope.names, z.2 = .local → scope.names.lookup z.1 = some .local) (hx : scope.names.lookup x = some .local)
    (hy : env.kindOf y = some .local) (hp : (env.scope.kind == .class || (env.scope.kind == .module && env.locals != env.globals)) = false)
    (hs : ∀ x, foldedSetIterable iter env x = pure x)
    (h : wpAny (model prog w) A (eval iter env) (fun xv s₁ => wpAny (model prog w) A (pyIter xv) (fun it s₂ => ∃ I fp wr n P St J, it = .ref I ∧ Turns prog w A env scope cl x ifs elt I fp wr n P St J s₂ ∧ env.locals < s₂.heap.objs.size ∧
      ∀ D h' ys, s₂.heap.objs.size ≤ D → h'.PlainList D ys.toArray → J n ys h' → ∃ m, h'.Ns env.locals m ∧
        ∀ h'' tk', h''.Ns env.locals (fun z => if z = y then some (.ref D) else m z) → (∀ b o, b ≠ env.locals → (b < s₂.heap.objs.size ∨ b = D) → h'.get? b = some o → h''.get? b = some o) → Q .next { s₂ with heap := h'', toks := tk' }) E s₁) E s) :
    wpAny (model prog w) A (exec (.Assign [.Name y py] (.ListComp elt [⟨.Name x px, iter, ifs, 0⟩] scope pos) spos) env) Q E s := by
  rw [exec_Assign_Name_used _ _ _ _ hsw]
  refine wpAny_bind (wpAny_standAt (wpAny_bind ?_))
  show wpAny _ A (do let _ ← comprehension (.ListComp elt [⟨.Name x px, iter, ifs, 0⟩] scope pos) scope env _ (newList []) false (eval iter env) (some (assign (.Name y py) env))) _ _ s
  refine wpAny_bind (wpAny_mono (wpAny_comprehension_free (use := some (assign (.Name y py) env)) (Q := fun _ s' => Q .next s') rfl hs hclos hkind hnames
    (wpAny_mono h (fun xv s₁ h₁ => wpAny_mono h₁ (fun it s₂ h₂ => ?_) fun _ _ e => e) fun _ _ e => e)) (fun _ s' hq => wpAny_pure (wpAny_pure hq)) fun _ _ e => e)
  obtain ⟨I, fp, wr, n, P, St, J, rfl, T, hL, hQ⟩ := h₂
  refine wpAny_newObj_type (wpAny_newFunctionEnv hcell (by intro y hy; simp at hy) (fun h₁ hns₁ hsb₁ => ?_) hkind)
  dsimp only at hns₁ hsb₁ ⊢
  generalize hH2 : s₂.heap.push { cls := .type "list", dict := none, data := .seq ([] : List Value).toArray } = H2 at hns₁ hsb₁ ⊢
  have hC : H2.objs.size = s₂.heap.objs.size + 1 := by rw [← hH2, Heap.size_push]
  have hDC : s₂.heap.objs.size ≠ H2.objs.size := by rw [hC]; exact Nat.ne_of_lt (Nat.lt_succ_self _)
  have hCle : s₂.heap.objs.size ≤ H2.objs.size := by rw [hC]; exact Nat.le_succ _
  have old : ∀ b o, s₂.heap.get? b = some o → h₁.get? b = some o := fun b o e => hsb₁.extBut b o (by rw [hC]; exact Nat.ne_of_lt (Nat.lt_succ_of_lt (Heap.lt_size e))) (Heap.get?_push_of_some _ (hH2 ▸ Heap.get?_push_of_some _ e))
  have hacc : h₁.PlainList s₂.heap.objs.size #[] := ⟨_, hsb₁.extBut _ _ hDC (Heap.get?_push_of_some _ (hH2 ▸ Heap.get?_push_size _ rfl))⟩
  have hLD : s₂.heap.objs.size ≠ env.locals := Ne.symm (Nat.ne_of_lt hL)
  have hLC : env.locals ≠ H2.objs.size := Nat.ne_of_lt (Nat.lt_of_lt_of_le hL hCle)
  have loop : ∀ tk, codeAny (model prog w) A (.compLoop (.ListComp elt [⟨.Name x px, iter, ifs, 0⟩] scope pos) 0 (.ref I) (.ref s₂.heap.objs.size) (compEnvC scope cl H2.objs.size env))
      (compPost (model prog w) A E (some (assign (.Name y py) env)) (fun _ s' => Q .next s') (.ref s₂.heap.objs.size) H2.objs.size) { s₂ with heap := h₁, toks := tk } := fun tk => by
    refine listcomp_loop T hx hkind hCle (Nat.le_refl _) hDC old hacc hns₁ fun h' tk' m' ys hn hl hJ => ?_
    obtain ⟨m, hm, hQ'⟩ := hQ _ h' ys (Nat.le_refl _) hl hJ
    show wpAny _ A (assign (.Name y py) env (.ref s₂.heap.objs.size)) _ _ _
    refine wpAny_assign_Name (wpAny_storeName_local hy hm (fun h₂ hn₂ hs₂ => ?_) hp)
    have hs₂' : Heap.SameBut env.locals h' h₂ := hs₂
    refine ⟨m', hn.sameBut hs₂' (Ne.symm hLC), fun h'' hs'' => hQ' h'' _ (hn₂.sameBut hs'' hLC) fun b o hb hb2 e => hs''.extBut b o ?_ (hs₂'.extBut b o hb e)⟩
    rcases hb2 with hb2 | rfl
    · exact Nat.ne_of_lt (Nat.lt_of_lt_of_le hb2 hCle)
    · exact hDC
  exact codeAny_compStart_list (loop _) (T.W.self 0 _ _ _ (T.W.frame _ _ _ T.st fun b _ o e => old b o e) (loop _))
end
end Mine
end

-- part Cl
section
open PySem PySem.W PySem.Calls PyProof.Rows PySem.Spec
set_option maxRecDepth 100000
namespace Mine
open LCg
section
variable {prog : Program} {w : World} {A : Around} {E : Value → Shared → Prop} {s s₂ : Shared} {g : Heap} {L : Addr} {m : Str → Option Value} {led : List (Addr × Obj)} {env : Env} {scope : Scope} {cl : List (Str × Addr)} {x : Str} {ifs : List Expr} {elt : Expr}

/-- the ledger's word for a comprehension: it may be changed, but for its places -/
def LedJ (g : Heap) (L : Addr) (m : Str → Option Value) (as : List Addr) (J : Nat → List Value → List (Addr × Obj) → Prop) (i : Nat) (ys : List Value) (h : Heap) : Prop :=
  ∃ led, Fr g L h m ∧ News g L h led ∧ led.map (·.1) = as ∧ ys.length ≤ i ∧ J i ys led

theorem turns_led {I : Addr} {fp : List Addr} {n : Nat} {P : Nat → Value → Prop} {St : Nat → Heap → Prop} (W : Walks prog w A I fp [I] n P St) (hst : St 0 s₂.heap) (hfp : ∀ b ∈ fp, b = I ∨ (g.get? b).isSome = true) (hI : I < s₂.heap.objs.size)
    (hex : ∀ i h, St i h → ∃ o, h.get? I = some o) (hn : n ≤ 4000)
    (F : Fr g L s₂.heap m) (N : News g L s₂.heap led) (hLI : L ≠ I) (hIg : g.get? I = none) (off : ∀ p ∈ led, p.1 ≠ I) (J : Nat → List Value → List (Addr × Obj) → Prop) (h0 : J 0 [] led)
    (turn : ∀ i v oI C oC D oD ys led' m₃ h tk E', i < n → P i v → J i ys led' → NsObj oC m₃ → m₃ x = some v → Fr g L h m → News g L h ((I, oI) :: (C, oC) :: (D, oD) :: led') → led'.map (·.1) = led.map (·.1) → (∀ q ∈ led.map (·.1), q ≠ I ∧ q ≠ C ∧ q ≠ D) →
      wpAny (model prog w) A (forIn ifs true fun c r => if r = true then do let ok ← isTrue c (compEnvC scope cl C env) (eval c (compEnvC scope cl C env)); pure (ForInStep.yield ok) else pure (ForInStep.yield r))
        (fun ok s₄ => if ok = true then wpAny (model prog w) A (eval elt (compEnvC scope cl C env)) (fun y s₅ => ∃ h' tk' led₂, s₅ = { s₂ with heap := h', toks := tk' } ∧ Fr g L h' m ∧ News g L h' ((I, oI) :: (C, oC) :: (D, oD) :: led₂) ∧ led₂.map (·.1) = led.map (·.1) ∧ J (i + 1) (ys ++ [y]) led₂) E' s₄
          else ∃ h' tk' led₂, s₄ = { s₂ with heap := h', toks := tk' } ∧ Fr g L h' m ∧ News g L h' ((I, oI) :: (C, oC) :: (D, oD) :: led₂) ∧ led₂.map (·.1) = led.map (·.1) ∧ J (i + 1) ys led₂) E' { s₂ with heap := h, toks := tk }) :
    Turns prog w A env scope cl x ifs elt I fp [I] n P St (LedJ g L m (led.map (·.1)) J) s₂ := by
  have hg : ∀ b o, g.get? b = some o → b < s₂.heap.objs.size := fun b o e => Heap.lt_size (F.keep b o e)
  have hled : ∀ b ∈ led.map (·.1), b < s₂.heap.objs.size ∧ b ≠ I := fun b hb => by
    obtain ⟨q, hq, rfl⟩ := List.mem_map.mp hb
    exact ⟨Heap.lt_size (N q hq).1, off q hq⟩
  refine ⟨W, hst, fun b hb => ?_, ⟨led, F, N, rfl, Nat.le_refl _, h0⟩, ?_, fun i ys h ⟨_, _, _, _, l, _⟩ => l, hn, ?_⟩
  · rcases hfp b hb with rfl | hb
    · exact hI
    · obtain ⟨o, e⟩ := Option.isSome_iff_exists.mp hb
      exact hg b o e
  · rintro i ys h h' ⟨led', F', N', e, l, hJ⟩ k
    have kk : ∀ b o, b < s₂.heap.objs.size → b ≠ I → h.get? b = some o → h'.get? b = some o := fun b o hb hn e => k b o hb (by simpa using hn) e
    have up : ∀ b o, g.get? b = some o → h'.get? b = some o := fun b o e => kk b o (hg b o e) (fun q => by rw [q, hIg] at e; cases e) (F'.keep b o e)
    refine ⟨led', ⟨F'.ns.at' fun o e => kk _ o F.ns.lt hLI e, up, F'.above⟩, fun p hp => ⟨?_, (N' p hp).2⟩, e, l, hJ⟩
    have := hled p.1 (e ▸ List.mem_map_of_mem hp)
    exact kk _ _ this.1 this.2 (N' p hp).1
  · rintro i v C D ys s₃ m₃ E' hi hP ⟨led', F', N', e, l, hJ⟩ hst₃ hn₃ hx hC hD' hD hDC ⟨h, tk, rfl⟩
    obtain ⟨oI, hoI⟩ := hex _ _ hst₃
    obtain ⟨oC, heC, hoC⟩ := ns_obj hn₃
    obtain ⟨oD, heD⟩ : ∃ o, h.get? D = some o := by obtain ⟨_, e⟩ := hD'; exact ⟨_, e⟩
    have fresh : ∀ a, s₂.heap.objs.size ≤ a → g.get? a = none := fun a ha => by
      cases e : g.get? a with
      | none => rfl
      | some o => exact absurd (hg a o e) (Nat.not_lt.mpr ha)
    have neL : ∀ a, s₂.heap.objs.size ≤ a → a ≠ L := fun a ha q => absurd F.ns.lt (Nat.not_lt.mpr (q ▸ ha))
    have N₃ : News g L h ((I, oI) :: (C, oC) :: (D, oD) :: led') := fun p hp => by
      rcases List.mem_cons.mp hp with rfl | hp
      · exact ⟨hoI, Ne.symm hLI, hIg⟩
      rcases List.mem_cons.mp hp with rfl | hp
      · exact ⟨heC, neL _ hC, fresh _ hC⟩
      rcases List.mem_cons.mp hp with rfl | hp
      · exact ⟨heD, neL _ hD, fresh _ hD⟩
      · exact N' p hp
    have own : ∀ h', Fr g L h' m → ∀ led₂, News g L h' ((I, oI) :: (C, oC) :: (D, oD) :: led₂) → ∀ b ∈ C :: D :: fp, ∀ o, h.get? b = some o → h'.get? b = some o := fun h' F₂ led₂ N₂ b hb o e => by
      rcases List.mem_cons.mp hb with rfl | hb
      · rw [heC] at e; cases e; exact (N₂ _ (.tail _ (.head _))).1
      rcases List.mem_cons.mp hb with rfl | hb
      · rw [heD] at e; cases e; exact (N₂ _ (.tail _ (.tail _ (.head _)))).1
      rcases hfp b hb with rfl | hb
      · rw [hoI] at e; cases e; exact (N₂ _ (.head _)).1
      · obtain ⟨o', e'⟩ := Option.isSome_iff_exists.mp hb
        rw [F'.keep b o' e'] at e; cases e
        exact F₂.keep b _ e'
    refine wpAny_mono (turn i v oI C oC D oD ys led' m₃ h tk E' hi hP hJ hoC hx F' N₃ e fun q hq => ⟨(hled q hq).2, fun z => absurd (hled q hq).1 (Nat.not_lt.mpr (z ▸ hC)), fun z => absurd (hled q hq).1 (Nat.not_lt.mpr (z ▸ hD))⟩) (fun ok s₄ h₄ => ?_) fun _ _ e => e
    cases ok with
    | false =>
      simp only [Bool.false_eq_true, if_false] at h₄ ⊢
      obtain ⟨h', tk', led₂, rfl, F₂, N₂, e₂, J₂⟩ := h₄
      exact ⟨h', tk', rfl, ⟨led₂, F₂, fun p hp => N₂ p (.tail _ (.tail _ (.tail _ hp))), e₂, Nat.le_succ_of_le l, J₂⟩, own h' F₂ led₂ N₂⟩
    | true =>
      simp only [if_true] at h₄ ⊢
      refine wpAny_mono h₄ (fun y s₅ h₅ => ?_) fun _ _ e => e
      obtain ⟨h', tk', led₂, rfl, F₂, N₂, e₂, J₂⟩ := h₅
      exact ⟨h', tk', rfl, ⟨led₂, F₂, fun p hp => N₂ p (.tail _ (.tail _ (.tail _ hp))), e₂, by rw [List.length_append]; exact Nat.succ_le_succ l, J₂⟩, own h' F₂ led₂ N₂⟩

/-- what a turn of a comprehension is asked -/
abbrev CTurn (prog : Program) (w : World) (A : Around) (env : Env) (scope : Scope) (cl : List (Str × Addr)) (x : Str) (ifs : List Expr) (elt : Expr) (s₂ : Shared) (g : Heap) (L : Addr) (m : Str → Option Value) (as : List Addr) (I : Addr) (n : Nat) (P : Nat → Value → Prop)
    (J : Nat → List Value → List (Addr × Obj) → Prop) : Prop :=
  ∀ i v oI C oC D oD ys led' m₃ h tk E', i < n → P i v → J i ys led' → NsObj oC m₃ → m₃ x = some v → Fr g L h m → News g L h ((I, oI) :: (C, oC) :: (D, oD) :: led') → led'.map (·.1) = as → (∀ q ∈ as, q ≠ I ∧ q ≠ C ∧ q ≠ D) →
      wpAny (model prog w) A (forIn ifs true fun c r => if r = true then do let ok ← isTrue c (compEnvC scope cl C env) (eval c (compEnvC scope cl C env)); pure (ForInStep.yield ok) else pure (ForInStep.yield r))
        (fun ok s₄ => if ok = true then wpAny (model prog w) A (eval elt (compEnvC scope cl C env)) (fun y s₅ => ∃ h' tk' led₂, s₅ = { s₂ with heap := h', toks := tk' } ∧ Fr g L h' m ∧ News g L h' ((I, oI) :: (C, oC) :: (D, oD) :: led₂) ∧ led₂.map (·.1) = as ∧ J (i + 1) (ys ++ [y]) led₂) E' s₄
          else ∃ h' tk' led₂, s₄ = { s₂ with heap := h', toks := tk' } ∧ Fr g L h' m ∧ News g L h' ((I, oI) :: (C, oC) :: (D, oD) :: led₂) ∧ led₂.map (·.1) = as ∧ J (i + 1) ys led₂) E' { s₂ with heap := h, toks := tk }

/-- `y = [.. for x in range(..) ..]` -/
theorem assign_range {iter : Expr} {y : Str} {px py : Pos} {pos spos : Pos} {Q : Flow → Shared → Prop}
    (hsw : swapsWith (.ListComp elt [⟨.Name x px, iter, ifs, 0⟩] scope pos) (some (.Name y py)) spos.line env = pure true)
    (hclos : closureFor scope env = pure cl) (hcell : ∀ z ∈ scope.names, z.2 ≠ .cell) (hkind : scope.kind = .function)
    (hnames : ∀ z ∈ scope.names, z.2 = .local → scope.names.lookup z.1 = some .local) (hx : scope.names.lookup x = some .local)
    (hy : env.kindOf y = some .local) (hp : (env.scope.kind == .class || (env.scope.kind == .module && env.locals != env.globals)) = false)
    (hs : ∀ x, foldedSetIterable iter env x = pure x) (hh : A.handled = none) (hLe : env.locals = L)
    (h : wpAny (model prog w) A (eval iter env) (fun xv s₁ => ∃ r a b t u v n m led J, xv = .ref r ∧ IsRange s₁.heap r a b 1 t u v ∧ Builtin.Range.small a b 1 = true ∧ Builtin.Range.rangeSize a b 1 = ((n : Nat) : Int) ∧ n ≤ 4000 ∧
      Fr g L s₁.heap m ∧ News g L s₁.heap led ∧ J 0 [] led ∧
      (∀ I h₂, CTurn prog w A env scope cl x ifs elt { s₁ with heap := h₂ } g L m (led.map (·.1)) I n (fun i v => ∃ t, v = .int (a + (i : Int)) t) J) ∧
      ∀ D h' tk' ys led' k, Fr g L h' (fun z => if z = y then some (.ref D) else m z) → News g L h' ((D, listOf ys.toArray k) :: led') → led'.map (·.1) = led.map (·.1) → (∀ p ∈ led, p.1 < D) → J n ys led' → Q .next { s₁ with heap := h', toks := tk' }) E s) :
    wpAny (model prog w) A (exec (.Assign [.Name y py] (.ListComp elt [⟨.Name x px, iter, ifs, 0⟩] scope pos) spos) env) Q E s := by
  subst hLe
  refine assign_listcomp hsw hclos hcell hkind hnames hx hy hp hs (wpAny_mono h (fun xv s₁ h₁ => ?_) fun _ _ e => e)
  obtain ⟨r, a, b, t, u, v, n, m, led, J, rfl, hr, hsm, hn, hfit, F, N, h0, turn, done⟩ := h₁
  refine wpAny_pyIter_range hr hsm ?_
  have hIg : g.get? s₁.heap.objs.size = none := Heap.get?_none_of_le (Nat.le_trans F.above (Nat.le_of_lt F.ns.lt))
  have hst0 : IsRangeIter (s₁.heap.push { cls := .type "range_iterator", data := .fields #[rawInt a, rawInt (Builtin.Range.rangeSize a b 1), rawInt 1] }) s₁.heap.objs.size (a + ((0 : Nat) : Int) * 1) ((n : Int) - ((0 : Nat) : Int)) 1 := by
    rw [hn]
    have : (s₁.heap.push { cls := .type "range_iterator", data := .fields #[rawInt a, rawInt (n : Int), rawInt 1] }).get? s₁.heap.objs.size = some { cls := .type "range_iterator", data := .fields #[rawInt a, rawInt (n : Int), rawInt 1] } := Heap.get?_push_size _ rfl
    simpa [IsRangeIter] using this
  refine ⟨s₁.heap.objs.size, [s₁.heap.objs.size], [s₁.heap.objs.size], n, _, _, LedJ g env.locals m (led.map (·.1)) J, rfl, turns_led (range_walks hh a n) hst0 (fun b hb => .inl (List.mem_singleton.mp hb)) (by show s₁.heap.objs.size < (s₁.heap.push _).objs.size; rw [Heap.size_push]; exact Nat.lt_succ_self _) (fun i h st => ⟨_, st⟩) hfit
    (F.keeps fun _ _ e => Heap.get?_push_of_some _ e) (N.grown fun _ _ e => Heap.get?_push_of_some _ e) (Nat.ne_of_lt F.ns.lt) hIg (fun p hp => Nat.ne_of_lt (Heap.lt_size (N p hp).1)) J h0 (turn _ _), ?_, ?_⟩
  · show env.locals < (s₁.heap.push _).objs.size
    rw [Heap.size_push]; exact Nat.lt_succ_of_lt F.ns.lt
  · rintro D h' ys hD hl ⟨led', F', N', e, _, hJ⟩
    refine ⟨m, F'.ns, fun h'' tk' hn' hk => ?_⟩
    have hD' : s₁.heap.objs.size + 1 ≤ D := by have := hD; rwa [show ({ s₁ with heap := s₁.heap.push _ } : Shared).heap.objs.size = s₁.heap.objs.size + 1 from Heap.size_push ..] at this
    have hDL : D ≠ env.locals := fun q => absurd (show env.locals < s₁.heap.objs.size from F.ns.lt) (Nat.not_lt.mpr (Nat.le_of_succ_le (q ▸ hD')))
    have up : ∀ b o, b ≠ env.locals → b < s₁.heap.objs.size → h'.get? b = some o → h''.get? b = some o := fun b o hb hlt e => hk b o hb (.inl (by show b < (s₁.heap.push _).objs.size; rw [Heap.size_push]; exact Nat.lt_succ_of_lt hlt)) e
    have hgL : g.get? env.locals = none := Heap.get?_none_of_le F.above
    have F'' : Fr g env.locals h'' (fun z => if z = y then some (.ref D) else m z) := ⟨hn', fun b o e => up b o (fun q => by rw [q, hgL] at e; cases e) (Heap.lt_size (F.keep b o e)) (F'.keep b o e), F.above⟩
    obtain ⟨k, hk2⟩ := hl
    refine done D h'' tk' ys led' k F'' (fun p hp => ?_) e (fun p hp => Nat.lt_of_lt_of_le (Heap.lt_size (N p hp).1) (Nat.le_of_succ_le hD')) hJ
    rcases List.mem_cons.mp hp with rfl | hp
    · exact ⟨hk _ _ hDL (.inr rfl) hk2, hDL, Heap.get?_none_of_le (Nat.le_trans F.above (Nat.le_trans (Nat.le_of_lt F.ns.lt) (Nat.le_of_succ_le hD')))⟩
    · have hm : p.1 ∈ led.map (·.1) := e ▸ List.mem_map_of_mem hp
      obtain ⟨q, hq, hqe⟩ := List.mem_map.mp hm
      exact ⟨up _ _ (N' p hp).2.1 (by rw [← hqe]; exact Heap.lt_size (N q hq).1) (N' p hp).1, (N' p hp).2⟩
end
end Mine
end

-- part Hs
section
open PySem PySem.W PySem.Calls PyProof.Rows PySem.Spec
set_option maxRecDepth 100000
namespace Mine
abbrev hsD (P : Params) (t1 t2 t3 : Tok) (l sa : Addr) : Obj := dictOf [⟨PyData.keyHash P (Str.ofString "_headers"), .str (Str.ofString "_headers") t1, .ref l⟩, ⟨PyData.keyHash P (Str.ofString "_set"), .str (Str.ofString "_set") t2, .ref sa⟩, ⟨PyData.keyHash P (Str.ofString "on_update"), .str (Str.ofString "on_update") t3, .none⟩] 3

/-- a header set in the heap: its row, its set of small names -/
structure HS (w : World) (h : Heap) (x dx l sa : Addr) (t1 t2 t3 : Tok) (k : Nat) (vs : List Value) (R : List Str) (so : Obj) : Prop where
  hx : h.get? x = some (instObj 181 dx)
  hd : h.get? dx = some (hsD w.params t1 t2 t3 l sa)
  hl : h.get? l = some (listOf vs.toArray k)
  hs : h.get? sa = some so
  si : StrsAre vs R
  ss : so.SetObjOf (PySem.strKind PySem.Challenge.rw_fa0002_01.row.prog w) (skey (R.map Txt.lower)) R.length
  dist : (R.map Txt.lower).Nodup
  sh : ∀ y ∈ R, y.length ≤ 1000
  len : R.length ≤ 40
  sp : SetP w so

abbrev hsNews (w : World) (x dx l sa : Addr) (t1 t2 t3 : Tok) (k : Nat) (vs : List Value) (so : Obj) : List (Addr × Obj) :=
  [(x, instObj 181 dx), (dx, hsD w.params t1 t2 t3 l sa), (l, listOf vs.toArray k), (sa, so)]

section
variable {w : World} {h h' : Heap} {x dx l sa : Addr} {t1 t2 t3 : Tok} {k : Nat} {vs : List Value} {R : List Str} {so : Obj}
theorem ne_of_obj {a b : Addr} {o o' : Obj} (e : h.get? a = some o) (e' : h.get? b = some o') (n : o.cls ≠ o'.cls) : a ≠ b := fun q => by
  subst q; rw [e] at e'; cases e'; exact n rfl
theorem HS.ne (H : HS w h x dx l sa t1 t2 t3 k vs R so) : x ≠ dx ∧ x ≠ l ∧ x ≠ sa ∧ dx ≠ l ∧ dx ≠ sa ∧ l ≠ sa := by
  have c : so.cls = .type "set" := H.ss.1.1
  refine ⟨ne_of_obj H.hx H.hd (by simp), ne_of_obj H.hx H.hl (by simp), ne_of_obj H.hx H.hs ?_, ne_of_obj H.hd H.hl (by simp), ne_of_obj H.hd H.hs ?_, ne_of_obj H.hl H.hs ?_⟩ <;> (rw [c]; simp)
theorem nn {a b : Addr} (h : a ≠ b) : @Ne Nat a b := h
theorem HS.neN (H : HS w h x dx l sa t1 t2 t3 k vs R so) : @Ne Nat x dx ∧ @Ne Nat x l ∧ @Ne Nat x sa ∧ @Ne Nat dx l ∧ @Ne Nat dx sa ∧ @Ne Nat l sa := H.ne
theorem HS.at_ (H : HS w h x dx l sa t1 t2 t3 k vs R so) (e : ∀ p ∈ hsNews w x dx l sa t1 t2 t3 k vs so, h'.get? p.1 = some p.2) : HS w h' x dx l sa t1 t2 t3 k vs R so :=
  ⟨e _ (.head _), e _ (.tail _ (.head _)), e _ (.tail _ (.tail _ (.head _))), e _ (.tail _ (.tail _ (.tail _ (.head _)))), H.si, H.ss, H.dist, H.sh, H.len, H.sp⟩
theorem HS.get (H : HS w h x dx l sa t1 t2 t3 k vs R so) : ∀ p ∈ hsNews w x dx l sa t1 t2 t3 k vs so, h.get? p.1 = some p.2 := fun p hp => by
  rcases List.mem_cons.mp hp with rfl | hp
  · exact H.hx
  rcases List.mem_cons.mp hp with rfl | hp
  · exact H.hd
  rcases List.mem_cons.mp hp with rfl | hp
  · exact H.hl
  rcases List.mem_cons.mp hp with rfl | hp
  · exact H.hs
  · cases hp
theorem HS.kp {W : List Addr} (H : HS w h x dx l sa t1 t2 t3 k vs R so) (kp : Kp W h h') (n : x ∉ W ∧ dx ∉ W ∧ l ∉ W ∧ sa ∉ W) : HS w h' x dx l sa t1 t2 t3 k vs R so :=
  H.at_ fun p hp => kp _ _ (H.get p hp) (by
    rcases List.mem_cons.mp hp with rfl | hp
    · exact n.1
    rcases List.mem_cons.mp hp with rfl | hp
    · exact n.2.1
    rcases List.mem_cons.mp hp with rfl | hp
    · exact n.2.2.1
    rcases List.mem_cons.mp hp with rfl | hp
    · exact n.2.2.2
    · cases hp)
end

theorem not_new {h : Heap} {b : Addr} {o : Obj} (e : h.get? b = some o) {l : List Addr} (hl : ∀ a ∈ l, h.objs.size ≤ a) : b ∉ l := fun q => Nat.not_lt.mpr (hl b q) (Heap.lt_size e)

theorem ar_raise_code {M : Model} {A : Around} {c : Code} {R : Result → Shared → Prop} {s : Shared} {D U : Nat} {out : List Env}
    (hh : A.handled = none) (hd : A.depth ≤ D + 250) (hu : A.units ≤ U) (hf : A.frames = some out) (h : codeAny M (AR D U out) c R s) : codeAny M A c R s :=
  fun Γ p hc hΓ => h Γ p hc ⟨hΓ.1.trans hh, Nat.le_trans hΓ.2.1 hd, fun l hl => hΓ.2.2.1 l (hf.trans hl), (fun _ hg => nomatch hg), Nat.le_trans hΓ.2.2.2.2 hu⟩
end Mine
end

-- part C3
section
open PySem PySem.W PySem.Calls PyProof.Rows PySem.Spec
set_option maxRecDepth 100000
namespace Mine
def place (R : List Str) (y : Str) : Int := match (R.map Txt.lower).findIdx? (· == Txt.lower y) with | some i => (i : Int) | none => -1
theorem findIdx_nodup {l : List Str} {z : Str} {i : Nat} (hd : l.Nodup) (h : l[i]? = some z) : l.findIdx? (· == z) = some i := by
  obtain ⟨hi, e⟩ := List.getElem?_eq_some_iff.mp h
  refine List.findIdx?_eq_some_iff_getElem.mpr ⟨hi, by simp [e], fun j hj => ?_⟩
  have hj' : j < l.length := Nat.lt_trans hj hi
  have : l[j] ≠ z := fun q => by
    have h2 : l[j]? = some z := List.getElem?_eq_some_iff.mpr ⟨hj', q⟩
    have := (List.getElem?_inj hj' hd).mp (h2.trans h.symm)
    omega
  simpa using this
theorem place_at {R : List Str} {y a : Str} {i : Nat} (hd : (R.map Txt.lower).Nodup) (ha : R[i]? = some a) (e : Txt.lower a = Txt.lower y) : place R y = i := by
  unfold place
  rw [findIdx_nodup hd (show (R.map Txt.lower)[i]? = some (Txt.lower y) by rw [List.getElem?_map, ha, Option.map_some, e])]
theorem place_none {R : List Str} {y : Str} (h : ∀ a ∈ R, Txt.lower a ≠ Txt.lower y) : place R y = -1 := by
  unfold place
  rw [List.findIdx?_eq_none_iff.mpr]
  intro z hz
  obtain ⟨a, ha, rfl⟩ := List.mem_map.mp hz
  simpa using h a ha
theorem kp_same {g h₀ h' : Heap} {L' : Addr} {m' : Str → Option Value} {news : List (Addr × Obj)} (hg : ∀ b o, h₀.get? b = some o → b ∉ news.map (·.1) → g.get? b = some o) (hn : ∀ q ∈ news, h₀.get? q.1 = some q.2) (F : Fr g L' h' m') (N : ∀ q ∈ news, h'.get? q.1 = some q.2) : Kp [] h₀ h' := fun b o e _ => by
  by_cases hb : b ∈ news.map (·.1)
  · obtain ⟨q, hq, rfl⟩ := List.mem_map.mp hb
    rw [hn q hq] at e; cases e; exact N q hq
  · exact F.keep b o (hg b o e hb)
section
variable {w : World} {hb : Heap} {p : Program} {loose : List Str} {mean : ExcName → Option Value} {mg mb : Str → Option Value} {out : List Env}
  {s : Shared} {Q : Value → Shared → Prop} {E : Value → Shared → Prop} {x dx l sa : Addr} {t1 t2 t3 : Tok} {k : Nat} {vs : List Value} {R : List Str} {so : Obj}

set_option maxHeartbeats 8000000 in
theorem find_spec {y : Str} {t : Tok} (X : (hd.heap_39 w.params).In hb) (T : Top p loose mean mg mb hb) (H : HS w s.heap x dx l sa t1 t2 t3 k vs R so) (cx : Cx hb out s.heap [x, dx]) (hy : y.length ≤ 1000)
    (ret : ∀ t' h' tk, Kp [] s.heap h' → Q (.int (place R y) t') { s with heap := h', toks := tk }) :
    wpAny (model PySem.Challenge.rw_fa0002_01.row.prog w) (AR 500 500 out) (call (.ref 86) [.ref x, .str y t]) Q E s := by
  revert X; k_fill; intro X
  refine wpAny_call ?_
  obtain ⟨n1, n2, n3, n4, n5, n6⟩ := H.ne
  have hn : ∀ q ∈ [(x, instObj 181 dx), (dx, hsD w.params t1 t2 t3 l sa)], s.heap.get? q.1 = some q.2 := by
    intro q hq
    rcases List.mem_cons.mp hq with rfl | hq
    · exact H.hx
    · rw [List.mem_singleton.mp hq]; exact H.hd
  refine' enter [(x, instObj 181 dx), (dx, hsD w.params t1 t2 t3 l sa)] X T cx hn ?ho ?hcd ?hroom ?hbind ?hloc ?_ ?c2 ?c3 ?c4 ?c5
  case ho => k_is
  case hcd => k_is
  case hroom => decide
  case hbind => exact BindsTo.of_eq rfl
  case hloc => exact locs rfl
  case c2 => exact rfl
  case c3 => exact rfl
  case c4 => exact rfl
  case c5 => decide
  intro g L' h₁ st' hg hg2 hsz F' N' B' X' T'
  have hl : g.IsList l vs.toArray := ⟨_, hg _ _ H.hl (by simp [n2.symm, n4.symm]), rfl, k, rfl⟩
  have hsi := H.si
  have hsh := H.sh
  try dsimp only
  all_goals try k_fold
  repeat' (first | ((fail_if_success (with_reducible show wpAny _ _ (call (Value.type "enumerate") _) _ _ _)); (first | (k_unfold; (try dsimp only)) | (k_end; wrow_close) | walk1 | (dsimp only; walk1) | (leave1; try dsimp only))) | fail "stop")
  rename Fr _ _ _ _ => F9
  rename News _ _ _ _ => N9
  apply call_enum_list rfl hl (StrsAre.areOf hsi) F9 N9
  clear F9 N9
  intro h9 e9 F9 N9 S9
  dsimp only
  apply Pair_leave (pz := fun a _ => Txt.lower a == Txt.lower y)
  case S => exact S9.at _ rfl
  case _hle => with_unfolding_all rfl
  case g1 =>
    clear F9 N9
    intro i a t v s₁ own ha hk F9 N9
    obtain ⟨t', rfl⟩ := ItemKind.str_is hk
    have hal := hsh a (List.mem_of_getElem? ha)
    k_steps
    exact ⟨_, _, rfl, fun _ _ e => e⟩
  case g2 =>
    clear F9 N9
    intro i a t v own h₄ tk₄ ha hp hf hk F9 N9
    obtain ⟨t', rfl⟩ := ItemKind.str_is hk
    k_steps
    dsimp only
    have e := place_at H.dist ha (beq_iff_eq.mp hp)
    rw [e] at ret
    exact ret _ _ _ (kp_same hg hn F9 fun q hq => (N9 q (List.mem_append_right _ hq)).1)
  case g3 =>
    clear F9 N9
    intro h' tk vi vl F9 N9 hnf
    k_steps
    dsimp only
    have e : place R y = -1 := place_none fun a ha q => by
      obtain ⟨i, hi, e⟩ := List.getElem_of_mem ha
      have := hnf (a, i) (List.mem_zipIdx_iff_getElem?.mpr (by simp [hi, e]))
      simp [q] at this
    rw [e] at ret
    exact ret _ _ _ (kp_same hg hn F9 fun q hq => (N9 q hq).1)
end
end Mine
end

-- part C7
section
open PySem PySem.W PySem.Calls PyProof.Rows PySem.Spec
set_option maxRecDepth 100000
namespace Mine
open LCg
/-- the places found so far -/
def PlJ (R : List Str) (y : Str) (led : List (Addr × Obj)) (i : Nat) (ys : List Value) (led' : List (Addr × Obj)) : Prop :=
  led' = led ∧ ((ys = [] ∧ ∀ a ∈ R.take i, Txt.lower a ≠ Txt.lower y) ∨ ∃ (j : Nat) (t : Tok) (a : Str), ys = [.int j t] ∧ j < i ∧ R[j]? = some a ∧ Txt.lower a = Txt.lower y)
theorem range_small_len {n : Nat} (h : n ≤ 4000) : Builtin.Range.small 0 (n : Int) 1 = true := small_one (by decide) (by decide) (by omega) (by omega)
theorem range_size_len (n : Nat) : Builtin.Range.rangeSize 0 (n : Int) 1 = ((n : Nat) : Int) := by
  unfold Builtin.Range.rangeSize; simp; omega
section
variable {w : World} {hb : Heap} {p : Program} {loose : List Str} {mean : ExcName → Option Value} {mg mb : Str → Option Value} {out : List Env}
  {s : Shared} {Q : Value → Shared → Prop} {E : Value → Shared → Prop} {rl : Addr} {vs : List Value} {R : List Str} {k : Nat}

set_option maxHeartbeats 8000000 in
theorem place_spec {y : Str} {t : Tok} (X : (hd.heap_39 w.params).In hb) (T : Top p loose mean mg mb hb) (cx : Cx hb out s.heap [])
    (h1 : s.heap.get? rl = some (listOf vs.toArray k)) (hi : StrsAre vs R) (hlen : R.length ≤ 50) (hdist : (R.map Txt.lower).Nodup) (hsh : ∀ y ∈ R, y.length ≤ 1000) (hy : y.length ≤ 1000)
    (ret : ∀ t' h' tk, Kp [] s.heap h' → Q (.int (place R y) t') { s with heap := h', toks := tk }) :
    wpAny (model PySem.Challenge.rw_fa0002_01.row.prog w) (AR 600 600 out) (call (.ref 235) [.ref rl, .str y t]) Q E s := by
  revert X; k_fill; intro X
  refine wpAny_call ?_
  refine' enterC (binds := [(Str.ofString "row", .ref rl), (Str.ofString "name", .str y t)]) [] X T cx ?hn ?ho ?hcd ?hroom ?hbind ?hkind ?hnd ?_ ?c2 ?c3 ?c4
  case hn => intro q hq; cases hq
  case ho => k_is
  case hcd => k_is
  case hroom => decide
  case hbind => exact BindsTo.of_eq rfl
  case hkind => exact rfl
  case hnd => decide +kernel
  case c2 => exact rfl
  case c3 => exact rfl
  case c4 => exact rfl
  intro g L' h₁ tk cells' st' hg hg2 hsz F' N' Y' l1 B' X' T'
  have hrl : g.IsList rl vs.toArray := ⟨_, hg _ _ h1 (fun q => nomatch q), rfl, k, rfl⟩
  k_cells Y'
  try simp only [List.cons_append, List.nil_append] at N'
  try dsimp only
  all_goals try k_fold
  repeat' (first | ((fail_if_success (with_reducible show wpAny _ _ (exec (Stmt.Assign _ (Expr.ListComp _ _ _ _) _) _) _ _ _)); (first | (k_unfold; (try dsimp only)) | (k_end; wrow_close) | walk1 | (dsimp only; walk1) | (leave1; try dsimp only))) | fail "stop")
  rename Fr _ _ _ _ => F9
  rename News _ _ _ _ => N9
  k_fold
  apply assign_range (g := g) (L := L')
  case hsw => with_unfolding_all rfl
  case hclos => with_unfolding_all rfl
  case hcell => decide
  case hkind => rfl
  case hnames => decide
  case hx => rfl
  case hy => rfl
  case hp => rfl
  case hs => intro _; with_unfolding_all rfl
  case hh => rfl
  case hLe => rfl
  repeat' (first | ((with_reducible show wpAny _ _ _ _ _ _); (first | (k_unfold; (try dsimp only)) | walk1 | (dsimp only; walk1) | (leave1; try dsimp only))) | fail "stop")
  rename IsRange _ _ _ _ _ _ _ _ => hr9
  rename Fr _ _ _ _ => F9
  rename News _ _ _ _ => N9
  refine ⟨_, _, _, _, _, _, R.length, _, _, PlJ R y _, rfl, hr9, ?sm, ?rs, ?fit, F9, N9, ⟨rfl, .inl ⟨rfl, by simp⟩⟩, ?turn, ?done⟩
  case sm => exact range_small_len (by omega)
  case rs => exact range_size_len _
  case fit => omega
  case turn =>
    clear F9 N9 hr9
    rintro I h₂ i v oI C oC D oD ys led' m₃ h tk E' hlt ⟨tv, rfl⟩ ⟨rfl, hJ⟩ hoC hx F9 N9 - -
    dsimp only
    have hRi := List.getElem?_eq_getElem hlt
    have hal : (R.getD ((i : Int)).toNat Str.empty).length ≤ 1000 := by
      rw [Int.toNat_natCast, List.getD_eq_getElem?_getD, hRi]; exact hsh _ (List.getElem_mem hlt)
    rw [Int.zero_add] at hx
    refine wpAny_tests_one ?_
    repeat' (first | ((with_reducible show wpAny _ _ _ _ _ _); (first | (k_unfold; (try dsimp only)) | walk1 | (dsimp only; walk1) | (leave1; try dsimp only))) | fail "stop")
    k_unfold
    dsimp only
    have hRd : R.getD ((i : Int)).toNat Str.empty = R[i] := by rw [Int.toNat_natCast, List.getD_eq_getElem?_getD, hRi]; rfl
    have htk : R.take (i + 1) = R.take i ++ [R[i]] := by rw [List.take_add_one, hRi]; rfl
    cases hbb : (Txt.lower (R.getD ((i : Int)).toNat Str.empty) == Txt.lower y) with
    | false =>
      rw [if_neg Bool.false_ne_true]
      have hne : Txt.lower R[i] ≠ Txt.lower y := by rw [← hRd]; exact fun q => by rw [q] at hbb; simp at hbb
      refine ⟨h, _, _, rfl, F9, N9, rfl, rfl, ?_⟩
      rcases hJ with ⟨rfl, hJ⟩ | ⟨j, tj, a, rfl, hj, hja, hay⟩
      · refine .inl ⟨rfl, fun a ha => ?_⟩
        rw [htk] at ha
        rcases List.mem_append.mp ha with ha | ha
        · exact hJ a ha
        · rw [List.mem_singleton.mp ha]; exact hne
      · exact .inr ⟨j, tj, a, rfl, Nat.lt_succ_of_lt hj, hja, hay⟩
    | true =>
      rw [if_pos rfl]
      have heq : Txt.lower R[i] = Txt.lower y := by rw [← hRd]; exact eq_of_beq hbb
      repeat' (first | ((with_reducible show wpAny _ _ _ _ _ _); (first | (k_unfold; (try dsimp only)) | walk1 | (dsimp only; walk1) | (leave1; try dsimp only))) | fail "stop")
      (try k_unfold)
      (try dsimp only)
      refine ⟨h, _, _, rfl, F9, N9, rfl, rfl, ?_⟩
      rcases hJ with ⟨rfl, hJ⟩ | ⟨j, tj, a, rfl, hj, hja, hay⟩
      · exact .inr ⟨i, tv, R[i], rfl, Nat.lt_succ_self _, hRi, heq⟩
      · exfalso
        have q1 : (R.map Txt.lower)[j]? = some (Txt.lower y) := by rw [List.getElem?_map, hja, Option.map_some, hay]
        have q2 : (R.map Txt.lower)[i]? = some (Txt.lower y) := by rw [List.getElem?_map, hRi, Option.map_some, heq]
        have := (List.getElem?_inj (by rw [List.length_map]; omega) hdist).mp (q1.trans q2.symm)
        omega
  case done =>
    clear F9 N9 hr9
    rintro D h' tk' ys led' k' F9 N9 - l1 ⟨rfl, hJ⟩
    dsimp only
    rcases hJ with ⟨rfl, hJ⟩ | ⟨j, tj, a, rfl, hj, hja, hay⟩
    · have e := place_none (R := R) (y := y) (by rwa [List.take_length] at hJ)
      k_steps
      rename Fr _ _ _ _ => F8
      rw [← e]
      exact ret _ _ _ fun b o e _ => F8.keep b o (hg b o e (fun q => nomatch q))
    · have e := place_at hdist hja hay
      k_steps
      rename Fr _ _ _ _ => F8
      show Q (.int (j : Int) _) _
      rw [← e]
      exact ret _ _ _ fun b o e _ => F8.keep b o (hg b o e (fun q => nomatch q))
end
end Mine
end

-- part C4
section
open PySem PySem.W PySem.Calls PyProof.Rows PySem.Spec
set_option maxRecDepth 100000
namespace Mine
/-- a name put behind a row where none is there that is the same but for the letters' size -/
def put1 (R : List Str) (y : Str) : List Str := if Txt.lower y ∈ R.map Txt.lower then R else R ++ [y]
def putAll (R N : List Str) : List Str := N.foldl put1 R
theorem putAll_snoc (R N : List Str) (y : Str) : putAll R (N ++ [y]) = put1 (putAll R N) y := by simp [putAll]
theorem nodup_snoc {α : Type} {l : List α} {a : α} (h : l.Nodup) (n : a ∉ l) : (l ++ [a]).Nodup := by
  rw [List.nodup_append]
  exact ⟨h, by simp, fun x hx y hy => by rw [List.mem_singleton.mp hy]; exact fun e => n (e ▸ hx)⟩
theorem put1_dist {R : List Str} {y : Str} (h : (R.map Txt.lower).Nodup) : ((put1 R y).map Txt.lower).Nodup := by
  unfold put1
  split
  · exact h
  · rename_i n
    rw [List.map_append]
    exact nodup_snoc h n
theorem put1_sh {R : List Str} {y : Str} {P : Str → Prop} (h : ∀ z ∈ R, P z) (hy : P y) : ∀ z ∈ put1 R y, P z := by
  unfold put1
  split
  · exact h
  · intro z hz
    rcases List.mem_append.mp hz with hz | hz
    · exact h z hz
    · rw [List.mem_singleton.mp hz]; exact hy
theorem put1_len (R : List Str) (y : Str) : (put1 R y).length ≤ R.length + 1 := by
  unfold put1; split <;> simp
theorem putAll_dist {N : List Str} : ∀ {R : List Str}, (R.map Txt.lower).Nodup → ((putAll R N).map Txt.lower).Nodup := by
  induction N with
  | nil => exact fun h => h
  | cons a r ih => exact fun h => ih (put1_dist h)
theorem putAll_sh {P : Str → Prop} {N : List Str} : ∀ {R : List Str}, (∀ z ∈ R, P z) → (∀ z ∈ N, P z) → ∀ z ∈ putAll R N, P z := by
  induction N with
  | nil => exact fun h _ => h
  | cons a r ih => exact fun h h2 => ih (put1_sh h (h2 a (.head _))) fun z hz => h2 z (.tail _ hz)
theorem putAll_len {N : List Str} : ∀ {R : List Str}, (putAll R N).length ≤ R.length + N.length := by
  induction N with
  | nil => exact Nat.le_refl _
  | cons a r ih =>
    intro R
    have := @ih (put1 R a)
    have := put1_len R a
    show (putAll (put1 R a) r).length ≤ R.length + (r.length + 1)
    omega

abbrev m3 (a b c : Str) (va vb vc : Option Value) (m : Str → Option Value) : Str → Option Value := fun z => if z = a then va else if z = b then vb else if z = c then vc else m z
theorem m3_start {a b c : Str} {va : Option Value} {m : Str → Option Value} (hb : m b = none) (hc : m c = none) : (fun z => if z = a then va else m z) = m3 a b c va none none m := by
  funext z
  unfold m3
  by_cases h1 : z = a
  · simp [h1]
  · by_cases h2 : z = b
    · subst h2; simp [h1, hb]
    · by_cases h3 : z = c
      · subst h3; simp [h1, h2, hc]
      · simp [h1, h2, h3]
def UInv (w : World) (x dx l sa : Addr) (t1 t2 t3 : Tok) (m₀ : Str → Option Value) (R N : List Str) (i : Nat) (m₁ : Str → Option Value) (led : List (Addr × Obj)) : Prop :=
  ∃ k' vs' so' b kv hv, led = hsNews w x dx l sa t1 t2 t3 k' vs' so' ∧ StrsAre vs' (putAll R (N.take i)) ∧ so'.SetObjOf (PySem.strKind PySem.Challenge.rw_fa0002_01.row.prog w) (skey ((putAll R (N.take i)).map Txt.lower)) (putAll R (N.take i)).length ∧ SetP w so' ∧
    m₁ = m3 (Str.ofString "inserted_any") (Str.ofString "key") (Str.ofString "header") (some (.bool b)) kv hv m₀

section
variable {w : World} {hb : Heap} {p : Program} {loose : List Str} {mean : ExcName → Option Value} {mg mb : Str → Option Value} {out : List Env}
  {s : Shared} {Q : Value → Shared → Prop} {E : Value → Shared → Prop} {x dx l sa : Addr} {t1 t2 t3 : Tok} {k : Nat} {vs : List Value} {R : List Str} {so : Obj}

set_option maxHeartbeats 8000000 in
theorem update_spec {it : Addr} {ys : List Value} {N : List Str} (X : (hd.heap_39 w.params).In hb) (T : Top p loose mean mg mb hb) (H : HS w s.heap x dx l sa t1 t2 t3 k vs R so) (cx : Cx hb out s.heap [x, dx, l, sa])
    (hit : s.heap.IsList it ys.toArray ∨ s.heap.IsTuple it ys.toArray) (hys : StrsAre ys N) (hnl : it ≠ l) (hN : ∀ y ∈ N, y.length ≤ 1000) (hlen : R.length + N.length ≤ 40)
    (ret : ∀ h' tk k' vs' so', HS w h' x dx l sa t1 t2 t3 k' vs' (putAll R N) so' → Kp [x, dx, l, sa] s.heap h' → Q .none { s with heap := h', toks := tk }) :
    wpAny (model PySem.Challenge.rw_fa0002_01.row.prog w) (AR 500 500 out) (call (.ref 72) [.ref x, .ref it]) Q E s := by
  revert X; k_fill; intro X
  obtain ⟨n1, n2, n3, n4, n5, n6⟩ := H.neN
  refine wpAny_call ?_
  refine' enter (binds := [(Str.ofString "self", .ref x), (Str.ofString "iterable", .ref it)]) (hsNews w x dx l sa t1 t2 t3 k vs so) X T cx H.get ?ho ?hcd ?hroom ?hbind ?hloc ?_ ?c2 ?c3 ?c4 ?c5
  case ho => k_is
  case hcd => k_is
  case hroom => decide
  case hbind => exact BindsTo.of_eq rfl
  case hloc => exact locs rfl
  case c2 => exact rfl
  case c3 => exact rfl
  case c4 => exact rfl
  case c5 => decide
  intro g L' h₁ st' hg hg2 hsz F' N' B' X' T'
  have hso := H.ss
  have hil : g.IsList it ys.toArray ∨ g.IsTuple it ys.toArray := by
    have nin : ∀ o, s.heap.get? it = some o → (o.cls = .type "list" ∨ o.cls = .type "tuple") → it ∉ (hsNews w x dx l sa t1 t2 t3 k vs so).map (·.1) := fun o e c => by
      simp only [List.map_cons, List.map_nil, List.mem_cons, List.not_mem_nil, or_false, not_or]
      exact ⟨ne_of_obj e H.hx (by rcases c with c | c <;> rw [c] <;> simp), ne_of_obj e H.hd (by rcases c with c | c <;> rw [c] <;> simp), hnl, ne_of_obj e H.hs (by rw [H.ss.1.1]; rcases c with c | c <;> rw [c] <;> simp)⟩
    rcases hit with ⟨o, e, c, r⟩ | ⟨o, e, c, r⟩
    · exact .inl ⟨o, hg _ _ e (nin o e (.inl c)), c, r⟩
    · exact .inr ⟨o, hg _ _ e (nin o e (.inr c)), c, r⟩
  try dsimp only
  all_goals try k_fold
  repeat' (first | ((fail_if_success (with_reducible show wpAny _ _ (exec (Stmt.For _ _ _ _ _) _) _ _ _)); (first | (k_unfold; (try dsimp only)) | (k_end; wrow_close) | walk1 | (dsimp only; walk1) | (leave1; try dsimp only))) | fail "stop")
  rename Fr _ _ _ _ => F9
  rename News _ _ _ _ => N9
  refine' For_invVF F9 ?k1 ?k2 ?_
  case k1 => exact rfl
  case k2 => exact rfl
  repeat' (first | ((fail_if_success (with_reducible show wpAny _ _ (pyIter _) _ _ _)); (first | (k_unfold; (try dsimp only)) | (k_end; wrow_close) | walk1 | (dsimp only; walk1) | (leave1; try dsimp only))) | fail "stop")
  try dsimp only
  rw [m3_start (b := Str.ofString "key") (c := Str.ofString "header") rfl rfl] at F9
  k_fold
  apply iter_strs (J := UInv w x dx l sa t1 t2 t3 (fun y => List.lookup y [(Str.ofString "self", Value.ref x), (Str.ofString "iterable", Value.ref it)].reverse) R N)
  case hl => exact hil
  case hi => exact hys
  case hh => rfl
  case F => exact F9
  case N => exact N9
  case h0 => exact ⟨k, vs, so, false, none, none, rfl, H.si, H.ss, H.sp, rfl⟩
  case turn =>
    clear F9 N9
    rintro i y t m₁ led₁ I oI h tk hy ⟨k', vs', so', b, kv, hv, rfl, hsi', hso', hsp', rfl⟩ hne hI F9 N9
    have hyl := hN y (List.mem_of_getElem? hy)
    clear hso
    have hpl : (putAll R (N.take i)).length ≤ 40 := by
      have h1 := @putAll_len (N.take i) R
      have h2 : (N.take i).length ≤ N.length := List.length_take_le' _ _
      omega
    have e0 : N.take (i + 1) = N.take i ++ [y] := by rw [List.take_add_one, hy]; rfl
    simp only [hsNews, List.mem_cons, List.not_mem_nil, or_false, forall_eq_or_imp, forall_eq] at hne
    obtain ⟨i1, i2, i3, i4⟩ := hne
    replace i1 := nn i1
    replace i2 := nn i2
    replace i3 := nn i3
    replace i4 := nn i4
    generalize hRi : putAll R (N.take i) = Ri at *
    dsimp only [m3] at F9
    repeat' (first | ((fail_if_success (with_reducible show wpAny _ _ (call (.builtin "set.add") _) _ _ _)); (first | (k_unfold; (try dsimp only)) | (k_end; wrow_close) | walk1 | (dsimp only; walk1) | (leave1; try dsimp only))) | fail "stop")
    · rename Fr _ _ _ _ => F8
      rename News _ _ _ _ => N8
      rename (skey _ _ = true) => hin
      have hin' : Txt.lower y ∈ Ri.map Txt.lower := of_decide_eq_true hin
      have e1 : putAll R (N.take (i + 1)) = Ri := by rw [e0, putAll_snoc, hRi, put1, if_pos hin']
      refine ⟨_, _, _, _, rfl, F8, N8, ?ne, k', vs', so', b, ?kv, ?hv, rfl, e1.symm ▸ hsi', by rw [e1]; exact hso', hsp', ?em⟩
      case ne => simp only [hsNews, List.mem_cons, List.not_mem_nil, or_false, forall_eq_or_imp, forall_eq]; exact ⟨i1, i2, i3, i4⟩
      case em =>
        funext z
        by_cases h1 : z = Str.ofString "key"
        · subst h1; rfl
        by_cases h2 : z = Str.ofString "header"
        · subst h2; rfl
        by_cases h3 : z = Str.ofString "inserted_any"
        · subst h3; rfl
        · simp only [m3, h1, h2, h3, if_false]
    · rename Fr _ _ _ _ => F8
      rename News _ _ _ _ => N8
      simp only [List.push_toArray] at N8
      rename (skey _ _ = false) => hin
      refine set_add_rule (N8.get (by k_mem)) hso' hsp' (by unfold scanBound; omega) fun h5 so8 hs5 hg5 hso8 hsp8 => ?_
      have kp5 : Kp [sa] _ h5 := fun b o e n => hs5.extBut b o (fun q => n (q ▸ .head _)) e
      have F5 := fr_back F8 N8 kp5 (fun a ha => by rw [List.mem_singleton.mp ha]; simp)
      have N5 : News g L' h5 ((I, oI) :: hsNews w x dx l sa t1 t2 t3 (k' + 1) (vs' ++ [Value.str y t]) so8) := news_back N8 kp5 (fun q hq => by
        rcases List.mem_cons.mp hq with rfl | hq
        · exact .inl ⟨.head _, by simp only [List.mem_singleton]; exact Ne.symm i4⟩
        rcases List.mem_cons.mp hq with rfl | hq
        · exact .inl ⟨by k_mem, by simpa using n3⟩
        rcases List.mem_cons.mp hq with rfl | hq
        · exact .inl ⟨by k_mem, by simpa using n5⟩
        rcases List.mem_cons.mp hq with rfl | hq
        · exact .inl ⟨by k_mem, by simpa using n6⟩
        · rw [List.mem_singleton.mp hq]; exact .inr ⟨by simp, hg5⟩)
      clear F8 N8
      dsimp only at F5 N5 ⊢
      k_steps
      rename Fr _ _ _ _ => F8
      rename News _ _ _ _ => N8
      have hin' : ¬ Txt.lower y ∈ Ri.map Txt.lower := of_decide_eq_false hin
      have e1 : putAll R (N.take (i + 1)) = Ri ++ [y] := by rw [e0, putAll_snoc, hRi, put1, if_neg hin']
      refine ⟨_, _, _, _, rfl, F8, N8, ?ne, _, _, _, true, ?kv, ?hv, rfl, e1.symm ▸ hsi'.append' (.cons y t .nil), ?ss, hsp8, ?em⟩
      case ne => simp only [hsNews, List.mem_cons, List.not_mem_nil, or_false, forall_eq_or_imp, forall_eq]; exact ⟨i1, i2, i3, i4⟩
      case ss =>
        rw [e1]
        rw [hin, if_neg Bool.false_ne_true] at hso8
        have e2 : (fun k' => skey (List.map Txt.lower Ri) k' || decide (k' = Txt.lower y)) = skey ((Ri ++ [y]).map Txt.lower) := by
          funext z
          simp only [skey, List.map_append, List.mem_append, List.map_cons, List.map_nil, List.mem_singleton]
          by_cases h1 : z ∈ Ri.map Txt.lower <;> by_cases h2 : z = Txt.lower y <;> simp [h1, h2]
        rw [e2] at hso8
        simpa using hso8
      case em =>
        funext z
        by_cases h1 : z = Str.ofString "key"
        · subst h1; rfl
        by_cases h2 : z = Str.ofString "header"
        · subst h2; rfl
        by_cases h3 : z = Str.ofString "inserted_any"
        · subst h3; rfl
        · simp only [m3, h1, h2, h3, if_false]
  case done =>
    clear F9 N9
    rintro h tk m₁ led₁ ⟨k', vs', so', b, kv, hv, rfl, hsi', hso', hsp', rfl⟩ F9 N9
    rw [List.take_length] at hsi' hso'
    have HS' : HS w h x dx l sa t1 t2 t3 k' vs' (putAll R N) so' := ⟨N9.get (.head _), N9.get (.tail _ (.head _)), N9.get (.tail _ (.tail _ (.head _))), N9.get (.tail _ (.tail _ (.tail _ (.head _)))), hsi', hso', putAll_dist H.dist, putAll_sh H.sh hN, Nat.le_trans putAll_len hlen, hsp'⟩
    have kp : Kp [x, dx, l, sa] s.heap h := kp_out hg F9
    k_steps
    · exact ret _ _ _ _ _ HS' kp
    · exact ret _ _ _ _ _ HS' kp
end
end Mine
end

-- part C8
section
open PySem PySem.W PySem.Calls PyProof.Rows PySem.Spec
set_option maxRecDepth 100000
namespace Mine

theorem place_neg {R : List Str} {y : Str} : place R y = -1 ↔ Txt.lower y ∉ R.map Txt.lower := by
  unfold place
  cases e : (R.map Txt.lower).findIdx? (· == Txt.lower y) with
  | none =>
    refine ⟨fun _ hm => ?_, fun _ => rfl⟩
    have := List.findIdx?_eq_none_iff.mp e _ hm
    simp at this
  | some i =>
    refine ⟨fun q => absurd (show (i : Int) = -1 from q) (by omega), fun q => ?_⟩
    obtain ⟨hi, h1, _⟩ := List.findIdx?_eq_some_iff_getElem.mp e
    exact absurd (by rw [← eq_of_beq h1]; exact List.getElem_mem hi) q

abbrev m2 (a b : Str) (va vb : Option Value) (m : Str → Option Value) : Str → Option Value := fun z => if z = a then va else if z = b then vb else m z
theorem m2_start {a b : Str} {va : Option Value} {m : Str → Option Value} (ha : m a = va) (hb : m b = none) : m = m2 a b va none m := by
  funext z
  unfold m2
  by_cases h1 : z = a
  · subst h1; simp [ha]
  · by_cases h2 : z = b
    · subst h2; simp [h1, hb]
    · simp [h1, h2]
theorem m2_ab {a b : Str} {va vb v u : Option Value} {m : Str → Option Value} : (fun z => if z = a then v else if z = b then u else m2 a b va vb m z) = m2 a b v u m := by
  funext z
  by_cases h1 : z = a <;> by_cases h2 : z = b <;> simp [m2, h1, h2]
theorem m2_b {a b : Str} {va vb v : Option Value} {m : Str → Option Value} (h : a ≠ b) : (fun z => if z = b then v else m2 a b va vb m z) = m2 a b va v m := by
  funext z
  by_cases h2 : z = b
  · subst h2; simp [m2, Ne.symm h]
  · simp [m2, h2]
def PutJ (rl : Addr) (m₀ : Str → Option Value) (R N : List Str) (i : Nat) (m₁ : Str → Option Value) (led : List (Addr × Obj)) : Prop :=
  (∃ hv, led = [] ∧ putAll R (N.take i) = R ∧ m₁ = m2 (Str.ofString "row") (Str.ofString "name") (some (.ref rl)) hv m₀) ∨
  ∃ r vs' k' hv, led = [(r, listOf vs'.toArray k')] ∧ StrsAre vs' (putAll R (N.take i)) ∧ m₁ = m2 (Str.ofString "row") (Str.ofString "name") (some (.ref r)) hv m₀

section
variable {w : World} {hb : Heap} {p : Program} {loose : List Str} {mean : ExcName → Option Value} {mg mb : Str → Option Value} {out : List Env}
  {s : Shared} {Q : Value → Shared → Prop} {E : Value → Shared → Prop} {rl nl : Addr} {vs ys : List Value} {R N : List Str} {k kn : Nat}

set_option maxHeartbeats 8000000 in
theorem put_spec (X : (hd.heap_39 w.params).In hb) (T : Top p loose mean mg mb hb) (cx : Cx hb out s.heap [])
    (h1 : s.heap.get? rl = some (listOf vs.toArray k)) (hi : StrsAre vs R) (h2 : s.heap.get? nl = some (listOf ys.toArray kn)) (hys : StrsAre ys N) (hlen : R.length + N.length ≤ 50) (hdist : (R.map Txt.lower).Nodup) (hsh : ∀ y ∈ R, y.length ≤ 1000) (hN : ∀ y ∈ N, y.length ≤ 1000)
    (ret : ∀ r vs' k' h' tk, h'.get? r = some (listOf vs'.toArray k') → StrsAre vs' (putAll R N) → Kp [] s.heap h' → (r = rl ∨ s.heap.get? r = none) → Q (.ref r) { s with heap := h', toks := tk }) :
    wpAny (model PySem.Challenge.rw_fa0002_01.row.prog w) (AR 550 550 out) (call (.ref 242) [.ref rl, .ref nl]) Q E s := by
  revert X; k_fill; intro X
  refine wpAny_call ?_
  refine' enter (binds := [(Str.ofString "row", .ref rl), (Str.ofString "names", .ref nl)]) [] X T cx ?hn ?ho ?hcd ?hroom ?hbind ?hloc ?_ ?c2 ?c3 ?c4 ?c5
  case hn => intro q hq; cases hq
  case ho => k_is
  case hcd => k_is
  case hroom => decide
  case hbind => exact BindsTo.of_eq rfl
  case hloc => exact locs rfl
  case c2 => exact rfl
  case c3 => exact rfl
  case c4 => exact rfl
  case c5 => decide
  intro g L' h₁ st' hg hg2 hsz F' N' B' X' T'
  have hrl : g.IsList rl vs.toArray := ⟨_, hg _ _ h1 (fun q => nomatch q), rfl, k, rfl⟩
  have hnl : g.IsList nl ys.toArray := ⟨_, hg _ _ h2 (fun q => nomatch q), rfl, kn, rfl⟩
  try dsimp only
  all_goals try k_fold
  repeat' (first | ((fail_if_success (with_reducible show wpAny _ _ (exec (Stmt.For _ _ _ _ _) _) _ _ _)); (first | (k_unfold; (try dsimp only)) | (k_end; wrow_close) | walk1 | (dsimp only; walk1) | (leave1; try dsimp only))) | fail "stop")
  rename Fr _ _ _ _ => F9
  rename News _ _ _ _ => N9
  refine' For_invVF F9 ?k1 ?k2 ?_
  case k1 => exact rfl
  case k2 => exact rfl
  repeat' (first | ((fail_if_success (with_reducible show wpAny _ _ (pyIter _) _ _ _)); (first | (k_unfold; (try dsimp only)) | (k_end; wrow_close) | walk1 | (dsimp only; walk1) | (leave1; try dsimp only))) | fail "stop")
  try dsimp only
  rw [m2_start (a := Str.ofString "row") (b := Str.ofString "name") (m := fun y => List.lookup y [(Str.ofString "row", Value.ref rl), (Str.ofString "names", Value.ref nl)].reverse) rfl rfl] at F9
  k_fold
  apply iter_strs (J := PutJ rl (fun y => List.lookup y [(Str.ofString "row", Value.ref rl), (Str.ofString "names", Value.ref nl)].reverse) R N)
  case hl => exact .inl hnl
  case hi => exact hys
  case hh => rfl
  case F => exact F9
  case N => exact N9
  case h0 => exact .inl ⟨none, rfl, rfl, rfl⟩
  case turn =>
    clear F9 N9
    rintro i y t m₁ led₁ I oI h tk hy hJ hne hI F9 N9
    have hyl := hN y (List.mem_of_getElem? hy)
    have hpl : (putAll R (N.take i)).length ≤ 50 := by
      have h1 := @putAll_len (N.take i) R
      have h2 : (N.take i).length ≤ N.length := List.length_take_le' _ _
      omega
    have hpd : ((putAll R (N.take i)).map Txt.lower).Nodup := putAll_dist hdist
    have hps : ∀ y ∈ putAll R (N.take i), y.length ≤ 1000 := putAll_sh hsh fun y hy => hN y (List.mem_of_mem_take hy)
    have e0 : N.take (i + 1) = N.take i ++ [y] := by rw [List.take_add_one, hy]; rfl
    rcases hJ with ⟨hv, rfl, hR, rfl⟩ | ⟨r, vs', k', hv, rfl, hsi', rfl⟩
    · rw [hR] at hpl hpd hps
      try dsimp only [m2] at F9
      repeat' (first | ((fail_if_success (with_reducible show wpAny _ _ (call (.ref 235) _) _ _ _)); (first | (k_unfold; (try dsimp only)) | (k_end; wrow_close) | walk1 | (dsimp only; walk1) | (leave1; try dsimp only))) | fail "stop")
      rename Fr _ _ _ _ => F8
      rename News _ _ _ _ => N8
      refine ar_raise (D := 600) (U := 600) rfl (Nat.le_of_ble_eq_true rfl) (Nat.le_of_ble_eq_true rfl) rfl ?_
      refine place_spec (R := R) X T (Cx.sub (cx_of B' F8 N8) fun a ha => nomatch ha) (F8.keep _ _ (hg _ _ h1 fun q => nomatch q)) hi hpl hpd hps hyl fun t' h' tk' kp => ?_
      have F7 := fr_back F8 N8 (kp.mono (V := []) fun a ha => nomatch ha) (fun a ha => nomatch ha)
      have N7 : News _ _ _ _ := news_back (news' := [(I, oI)]) N8 kp (fun p hp => .inl ⟨hp, fun q => nomatch q⟩)
      clear F8 N8
      dsimp only at F7 N7 ⊢
      k_steps
      · rename Fr _ _ _ _ => F6
        rename News _ _ _ _ => N6
        rename (place _ _ = -1) => hpl1
        have hin := place_neg.mp hpl1
        have e1 : putAll R (N.take (i + 1)) = R ++ [y] := by rw [e0, putAll_snoc, hR, put1, if_neg hin]
        refine kmk_add_lit F6 N6 (hrl.at fun o e => F6.keep _ o e) ⟨_, N6.get (.head _), rfl, _, rfl⟩ rfl (fun D h' F5 N5 l1 => ?_) (by rw [sizeLine_eq]; simp [hi.len_eq]; omega)
        clear F6 N6
        k_lt l1
        k_steps
        rename Fr _ _ _ _ => F4
        rename News _ _ _ _ => N4
        refine ⟨_, _, _, [(D, listOf (vs ++ [Value.str y t]).toArray 0)], rfl, F4, fun q hq => ?_, ?ne, .inr ⟨D, vs ++ [Value.str y t], 0, some (.str y t), rfl, e1.symm ▸ hi.append' (.cons y t .nil), ?em⟩⟩
        case ne => 
          intro q hq; rw [List.mem_singleton.mp hq]; exact Ne.symm (Nat.ne_of_lt (by omega))
        case em => exact m2_ab
        · rcases List.mem_cons.mp hq with rfl | hq
          · exact N4 _ (by k_mem)
          · rw [List.mem_singleton.mp hq]; exact N4 _ (by k_mem)
      · rename Fr _ _ _ _ => F6
        rename News _ _ _ _ => N6
        rename (_ ≠ -1) => hpl1
        have hin : Txt.lower y ∈ R.map Txt.lower := Decidable.byContradiction fun q => hpl1 (place_neg.mpr q)
        have e1 : putAll R (N.take (i + 1)) = R := by rw [e0, putAll_snoc, hR, put1, if_pos hin]
        refine ⟨_, _, _, [], rfl, F6, N6, hne, .inl ⟨some (.str y t), rfl, e1, m2_b (by decide)⟩⟩
    · generalize hR : putAll R (N.take i) = Ri at *
      have hne' := nn (hne _ (.head _))
      dsimp only at hne'
      try dsimp only [m2] at F9
      repeat' (first | ((fail_if_success (with_reducible show wpAny _ _ (call (.ref 235) _) _ _ _)); (first | (k_unfold; (try dsimp only)) | (k_end; wrow_close) | walk1 | (dsimp only; walk1) | (leave1; try dsimp only))) | fail "stop")
      rename Fr _ _ _ _ => F8
      rename News _ _ _ _ => N8
      refine ar_raise (D := 600) (U := 600) rfl (Nat.le_of_ble_eq_true rfl) (Nat.le_of_ble_eq_true rfl) rfl ?_
      refine place_spec (R := Ri) X T (Cx.sub (cx_of B' F8 N8) fun a ha => nomatch ha) (N8.get (.tail _ (.head _))) hsi' hpl hpd hps hyl fun t' h' tk' kp => ?_
      have F7 := fr_back F8 N8 (kp.mono (V := []) fun a ha => nomatch ha) (fun a ha => nomatch ha)
      have N7 : News _ _ _ _ := news_back (news' := [(I, oI), (r, listOf vs'.toArray k')]) N8 kp (fun p hp => .inl ⟨hp, fun q => nomatch q⟩)
      clear F8 N8
      dsimp only at F7 N7 ⊢
      k_steps
      · rename Fr _ _ _ _ => F6
        rename News _ _ _ _ => N6
        rename (place _ _ = -1) => hpl1
        have hin := place_neg.mp hpl1
        have e1 : putAll R (N.take (i + 1)) = Ri ++ [y] := by rw [e0, putAll_snoc, hR, put1, if_neg hin]
        refine kmk_add_lit F6 N6 ⟨_, N6.get (by k_mem), rfl, _, rfl⟩ ⟨_, N6.get (.head _), rfl, _, rfl⟩ rfl (fun D h' F5 N5 l1 => ?_) (by rw [sizeLine_eq]; simp [hsi'.len_eq]; omega)
        clear F6 N6
        k_lt l1
        k_steps
        rename Fr _ _ _ _ => F4
        rename News _ _ _ _ => N4
        refine ⟨_, _, _, [(D, listOf (vs' ++ [Value.str y t]).toArray 0)], rfl, F4, fun q hq => ?_, ?ne, .inr ⟨D, vs' ++ [Value.str y t], 0, some (.str y t), rfl, e1.symm ▸ hsi'.append' (.cons y t .nil), ?em⟩⟩
        case ne => 
          intro q hq; rw [List.mem_singleton.mp hq]; exact Ne.symm (Nat.ne_of_lt (by omega))
        case em => exact m2_ab
        · rcases List.mem_cons.mp hq with rfl | hq
          · exact N4 _ (by k_mem)
          · rw [List.mem_singleton.mp hq]; exact N4 _ (by k_mem)
      · rename Fr _ _ _ _ => F6
        rename News _ _ _ _ => N6
        rename (_ ≠ -1) => hpl1
        have hin : Txt.lower y ∈ Ri.map Txt.lower := Decidable.byContradiction fun q => hpl1 (place_neg.mpr q)
        have e1 : putAll R (N.take (i + 1)) = Ri := by rw [e0, putAll_snoc, hR, put1, if_pos hin]
        refine ⟨_, _, _, [(r, listOf vs'.toArray k')], rfl, F6, N6, hne, .inr ⟨r, vs', k', some (.str y t), rfl, e1.symm ▸ hsi', m2_b (by decide)⟩⟩
  case done =>
    clear F9 N9
    rintro h tk m₁ led₁ hJ F9 N9
    rw [PutJ, List.take_length] at hJ
    rcases hJ with ⟨hv, rfl, hR, rfl⟩ | ⟨r, vs', k', hv, rfl, hsi', rfl⟩
    · try dsimp only [m2] at F9
      k_steps
      rename Fr _ _ _ _ => F6
      exact ret _ _ _ _ _ (F6.keep _ _ (hg _ _ h1 fun q => nomatch q)) (hR.symm ▸ hi) (fun b o e _ => F6.keep b o (hg b o e fun q => nomatch q)) (.inl rfl)
    · try dsimp only [m2] at F9
      k_steps
      rename Fr _ _ _ _ => F6
      rename News _ _ _ _ => N6
      refine ret _ _ _ _ _ (N6.get (.head _)) hsi' (fun b o e _ => F6.keep b o (hg b o e fun q => nomatch q)) (.inr ?_)
      cases e : s.heap.get? r with
      | none => rfl
      | some o => have := hg _ _ e (fun q => nomatch q); rw [(N6 _ (.head _)).2.2] at this; cases this
end
end Mine
end

-- part Sr
section
open PySem PySem.W PySem.Calls PyProof.Rows PySem.Spec
set_option maxRecDepth 100000
namespace Mine

theorem perm_of_cover {α : Type} [DecidableEq α] : ∀ {ks L : List α}, ks.Nodup → (∀ k ∈ ks, k ∈ L) → L.length ≤ ks.length → L.Perm ks
  | [], L, _, _, hl => by
    have : L = [] := List.eq_nil_of_length_eq_zero (Nat.le_zero.mp hl)
    rw [this]
  | k :: r, L, hn, hc, hl => by
    have hk : k ∈ L := hc k (.head _)
    have hn' := List.nodup_cons.mp hn
    refine (List.perm_cons_erase hk).trans (List.Perm.cons k (perm_of_cover hn'.2 (fun x hx => ?_) ?_))
    · exact (List.mem_erase_of_ne (fun q : x = k => hn'.1 (q ▸ hx))).mpr (hc x (.tail _ hx))
    · rw [List.length_erase_of_mem hk]
      exact Nat.sub_le_of_le_add hl

def keyOf (e : Int × Value) : Str := match e.2 with | .str k _ => k | _ => Str.empty

section
variable {prog : Program} {w : World}
theorem is_str {k : Str} {v : Value} (h : (PySem.strKind prog w).is k v = true) : ∃ t, v = .str k t := by
  exact Value.isStrOf_shape h
theorem keys_of {es : List (Int × Value)} (h : ElemsOf (PySem.strKind prog w) es) : ∀ e ∈ es, ∃ t, e.2 = .str (keyOf e) t := fun e he => by
  obtain ⟨⟨k, hk, _⟩, _⟩ := h e he
  obtain ⟨t, e'⟩ := is_str hk
  exact ⟨t, by rw [keyOf, e']⟩
theorem mem_keys {es : List (Int × Value)} (h : ElemsOf (PySem.strKind prog w) es) (k : Str) : (∃ e ∈ es, (PySem.strKind prog w).is k e.2 = true) ↔ k ∈ es.map keyOf := by
  constructor
  · rintro ⟨e, he, hk⟩
    obtain ⟨t, e'⟩ := is_str hk
    exact List.mem_map.mpr ⟨e, he, by rw [keyOf, e']⟩
  · intro hm
    obtain ⟨e, he, rfl⟩ := List.mem_map.mp hm
    obtain ⟨t, e'⟩ := keys_of h e he
    exact ⟨e, he, by rw [e']; exact strKind_is _ _ _ _⟩
/-- the set's entries are just the keys told -/
theorem keys_perm {es : List (Int × Value)} {ks : List Str} (h : ElemsOf (PySem.strKind prog w) es) (hm : ∀ k, skey ks k = true ↔ ∃ e ∈ es, (PySem.strKind prog w).is k e.2 = true) (hn : ks.Nodup) (hl : es.length = ks.length) : (es.map keyOf).Perm ks :=
  perm_of_cover hn (fun k hk => (mem_keys h k).mp ((hm k).mp (decide_eq_true hk))) (by rw [List.length_map, hl]; exact Nat.le_refl _)

theorem eraseAt_toList {α : Type} (xs : Array α) (i : Nat) : (SetTable.eraseAt xs i).toList = xs.toList.eraseIdx i := by
  unfold SetTable.eraseAt
  rw [Array.toList_append, Array.toList_extract, Array.toList_extract, List.eraseIdx_eq_take_drop_succ]
  simp [List.extract_eq_take_drop, List.take_of_length_le]
theorem drop_fits {tb : SetTable} {n i : Nat} (h : tb.fits n = true) (hi : i < n) : (tb.drop i).fits (n - 1) = true := by
  simp only [SetTable.fits, SetTable.fill, Bool.and_eq_true, beq_iff_eq] at h
  have hp : i < tb.place.size := by rw [h.1]; exact hi
  have ed : tb.drop i = { tb with place := SetTable.eraseAt tb.place i, dummies := SetTable.insertAt tb.dummies (SetTable.below tb.dummies tb.place[i]) tb.place[i] } := by
    unfold SetTable.drop
    rw [Array.getElem?_eq_getElem hp]
  rw [ed]
  have e1 : (SetTable.eraseAt tb.place i).size = tb.place.size - 1 := by
    rw [← Array.length_toList, eraseAt_toList, List.length_eraseIdx, if_pos (by rw [Array.length_toList]; exact hp), Array.length_toList]
  have e2 : ∀ j, (SetTable.insertAt tb.dummies (SetTable.below tb.dummies j) j).size = tb.dummies.size + 1 := fun j => by
    rw [← Array.length_toList, (SetTable.insertAt_perm ..).length_eq, Array.length_toList, Array.size_push]
  simp only [SetTable.fits, SetTable.fill, Bool.and_eq_true, beq_iff_eq, e1, e2]
  have h2 := of_decide_eq_true h.2
  exact ⟨by rw [h.1], decide_eq_true (by omega)⟩
theorem map_eraseIdx {α β : Type} (f : α → β) : ∀ (L : List α) (j : Nat), (L.eraseIdx j).map f = (L.map f).eraseIdx j
  | [], _ => rfl
  | _ :: _, 0 => rfl
  | a :: r, j + 1 => by simp [map_eraseIdx f r j]
theorem eraseIdx_erase {α : Type} [DecidableEq α] : ∀ {L : List α} {j : Nat} (h : j < L.length), L.Nodup → L.eraseIdx j = L.erase L[j]
  | a :: r, 0, _, _ => by simp
  | a :: r, j + 1, h, hn => by
    have hn' := List.nodup_cons.mp hn
    have hj : j < r.length := Nat.lt_of_succ_lt_succ h
    have ne : a ≠ r[j] := fun q => hn'.1 (q ▸ List.getElem_mem hj)
    rw [List.eraseIdx_cons_succ, List.getElem_cons_succ, List.erase_cons, if_neg (by simpa using ne), eraseIdx_erase hj hn'.2]

theorem call_set_remove {A : Around} {E : Value → Shared → Prop} {s : Shared} {a : Addr} {y : Str} {t : Tok} {ks : List Str} {so : Obj} {Q : Value → Shared → Prop}
    (ho : s.heap.get? a = some so) (hso : so.SetObjOf (PySem.strKind prog w) (skey ks) ks.length) (sp : SetP w so) (hn : ks.Nodup) (hy : y ∈ ks) (hb : ks.length < scanBound)
    (h : ∀ h' so', Heap.SameBut a s.heap h' → h'.get? a = some so' → so'.SetObjOf (PySem.strKind prog w) (skey (ks.erase y)) (ks.erase y).length → SetP w so' → Q .none { s with heap := h', toks := s.toks + 1 }) :
    wpAny (model prog w) A (call (.builtin "set.remove") [.ref a, .str y t]) Q E s := by
  obtain ⟨hex, es, ep, tb, hd, hel, hmem, hsz, hf⟩ := hso
  have hT : s.TypeIs (.ref a) "set" := ⟨so, ho, hex.1⟩
  refine wpAny_call_entry F.slot_set_remove hT F.entry_set_remove ?_ (F.args_set_remove_2 _ _)
  unfold Builtin.«set.remove» Builtin.Frozenset.oneOther
  simp only [List.isEmpty_nil, bind_assoc]
  unfold Builtin.Frozenset.addrOf
  refine wpAny_bind (wpAny_pure ?_)
  try dsimp only
  refine wpAny_bind (wpAny_pure ?_)
  try dsimp only
  unfold Builtin.Frozenset.withSetAsKey setDiscard setDiscardHashed
  refine wpAny_bind (wpAny_tryCatch ?_)
  refine wpAny_holding ?_
  refine wpAny_bind ((PySem.strKind prog w).pyHash (strKind_is _ _ y t) ?_)
  have hbs : es.size < scanBound := by rw [hsz]; exact hb
  unfold setFind setFindIn
  refine wpAny_bind ?_
  refine wpAny_bind (wpAny_setState_of (s := { s with toks := s.toks + 1 }) ho hd hf ?_)
  dsimp only
  rw [byScan_of (by rfl) hbs hel]
  simp only [↓reduceIte]
  refine wpAny_bind (wpAny_rule ?_)
  refine wpAny_bind (wpAny_setScan_of (s := { s with toks := s.toks + 1 }) (strKind_is _ _ y t) ho hd hf hel ?_)
  have hpm := keys_perm hel hmem hn (by rw [Array.length_toList]; exact hsz)
  cases hr : List.findIdx? (fun e => (PySem.strKind prog w).is y e.2) es.toList with
  | none =>
    exfalso
    obtain ⟨e, he, hp⟩ := (hmem y).mp (decide_eq_true hy)
    have := List.findIdx?_eq_none_iff.mp hr e he; rw [hp] at this; exact Bool.noConfusion this
  | some j =>
    obtain ⟨hj, hpj, _⟩ := List.findIdx?_eq_some_iff_getElem.mp hr
    dsimp only
    refine wpAny_pure ?_
    dsimp only
    refine wpAny_bind (wpAny_setState_of (s := { s with toks := s.toks + 1 }) ho hd hf ?_)
    dsimp only
    have hjs : j < es.size := by rw [← Array.length_toList]; exact hj
    have el : (SetTable.eraseAt es (0 + j)).toList = es.toList.eraseIdx j := by rw [Nat.zero_add, eraseAt_toList]
    have esz : (SetTable.eraseAt es (0 + j)).size = es.size - 1 := by
      rw [← Array.length_toList, el, List.length_eraseIdx, if_pos hj, Array.length_toList]
    refine wpAny_bind (wpAny_storeSet_of (s := { s with toks := s.toks + 1 }) ho hd ?_ (fits_of_scanBound (by rw [esz]; omega)))
    refine wpAny_bind (wpAny_point (wpAny_pure ?_))
    simp only [Bool.not_true, Bool.false_eq_true, ↓reduceIte]
    obtain ⟨q, hq⟩ := is_str hpj
    have hkj : keyOf es.toList[j] = y := by rw [keyOf, hq]
    have hel' : ElemsOf (PySem.strKind prog w) (es.toList.eraseIdx j) := fun e he => hel e (List.mem_of_mem_eraseIdx he)
    have hnk : (es.toList.map keyOf).Nodup := hpm.nodup_iff.mpr hn
    have hme : ∀ k, skey (ks.erase y) k = true ↔ ∃ e ∈ (SetTable.eraseAt es (0 + j)).toList, (PySem.strKind prog w).is k e.2 = true := fun k => by
      rw [el, mem_keys hel', skey, decide_eq_true_eq, hn.mem_erase_iff, ← hpm.mem_iff]
      have e3 : (es.toList.eraseIdx j).map keyOf = (es.toList.map keyOf).erase y := by
        have e4 := eraseIdx_erase (L := es.toList.map keyOf) (j := j) (by rw [List.length_map]; exact hj) hnk
        rw [List.getElem_map, hkj] at e4
        rw [← e4, map_eraseIdx]
      rw [e3, hnk.mem_erase_iff]
    obtain ⟨hg, _⟩ := SetOf_store (knd := PySem.strKind prog w) (t' := tb.drop (0 + j)) ho hex hd (by rw [el]; exact hel') hme (by rw [esz]; omega) (by rw [esz, Nat.zero_add]; exact drop_fits hf hjs)
    refine wpAny_pure ⟨_, rfl, h _ _ (Heap.SameBut.update ..) hg ⟨hex, _, _, _, rfl, by rw [el]; exact hel', hme, ?_, by rw [esz, Nat.zero_add]; exact drop_fits hf hjs⟩ ?_⟩
    · rw [esz, List.length_erase_of_mem hy, hsz]
    · intro es' ep' t' e
      cases e
      have h1 : tb.plain = false := (sp _ _ _ hd).1.resolve_left (by omega)
      have h2 := (sp _ _ _ hd).2
      rw [Nat.zero_add]
      unfold SetTable.drop
      split
      · exact ⟨.inr h1, h2⟩
      · exact ⟨.inr h1, h2⟩
end
end Mine
end

-- part C9
section
open PySem PySem.W PySem.Calls PyProof.Rows PySem.Spec
set_option maxRecDepth 100000
namespace Mine
/-- how a def of the text leaves when it raises -/
def Raises (hb : Heap) (out : List Env) (news : List (Addr × Obj)) (X : String) (s : Shared) (E : Value → Shared → Prop) : Prop :=
  ∀ G e h' tk, (∀ b o, s.heap.get? b = some o → b ∉ news.map (·.1) → G.get? b = some o) → (∀ b o, G.get? b = some o → s.heap.get? b = some o) →
    RaisedSN hb G out e (.type X) news h' → G.UpToSlots h' → E (.ref e) { s with heap := h', toks := tk }

theorem dicts_of {fs : List Addr} {h g : Heap} {as : List Addr} (D : KtsDicts fs h) (hg : ∀ b o, h.get? b = some o → b ∉ as → g.get? b = some o) (n : ∀ a ∈ as, a ∉ fs) : KtsDicts fs g := fun b hb => by
  obtain ⟨o, es, k, e, d⟩ := D b hb
  exact ⟨o, es, k, hg b o e (fun q => n b q hb), d⟩
theorem Cx.nofs {hb h : Heap} {out : List Env} {W : List Addr} (cx : Cx hb out h W) : ∀ a ∈ W, a ∉ out.filterMap (·.frame) := fun a ha hm => by
  obtain ⟨env, he, hf⟩ := List.mem_filterMap.mp hm
  exact (cx.off a ha).2 env he hf

section
variable {w : World} {hb : Heap} {p : Program} {loose : List Str} {mean : ExcName → Option Value} {mg mb : Str → Option Value} {out : List Env}
  {s : Shared} {Q : Value → Shared → Prop} {E : Value → Shared → Prop} {x dx l sa : Addr} {t1 t2 t3 : Tok} {k : Nat} {vs : List Value} {R : List Str} {so : Obj}

set_option maxHeartbeats 8000000 in
theorem remove_err {y : Str} {t : Tok} (X : (hd.heap_39 w.params).In hb) (T : Top p loose mean mg mb hb) (H : HS w s.heap x dx l sa t1 t2 t3 k vs R so) (cx : Cx hb out s.heap [x, dx, l, sa]) (D : KtsDicts (out.filterMap (·.frame)) s.heap) (hy : y.length ≤ 1000) (hlow : Txt.lower y = y)
    (hno : y ∉ R.map Txt.lower) (err : Raises hb out (hsNews w x dx l sa t1 t2 t3 k vs so) "KeyError" s E) :
    wpAny (model PySem.Challenge.rw_fa0002_01.row.prog w) (AR 400 400 out) (call (.ref 65) [.ref x, .str y t]) Q E s := by
  revert X; k_fill; intro X
  refine wpAny_call ?_
  obtain ⟨n1, n2, n3, n4, n5, n6⟩ := H.neN
  have hn := H.get
  refine' enter (binds := [(Str.ofString "self", .ref x), (Str.ofString "header", .str y t)]) (hsNews w x dx l sa t1 t2 t3 k vs so) X T cx hn ?ho ?hcd ?hroom ?hbind ?hloc ?_ ?c2 ?c3 ?c4 ?c5
  case ho => k_is
  case hcd => k_is
  case hroom => decide
  case hbind => exact BindsTo.of_eq rfl
  case hloc => exact locs rfl
  case c2 => exact rfl
  case c3 => exact rfl
  case c4 => exact rfl
  case c5 => decide
  intro g L' h₁ st' hg hg2 hsz F' N' B' X' T'
  have hso := H.ss
  have hlen := H.len
  have D' := dicts_of D hg cx.nofs
  try dsimp only
  all_goals try k_fold
  repeat' (first | ((fail_if_success (with_reducible show wpAny _ _ (getMethod _ (Str.ofString "remove") _) _ _ _)); (first | (k_unfold; (try dsimp only)) | (k_end; wrow_close) | walk1 | (dsimp only; walk1) | (leave1; try dsimp only))) | fail "stop")
  · rename (skey _ _ = true) => hin
    rw [hlow] at hin
    exact absurd (of_decide_eq_true hin) hno
  · rename RaisedSN _ _ _ _ _ _ _ => R9
    rename Heap.UpToSlots _ _ => U9
    exact err g _ _ _ hg hg2 R9 U9
end
end Mine
end

-- part C10
section
open PySem PySem.W PySem.Calls PyProof.Rows PySem.Spec
set_option maxRecDepth 100000
namespace Mine
theorem rebase {A : Around} {hb g h : Heap} {out : List Env} {L l : Addr} {o : Obj} {m : Str → Option Value} {news : List (Addr × Obj)} {K : Frag} {p : Program} {loose : List Str} {mean : ExcName → Option Value} {mg mb : Str → Option Value}
    (B : Below A hb out g) (F : Fr g L h m) (N : News g L h news) (X : K.In hb) (T : Top p loose mean mg mb hb) (hl : g.get? l = some o) (off : hb.get? l = none ∧ ∀ env ∈ out, env.frame ≠ some l) :
    ∃ g₂, Fr g₂ L h m ∧ News g₂ L h ((l, o) :: news) ∧ Below A hb out g₂ ∧ K.In g₂ ∧ Top p loose mean mg mb g₂ ∧ (∀ b o, g.get? b = some o → b ≠ l → g₂.get? b = some o) ∧ (∀ b o, g₂.get? b = some o → g.get? b = some o) := by
  have up : ∀ b o, g.get? b = some o → b ≠ l → (hideAll g [l]).get? b = some o := fun b o e n => hideAll_get _ e (by simpa using n)
  have st : hb.StaysIn (hideAll g [l]) := fun b o e => up b o (B.stays b o e) fun q => by rw [q, off.1] at e; cases e
  refine ⟨hideAll g [l], ⟨F.ns, fun b o e => F.keep b o (of_hideAll _ e), by rw [hideAll_size]; exact F.above⟩, fun q hq => ?_, ⟨B.stack, st, funFrames_hideAll B.frames fun env he b hb' hf => ?_⟩, X.keeps st, T.keeps st, up, fun b o e => of_hideAll _ e⟩
  · rcases List.mem_cons.mp hq with rfl | hq
    · exact ⟨F.keep _ _ hl, (fun q => by rw [show l = L from q, kts_self F] at hl; cases hl), hideAll_none _ (.head _)⟩
    · refine ⟨(N q hq).1, (N q hq).2.1, ?_⟩
      cases e : (hideAll g [l]).get? q.1 with
      | none => rfl
      | some o => have := of_hideAll _ e; rw [(N q hq).2.2] at this; cases this
  · rw [List.mem_singleton.mp hb'] at hf
    exact off.2 env he hf

theorem getMethod_set_remove {prog : Program} {w : World} {A : Around} {E : Value → Shared → Prop} {s : Shared} {a : Addr} {so : Obj} {pl : Sem Bool} {Q : Value × List Value → Shared → Prop} (ho : s.heap.get? a = some so) (hx : so.ExactSet) (h : Q (.builtin "set.remove", [.ref a]) s) :
    wpAny (model prog w) A (getMethod (.ref a) "remove" pl) Q E s :=
  getMethod_builtin ⟨so, ho, hx.1⟩ F.plainAttrs_set F.slot_set_remove F.type_set_remove (fun b e => by injection e with e; subst e; exact ⟨so, ho, hx.2.1⟩) h

theorem erase_low {R : List Str} {y a : Str} {i : Nat} (hd : (R.map Txt.lower).Nodup) (ha : R[i]? = some a) (e : Txt.lower a = y) : (R.map Txt.lower).erase y = (R.eraseIdx i).map Txt.lower := by
  obtain ⟨hi, e1⟩ := List.getElem?_eq_some_iff.mp ha
  have hi' : i < (R.map Txt.lower).length := by rw [List.length_map]; exact hi
  rw [map_eraseIdx, eraseIdx_erase hi' hd, List.getElem_map, e1, e]

theorem strs_eraseIdx : ∀ {vs : List Value} {R : List Str}, StrsAre vs R → ∀ i, StrsAre (vs.eraseIdx i) (R.eraseIdx i)
  | _, _, .nil, _ => .nil
  | _, _, .cons _ _ h, 0 => h
  | _, _, .cons y t h, i + 1 => .cons y t (strs_eraseIdx h i)
theorem m2_if {a b : Str} {va : Option Value} {m : Str → Option Value} (hb : m b = none) : (fun z => if z = a then va else m z) = m2 a b va none m := by
  funext z
  unfold m2
  by_cases h1 : z = a
  · simp [h1]
  · by_cases h2 : z = b
    · subst h2; simp [h1, hb]
    · simp [h1, h2]
def RemJ (m₀ : Str → Option Value) (led : List (Addr × Obj)) (R : List Str) (y : Str) (i : Nat) (m₁ : Str → Option Value) (led₁ : List (Addr × Obj)) : Prop :=
  led₁ = led ∧ (∀ a ∈ R.take i, Txt.lower a ≠ y) ∧ ∃ kv iv, m₁ = m2 (Str.ofString "key") (Str.ofString "idx") kv iv m₀
section
variable {w : World} {hb : Heap} {p : Program} {loose : List Str} {mean : ExcName → Option Value} {mg mb : Str → Option Value} {out : List Env}
  {s : Shared} {Q : Value → Shared → Prop} {E : Value → Shared → Prop} {x dx l sa : Addr} {t1 t2 t3 : Tok} {k : Nat} {vs : List Value} {R : List Str} {so : Obj}

set_option maxHeartbeats 8000000 in
theorem remove_ok {y : Str} {t : Tok} {i₀ : Nat} {a₀ : Str} (X : (hd.heap_39 w.params).In hb) (T : Top p loose mean mg mb hb) (H : HS w s.heap x dx l sa t1 t2 t3 k vs R so) (cx : Cx hb out s.heap [x, dx, l, sa]) (hy : y.length ≤ 1000) (hlow : Txt.lower y = y)
    (hi₀ : R[i₀]? = some a₀) (ha₀ : Txt.lower a₀ = y)
    (ret : ∀ h' tk k' vs' so', HS w h' x dx l sa t1 t2 t3 k' vs' (R.eraseIdx i₀) so' → Kp [x, dx, l, sa] s.heap h' → Q .none { s with heap := h', toks := tk }) :
    wpAny (model PySem.Challenge.rw_fa0002_01.row.prog w) (AR 400 400 out) (call (.ref 65) [.ref x, .str y t]) Q E s := by
  revert X; k_fill; intro X
  refine wpAny_call ?_
  obtain ⟨n1, n2, n3, n4, n5, n6⟩ := H.neN
  have hn : ∀ q ∈ [(x, instObj 181 dx), (dx, hsD w.params t1 t2 t3 l sa), (sa, so)], s.heap.get? q.1 = some q.2 := by
    intro q hq
    rcases List.mem_cons.mp hq with rfl | hq
    · exact H.hx
    rcases List.mem_cons.mp hq with rfl | hq
    · exact H.hd
    · rw [List.mem_singleton.mp hq]; exact H.hs
  refine' enter (binds := [(Str.ofString "self", .ref x), (Str.ofString "header", .str y t)]) [(x, instObj 181 dx), (dx, hsD w.params t1 t2 t3 l sa), (sa, so)] X T ?cx hn ?ho ?hcd ?hroom ?hbind ?hloc ?_ ?c2 ?c3 ?c4 ?c5
  case cx => exact cx.sub (fun a ha => by simp only [List.map_cons, List.map_nil, List.mem_cons, List.not_mem_nil, or_false] at ha ⊢; rcases ha with h | h | h <;> simp [h])
  case ho => k_is
  case hcd => k_is
  case hroom => decide
  case hbind => exact BindsTo.of_eq rfl
  case hloc => exact locs rfl
  case c2 => exact rfl
  case c3 => exact rfl
  case c4 => exact rfl
  case c5 => decide
  intro g L' h₁ st' hg hg2 hsz F' N' B' X' T'
  have hso := H.ss
  have hlen := H.len
  have hlg := hg _ _ H.hl (by simp only [List.map_cons, List.map_nil, List.mem_cons, List.not_mem_nil, or_false, not_or]; exact ⟨Ne.symm n2, Ne.symm n4, n6⟩)
  have hl : g.IsList l vs.toArray := ⟨_, hlg, rfl, k, rfl⟩
  have hsi := H.si
  have hsh := H.sh
  have hin0 : y ∈ R.map Txt.lower := List.mem_map.mpr ⟨a₀, List.mem_of_getElem? hi₀, ha₀⟩
  try dsimp only
  all_goals try k_fold
  repeat' (first | ((fail_if_success (with_reducible show wpAny _ _ (getMethod _ (Str.ofString "remove") _) _ _ _)); (first | (k_unfold; (try dsimp only)) | (k_end; wrow_close) | walk1 | (dsimp only; walk1) | (leave1; try dsimp only))) | fail "stop")
  rotate_left
  · rename (skey _ _ = false) => hin
    rw [hlow] at hin
    exact absurd hin0 (of_decide_eq_false hin)
  rename (skey _ _ = true) => hin
  rw [hlow] at hin
  rename Fr _ _ _ _ => F9
  rename News _ _ _ _ => N9
  refine getMethod_set_remove (N9.get (by k_mem)) hso.1 ?_
  repeat' (first | ((fail_if_success (with_reducible show wpAny _ _ (call _ _) _ _ _)); (first | (k_unfold; (try dsimp only)) | (k_end; wrow_close) | walk1 | (dsimp only; walk1) | (leave1; try dsimp only))) | fail "stop")
  have hlenR : (R.map Txt.lower).length = R.length := List.length_map ..
  rw [hlow]
  refine call_set_remove (ks := R.map Txt.lower) (N9.get (by k_mem)) (hlenR.symm ▸ hso) H.sp H.dist hin0 (by rw [hlenR]; unfold scanBound; omega) fun h' so' hs hso1 hso2 hsp2 => ?_
  have kp1 : Kp [sa] _ h' := fun b o e n => hs.extBut b o (fun q => n (q ▸ .head _)) e
  have F8 := fr_back F9 N9 kp1 (fun a ha => by rw [List.mem_singleton.mp ha]; simp)
  have N8 : News g L' h' [(x, instObj 181 dx), (dx, hsD w.params t1 t2 t3 l sa), (sa, so')] := news_back N9 kp1 (fun q hq => by
    rcases List.mem_cons.mp hq with rfl | hq
    · exact .inl ⟨.head _, by simpa using n3⟩
    rcases List.mem_cons.mp hq with rfl | hq
    · exact .inl ⟨.tail _ (.head _), by simpa using n5⟩
    · rw [List.mem_singleton.mp hq]; exact .inr ⟨by simp, hso1⟩)
  clear F9 N9
  dsimp only at F8 N8 ⊢
  repeat' (first | ((fail_if_success (with_reducible show wpAny _ _ (call (Value.type "enumerate") _) _ _ _)); (first | (k_unfold; (try dsimp only)) | (k_end; wrow_close) | walk1 | (dsimp only; walk1) | (leave1; try dsimp only))) | fail "stop")
  rename Fr _ _ _ _ => F9
  rename News _ _ _ _ => N9
  apply call_enum_list rfl hl (StrsAre.areOf hsi) F9 N9
  clear F9 N9
  intro h9 e9 F9 N9 S9
  dsimp only
  k_fold
  refine (S9.at _ rfl) _ _ _ _ (RemJ (fun y_1 => List.lookup y_1 [(Str.ofString "self", Value.ref x), (Str.ofString "header", Value.str y t)].reverse) [(x, instObj 181 dx), (dx, hsD w.params t1 t2 t3 l sa), (sa, so')] R y) ⟨rfl, by simp, _, _, m2_if rfl⟩ ?turn ?done
  case turn =>
    clear F9 N9
    rintro i a ti v m₁ led₁ s₁ own ⟨h2, tk2, rfl⟩ ha hk ⟨rfl, hJ, kv, iv, rfl⟩ - hown F9 N9
    obtain ⟨t', rfl⟩ := ItemKind.str_is hk
    have hal := hsh a (List.mem_of_getElem? ha)
    dsimp only [m2] at F9 N9 ⊢
    k_steps
    · rename ((Txt.lower a == y) = true) => hay
      have hay' : Txt.lower a = y := eq_of_beq hay
      have hi : i = i₀ := by
        have q1 : (R.map Txt.lower)[i]? = some y := by rw [List.getElem?_map, ha, Option.map_some, hay']
        have q2 : (R.map Txt.lower)[i₀]? = some y := by rw [List.getElem?_map, hi₀, Option.map_some, ha₀]
        exact (List.getElem?_inj (by rw [List.length_map]; exact (List.getElem?_eq_some_iff.mp ha).1) H.dist).mp (q1.trans q2.symm)
      subst hi
      have hiR : i < R.length := (List.getElem?_eq_some_iff.mp ha).1
      have hiv : i < vs.length := by rw [hsi.len_eq]; exact hiR
      have N9' : News g _ h2 [(x, instObj 181 dx), (dx, hsD w.params t1 t2 t3 l sa), (sa, so')] := fun q hq => N9 q (List.mem_append_right _ hq)
      obtain ⟨g₂, F8, N8, B8, X8, T8, hu, hd⟩ := rebase B' F9 N9' X T hlg (cx.off l (by simp))
      clear F9 N9 N9' B' X' T' hl S9
      refine delItem_at (N8.get (.head _)) (k := i) ?fit ?idx (fun h3 hs3 hl3 => ?_) ?sz
      case fit => unfold Builtin.List.listFitsIndex; simp; omega
      case idx =>
        have q1 : ¬ ((i : Int) < 0) := by omega
        have q2 : (0 : Int) ≤ i ∧ (i : Int) < vs.length := by omega
        simp [seqIndex?, q1, q2.1, q2.2, hiv]
      case sz => rw [List.size_toArray, hsi.len_eq, sizeLine_eq]; omega
      have F7 := F8.change hs3 (N8 _ (.head _)).2.1 (N8 _ (.head _)).2.2
      have N7 : News g₂ _ h3 [(l, listOf (vs.eraseIdx i).toArray (k + 1)), (x, instObj 181 dx), (dx, hsD w.params t1 t2 t3 l sa), (sa, so')] := N8.setHead (by
        intro q hq
        rcases List.mem_cons.mp hq with rfl | hq
        · exact n2
        rcases List.mem_cons.mp hq with rfl | hq
        · exact n4
        · rw [List.mem_singleton.mp hq]; exact Ne.symm n6) hs3 (by simpa using hl3)
      clear F8 N8
      k_steps
      rename Fr _ _ _ _ => F6
      rename News _ _ _ _ => N6
      dsimp only at F6 N6 ⊢
      have el := erase_low H.dist ha hay'
      refine ret _ _ _ _ _ ⟨N6.get (by k_mem), N6.get (by k_mem), N6.get (by k_mem), N6.get (by k_mem), strs_eraseIdx hsi i, ?ss, ?dist, fun z hz => hsh z (List.mem_of_mem_eraseIdx hz), Nat.le_trans (List.length_eraseIdx_le ..) hlen, hsp2⟩ ?kp
      case ss => rw [el, List.length_map] at hso2; exact hso2
      case dist => rw [map_eraseIdx]; exact H.dist.sublist (List.eraseIdx_sublist ..)
      case kp => exact kp_out (fun b o e n => hu b o (hg b o e (fun q => n (by simp only [List.map_cons, List.map_nil, List.mem_cons, List.not_mem_nil, or_false] at q ⊢; rcases q with q | q | q <;> simp [q]))) (fun q => n (by simp [q]))) F6
    · rename ((Txt.lower a == y) = false) => hay
      refine ⟨rfl, fun z hz => ?_, _, _, m2_ab⟩
      rw [List.take_add_one, ha] at hz
      rcases List.mem_append.mp hz with hz | hz
      · exact hJ z hz
      · have : z = a := by simpa using hz
        subst this
        exact fun q => by rw [q] at hay; simp at hay
  case done =>
    clear F9 N9
    rintro h2 tk2 m₁ led₁ F9 N9 - ⟨rfl, hJ, -⟩
    exfalso
    rw [List.take_length] at hJ
    exact hJ a₀ (List.mem_of_getElem? hi₀) ha₀
end
end Mine
end

-- part C11
section
open PySem PySem.W PySem.Calls PyProof.Rows PySem.Spec
set_option maxRecDepth 100000
namespace Mine
/-- all kept but at W; a frame's slots may have moved -/
def KpS (fs W : List Addr) (h h' : Heap) : Prop := ∀ b o, h.get? b = some o → b ∉ W → ∃ sl, h'.get? b = some { o with slots := sl } ∧ (b ∉ fs → sl = o.slots)
theorem Kp.toS {fs W : List Addr} {h h' : Heap} (x : Kp W h h') : KpS fs W h h' := fun b o e n => ⟨o.slots, x b o e n, fun _ => rfl⟩
theorem KpS.mono {fs W V : List Addr} {h h' : Heap} (x : KpS fs W h h') (k : ∀ a ∈ W, a ∈ V) : KpS fs V h h' := fun b o e n => x b o e fun q => n (k b q)
theorem KpS.off {fs W : List Addr} {h h' : Heap} (x : KpS fs W h h') : Kp (fs ++ W) h h' := fun b o e n => by
  obtain ⟨sl, e', hs⟩ := x b o e (fun q => n (List.mem_append_right _ q))
  rw [hs (fun q => n (List.mem_append_left _ q))] at e'
  exact e'

section
variable {A : Around} {hb g g' h h₀ : Heap} {out : List Env} {L : Addr} {m : Str → Option Value} {news : List (Addr × Obj)} {cn : Str} {cs : Scope} {a : Addr} {cd : Value}
theorem dicts_push {fs : List Addr} (F : Fr g L h m) (D : KtsDicts fs h) : KtsDicts (L :: fs) h := fun b hb => by
  rcases List.mem_cons.mp hb with rfl | hb
  · obtain ⟨o, es, ep, e, d, _⟩ := F.ns
    exact ⟨o, es, ep, e, d⟩
  · exact D b hb
theorem dicts_up {fs : List Addr} (F : Fr g L h m) (D : KtsDicts fs g) : KtsDicts fs h := fun b hb => by
  obtain ⟨o, es, ep, e, d⟩ := D b hb
  exact ⟨o, es, ep, F.keep _ _ e, d⟩
theorem fr_ground {G : Heap} (F : Fr g L h m) (N : News g L h news) (hG : ∀ b o, h.get? b = some o → b ∉ news.map (·.1) → G.get? b = some o) : Fr g L G m := by
  refine ⟨F.ns.at' fun o e => hG _ o e fun q => ?_, fun b o e => hG b o (F.keep b o e) fun q => ?_, F.above⟩
  · obtain ⟨p, hp, e'⟩ := List.mem_map.mp q
    exact (N p hp).2.1 e'
  · obtain ⟨p, hp, rfl⟩ := List.mem_map.mp q
    rw [(N p hp).2.2] at e; cases e
/-- out of a def that caught something -/
theorem kps_out {fs W : List Addr} {m' : Str → Option Value} {L' : Addr} {h' : Heap} (hg : ∀ b o, h₀.get? b = some o → b ∉ W → g.get? b = some o) (T : KtsTurn fs g g') (F : Fr g' L' h' m') : KpS fs W h₀ h' := fun b o e n => by
  by_cases hb : b ∈ fs
  · obtain ⟨sl, e'⟩ := T.frame b o (hg b o e n) hb
    exact ⟨sl, F.keep _ _ e', fun q => absurd hb q⟩
  · exact ⟨o.slots, F.keep _ _ (T.other b o (hg b o e n) hb), fun _ => rfl⟩
end

/-- the row without the one that is alike -/
def cut (R : List Str) (y : Str) : List Str := match (R.map Txt.lower).findIdx? (· == Txt.lower y) with | some i => R.eraseIdx i | none => R
theorem cut_at {R : List Str} {y a : Str} {i : Nat} (hd : (R.map Txt.lower).Nodup) (ha : R[i]? = some a) (e : Txt.lower a = Txt.lower y) : cut R y = R.eraseIdx i := by
  unfold cut
  rw [findIdx_nodup hd (show (R.map Txt.lower)[i]? = some (Txt.lower y) by rw [List.getElem?_map, ha, Option.map_some, e])]
theorem cut_none {R : List Str} {y : Str} (h : Txt.lower y ∉ R.map Txt.lower) : cut R y = R := by
  unfold cut
  rw [List.findIdx?_eq_none_iff.mpr]
  intro z hz
  exact beq_eq_false_iff_ne.mpr fun q => h (q ▸ hz)

section
variable {w : World} {hb : Heap} {p : Program} {loose : List Str} {mean : ExcName → Option Value} {mg mb : Str → Option Value} {out : List Env}
  {s : Shared} {Q : Value → Shared → Prop} {E : Value → Shared → Prop} {x dx l sa : Addr} {t1 t2 t3 : Tok} {k : Nat} {vs : List Value} {R : List Str} {so : Obj}

set_option maxHeartbeats 8000000 in
theorem discard_spec {y : Str} {t : Tok} (X : (hd.heap_39 w.params).In hb) (T : Top p loose mean mg mb hb) (H : HS w s.heap x dx l sa t1 t2 t3 k vs R so) (cx : Cx hb out s.heap [x, dx, l, sa]) (D : KtsDicts (out.filterMap (·.frame)) s.heap) (hy : y.length ≤ 1000) (hlow : Txt.lower y = y)
    (ret : ∀ h' tk k' vs' so', HS w h' x dx l sa t1 t2 t3 k' vs' (cut R y) so' → KpS (out.filterMap (·.frame)) [x, dx, l, sa] s.heap h' → Q .none { s with heap := h', toks := tk }) :
    wpAny (model PySem.Challenge.rw_fa0002_01.row.prog w) (AR 300 300 out) (call (.ref 79) [.ref x, .str y t]) Q E s := by
  revert X; k_fill; intro X
  refine wpAny_call ?_
  obtain ⟨n1, n2, n3, n4, n5, n6⟩ := H.neN
  have hn := H.get
  refine' enter (binds := [(Str.ofString "self", .ref x), (Str.ofString "header", .str y t)]) (hsNews w x dx l sa t1 t2 t3 k vs so) X T cx hn ?ho ?hcd ?hroom ?hbind ?hloc ?_ ?c2 ?c3 ?c4 ?c5
  case ho => k_is
  case hcd => k_is
  case hroom => decide
  case hbind => exact BindsTo.of_eq rfl
  case hloc => exact locs rfl
  case c2 => exact rfl
  case c3 => exact rfl
  case c4 => exact rfl
  case c5 => decide
  intro g L' h₁ st' hg hg2 hsz F' N' B' X' T'
  have D' := dicts_of D hg cx.nofs
  try dsimp only
  all_goals try k_fold
  repeat' (first | ((fail_if_success (with_reducible show wpAny _ _ (call (.ref 65) _) _ _ _)); (first | (k_unfold; (try dsimp only)) | (k_end; wrow_close) | walk1 | (dsimp only; walk1) | (leave1; try dsimp only))) | fail "stop")
  rename Fr _ _ _ _ => F9
  rename News _ _ _ _ => N9
  refine ar_raise (D := 400) (U := 400) rfl (Nat.le_of_ble_eq_true rfl) (Nat.le_of_ble_eq_true rfl) rfl ?_
  by_cases hin : y ∈ R.map Txt.lower
  · obtain ⟨a₀, ha₀, hay⟩ := List.mem_map.mp hin
    obtain ⟨i₀, hi₀⟩ := List.getElem?_of_mem ha₀
    refine remove_ok X T (H.at_ fun q hq => (N9 q hq).1) (Cx.sub (cx_of B' F9 N9) fun a ha => ha) hy hlow hi₀ hay fun h' tk' k' vs' so' H' kp => ?_
    have e1 := cut_at H.dist hi₀ (hay.trans hlow.symm)
    have F7 := fr_back F9 N9 kp (fun a ha => ha)
    have kp2 : Kp [x, dx, l, sa] s.heap h' := kp_out hg F7
    clear N9 F9
    have N7 : News g L' h' [] := fun q hq => nomatch hq
    rw [← e1] at H'
    dsimp only at F7 N7 ⊢
    k_steps
    exact ret _ _ _ _ _ H' kp2.toS
  · refine remove_err X T (H.at_ fun q hq => (N9 q hq).1) (Cx.sub (cx_of B' F9 N9) fun a ha => ha) (dicts_push F9 (dicts_up F9 D')) hy hlow hin fun G e h' tk' hG hG2 R9 U9 => ?_
    have FG := fr_ground F9 N9 hG
    clear F9 N9
    dsimp only at FG ⊢
    k_steps
    rename KtsTurn _ _ _ => T9
    rename Fr _ _ _ _ => F9
    rename News _ _ _ _ => N9
    have H9 := H.at_ fun q hq => (N9 q hq).1
    rw [← cut_none (R := R) (y := y) (by rw [hlow]; exact hin)] at H9
    exact ret _ _ _ _ _ H9 (kps_out hg T9 F9)

set_option maxHeartbeats 8000000 in
theorem removed_spec {y : Str} {t : Tok} (X : (hd.heap_39 w.params).In hb) (T : Top p loose mean mg mb hb) (H : HS w s.heap x dx l sa t1 t2 t3 k vs R so) (cx : Cx hb out s.heap [x, dx, l, sa]) (D : KtsDicts (out.filterMap (·.frame)) s.heap) (hy : y.length ≤ 1000) (hlow : Txt.lower y = y)
    (ret : ∀ h' tk k' vs' so', HS w h' x dx l sa t1 t2 t3 k' vs' (cut R y) so' → KpS (out.filterMap (·.frame)) [x, dx, l, sa] s.heap h' → Q (.bool (decide (y ∈ R.map Txt.lower))) { s with heap := h', toks := tk }) :
    wpAny (model PySem.Challenge.rw_fa0002_01.row.prog w) (AR 300 300 out) (call (.ref 249) [.ref x, .str y t]) Q E s := by
  revert X; k_fill; intro X
  refine wpAny_call ?_
  obtain ⟨n1, n2, n3, n4, n5, n6⟩ := H.neN
  have hn := H.get
  refine' enter (binds := [(Str.ofString "heads", .ref x), (Str.ofString "name", .str y t)]) (hsNews w x dx l sa t1 t2 t3 k vs so) X T cx hn ?ho ?hcd ?hroom ?hbind ?hloc ?_ ?c2 ?c3 ?c4 ?c5
  case ho => k_is
  case hcd => k_is
  case hroom => decide
  case hbind => exact BindsTo.of_eq rfl
  case hloc => exact locs rfl
  case c2 => exact rfl
  case c3 => exact rfl
  case c4 => exact rfl
  case c5 => decide
  intro g L' h₁ st' hg hg2 hsz F' N' B' X' T'
  have D' := dicts_of D hg cx.nofs
  try dsimp only
  all_goals try k_fold
  repeat' (first | ((fail_if_success (with_reducible show wpAny _ _ (call (.ref 65) _) _ _ _)); (first | (k_unfold; (try dsimp only)) | (k_end; wrow_close) | walk1 | (dsimp only; walk1) | (leave1; try dsimp only))) | fail "stop")
  rename Fr _ _ _ _ => F9
  rename News _ _ _ _ => N9
  refine ar_raise (D := 400) (U := 400) rfl (Nat.le_of_ble_eq_true rfl) (Nat.le_of_ble_eq_true rfl) rfl ?_
  by_cases hin : y ∈ R.map Txt.lower
  · obtain ⟨a₀, ha₀, hay⟩ := List.mem_map.mp hin
    obtain ⟨i₀, hi₀⟩ := List.getElem?_of_mem ha₀
    refine remove_ok X T (H.at_ fun q hq => (N9 q hq).1) (Cx.sub (cx_of B' F9 N9) fun a ha => ha) hy hlow hi₀ hay fun h' tk' k' vs' so' H' kp => ?_
    have e1 := cut_at H.dist hi₀ (hay.trans hlow.symm)
    have F7 := fr_back F9 N9 kp (fun a ha => ha)
    have kp2 : Kp [x, dx, l, sa] s.heap h' := kp_out hg F7
    clear N9 F9
    have N7 : News g L' h' [] := fun q hq => nomatch hq
    rw [← e1] at H'
    dsimp only at F7 N7 ⊢
    rw [decide_eq_true hin] at ret
    k_steps
    exact ret _ _ _ _ _ H' kp2.toS
  · refine remove_err X T (H.at_ fun q hq => (N9 q hq).1) (Cx.sub (cx_of B' F9 N9) fun a ha => ha) (dicts_push F9 (dicts_up F9 D')) hy hlow hin fun G e h' tk' hG hG2 R9 U9 => ?_
    have FG := fr_ground F9 N9 hG
    clear F9 N9
    rw [decide_eq_false hin] at ret
    dsimp only at FG ⊢
    k_steps
    rename KtsTurn _ _ _ => T9
    rename Fr _ _ _ _ => F9
    rename News _ _ _ _ => N9
    have H9 := H.at_ fun q hq => (N9 q hq).1
    rw [← cut_none (R := R) (y := y) (by rw [hlow]; exact hin)] at H9
    exact ret _ _ _ _ _ H9 (kps_out hg T9 F9)
end
end Mine
end

-- part C12
section
open PySem PySem.W PySem.Calls PyProof.Rows PySem.Spec
set_option maxRecDepth 100000
namespace Mine
theorem place_nn {R : List Str} {y : Str} : place R y = -1 ∨ 0 ≤ place R y := by
  unfold place
  split
  · exact .inr (by omega)
  · exact .inl rfl
section
variable {w : World} {hb : Heap} {p : Program} {loose : List Str} {mean : ExcName → Option Value} {mg mb : Str → Option Value} {out : List Env}
  {s : Shared} {Q : Value → Shared → Prop} {E : Value → Shared → Prop} {x dx l sa : Addr} {t1 t2 t3 : Tok} {k : Nat} {vs : List Value} {R : List Str} {so : Obj}

set_option maxHeartbeats 8000000 in
theorem index_spec {y : Str} {t : Tok} (X : (hd.heap_39 w.params).In hb) (T : Top p loose mean mg mb hb) (H : HS w s.heap x dx l sa t1 t2 t3 k vs R so) (cx : Cx hb out s.heap [x, dx, l, sa]) (D : KtsDicts (out.filterMap (·.frame)) s.heap) (hy : y.length ≤ 1000)
    (ret : ∀ t' h' tk, 0 ≤ place R y → Kp [] s.heap h' → Q (.int (place R y) t') { s with heap := h', toks := tk })
    (err : place R y = -1 → Raises hb out (hsNews w x dx l sa t1 t2 t3 k vs so) "IndexError" s E) :
    wpAny (model PySem.Challenge.rw_fa0002_01.row.prog w) (AR 400 400 out) (call (.ref 93) [.ref x, .str y t]) Q E s := by
  revert X; k_fill; intro X
  refine wpAny_call ?_
  obtain ⟨n1, n2, n3, n4, n5, n6⟩ := H.neN
  have hn := H.get
  refine' enter (binds := [(Str.ofString "self", .ref x), (Str.ofString "header", .str y t)]) (hsNews w x dx l sa t1 t2 t3 k vs so) X T cx hn ?ho ?hcd ?hroom ?hbind ?hloc ?_ ?c2 ?c3 ?c4 ?c5
  case ho => k_is
  case hcd => k_is
  case hroom => decide
  case hbind => exact BindsTo.of_eq rfl
  case hloc => exact locs rfl
  case c2 => exact rfl
  case c3 => exact rfl
  case c4 => exact rfl
  case c5 => decide
  intro g L' h₁ st' hg hg2 hsz F' N' B' X' T'
  have D' := dicts_of D hg cx.nofs
  try dsimp only
  all_goals try k_fold
  repeat' (first | ((fail_if_success (with_reducible show wpAny _ _ (call (.ref 86) _) _ _ _)); (first | (k_unfold; (try dsimp only)) | (k_end; wrow_close) | walk1 | (dsimp only; walk1) | (leave1; try dsimp only))) | fail "stop")
  rename Fr _ _ _ _ => F9
  rename News _ _ _ _ => N9
  refine ar_raise (D := 500) (U := 500) rfl (Nat.le_of_ble_eq_true rfl) (Nat.le_of_ble_eq_true rfl) rfl ?_
  refine find_spec X T (H.at_ fun q hq => (N9 q hq).1) (Cx.sub (cx_of B' F9 N9) fun a ha => by simp only [List.mem_cons, List.not_mem_nil, or_false] at ha; rcases ha with h | h <;> simp [h]) hy fun t' h' tk' kp => ?_
  have F7 := fr_back F9 N9 kp (fun a ha => nomatch ha)
  have N7 : News g L' h' (hsNews w x dx l sa t1 t2 t3 k vs so) := news_back N9 kp fun q hq => .inl ⟨hq, fun q => nomatch q⟩
  clear F9 N9
  dsimp only at F7 N7 ⊢
  rcases place_nn (R := R) (y := y) with hp | hp
  · k_steps
    rename RaisedSN _ _ _ _ _ _ _ => R9
    rename Heap.UpToSlots _ _ => U9
    exact err hp g _ _ _ hg hg2 R9 U9
  · k_steps
    rename Fr _ _ _ _ => F9
    rename News _ _ _ _ => N9
    exact ret _ _ _ hp (kp_same hg hn F9 fun q hq => (N9 q hq).1)

set_option maxHeartbeats 8000000 in
theorem law_index_spec {y : Str} {t : Tok} (X : (hd.heap_39 w.params).In hb) (T : Top p loose mean mg mb hb) (H : HS w s.heap x dx l sa t1 t2 t3 k vs R so) (cx : Cx hb out s.heap [x, dx, l, sa]) (D : KtsDicts (out.filterMap (·.frame)) s.heap) (hy : y.length ≤ 1000)
    (ret : ∀ t' h' tk, HS w h' x dx l sa t1 t2 t3 k vs R so → KpS (out.filterMap (·.frame)) [x, dx, l, sa] s.heap h' → Q (.int (place R y) t') { s with heap := h', toks := tk }) :
    wpAny (model PySem.Challenge.rw_fa0002_01.row.prog w) (AR 300 300 out) (call (.ref 256) [.ref x, .str y t]) Q E s := by
  revert X; k_fill; intro X
  refine wpAny_call ?_
  obtain ⟨n1, n2, n3, n4, n5, n6⟩ := H.neN
  have hn := H.get
  refine' enter (binds := [(Str.ofString "heads", .ref x), (Str.ofString "name", .str y t)]) (hsNews w x dx l sa t1 t2 t3 k vs so) X T cx hn ?ho ?hcd ?hroom ?hbind ?hloc ?_ ?c2 ?c3 ?c4 ?c5
  case ho => k_is
  case hcd => k_is
  case hroom => decide
  case hbind => exact BindsTo.of_eq rfl
  case hloc => exact locs rfl
  case c2 => exact rfl
  case c3 => exact rfl
  case c4 => exact rfl
  case c5 => decide
  intro g L' h₁ st' hg hg2 hsz F' N' B' X' T'
  have D' := dicts_of D hg cx.nofs
  try dsimp only
  all_goals try k_fold
  repeat' (first | ((fail_if_success (with_reducible show wpAny _ _ (call (.ref 93) _) _ _ _)); (first | (k_unfold; (try dsimp only)) | (k_end; wrow_close) | walk1 | (dsimp only; walk1) | (leave1; try dsimp only))) | fail "stop")
  rename Fr _ _ _ _ => F9
  rename News _ _ _ _ => N9
  refine ar_raise (D := 400) (U := 400) rfl (Nat.le_of_ble_eq_true rfl) (Nat.le_of_ble_eq_true rfl) rfl ?_
  refine index_spec X T (H.at_ fun q hq => (N9 q hq).1) (Cx.sub (cx_of B' F9 N9) fun a ha => ha) (dicts_push F9 (dicts_up F9 D')) hy (fun t' h' tk' hp kp => ?_) (fun hp => ?_)
  · have F7 := fr_back F9 N9 kp (fun a ha => nomatch ha)
    have N7 : News g L' h' (hsNews w x dx l sa t1 t2 t3 k vs so) := news_back N9 kp fun q hq => .inl ⟨hq, fun q => nomatch q⟩
    clear F9 N9
    dsimp only at F7 N7 ⊢
    k_steps
    rename Fr _ _ _ _ => F9
    rename News _ _ _ _ => N9
    exact ret _ _ _ (H.at_ fun q hq => (N9 q hq).1) (kp_out hg F9).toS
  · rintro G e h' tk' hG hG2 R9 U9
    have FG := fr_ground F9 N9 hG
    clear F9 N9
    rw [hp] at ret
    dsimp only at FG ⊢
    k_steps
    rename KtsTurn _ _ _ => T9
    rename Fr _ _ _ _ => F9
    rename News _ _ _ _ => N9
    exact ret _ _ _ (H.at_ fun q hq => (N9 q hq).1) (kps_out hg T9 F9)
end
end Mine
end

-- part Ss
section
open PySem PySem.W PySem.Calls PyProof.Rows PySem.Spec
set_option maxRecDepth 100000
namespace Mine
section
variable {prog : Program} {w : World} {A : Around} {E : Value → Shared → Prop} {s : Shared}
abbrev freshSet (led : Bool) : Obj := { cls := .type "set", dict := none, data := .set #[] 0 (.fresh 0 0 led) }

theorem code_set_made (a : Value) {Q₁ : Value → Shared → Prop} (h : Q₁ (.ref s.heap.objs.size) { s with heap := s.heap.push (freshSet (!byTxt w)) }) :
    codeAny (model prog w) A (.call (.builtin "set.__new__") ⟨[.type "set", a], []⟩) (wants Q₁ E) s := by
  refine codeAny_of_tree ?_
  show wpAny _ A.in1 (do checkBuiltinCall "set.__new__" ⟨[.type "set", a], []⟩; again (.builtin "set.__new__" ⟨[.type "set", a], []⟩)) _ _ s
  refine wpAny_bind (wpAny_of_eq (F.newCall_set_1 a) (wpAny_pure ⟨plainId_quiet F.plain_set_new _, codeAny_builtin F.entry_set_new ?_⟩))
  rw [Around.under_plainId F.plain_set_new _]
  unfold Builtin.«set.__new__» Builtin.Frozenset.newClass
  generalize hNS : newSet = NS
  have hsub := sub_set_self
  obtain ⟨hp, g, d, tk, os⟩ := s
  dsimp only at h ⊢
  wp_walk
  subst hNS
  exact newSet_led (wpAny_pure h)

set_option maxHeartbeats 3200000 in
/-- `set(x)`: a fresh set, filled from x -/
theorem call_set_1 {x : Value} {Q : Value → Shared → Prop} (hh : A.handled = none)
    (h : ∀ (A' : Around), A'.handled = none → wpAny (model prog w) A' (Builtin.Frozenset.updateFrom "set.__init__" s.heap.objs.size x) (fun _ s₂ => Q (.ref s.heap.objs.size) s₂) E { s with heap := s.heap.push (freshSet (!byTxt w)) }) :
    wpAny (model prog w) A (call (.type "set") [x]) Q E s := by
  obtain ⟨c, tl, hmro⟩ := F.called_set.mro
  have hmade := F.called_set.made
  have hsub := F.called_set.sub
  refine wpAny_call (codeAny_of_tree ?_)
  show wpAny _ _ (callAny (.type "set") _) _ _ _
  refine wpAny_pure ⟨Code.quiet_builtin _ (by decide +kernel), codeAny_builtin F.entry_type_call ?_⟩
  rw [Around.under_plain (weight_type_call_type "set" [x] []) rfl]
  have h1 := F.called_set.notType
  have h2 := F.called_set.canCreate
  have hct := F.typeCall_set_1 x
  repeat (any_goals (first | assumption | wp_step))
  refine codeAny_mono (code_set_made x (E := E) (Q₁ := fun obj s₁ => ∃ led : Bool, led = (!byTxt w) ∧ obj = .ref s.heap.objs.size ∧ s₁ = { s with heap := s.heap.push (freshSet led) }) ⟨_, rfl, rfl, rfl⟩) fun r s₁ hr => ?_
  cases r with
  | error e => exact hr
  | ok fl =>
    cases fl with
    | ret obj =>
      obtain ⟨led, hled, rfl, rfl⟩ := hr
      have hT : Shared.TypeIs { s with heap := s.heap.push (freshSet led) } (.ref s.heap.objs.size) "set" := ⟨_, Heap.get?_push_size _ rfl, rfl⟩
      have hS : (s.heap.push (freshSet led)).get? s.heap.objs.size = some (freshSet led) := Heap.get?_push_size _ rfl
      have hli := F.called_set.init.lookup
      have hbi := F.called_set.init.bind (.ref s.heap.objs.size)
      repeat (any_goals (first | assumption | wp_step))
      refine codeAny_mono (codeAny_call_builtin (R := wants (fun r s₂ => r = .none ∧ Q (.ref s.heap.objs.size) s₂) E) F.called_set.init.plain F.entry_set_init (check_set_init_1 hT ?_)) fun r₂ s₂ hr₂ => ?_
      · unfold Builtin.«set.__init__» noKeywords
        have hup := fun A' hA' => hled ▸ h A' hA'
        generalize Builtin.Frozenset.updateFrom = UF at hup ⊢
        wp_walk
        exact wpAny_mono (hup _ (by simp [hh])) (fun _ s' hq => wpAny_pure ⟨rfl, hq⟩) fun _ _ e => e
      · cases r₂ with
        | error e => exact hr₂
        | ok fl₂ =>
          cases fl₂ with
          | ret r =>
            obtain ⟨rfl, hQ⟩ := hr₂
            repeat (any_goals (first | assumption | wp_step))
          | _ => exact hr₂.elim
    | _ => exact hr.elim

theorem skey_new {n i : Nat} {f : Nat → Str} (d : ((List.range n).map f).Nodup) (hlt : i < n) : skey ((List.range i).map f) (f i) = false := by
  refine decide_eq_false fun q => ?_
  obtain ⟨j, hj, e⟩ := List.mem_map.mp q
  have hj' := List.mem_range.mp hj
  have h1 : ((List.range n).map f)[j]? = some (f j) := by simp [Nat.lt_trans hj' hlt]
  have h2 : ((List.range n).map f)[i]? = some (f i) := by simp [hlt]
  have h3 := (List.getElem?_inj (by simp; omega) d).mp (h1.trans (by rw [e]; exact h2.symm))
  omega
theorem skey_snoc {i : Nat} {f : Nat → Str} (k : Str) : (skey ((List.range i).map f) k || decide (k = f i)) = skey ((List.range (i + 1)).map f) k := by
  simp only [skey, List.range_succ, List.map_append, List.mem_append, List.map_cons, List.map_nil, List.mem_singleton]
  by_cases h1 : k ∈ (List.range i).map f <;> by_cases h2 : k = f i <;> simp [h1, h2]

theorem update_loop {R : Result → Shared → Prop} {I : Addr} {fp wr : List Addr} {n : Nat} {P : Nat → Value → Prop} {St : Nat → Heap → Prop} (W : Walks prog w A.in1 I fp wr n P St) (D : Addr) (hDf : D ∉ fp)
    (f : Nat → Str) (hval : ∀ i v, P i v → ∃ t, v = .str (f i) t) (dist : ((List.range n).map f).Nodup) (hb : n + 1 < scanBound) :
    ∀ (k i : Nat) (h : Heap) (tk : Nat), n - i = k → i ≤ n → St i h → SetS prog w h D (skey ((List.range i).map f)) i →
      (∀ h' tk', SetS prog w h' D (skey ((List.range n).map f)) n → (∀ b o, b ∉ D :: wr → h.get? b = some o → h'.get? b = some o) → R (.ok (.ret .none)) { s with heap := h', toks := tk' }) →
      codeAny (model prog w) A (.builtin "set.update.loop" ⟨[.ref D, .ref I], []⟩) R { s with heap := h, toks := tk } := by
  have hDw : D ∉ wr := fun h => hDf (W.sub _ h)
  intro k
  induction k with
  | zero =>
    intro i h tk hk hi hst hS hR
    have hin : i = n := by omega
    subst hin
    refine codeAny_builtin F.entry_set_update_loop ?_
    rw [Around.under_plainId F.plain_set_update_loop _]
    show wpAny _ A.in1 (pyNext (.ref I) >>= _) _ _ _
    refine wpAny_bind (W.done _ _ _ hst fun h' tk' hk' => ?_)
    show wpAny _ A.in1 (ret Value.none) _ _ _
    exact wpAny_pure (hR _ _ (hS.at_ fun o e => hk' D o hDw e) fun b o hb e => hk' b o (fun q => hb (.tail _ q)) e)
  | succ k ih =>
    intro i h tk hk hi hst hS hR
    have hlt : i < n := by omega
    refine codeAny_builtin F.entry_set_update_loop ?_
    rw [Around.under_plainId F.plain_set_update_loop _]
    show wpAny _ A.in1 (pyNext (.ref I) >>= _) _ _ _
    refine wpAny_bind (W.item i _ _ _ hlt hst fun v h' tk' hP hst' hk' => ?_)
    obtain ⟨t, rfl⟩ := hval i v hP
    obtain ⟨so, ho, hso, sp⟩ := hS.at_ fun o e => hk' D o hDw e
    show wpAny _ A.in1 (holding [Value.str (f i) t] (setAdd D (.str (f i) t)) >>= _) _ _ _
    refine wpAny_bind (wpAny_holding ?_)
    unfold setAdd
    refine wpAny_holding ?_
    refine wpAny_bind ((PySem.strKind prog w).pyHash (strKind_is _ _ (f i) t) ?_)
    refine setAdd_str (s := { s with heap := h', toks := tk' + 1 }) ho hso sp (by omega) fun h2 so2 hs2 ho2 hso2 sp2 => ?_
    rw [skey_new dist hlt, if_neg Bool.false_ne_true] at hso2
    refine wpAny_pure ⟨plainId_quiet F.plain_set_update_loop _, ih (i + 1) h2 _ (by omega) hlt (W.frame _ _ _ hst' fun b hb o e => ?_) (SetS.congr skey_snoc ⟨so2, ho2, hso2, sp2⟩) fun h3 tk3 hS3 hk3 => ?_⟩
    · exact hs2.extBut b o (fun q => hDf (q ▸ hb)) e
    · exact hR _ _ hS3 fun b o hb e => hk3 b o hb (hs2.extBut b o (fun q => hb (q ▸ .head _)) (hk' b o (fun q => hb (.tail _ q)) e))

theorem set_of_list {l : Addr} {vs : List Value} {R : List Str} {Q : Value → Shared → Prop} (hh : A.handled = none) (hl : s.heap.IsList l vs.toArray) (hi : StrsAre vs R) (dist : R.Nodup) (hb : R.length ≤ 1000)
    (h : ∀ h' tk, SetS prog w h' s.heap.objs.size (skey R) R.length → (∀ b o, s.heap.get? b = some o → h'.get? b = some o) → Q (.ref s.heap.objs.size) { s with heap := h', toks := tk }) :
    wpAny (model prog w) A (call (.type "set") [.ref l]) Q E s := by
  refine call_set_1 hh fun A' hA' => ?_
  obtain ⟨ol, hol, hcl, nl, hdl⟩ := id hl
  have hlS : l < s.heap.objs.size := Heap.lt_size hol
  have hl1 : (s.heap.push (freshSet (!byTxt w))).IsList l vs.toArray := ⟨_, Heap.get?_push_of_some _ hol, hcl, nl, hdl⟩
  have hT : Shared.TypeIs { s with heap := s.heap.push (freshSet (!byTxt w)) } (.ref l) "list" := ⟨_, Heap.get?_push_of_some _ hol, hcl⟩
  have hsls := F.sub_list_set
  have hslf := F.sub_list_frozenset
  have hne : (Value.type "list" == Value.type "dict") = false := by decide
  unfold Builtin.Frozenset.updateFrom
  generalize hPI : pyIter = PI
  wp_walk
  subst hPI
  refine wpAny_pyIter_list hl1 ?_
  refine wpAny_bind (wpAny_runValue ?_)
  have hlen : vs.toArray.size = R.length := by rw [List.size_toArray]; exact hi.len_eq
  have hsz : (s.heap.push (freshSet (!byTxt w))).objs.size = s.heap.objs.size + 1 := Heap.size_push ..
  have hneI : l ≠ (s.heap.push (freshSet (!byTxt w))).objs.size := by rw [hsz]; exact Nat.ne_of_lt (Nat.lt_succ_of_lt hlS)
  refine update_loop (s := { s with heap := s.heap.push (freshSet (!byTxt w)) }) (n := R.length) (hlen ▸ Walks.list (by simp [hA']) _ l hneI vs.toArray) s.heap.objs.size ?_ (fun i => R.getD i Str.empty) (fun i v hv => ?_) ?_ (by unfold scanBound; omega) R.length 0 _ _ (Nat.sub_zero _) (Nat.zero_le _)
    ⟨⟨_, Heap.get?_push_size _ rfl, rfl, rfl⟩, hl1.push _⟩ ?_ fun h' tk' hS hk => ?_
  · intro q
    rcases List.mem_cons.mp q with e | q
    · rw [hsz] at e; exact absurd e (Nat.ne_of_lt (Nat.lt_succ_self _))
    · exact Nat.ne_of_gt hlS (List.mem_singleton.mp q)
  · obtain ⟨y, t, e1, rfl⟩ := strs_get hi (i := i) (by simpa using hv)
    exact ⟨t, by rw [List.getD_eq_getElem?_getD, e1]; rfl⟩
  · rw [range_map_getD (f := fun y : Str => y), List.map_id']; exact dist
  · exact SetS.fresh (Heap.get?_push_of_some _ (Heap.get?_push_size _ rfl))
  · rw [range_map_getD (f := fun y : Str => y), List.map_id'] at hS
    refine wpAny_pure (h _ _ hS fun b o e => hk b o (fun q => ?_) (Heap.get?_push_of_some _ (Heap.get?_push_of_some _ e)))
    have hlt := Heap.lt_size e
    rcases List.mem_cons.mp q with e | q
    · exact absurd hlt (e ▸ Nat.lt_irrefl _)
    · rw [List.mem_singleton.mp q, hsz] at hlt; exact absurd hlt (Nat.not_lt.mpr (Nat.le_succ _))
end
end Mine
end

-- part Ly
section
open PySem PySem.W PySem.Calls PyProof.Rows PySem.Spec
set_option maxRecDepth 100000
namespace Mine
open SetTable (leap runEnd turns bits layClean)

theorem free_here {mask : Nat} {owner : Array (Option Nat)} {f i p : Nat} (h : layClean.free mask owner (f + 1) i p = none) :
    (owner.getD i (some 0)).isNone = false ∧ layClean.free mask owner f (leap mask i p).1 (leap mask i p).2 = none := by
  rw [layClean.free] at h
  split at h
  · cases h
  · rename_i hf
    refine ⟨?_, h⟩
    have h0 := List.find?_eq_none.mp hf 0 (List.mem_range.mpr (by unfold runEnd; split <;> omega))
    cases e : (owner.getD i (some 0)).isNone with
    | false => rfl
    | true => rw [Nat.add_zero, e] at h0; simp at h0
theorem free_some {mask : Nat} {owner : Array (Option Nat)} {j : Nat} : ∀ {f i p : Nat}, layClean.free mask owner f i p = some j → owner[j]? = some none
  | 0, _, _, h => by cases h
  | f + 1, i, p, h => by
    rw [layClean.free] at h
    split at h
    · rename_i k hf
      cases h
      have h1 := List.find?_some hf
      rw [Array.getD_eq_getD_getElem?] at h1
      cases e : owner[i + k]? with
      | none => rw [e] at h1; simp at h1
      | some v => rw [e] at h1; cases v with
        | none => rfl
        | some _ => simp at h1
    · exact free_some h
def leaps (mask : Nat) : Nat → Nat × Nat → Nat × Nat
  | 0, x => x
  | r + 1, x => leaps mask r (leap mask x.1 x.2)
theorem free_all {mask : Nat} {owner : Array (Option Nat)} : ∀ {f i p : Nat}, layClean.free mask owner f i p = none → ∀ r < f, (owner.getD (leaps mask r (i, p)).1 (some 0)).isNone = false
  | 0, _, _, _, r, hr => absurd hr (Nat.not_lt_zero _)
  | f + 1, i, p, h, 0, _ => (free_here h).1
  | f + 1, i, p, h, r + 1, hr => free_all (free_here h).2 r (Nat.lt_of_succ_lt_succ hr)
theorem leaps_snd (mask : Nat) : ∀ (r : Nat) (x : Nat × Nat), (leaps mask r x).2 = x.2 / 32 ^ r
  | 0, x => by simp [leaps]
  | r + 1, x => by
    rw [leaps, leaps_snd mask r]
    show x.2 / 32 / 32 ^ r = _
    rw [Nat.div_div_eq_div_mul, Nat.pow_succ, Nat.mul_comm]
theorem leaps_add (mask : Nat) : ∀ (r q : Nat) (x : Nat × Nat), leaps mask (r + q) x = leaps mask q (leaps mask r x)
  | 0, q, x => by simp [leaps]
  | r + 1, q, x => by rw [Nat.succ_add, leaps, leaps, leaps_add mask r q]
theorem round7 : ∀ x < 8, ∀ j < 8, ∃ q < 8, (leaps 7 q (x, 0)).1 = j := by decide +kernel
theorem round15 : ∀ x < 16, ∀ j < 16, ∃ q < 16, (leaps 15 q (x, 0)).1 = j := by decide +kernel
theorem bits_lt (h : Int) : bits h < 2 ^ 64 := by
  unfold bits
  have h1 := Int.emod_nonneg h (show (2 ^ 64 : Int) ≠ 0 by decide)
  have h2 := Int.emod_lt_of_pos h (show (0 : Int) < 2 ^ 64 by decide)
  omega
theorem leap_lt (mask i p : Nat) : (leap mask i p).1 < mask + 1 := Nat.mod_lt _ (Nat.succ_pos _)

/-- a free slot is found -/
theorem free_found {mask : Nat} (hm : mask = 7 ∨ mask = 15) {owner : Array (Option Nat)} {j : Nat} (hj : owner[j]? = some none) (hsz : owner.size = mask + 1) (i p : Nat) (hp : p < 2 ^ 64) :
    ∃ j', layClean.free mask owner (turns mask) i p = some j' ∧ owner[j']? = some none := by
  cases e : layClean.free mask owner (turns mask) i p with
  | some j' => exact ⟨j', rfl, free_some e⟩
  | none =>
    exfalso
    have hjl : j < mask + 1 := by rw [← hsz]; exact (Array.getElem?_eq_some_iff.mp hj).1
    have h13 : leaps mask 13 (i, p) = ((leaps mask 13 (i, p)).1, 0) := by
      refine Prod.ext rfl ?_
      rw [leaps_snd]
      exact Nat.div_eq_of_lt (Nat.lt_of_lt_of_le hp (by decide))
    have hx : (leaps mask 13 (i, p)).1 < mask + 1 := by
      rw [show (13 : Nat) = 12 + 1 from rfl, leaps_add mask 12 1]
      exact leap_lt ..
    have hq : ∃ q, q < mask + 1 ∧ (leaps mask q ((leaps mask 13 (i, p)).1, 0)).1 = j := by
      rcases hm with rfl | rfl
      · exact round7 _ hx _ hjl
      · exact round15 _ hx _ hjl
    obtain ⟨q, hq, hqj⟩ := hq
    have := free_all e (13 + q) (by unfold turns; omega)
    rw [leaps_add, h13, hqj, Array.getD_eq_getD_getElem?, hj] at this
    cases this

theorem set_perm : ∀ {l : List (Option Nat)} {j k : Nat}, l[j]? = some none → ((l.set j (some k)).filterMap id).Perm (k :: l.filterMap id)
  | [], j, k, h => by simp at h
  | none :: r, 0, k, _ => by simp
  | some x :: r, 0, k, h => by simp at h
  | none :: r, j + 1, k, h => by simpa using set_perm (l := r) (j := j) (k := k) (by simpa using h)
  | some x :: r, j + 1, k, h => by
    have := set_perm (l := r) (j := j) (k := k) (by simpa using h)
    simp only [List.set_cons_succ, List.filterMap_cons, id_eq]
    exact (List.Perm.cons x this).trans (List.Perm.swap k x _)
theorem none_of_few : ∀ {l : List (Option Nat)}, (l.filterMap id).length < l.length → ∃ j : Nat, l[j]? = some none
  | [], h => by simp at h
  | none :: r, _ => ⟨0, rfl⟩
  | some x :: r, h => by
    obtain ⟨j, e⟩ := none_of_few (l := r) (by simpa using h)
    exact ⟨j + 1, by simpa using e⟩

theorem lay_fold {mask : Nat} (hm : mask = 7 ∨ mask = 15) : ∀ (hs : List Int) (owner : Array (Option Nat)) (k : Nat), owner.size = mask + 1 → (owner.toList.filterMap id).Perm (List.range k).reverse → k + hs.length ≤ 5 →
    ∃ owner', (hs.foldl (init := some (owner, k)) fun acc h => do
        let (owner, k) ← acc
        let j ← layClean.free mask owner (turns mask) (bits h % (mask + 1)) (bits h)
        pure (owner.setIfInBounds j (some k), k + 1)) = some (owner', k + hs.length) ∧ owner'.size = mask + 1 ∧ (owner'.toList.filterMap id).Perm (List.range (k + hs.length)).reverse
  | [], owner, k, hsz, hp, _ => ⟨owner, rfl, hsz, hp⟩
  | h :: r, owner, k, hsz, hp, hl => by
    have hl' : k + (r.length + 1) ≤ 5 := hl
    obtain ⟨j, hj⟩ := none_of_few (l := owner.toList) (by
      rw [hp.length_eq, List.length_reverse, List.length_range, Array.length_toList, hsz]
      rcases hm with rfl | rfl <;> omega)
    rw [Array.getElem?_toList] at hj
    obtain ⟨j', h1, h2⟩ := free_found hm hj hsz (bits h % (mask + 1)) (bits h) (bits_lt h)
    have hstep : (some (owner, k)).bind (fun x => (layClean.free mask x.1 (turns mask) (bits h % (mask + 1)) (bits h)).bind fun j => some (x.1.setIfInBounds j (some x.2), x.2 + 1)) = some (owner.setIfInBounds j' (some k), k + 1) := by
      show (layClean.free mask owner (turns mask) (bits h % (mask + 1)) (bits h)).bind _ = _
      rw [h1]; rfl
    obtain ⟨o', e1, e2, e3⟩ := lay_fold hm r (owner.setIfInBounds j' (some k)) (k + 1) (by rw [Array.size_setIfInBounds]; exact hsz) (by
      rw [Array.toList_setIfInBounds, List.range_succ, List.reverse_append]
      exact (set_perm (by rw [Array.getElem?_toList]; exact h2)).trans (List.Perm.cons k hp)) (by omega)
    refine ⟨o', ?_, e2, ?_⟩
    · rw [List.foldl_cons]
      show List.foldl _ ((some (owner, k)).bind (fun x => (layClean.free mask x.1 (turns mask) (bits h % (mask + 1)) (bits h)).bind fun j => some (x.1.setIfInBounds j (some x.2), x.2 + 1))) r = _
      rw [hstep, e1, List.length_cons]; congr 2; omega
    · rw [List.length_cons, show k + (r.length + 1) = k + 1 + r.length by omega]; exact e3

theorem laid_ok {mask : Nat} (hm : mask = 7 ∨ mask = 15) (finger moves : Nat) (led plain : Bool) (hs : Array Int) (hn : hs.size ≤ 5) :
    ∃ t o, SetTable.laid mask finger moves led plain hs = some (t, o) ∧ t.place.size = hs.size ∧ t.dummies = #[] ∧ t.mask = mask ∧ t.plain = plain ∧ t.led = led ∧ o.toList.Perm (List.range hs.size) := by
  obtain ⟨ow, e1, e2, e3⟩ := lay_fold hm hs.toList (Array.replicate (mask + 1) none) 0 (Array.size_replicate ..) (by simp) (by rw [Nat.zero_add, Array.length_toList]; exact hn)
  rw [Nat.zero_add] at e1 e3
  have hc : layClean mask hs = some ow := by
    unfold layClean
    rw [← Array.foldl_toList]
    have := congrArg (Option.map (·.1)) e1
    exact this
  have hlive : ((List.range (mask + 1)).filterMap fun j => (ow.getD j none).map (j, ·)).map (·.2) = ow.toList.filterMap id := by
    rw [List.map_filterMap, ← e2]
    have el : ow.toList = (List.range ow.size).map fun j => ow.getD j none := by
      apply List.ext_getElem
      · simp
      · intro i h1 h2
        simp at h1
        simp [h1]
    have er : ow.toList.filterMap id = ((List.range ow.size).map fun j => ow.getD j none).filterMap id := congrArg _ el
    rw [er, List.filterMap_map]
    congr 1
    funext j
    show Option.map (fun x : Nat × Nat => x.2) (Option.map (fun x => (j, x)) (ow.getD j none)) = ow.getD j none
    generalize ow.getD j none = z
    cases z <;> rfl
  have hp : (ow.toList.filterMap id).Perm (List.range hs.size) := by
    have := e3.trans (List.reverse_perm _)
    rwa [Array.length_toList] at this
  refine ⟨_, _, by unfold SetTable.laid; rw [hc]; rfl, ?_, rfl, rfl, rfl, rfl, ?_⟩
  · have := congrArg List.length hlive
    rw [List.length_map, hp.length_eq, List.length_range] at this
    simpa using this
  · rw [List.toList_toArray, hlive]; exact hp
end Mine
end

-- part Sq
section
open PySem PySem.W PySem.Calls PyProof.Rows PySem.Spec
set_option maxRecDepth 100000
namespace Mine
section
variable {prog : Program} {w : World} {A : Around} {E : Value → Shared → Prop} {s : Shared}

theorem order_perm {es : Array (Int × Value)} {o : Array Nat} (h : o.toList.Perm (List.range es.size)) : (o.filterMap (es[·]?)).toList.Perm es.toList := by
  rw [Array.toList_filterMap]
  refine (h.filterMap _).trans (List.Perm.of_eq ?_)
  have e2 : (List.range es.size).map (fun i => es[i]?) = es.toList.map some := by
    apply List.ext_getElem
    · simp
    · intro i h1 h2
      simp at h1
      simp [h1]
  have e3 : (List.range es.size).filterMap (fun i => es[i]?) = ((List.range es.size).map (fun i => es[i]?)).filterMap id := by rw [List.filterMap_map]; rfl
  rw [e3, e2]
  simp [List.filterMap_map]

theorem setRoomFor_fresh {a : Addr} {led : Bool} {n : Nat} {Q : Unit → Shared → Prop} (ho : s.heap.get? a = some (freshSet led)) (hn : n ≤ 5)
    (h : ∀ H so1 e1 t1, H.get? a = some so1 → so1.ExactSet → so1.data = .set #[] e1 t1 → t1.place = #[] → t1.dummies = #[] → (t1.mask = 7 ∨ t1.mask = 15) → t1.led = led → Heap.SameBut a s.heap H → Q () { s with heap := H }) :
    wpAny (model prog w) A (setRoomFor a n) Q E s := by
  unfold setRoomFor
  have hf0 : (SetTable.fresh 0 0 led).fits (#[] : Array (Int × Value)).size = true := by rfl
  refine wpAny_bind (wpAny_setState_of ho rfl hf0 ?_)
  dsimp only
  by_cases h5 : n = 5
  · subst h5
    have hr : (SetTable.fresh 0 0 led).roomFor 5 = some 10 := by rfl
    rw [hr]
    dsimp only
    unfold setRelay
    refine wpAny_bind (wpAny_setState_of ho rfl hf0 ?_)
    dsimp only
    rw [if_neg (by decide +kernel)]
    obtain ⟨t1, o1, e1, p1, p2, p3, p4, p6, p5⟩ := laid_ok (mask := 15) (.inr rfl) (SetTable.fresh 0 0 led).finger ((SetTable.fresh 0 0 led).movedTo 15) (SetTable.fresh 0 0 led).led (SetTable.fresh 0 0 led).plain ((#[] : Array (Int × Value)).map (·.1)) (by simp)
    have eo : o1 = #[] := by
      have := p5.length_eq
      simp at this
      exact this
    subst eo
    have er : (SetTable.fresh 0 0 led).relaid ((#[] : Array (Int × Value)).map (·.1)) 10 = some (t1, #[]) := e1
    rw [er]
    refine wpAny_bind (wpAny_of_eq (a := ((#[] : Array (Int × Value)), t1)) (by rfl) ?_)
    dsimp only
    have hp0 : t1.place = #[] := by simpa using p1
    refine wpAny_storeSet_of ho rfl ?_ (Nat.zero_le _)
    have hg := (SetOf_store (knd := PySem.strKind prog w) (S' := fun _ => false) (t' := t1) (es' := #[]) ho ⟨rfl, rfl, rfl⟩ rfl (fun e he => by simp at he) (fun k => by simp) (by decide) (by simp [SetTable.fits, SetTable.fill, hp0, p2])).1
    exact h _ _ _ _ hg ⟨rfl, rfl, rfl⟩ rfl hp0 p2 (.inr p3) p6 (Heap.SameBut.update ..)
  · have hr : (SetTable.fresh 0 0 led).roomFor n = none := by
      unfold SetTable.roomFor SetTable.fill SetTable.fresh
      rw [if_neg]
      simp; omega
    rw [hr]
    dsimp only
    exact wpAny_pure (h s.heap _ _ _ ho ⟨rfl, rfl, rfl⟩ rfl rfl rfl (.inl rfl) rfl (Heap.SameBut.refl _ _))

set_option maxHeartbeats 3200000 in
theorem set_of_set {l : Addr} {so : Obj} {ks : List Str} {Q : Value → Shared → Prop} (hh : A.handled = none) (ho : s.heap.get? l = some so) (hso : so.SetObjOf (PySem.strKind prog w) (skey ks) ks.length) (sp : SetP w so) (hb : ks.length ≤ 5)
    (h : ∀ h', SetS prog w h' s.heap.objs.size (skey ks) ks.length → (∀ b o, s.heap.get? b = some o → h'.get? b = some o) → Q (.ref s.heap.objs.size) { s with heap := h' }) :
    wpAny (model prog w) A (call (.type "set") [.ref l]) Q E s := by
  refine call_set_1 hh fun A' hA' => ?_
  obtain ⟨hex, eo, epo, to, hd, hel, hmem, hn, hf⟩ := hso
  have hlS : l < s.heap.objs.size := Heap.lt_size ho
  have ho1 : (s.heap.push (freshSet (!byTxt w))).get? l = some so := Heap.get?_push_of_some _ ho
  have hs1 : (s.heap.push (freshSet (!byTxt w))).get? s.heap.objs.size = some (freshSet (!byTxt w)) := Heap.get?_push_size _ rfl
  have hT : Shared.TypeIs { s with heap := s.heap.push (freshSet (!byTxt w)) } (.ref l) "set" := ⟨_, ho1, hex.1⟩
  have hss := sub_set_self
  unfold Builtin.Frozenset.updateFrom
  generalize hMG : Builtin.Frozenset.merge = MG
  wp_walk
  subst hMG
  unfold Builtin.Frozenset.merge
  have hne : (s.heap.objs.size == l) = false := by simpa using Nat.ne_of_gt hlS
  refine wpAny_bind (wpAny_setEpoch_of (s := { s with heap := s.heap.push (freshSet (!byTxt w)) }) ho1 hd hf ?_)
  unfold setMerge
  rw [if_neg (by rw [hne]; exact Bool.false_ne_true)]
  refine wpAny_bind (wpAny_setState_of (s := { s with heap := s.heap.push (freshSet (!byTxt w)) }) ho1 hd hf ?_)
  dsimp only
  by_cases hz : eo.isEmpty = true
  · rw [if_pos hz]
    have hk0 : ks = [] := by
      have : eo.size = 0 := by simpa using hz
      exact List.eq_nil_of_length_eq_zero (by omega)
    subst hk0
    exact wpAny_pure (h _ (SetS.fresh hs1) fun b o e => Heap.get?_push_of_some _ e)
  · rw [if_neg hz]
    have hnz : eo.size ≠ 0 := by simpa using hz
    refine wpAny_bind (setRoomFor_fresh (s := { s with heap := s.heap.push (freshSet (!byTxt w)) }) (led := !byTxt w) hs1 (by omega) fun H so1 e1 t1 hg1 hx1 hd1 hp1 hdu1 hm1 hle1 hsb1 => ?_)
    have hf1 : t1.fits (#[] : Array (Int × Value)).size = true := by simp [SetTable.fits, SetTable.fill, hp1, hdu1]
    refine wpAny_bind (wpAny_setState_of (s := { s with heap := H }) hg1 hd1 hf1 ?_)
    dsimp only
    have hpl : to.plain = false := (sp _ _ _ hd).1.resolve_left hnz
    have hbs : eo.size < scanBound := by unfold scanBound; omega
    have fin : ∀ (es' : Array (Int × Value)) (t' : SetTable), es'.toList.Perm eo.toList → t'.fits es'.size = true → t'.plain = false → (byTxt w = false → t'.led = true) →
        wpAny (model prog w) A' (storeSet s.heap.objs.size es' t') (fun x s₂ => Q (Value.ref s.heap.objs.size) s₂) E { s with heap := H } := fun es' t' hp hf' hpl' hle' => by
      have hsz : es'.size = eo.size := by rw [← Array.length_toList, hp.length_eq, Array.length_toList]
      have hel' := hel.perm hp
      have hme' : ∀ k, skey ks k = true ↔ ∃ e ∈ es'.toList, (PySem.strKind prog w).is k e.2 = true := fun k => (hmem k).trans ⟨fun ⟨e, he, q⟩ => ⟨e, hp.mem_iff.mpr he, q⟩, fun ⟨e, he, q⟩ => ⟨e, hp.mem_iff.mp he, q⟩⟩
      refine wpAny_storeSet_of (s := { s with heap := H }) hg1 hd1 ?_ (fits_of_scanBound (by rw [hsz]; exact hbs))
      obtain ⟨hg2, _⟩ := SetOf_store (knd := PySem.strKind prog w) hg1 hx1 hd1 hel' hme' (by rw [hsz]; exact hbs) hf'
      refine h _ ⟨_, hg2, ⟨hx1, es', _, t', rfl, hel', hme', hsz.trans hn, hf'⟩, fun _ _ _ e => by cases e; exact ⟨.inr hpl', hle'⟩⟩ fun b o e => ?_
      have hb' : b ≠ s.heap.objs.size := Nat.ne_of_lt (Heap.lt_size e)
      exact (Heap.SameBut.update H _ _).extBut b o hb' (hsb1.extBut b o hb' (Heap.get?_push_of_some _ e))
    have hll : byTxt w = false → (t1.led && to.led) = true := fun e => by rw [hle1, (sp _ _ _ hd).2 e, e]; rfl
    have hroad : t1.road to = if (t1.mask == to.mask && to.dummies.isEmpty) = true then .slotForSlot else .clean := by
      unfold SetTable.road SetTable.fill
      rw [hp1, hdu1]; simp
    rw [hroad]
    by_cases hr : (t1.mask == to.mask && to.dummies.isEmpty) = true
    · rw [if_pos hr]
      exact fin eo _ (List.Perm.refl _) hf (by show (t1.plain && to.plain) = false; rw [hpl]; simp) hll
    · rw [if_neg hr]
      obtain ⟨t2, o2, q1, q2, q3, q4, q5, q7, q6⟩ := laid_ok hm1 t1.finger t1.moves (t1.led && to.led) (t1.plain && to.plain) (eo.map (·.1)) (by rw [Array.size_map]; omega)
      rw [Array.size_map] at q2 q6
      dsimp only
      rw [q1]
      have hpo := order_perm q6
      have hso : ((o2.filterMap (eo[·]?)).size != eo.size) = false := by
        have := hpo.length_eq
        rw [Array.length_toList, Array.length_toList] at this
        simpa using this
      refine wpAny_bind (wpAny_of_eq (a := (o2.filterMap (eo[·]?), t2)) ?_ ?_)
      · change (if ((o2.filterMap (eo[·]?)).size != eo.size) = true then _ else _) = _
        rw [if_neg (by rw [hso]; exact Bool.false_ne_true)]
      · exact fin _ _ hpo (by
          have : (o2.filterMap (eo[·]?)).size = eo.size := by simpa using hso
          rw [this]
          simp only [SetTable.fits, SetTable.fill, q2, q3, q4, beq_self_eq_true, Bool.true_and, decide_eq_true_eq]
          have : (#[] : Array Nat).size = 0 := rfl
          rcases hm1 with e | e <;> rw [e] <;> omega) (by show t2.plain = false; rw [q5, hpl]; simp) (fun e => q7.trans (hll e))
end
end Mine
end

-- part It
section
open PySem PySem.W PySem.Calls PyProof.Rows PySem.Spec
set_option maxRecDepth 100000
namespace Mine
theorem slot_si_next : Slot "set_iterator" "__next__" "set_iterator.__next__" :=
  .of (owner := "set_iterator") (n := "__next__") (by rw [typeLookup_type, builtinLookup_eq_fast]; kernel_rfl) (by decide +kernel) (by decide +kernel) (by decide +kernel)
    (by first | exact .inl (by decide +kernel) | exact .inr (by decide +kernel)) (by rw [isSubtype_type]; kernel_rfl)
theorem slot_si_iter : Slot "set_iterator" "__iter__" "set_iterator.__iter__" :=
  .of (owner := "set_iterator") (n := "__iter__") (by rw [typeLookup_type, builtinLookup_eq_fast]; kernel_rfl) (by decide +kernel) (by decide +kernel) (by decide +kernel)
    (by first | exact .inl (by decide +kernel) | exact .inr (by decide +kernel)) (by rw [isSubtype_type]; kernel_rfl)
theorem entry_si_next : entryFor table "set_iterator.__next__" = some Builtin.«set_iterator.__next__» := entryFor_of_tree (by kernel_rfl)
theorem owner_si : Manifest.owners.lookup (String.ofList ['r', 'o', 't', 'a', 'r', 'e', 't', 'i', '_', 't', 'e', 's'].reverse) = some Manifest.sig_set_iterator := by kernel_rfl
theorem args_si_next (a : Value) : argsOk "set_iterator.__next__" ⟨[a], []⟩ := by
  unfold argsOk; rw [signature?_of (id := "set_iterator.__next__") (n := ['_', '_', 't', 'x', 'e', 'n', '_', '_']) (o := ['r', 'o', 't', 'a', 'r', 'e', 't', 'i', '_', 't', 'e', 's']) (by kernel_rfl) owner_si]; kernel_rfl
theorem entry_set_iter : entryFor table "set.__iter__" = some Builtin.«frozenset.__iter__» :=
  entryFor_alias (id' := "frozenset.__iter__") (by kernel_rfl) rfl (by decide +kernel) (by kernel_rfl)

theorem cons_erase_perm {α : Type} : ∀ {l : List α} {i : Nat} (h : i < l.length), (l[i] :: l.eraseIdx i).Perm l
  | a :: r, 0, _ => by simp
  | a :: r, i + 1, h => by
    have := cons_erase_perm (l := r) (i := i) (Nat.lt_of_succ_lt_succ h)
    simp only [List.getElem_cons_succ, List.eraseIdx_cons_succ]
    exact (List.Perm.swap ..).trans (List.Perm.cons a this)
theorem pick_go {α : Type} (f : Nat → Nat) : ∀ (n k : Nat) (left : List α) (out : Array α), left.length = n → ((pickOrder.go f n k left out).toList).Perm (out.toList ++ left)
  | 0, k, left, out, h => by
    have : left = [] := List.eq_nil_of_length_eq_zero h
    subst this
    rw [pickOrder.go, List.append_nil]
  | n + 1, k, left, out, h => by
    rw [pickOrder.go]
    have hlt : f k % left.length < left.length := Nat.mod_lt _ (by omega)
    rw [List.getElem?_eq_getElem hlt]
    dsimp only
    refine (pick_go f n (k + 1) _ _ (by rw [List.length_eraseIdx_of_lt hlt]; omega)).trans ?_
    rw [Array.toList_push, List.append_assoc]
    exact List.Perm.append_left _ (cons_erase_perm hlt)
theorem pickOrder_perm {α : Type} (f : Nat → Nat) (xs : Array α) : (pickOrder f xs).toList.Perm xs.toList := by
  have := pick_go f xs.size 0 xs.toList #[] (by simp)
  simpa [pickOrder] using this

section
variable {prog : Program} {w : World} {A : Around} {E : Value → Shared → Prop} {s : Shared}
theorem wpAny_choose' {src : Source} {n : Nat} {Q : Nat → Shared → Prop} (hn : n ≠ 0) (h : ∀ r d, r < n → Q r { s with drawn := d }) : wpAny (model prog w) A (choose src n) Q E s :=
  fun Γ p hΓ => ⟨hn, h _ _ (Nat.mod_lt _ (Nat.pos_of_ne_zero hn))⟩
theorem wpAny_drawOrder {α : Type} : ∀ (n : Nat) (xs : List α) {s : Shared} {Q : List α → Shared → Prop}, xs.length = n → (∀ ys d, ys.Perm xs → Q ys { s with drawn := d }) → wpAny (model prog w) A (drawOrder n xs) Q E s
  | 0, xs, s, Q, hl, h => by
    have : xs = [] := List.eq_nil_of_length_eq_zero hl
    subst this
    exact wpAny_pure (h [] s.drawn (List.Perm.refl _))
  | n + 1, [], s, Q, hl, h => by cases hl
  | n + 1, x :: r, s, Q, hl, h => by
    show wpAny _ _ (choose .order (x :: r).length >>= _) _ _ _
    refine wpAny_bind (wpAny_choose' (by simp) fun i d hi => ?_)
    rw [List.getElem?_eq_getElem hi]
    refine wpAny_bind (wpAny_drawOrder n _ (by rw [List.length_eraseIdx_of_lt hi]; omega) fun ys d' hp => wpAny_pure (h _ d' ?_))
    exact (List.Perm.cons _ hp).trans (cons_erase_perm hi)
theorem wpAny_byTxt {Q : Bool → Shared → Prop} (h : Q (byTxt w) s) : wpAny (model prog w) A setsByText Q E s := by
  unfold setsByText
  exact wpAny_bind (wpAny_askSetting (wpAny_pure h))

abbrev itObj (first : Value) (i : Nat) (a : Addr) (n ep : Nat) : Obj := { cls := .type "set_iterator", data := .fields #[first, .int i 0, .ref a, .int n 0, .int ep 0] }

/-- the places drawn -/
theorem next_drawn {I T a : Addr} {so : Obj} {es : Array (Int × Value)} {ep : Nat} {t : SetTable} {ord : List Nat} {i p : Nat} {nT : Nat} {x : Int × Value} {Q : Option Value → Shared → Prop}
    (hI : s.heap.get? I = some (itObj (.ref T) i a es.size ep)) (hT : s.heap.get? T = some { cls := .type "tuple", data := .seq (ord.map fun (k : Nat) => rawInt k).toArray nT })
    (ha : s.heap.get? a = some so) (hd : so.data = .set es ep t) (hf : t.fits es.size = true) (hp : ord[i]? = some p) (hx : es[p]? = some x)
    (h : ∀ h', h'.get? I = some (itObj (.ref T) (i + 1) a es.size ep) → Heap.SameBut I s.heap h' → Q (some x.2) { s with heap := h' }) :
    wpAny (model prog w) A (pyNext (.ref I)) Q E s := by
  have hTy : s.TypeIs (.ref I) "set_iterator" := ⟨_, hI, rfl⟩
  unfold pyNext
  refine wpAny_bind (wpAny_attempt (wpAny_callSpecial?_slot (name := Str.ofString "__next__") hTy slot_si_next
    (wpAny_call_entry slot_si_next hTy entry_si_next ?_ (args_si_next _))))
  unfold Builtin.«set_iterator.__next__»
  refine wpAny_bind (wpAny_pure ?_)
  refine wpAny_bind (wpAny_fieldsOf hI rfl ?_)
  dsimp only
  refine wpAny_bind (wpAny_setEntries_of ha hd hf ?_)
  rw [if_neg (by simp)]
  show wpAny _ _ (seqItems? (.ref T) >>= _) _ _ _
  refine wpAny_bind ?_
  unfold seqItems?
  refine wpAny_bind (wpAny_load hT (wpAny_pure ?_))
  dsimp only
  have e1 : (ord.map fun (k : Nat) => rawInt k).toArray[((i : Int)).toNat]? = some (.int (p : Int) 0) := by
    rw [Int.toNat_natCast, List.getElem?_toArray, List.getElem?_map, hp]; rfl
  rw [e1]
  dsimp only
  refine wpAny_bind ?_
  unfold setNextDrawn
  refine wpAny_bind (wpAny_setState_of ha hd hf ?_)
  dsimp only
  rw [if_neg (by simp), Int.toNat_natCast, hx]
  dsimp only
  refine wpAny_pure ?_
  refine wpAny_bind (wpAny_setField hI rfl (by simp) ?_)
  refine wpAny_pure ⟨_, rfl, wpAny_pure (h _ ?_ (Heap.SameBut.update ..))⟩
  rw [Heap.get?_update_self _ hI rfl]
  simp [Obj.mapFields, rawInt]

theorem end_drawn {I T a : Addr} {so : Obj} {es : Array (Int × Value)} {ep : Nat} {t : SetTable} {ord : List Nat} {i : Nat} {nT : Nat} {Q : Option Value → Shared → Prop} (hh : A.handled = none)
    (hI : s.heap.get? I = some (itObj (.ref T) i a es.size ep)) (hT : s.heap.get? T = some { cls := .type "tuple", data := .seq (ord.map fun (k : Nat) => rawInt k).toArray nT })
    (ha : s.heap.get? a = some so) (hd : so.data = .set es ep t) (hf : t.fits es.size = true) (hp : ord[i]? = none)
    (h : ∀ h', Heap.ExtBut I s.heap h' → Q none { s with heap := h' }) :
    wpAny (model prog w) A (pyNext (.ref I)) Q E s := by
  have hTy : s.TypeIs (.ref I) "set_iterator" := ⟨_, hI, rfl⟩
  unfold pyNext
  refine wpAny_bind (wpAny_attempt (wpAny_callSpecial?_slot (name := Str.ofString "__next__") hTy slot_si_next
    (wpAny_call_entry slot_si_next hTy entry_si_next ?_ (args_si_next _))))
  unfold Builtin.«set_iterator.__next__»
  refine wpAny_bind (wpAny_pure ?_)
  refine wpAny_bind (wpAny_fieldsOf hI rfl ?_)
  dsimp only
  refine wpAny_bind (wpAny_setEntries_of ha hd hf ?_)
  rw [if_neg (by simp)]
  show wpAny _ _ (seqItems? (.ref T) >>= _) _ _ _
  refine wpAny_bind ?_
  unfold seqItems?
  refine wpAny_bind (wpAny_load hT (wpAny_pure ?_))
  dsimp only
  have e1 : (ord.map fun (k : Nat) => rawInt k).toArray[((i : Int)).toNat]? = none := by
    rw [Int.toNat_natCast, List.getElem?_toArray, List.getElem?_map, hp]; rfl
  rw [e1]
  dsimp only
  refine wpAny_bind (wpAny_setField hI rfl (by simp) ?_)
  have hI2 := Heap.get?_update_self (Obj.mapFields (·.setIfInBounds 0 (rawInt 0))) hI rfl
  refine wpAny_bind (wpAny_setField hI2 rfl (by simp [Obj.mapFields]) ?_)
  show wpAny _ _ (newExc (.type "StopIteration") [] >>= _) _ _ _
  refine wpAny_bind ?_
  simp only [newExc, newTuple]
  refine wpAny_bind (wpAny_newObj_type ?_ (by size_fits))
  refine wpAny_bind (m := firstArgMember _ _) (wpAny_of_eq (a := Value.none) (by first | rfl | (simp only [firstArgMember]; rfl)) ?_)
  refine wpAny_newObj_type ?_ (by size_fits)
  simp only [raiseNew]
  refine wpAny_bind (wpAny_handled ?_)
  rw [show A.in1.handled = none from hh]
  refine wpAny_bind (wpAny_pure (wpAny_throw ?_))
  refine wpAny_bind (wpAny_isInstance (T := "StopIteration") (b := true) ⟨_, Heap.get?_push_size _ rfl, rfl⟩ isSubtype_stop ?_)
  exact wpAny_pure (h _ ((((Heap.SameBut.update ..).trans (Heap.SameBut.update ..)).extBut.push _).push _))

/-- at most one: by places -/
theorem next_one {I a : Addr} {so : Obj} {es : Array (Int × Value)} {ep k i : Nat} {t : SetTable} {x : Int × Value} {Q : Option Value → Shared → Prop} (hbt : byTxt w = false) (h1 : es.size ≤ 1)
    (hI : s.heap.get? I = some (itObj (.int (k : Nat) 0) i a es.size ep)) (ha : s.heap.get? a = some so) (hd : so.data = .set es ep t) (hf : t.fits es.size = true) (hled : t.led = true ∨ es = #[])
    {j : Nat} (hx : es[SetTable.below t.place k]? = some x) (hj : t.place[SetTable.below t.place k]? = some j)
    (h : ∀ h', h'.get? I = some (itObj (.int (j + 1 : Nat) 0) (i + 1) a es.size ep) → Heap.SameBut I s.heap h' → Q (some x.2) { s with heap := h' }) :
    wpAny (model prog w) A (pyNext (.ref I)) Q E s := by
  have hTy : s.TypeIs (.ref I) "set_iterator" := ⟨_, hI, rfl⟩
  unfold pyNext
  refine wpAny_bind (wpAny_attempt (wpAny_callSpecial?_slot (name := Str.ofString "__next__") hTy slot_si_next
    (wpAny_call_entry slot_si_next hTy entry_si_next ?_ (args_si_next _))))
  unfold Builtin.«set_iterator.__next__»
  refine wpAny_bind (wpAny_pure ?_)
  refine wpAny_bind (wpAny_fieldsOf hI rfl ?_)
  dsimp only
  refine wpAny_bind (wpAny_setEntries_of ha hd hf ?_)
  rw [if_neg (by simp)]
  refine wpAny_bind ?_
  unfold setNext
  refine wpAny_bind (wpAny_setState_of ha hd hf ?_)
  dsimp only
  refine wpAny_bind (wpAny_byTxt ?_)
  rw [hbt]
  rw [if_neg Bool.false_ne_true, if_neg (by
    change ¬ ((!t.plain && decide (es.size > 1)) = true)
    rw [show decide (es.size > 1) = false from decide_eq_false (by omega), Bool.and_false]; exact Bool.false_ne_true)]
  refine wpAny_bind (wpAny_of_eq (a := ()) (by
    change (if (!t.led && !es.isEmpty) = true then _ else _) = _
    rw [if_neg (by rcases hled with e | e <;> simp [e])]) ?_)
  rw [Int.toNat_natCast, hx, hj]
  refine wpAny_pure ?_
  dsimp only
  refine wpAny_bind (wpAny_setField hI rfl (by simp) ?_)
  have hI2 := Heap.get?_update_self (Obj.mapFields (·.setIfInBounds 0 (rawInt ((j + 1 : Nat) : Int)))) hI rfl
  refine wpAny_bind (wpAny_setField hI2 rfl (by simp [Obj.mapFields]) ?_)
  refine wpAny_pure ⟨_, rfl, wpAny_pure (h _ ?_ ((Heap.SameBut.update ..).trans (Heap.SameBut.update ..)))⟩
  rw [Heap.get?_update_self _ hI2 rfl]
  simp [Obj.mapFields, rawInt]

theorem end_one {I a : Addr} {so : Obj} {es : Array (Int × Value)} {ep k i : Nat} {t : SetTable} {Q : Option Value → Shared → Prop} (hh : A.handled = none) (hbt : byTxt w = false) (h1 : es.size ≤ 1)
    (hI : s.heap.get? I = some (itObj (.int (k : Nat) 0) i a es.size ep)) (ha : s.heap.get? a = some so) (hd : so.data = .set es ep t) (hf : t.fits es.size = true) (hled : t.led = true ∨ es = #[])
    (hx : es[SetTable.below t.place k]? = none)
    (h : ∀ h', Heap.ExtBut I s.heap h' → Q none { s with heap := h' }) :
    wpAny (model prog w) A (pyNext (.ref I)) Q E s := by
  have hTy : s.TypeIs (.ref I) "set_iterator" := ⟨_, hI, rfl⟩
  unfold pyNext
  refine wpAny_bind (wpAny_attempt (wpAny_callSpecial?_slot (name := Str.ofString "__next__") hTy slot_si_next
    (wpAny_call_entry slot_si_next hTy entry_si_next ?_ (args_si_next _))))
  unfold Builtin.«set_iterator.__next__»
  refine wpAny_bind (wpAny_pure ?_)
  refine wpAny_bind (wpAny_fieldsOf hI rfl ?_)
  dsimp only
  refine wpAny_bind (wpAny_setEntries_of ha hd hf ?_)
  rw [if_neg (by simp)]
  refine wpAny_bind ?_
  unfold setNext
  refine wpAny_bind (wpAny_setState_of ha hd hf ?_)
  dsimp only
  refine wpAny_bind (wpAny_byTxt ?_)
  rw [hbt]
  rw [if_neg Bool.false_ne_true, if_neg (by
    change ¬ ((!t.plain && decide (es.size > 1)) = true)
    rw [show decide (es.size > 1) = false from decide_eq_false (by omega), Bool.and_false]; exact Bool.false_ne_true)]
  refine wpAny_bind (wpAny_of_eq (a := ()) (by
    change (if (!t.led && !es.isEmpty) = true then _ else _) = _
    rw [if_neg (by rcases hled with e | e <;> simp [e])]) ?_)
  rw [Int.toNat_natCast, hx]
  refine wpAny_pure ?_
  dsimp only
  refine wpAny_bind (wpAny_setField hI rfl (by simp) ?_)
  show wpAny _ _ (newExc (.type "StopIteration") [] >>= _) _ _ _
  refine wpAny_bind ?_
  simp only [newExc, newTuple]
  refine wpAny_bind (wpAny_newObj_type ?_ (by size_fits))
  refine wpAny_bind (m := firstArgMember _ _) (wpAny_of_eq (a := Value.none) (by first | rfl | (simp only [firstArgMember]; rfl)) ?_)
  refine wpAny_newObj_type ?_ (by size_fits)
  simp only [raiseNew]
  refine wpAny_bind (wpAny_handled ?_)
  rw [show A.in1.handled = none from hh]
  refine wpAny_bind (wpAny_pure (wpAny_throw ?_))
  refine wpAny_bind (wpAny_isInstance (T := "StopIteration") (b := true) ⟨_, Heap.get?_push_size _ rfl, rfl⟩ isSubtype_stop ?_)
  exact wpAny_pure (h _ (((Heap.SameBut.update ..).extBut.push _).push _))

/-- by the text's order -/
theorem next_text {I a : Addr} {so : Obj} {es : Array (Int × Value)} {ep i : Nat} {t : SetTable} {x : Int × Value} {Q : Option Value → Shared → Prop} (hbt : byTxt w = true)
    (hI : s.heap.get? I = some (itObj (.int 0 0) i a es.size ep)) (ha : s.heap.get? a = some so) (hd : so.data = .set es ep t) (hf : t.fits es.size = true)
    (hx : (pickOrder (w.params.setOrder a ep) es)[i]? = some x)
    (h : ∀ h', h'.get? I = some (itObj (.int 0 0) (i + 1) a es.size ep) → Heap.SameBut I s.heap h' → Q (some x.2) { s with heap := h' }) :
    wpAny (model prog w) A (pyNext (.ref I)) Q E s := by
  have hTy : s.TypeIs (.ref I) "set_iterator" := ⟨_, hI, rfl⟩
  unfold pyNext
  refine wpAny_bind (wpAny_attempt (wpAny_callSpecial?_slot (name := Str.ofString "__next__") hTy slot_si_next
    (wpAny_call_entry slot_si_next hTy entry_si_next ?_ (args_si_next _))))
  unfold Builtin.«set_iterator.__next__»
  refine wpAny_bind (wpAny_pure ?_)
  refine wpAny_bind (wpAny_fieldsOf hI rfl ?_)
  dsimp only
  refine wpAny_bind (wpAny_setEntries_of ha hd hf ?_)
  rw [if_neg (by simp)]
  refine wpAny_bind ?_
  unfold setNext
  refine wpAny_bind (wpAny_setState_of ha hd hf ?_)
  dsimp only
  refine wpAny_bind (wpAny_byTxt ?_)
  rw [hbt, if_pos rfl, if_neg (by simp)]
  unfold setWalk
  refine wpAny_bind (wpAny_bind (wpAny_setState_of ha hd hf ?_))
  dsimp only
  refine wpAny_bind (wpAny_byTxt ?_)
  rw [hbt, if_pos rfl]
  refine wpAny_bind (wpAny_askSetting (wpAny_pure ?_))
  dsimp only
  rw [Int.toNat_natCast, show (pickOrder ((model prog w).w.params.setOrder a ep) es)[i]? = some x from hx]
  refine wpAny_pure ?_
  dsimp only [Option.map]
  refine wpAny_bind (wpAny_setField hI rfl (by simp) ?_)
  have hI2 := Heap.get?_update_self (Obj.mapFields (·.setIfInBounds 0 (rawInt ((Int.toNat 0 : Nat) : Int)))) hI rfl
  refine wpAny_bind (wpAny_setField hI2 rfl (by simp [Obj.mapFields]) ?_)
  refine wpAny_pure ⟨_, rfl, wpAny_pure (h _ ?_ ((Heap.SameBut.update ..).trans (Heap.SameBut.update ..)))⟩
  rw [Heap.get?_update_self _ hI2 rfl]
  simp [Obj.mapFields, rawInt]

theorem end_text {I a : Addr} {so : Obj} {es : Array (Int × Value)} {ep i : Nat} {t : SetTable} {Q : Option Value → Shared → Prop} (hh : A.handled = none) (hbt : byTxt w = true)
    (hI : s.heap.get? I = some (itObj (.int 0 0) i a es.size ep)) (ha : s.heap.get? a = some so) (hd : so.data = .set es ep t) (hf : t.fits es.size = true)
    (hx : (pickOrder (w.params.setOrder a ep) es)[i]? = none)
    (h : ∀ h', Heap.ExtBut I s.heap h' → Q none { s with heap := h' }) :
    wpAny (model prog w) A (pyNext (.ref I)) Q E s := by
  have hTy : s.TypeIs (.ref I) "set_iterator" := ⟨_, hI, rfl⟩
  unfold pyNext
  refine wpAny_bind (wpAny_attempt (wpAny_callSpecial?_slot (name := Str.ofString "__next__") hTy slot_si_next
    (wpAny_call_entry slot_si_next hTy entry_si_next ?_ (args_si_next _))))
  unfold Builtin.«set_iterator.__next__»
  refine wpAny_bind (wpAny_pure ?_)
  refine wpAny_bind (wpAny_fieldsOf hI rfl ?_)
  dsimp only
  refine wpAny_bind (wpAny_setEntries_of ha hd hf ?_)
  rw [if_neg (by simp)]
  refine wpAny_bind ?_
  unfold setNext
  refine wpAny_bind (wpAny_setState_of ha hd hf ?_)
  dsimp only
  refine wpAny_bind (wpAny_byTxt ?_)
  rw [hbt, if_pos rfl, if_neg (by simp)]
  unfold setWalk
  refine wpAny_bind (wpAny_bind (wpAny_setState_of ha hd hf ?_))
  dsimp only
  refine wpAny_bind (wpAny_byTxt ?_)
  rw [hbt, if_pos rfl]
  refine wpAny_bind (wpAny_askSetting (wpAny_pure ?_))
  dsimp only
  rw [Int.toNat_natCast, show (pickOrder ((model prog w).w.params.setOrder a ep) es)[i]? = none from hx]
  refine wpAny_pure ?_
  dsimp only [Option.map]
  refine wpAny_bind (wpAny_setField hI rfl (by simp) ?_)
  show wpAny _ _ (newExc (.type "StopIteration") [] >>= _) _ _ _
  refine wpAny_bind ?_
  simp only [newExc, newTuple]
  refine wpAny_bind (wpAny_newObj_type ?_ (by size_fits))
  refine wpAny_bind (m := firstArgMember _ _) (wpAny_of_eq (a := Value.none) (by first | rfl | (simp only [firstArgMember]; rfl)) ?_)
  refine wpAny_newObj_type ?_ (by size_fits)
  simp only [raiseNew]
  refine wpAny_bind (wpAny_handled ?_)
  rw [show A.in1.handled = none from hh]
  refine wpAny_bind (wpAny_pure (wpAny_throw ?_))
  refine wpAny_bind (wpAny_isInstance (T := "StopIteration") (b := true) ⟨_, Heap.get?_push_size _ rfl, rfl⟩ isSubtype_stop ?_)
  exact wpAny_pure (h _ (((Heap.SameBut.update ..).extBut.push _).push _))
end
end Mine
end

-- part Iw
section
open PySem PySem.W PySem.Calls PyProof.Rows PySem.Spec
set_option maxRecDepth 100000
namespace Mine
theorem entry_si_iter : entryFor table "set_iterator.__iter__" = some Builtin.«dict_keyiterator.__iter__» :=
  entryFor_alias (id' := "dict_keyiterator.__iter__") (by kernel_rfl) rfl (by decide +kernel) (by kernel_rfl)
theorem args_si_iter (a : Value) : argsOk "set_iterator.__iter__" ⟨[a], []⟩ := by
  unfold argsOk; rw [signature?_of (id := "set_iterator.__iter__") (n := ['_', '_', 'r', 'e', 't', 'i', '_', '_']) (o := ['r', 'o', 't', 'a', 'r', 'e', 't', 'i', '_', 't', 'e', 's']) (by kernel_rfl) owner_si]; kernel_rfl

section
variable {prog : Program} {w : World} {A : Around} {E : Value → Shared → Prop} {s : Shared}
theorem iter_self {it : Addr} {Q : Value → Shared → Prop} (hT : s.TypeIs (.ref it) "set_iterator") (h : Q (.ref it) s) : wpAny (model prog w) A (pyIter (.ref it)) Q E s := by
  refine wpAny_pyIter_slot hT slot_si_iter (wpAny_call_entry slot_si_iter hT entry_si_iter ?_ (args_si_iter _))
  show wpAny _ _ (ret (.ref it)) _ _ s
  exact wpAny_pure ⟨_, rfl, "set_iterator", _, hT, slot_si_next.lookup, h⟩

theorem walks_drawn {I T a : Addr} {so : Obj} {es : Array (Int × Value)} {ep : Nat} {t : SetTable} {ord : List Nat} {nT : Nat} (hh : A.handled = none) (hd : so.data = .set es ep t) (hf : t.fits es.size = true) (hp : ord.Perm (List.range es.size)) (nIT : I ≠ T) (nIa : I ≠ a) :
    Walks prog w A I [I, T, a] [I] es.size (fun i v => ∃ (p : Nat) (x : Int × Value), ord[i]? = some p ∧ es[p]? = some x ∧ v = x.2)
      (fun i h => h.get? I = some (itObj (.ref T) i a es.size ep) ∧ h.get? T = some { cls := .type "tuple", data := .seq (ord.map fun (k : Nat) => rawInt k).toArray nT } ∧ h.get? a = some so) where
  sub := fun b hb => by rw [List.mem_singleton.mp hb]; exact .head _
  frame := fun i h h' ⟨e1, e2, e3⟩ k => ⟨k _ (.head _) _ e1, k _ (.tail _ (.head _)) _ e2, k _ (.tail _ (.tail _ (.head _))) _ e3⟩
  item := fun i s Q E hi ⟨e1, e2, e3⟩ hQ => by
    have hlen : ord.length = es.size := by rw [hp.length_eq, List.length_range]
    have hio : i < ord.length := by rw [hlen]; exact hi
    have hpm : ord[i] < es.size := List.mem_range.mp (hp.mem_iff.mp (List.getElem_mem hio))
    refine next_drawn e1 e2 e3 hd hf (List.getElem?_eq_getElem hio) (Array.getElem?_eq_getElem hpm) fun h' g hs => ?_
    exact hQ _ h' s.toks ⟨_, _, List.getElem?_eq_getElem hio, Array.getElem?_eq_getElem hpm, rfl⟩ ⟨g, hs.extBut _ _ (Ne.symm nIT) e2, hs.extBut _ _ (Ne.symm nIa) e3⟩ fun b o hb e => hs.extBut b o (fun q => hb (q ▸ .head _)) e
  done := fun s Q E ⟨e1, e2, e3⟩ hQ => by
    have hlen : ord.length = es.size := by rw [hp.length_eq, List.length_range]
    exact end_drawn hh e1 e2 e3 hd hf (List.getElem?_eq_none (by rw [hlen]; exact Nat.le_refl _)) fun h' hs => hQ h' s.toks fun b o hb e => hs b o (fun q => hb (q ▸ .head _)) e
  self := fun i s Q E ⟨e1, _, _⟩ hQ => iter_self ⟨_, e1, rfl⟩ hQ

theorem walks_text {I a : Addr} {so : Obj} {es : Array (Int × Value)} {ep : Nat} {t : SetTable} (hh : A.handled = none) (hbt : byTxt w = true) (hd : so.data = .set es ep t) (hf : t.fits es.size = true) (nIa : I ≠ a) :
    Walks prog w A I [I, a] [I] es.size (fun i v => ∃ x : Int × Value, (pickOrder (w.params.setOrder a ep) es)[i]? = some x ∧ v = x.2)
      (fun i h => h.get? I = some (itObj (.int 0 0) i a es.size ep) ∧ h.get? a = some so) where
  sub := fun b hb => by rw [List.mem_singleton.mp hb]; exact .head _
  frame := fun i h h' ⟨e1, e3⟩ k => ⟨k _ (.head _) _ e1, k _ (.tail _ (.head _)) _ e3⟩
  item := fun i s Q E hi ⟨e1, e3⟩ hQ => by
    have hlen : (pickOrder (w.params.setOrder a ep) es).size = es.size := by rw [← Array.length_toList, (pickOrder_perm ..).length_eq, Array.length_toList]
    have hio : i < (pickOrder (w.params.setOrder a ep) es).size := by rw [hlen]; exact hi
    refine next_text hbt e1 e3 hd hf (Array.getElem?_eq_getElem hio) fun h' g hs => ?_
    exact hQ _ h' s.toks ⟨_, Array.getElem?_eq_getElem hio, rfl⟩ ⟨g, hs.extBut _ _ (Ne.symm nIa) e3⟩ fun b o hb e => hs.extBut b o (fun q => hb (q ▸ .head _)) e
  done := fun s Q E ⟨e1, e3⟩ hQ => by
    have hlen : (pickOrder (w.params.setOrder a ep) es).size = es.size := by rw [← Array.length_toList, (pickOrder_perm ..).length_eq, Array.length_toList]
    exact end_text hh hbt e1 e3 hd hf (Array.getElem?_eq_none (by rw [hlen]; exact Nat.le_refl _)) fun h' hs => hQ h' s.toks fun b o hb e => hs b o (fun q => hb (q ▸ .head _)) e
  self := fun i s Q E ⟨e1, _⟩ hQ => iter_self ⟨_, e1, rfl⟩ hQ

theorem below_zero (j : Nat) : SetTable.below #[j] 0 = 0 := by simp [SetTable.below, SetTable.below.go]
theorem below_one (j : Nat) : SetTable.below #[j] (j + 1) = 1 := by simp [SetTable.below, SetTable.below.go]

theorem walks_one {I a : Addr} {so : Obj} {es : Array (Int × Value)} {ep : Nat} {t : SetTable} (hh : A.handled = none) (hbt : byTxt w = false) (h1 : es.size ≤ 1) (hd : so.data = .set es ep t) (hf : t.fits es.size = true) (hled : t.led = true) (nIa : I ≠ a) :
    Walks prog w A I [I, a] [I] es.size (fun i v => ∃ x : Int × Value, es[i]? = some x ∧ v = x.2)
      (fun i h => h.get? I = some (itObj (.int ((if i = 0 then 0 else t.place.getD 0 0 + 1 : Nat)) 0) i a es.size ep) ∧ h.get? a = some so) where
  sub := fun b hb => by rw [List.mem_singleton.mp hb]; exact .head _
  frame := fun i h h' ⟨e1, e3⟩ k => ⟨k _ (.head _) _ e1, k _ (.tail _ (.head _)) _ e3⟩
  item := fun i s Q E hi ⟨e1, e3⟩ hQ => by
    have hi0 : i = 0 := by omega
    subst hi0
    have hs1 : es.size = 1 := by omega
    have hps : t.place.size = 1 := by simp [SetTable.fits] at hf; omega
    obtain ⟨j, hj⟩ : ∃ j, t.place = #[j] := ⟨t.place[0], by apply Array.ext <;> simp [hps]; intro i h; subst h; rfl⟩
    simp only [if_true] at e1
    refine next_one (k := 0) (j := j) (x := es[0]) hbt h1 e1 e3 hd hf (.inl hled) (by rw [hj, below_zero]; exact Array.getElem?_eq_getElem (by omega)) (by rw [hj, below_zero]; rfl) fun h' g hs => ?_
    refine hQ _ h' s.toks ⟨es[0], Array.getElem?_eq_getElem (by omega), rfl⟩ ⟨?_, hs.extBut _ _ (Ne.symm nIa) e3⟩ fun b o hb e => hs.extBut b o (fun q => hb (q ▸ .head _)) e
    rw [g, hj]; simp
  done := fun s Q E ⟨e1, e3⟩ hQ => by
    rcases Nat.lt_or_ge es.size 1 with h0 | h0
    · have hz : es.size = 0 := by omega
      have hes : es = #[] := by simpa using hz
      rw [if_pos hz] at e1
      refine end_one (k := 0) hh hbt h1 e1 e3 hd hf (.inl hled) (by rw [hes]; rfl) fun h' hs => hQ h' s.toks fun b o hb e => hs b o (fun q => hb (q ▸ .head _)) e
    · have hs1 : es.size = 1 := by omega
      have hps : t.place.size = 1 := by simp [SetTable.fits] at hf; omega
      obtain ⟨j, hj⟩ : ∃ j, t.place = #[j] := ⟨t.place[0], by apply Array.ext <;> simp [hps]; intro i h; subst h; rfl⟩
      rw [if_neg (by omega)] at e1
      refine end_one hh hbt h1 e1 e3 hd hf (.inl hled) ?_ fun h' hs => hQ h' s.toks fun b o hb e => hs b o (fun q => hb (q ▸ .head _)) e
      rw [hj, show (#[j] : Array Nat).getD 0 0 = j from rfl, below_one]
      exact Array.getElem?_eq_none (by omega)
  self := fun i s Q E ⟨e1, _⟩ hQ => iter_self ⟨_, e1, rfl⟩ hQ
end
end Mine
end

-- part Ix
section
open PySem PySem.W PySem.Calls PyProof.Rows PySem.Spec
set_option maxRecDepth 100000
namespace Mine
theorem filterMap_get {α β : Type} {f : α → Option β} : ∀ {l : List α}, (∀ p ∈ l, (f p).isSome = true) → ∀ j : Nat, (l.filterMap f)[j]? = l[j]?.bind f
  | [], _, j => by simp
  | p :: r, h, j => by
    obtain ⟨x, e⟩ := Option.isSome_iff_exists.mp (h p (.head _))
    rw [List.filterMap_cons, e]
    cases j with
    | zero => simp [e]
    | succ j => simpa using filterMap_get (fun q hq => h q (.tail _ hq)) j
theorem vals_of : ∀ {xs : List (Int × Value)} {vals : List Value}, (∀ e ∈ xs, ∃ t, e.2 = .str (keyOf e) t) → vals.length = xs.length → (∀ (j : Nat) v, vals[j]? = some v → ∃ x, xs[j]? = some x ∧ v = x.2) → StrsAre vals (xs.map keyOf)
  | [], [], _, _, _ => .nil
  | [], _ :: _, _, h, _ => by cases h
  | _ :: _, [], _, h, _ => by cases h
  | x :: xs, v :: vals, hk, hl, hv => by
    obtain ⟨x', e1, e2⟩ := hv 0 v rfl
    have : x = x' := by simpa using e1
    subst this
    obtain ⟨t, e3⟩ := hk x (.head _)
    rw [e3] at e2
    subst e2
    exact .cons _ _ (vals_of (fun e he => hk e (.tail _ he)) (by simpa using hl) fun j v h => by
      obtain ⟨x', h1, h2⟩ := hv (j + 1) v (by simpa using h)
      exact ⟨x', by simpa using h1, h2⟩)

section
variable {prog : Program} {w : World} {A : Around} {E : Value → Shared → Prop} {s : Shared}

/-- what a walk over a set hands out: the keys, in some order -/
def Hands (P : Nat → Value → Prop) (ks : List Str) : Prop := ∀ vals : List Value, vals.length = ks.length → (∀ (j : Nat) v, vals[j]? = some v → P j v) → ∃ ks', StrsAre vals ks' ∧ ks'.Perm ks

theorem hands_of {P : Nat → Value → Prop} {ks : List Str} {es : Array (Int × Value)} {xs : List (Int × Value)} (hel : ElemsOf (PySem.strKind prog w) es.toList) (hpm : (es.toList.map keyOf).Perm ks) (hx : xs.Perm es.toList)
    (hP : ∀ (j : Nat) v, P j v → ∃ x, xs[j]? = some x ∧ v = x.2) : Hands P ks := fun vals hl hv => by
  refine ⟨xs.map keyOf, vals_of (fun e he => keys_of hel e (hx.mem_iff.mp he)) ?_ fun j v h => hP j v (hv j v h), (hx.map keyOf).trans hpm⟩
  have h1 := (hx.map keyOf).trans hpm
  have := h1.length_eq
  rw [List.length_map] at this
  rw [this, hl]

theorem iter_set {a : Addr} {so : Obj} {ks : List Str} {Q : Value → Shared → Prop} (ho : s.heap.get? a = some so) (hso : so.SetObjOf (PySem.strKind prog w) (skey ks) ks.length) (sp : SetP w so) (nd : ks.Nodup) (hb : ks.length < scanBound)
    (h : ∀ I fp P St h' d, (∀ A' : Around, A'.handled = none → Walks prog w A' I fp [I] ks.length P St) → St 0 h' → (∀ b ∈ fp, b < h'.objs.size ∧ (b = a ∨ s.heap.objs.size ≤ b)) → (∀ b o, s.heap.get? b = some o → h'.get? b = some o) → s.heap.objs.size ≤ I → Hands P ks →
      Q (.ref I) { s with heap := h', drawn := d }) :
    wpAny (model prog w) A (pyIter (.ref a)) Q E s := by
  obtain ⟨hex, es, ep, t, hd, hel, hmem, hn, hf⟩ := hso
  have hpm := keys_perm hel hmem nd (by rw [Array.length_toList]; exact hn)
  have hT : s.TypeIs (.ref a) "set" := ⟨so, ho, hex.1⟩
  have hlt := Heap.lt_size ho
  refine wpAny_pyIter_slot hT F.slot_set_iter (wpAny_call_entry F.slot_set_iter hT entry_set_iter ?_ (F.args_set_iter_1 _))
  unfold Builtin.«frozenset.__iter__» Builtin.Frozenset.slot0 slotArgs
  simp only [List.isEmpty_nil, Bool.not_true, Bool.false_eq_true, ↓reduceIte, bind_assoc, List.length_nil, bne_self_eq_false]
  unfold Builtin.Frozenset.addrOf Builtin.Frozenset.sizeOf
  refine wpAny_bind (wpAny_pure ?_)
  try dsimp only
  refine wpAny_bind (wpAny_pure ?_)
  refine wpAny_bind (wpAny_bind (wpAny_setEntries_of ho hd hf (wpAny_pure ?_)))
  unfold setDrawn
  refine wpAny_bind (wpAny_bind (wpAny_setState_of ho hd hf ?_))
  dsimp only
  refine wpAny_bind (wpAny_byTxt (wpAny_pure ?_))
  have last : ∀ (first : Value) (h1 : Heap) (d : Drawn) (fp : List Addr) (P : Nat → Value → Prop) (St : Nat → Heap → Prop), s.heap.objs.size ≤ h1.objs.size → (∀ b o, s.heap.get? b = some o → h1.get? b = some o) →
      (∀ A' : Around, A'.handled = none → Walks prog w A' h1.objs.size fp [h1.objs.size] es.size P St) → St 0 (h1.push (itObj first 0 a es.size ep)) → (∀ b ∈ fp, b ≤ h1.objs.size ∧ (b = a ∨ s.heap.objs.size ≤ b)) → Hands P ks →
      wpAny (model prog w) A.in1 (do
          let __do_lift ← setEpoch a
          let __do_lift ← newFields "set_iterator" [first, rawInt 0, Value.ref a, rawInt ↑es.size, rawInt ↑__do_lift]
          ret __do_lift) (fun fin s' => ∃ v, fin = Fin.done (Flow.ret v) ∧ ∃ T' r, s'.TypeIs v T' ∧ typeLookup (Value.type T') (Str.ofString "__next__") = pure (some r) ∧ Q v s')
          (fun e s' => E e s') { s with heap := h1, drawn := d } := fun first h1 d fp P St hsz hk W st hfp hands => by
    refine wpAny_bind (wpAny_setEpoch_of (s := { s with heap := h1, drawn := d }) (hk _ _ ho) hd hf ?_)
    unfold newFields
    refine wpAny_bind (wpAny_newObj_type ?_ (by size_fits))
    refine wpAny_pure ⟨_, rfl, "set_iterator", _, ⟨_, Heap.get?_push_size _ rfl, rfl⟩, slot_si_next.lookup, h h1.objs.size fp P St _ d (fun A' hA' => hn ▸ W A' hA') st (fun b hb => ?_) (fun b o e => Heap.get?_push_of_some _ (hk b o e)) hsz hands⟩
    show b < (h1.push _).objs.size ∧ _
    rw [Heap.size_push]
    exact ⟨Nat.lt_succ_of_le (hfp b hb).1, (hfp b hb).2⟩
  have nIa : s.heap.objs.size ≠ a := Nat.ne_of_gt hlt
  cases hbt : byTxt w with
  | true =>
    rw [if_neg (by simp)]
    refine wpAny_bind (wpAny_pure ?_)
    refine last (rawInt 0) s.heap s.drawn [s.heap.objs.size, a] _ _ (Nat.le_refl _) (fun _ _ e => e) (fun A' hA' => walks_text hA' hbt hd hf nIa) ⟨Heap.get?_push_size _ rfl, Heap.get?_push_of_some _ ho⟩ (fun b hb => ?_)
      (hands_of hel hpm (pickOrder_perm (w.params.setOrder a ep) es) fun j v ⟨x, e1, e2⟩ => ⟨x, by rw [Array.getElem?_toList]; exact e1, e2⟩)
    rcases List.mem_cons.mp hb with rfl | hb
    · exact ⟨Nat.le_refl _, .inr (Nat.le_refl _)⟩
    · rw [List.mem_singleton.mp hb]; exact ⟨Nat.le_of_lt hlt, .inl rfl⟩
  | false =>
    rcases Nat.lt_or_ge 1 es.size with h1 | h1
    · have hpl : t.plain = false := (sp _ _ _ hd).1.resolve_left (by omega)
      rw [if_pos (by
        change ((!false && (!t.plain && decide (es.size > 1))) = true)
        rw [hpl]; simpa using h1)]
      refine wpAny_bind (wpAny_drawOrder _ _ (by simp) fun ord d hp => ?_)
      refine wpAny_bind (wpAny_newTuple (hsz := by rw [List.length_map, hp.length_eq, List.length_range, hn]; exact fits_of_scanBound hb) ?_)
      have hsz : (s.heap.push { cls := .type "tuple", data := .seq (ord.map fun (k : Nat) => rawInt k).toArray }).objs.size = s.heap.objs.size + 1 := Heap.size_push ..
      refine last (.ref s.heap.objs.size) (s.heap.push { cls := .type "tuple", data := .seq (ord.map fun (k : Nat) => rawInt k).toArray }) d
        [(s.heap.push { cls := .type "tuple", data := .seq (ord.map fun (k : Nat) => rawInt k).toArray }).objs.size, s.heap.objs.size, a] _ _ (by rw [hsz]; exact Nat.le_succ _) (fun _ _ e => Heap.get?_push_of_some _ e)
        (fun A' hA' => walks_drawn hA' hd hf hp (by rw [hsz]; exact Nat.ne_of_gt (Nat.lt_succ_self _)) (by rw [hsz]; exact Nat.ne_of_gt (Nat.lt_succ_of_lt hlt))) ⟨Heap.get?_push_size _ rfl, Heap.get?_push_of_some _ (Heap.get?_push_size _ rfl), Heap.get?_push_of_some _ (Heap.get?_push_of_some _ ho)⟩ (fun b hb => ?_)
        (hands_of (xs := (ord.toArray.filterMap (es[·]?)).toList) hel hpm (order_perm (by simpa using hp)) fun j v ⟨p, x, e1, e2, e3⟩ => ⟨x, ?_, e3⟩)
      · rw [hsz]
        rcases List.mem_cons.mp hb with rfl | hb
        · rw [hsz]; exact ⟨Nat.le_refl _, .inr (Nat.le_succ _)⟩
        rcases List.mem_cons.mp hb with rfl | hb
        · exact ⟨Nat.le_succ _, .inr (Nat.le_refl _)⟩
        · rw [List.mem_singleton.mp hb]; exact ⟨Nat.le_succ_of_le (Nat.le_of_lt hlt), .inl rfl⟩
      · rw [Array.toList_filterMap, filterMap_get (fun q hq => ?_), List.toList_toArray, e1]
        · exact e2
        · have := List.mem_range.mp (hp.mem_iff.mp (by simpa using hq))
          simp [this]
    · rw [if_neg (by
        change ¬ ((!false && (!t.plain && decide (es.size > 1))) = true)
        rw [show decide (es.size > 1) = false from decide_eq_false (by omega)]; simp)]
      refine wpAny_bind (wpAny_pure ?_)
      refine last (rawInt 0) s.heap s.drawn [s.heap.objs.size, a] _ _ (Nat.le_refl _) (fun _ _ e => e) (fun A' hA' => walks_one hA' hbt h1 hd hf ((sp _ _ _ hd).2 hbt) nIa) ⟨Heap.get?_push_size _ rfl, Heap.get?_push_of_some _ ho⟩ (fun b hb => ?_)
        (hands_of hel hpm (List.Perm.refl _) fun j v ⟨x, e1, e2⟩ => ⟨x, by rw [Array.getElem?_toList]; exact e1, e2⟩)
      rcases List.mem_cons.mp hb with rfl | hb
      · exact ⟨Nat.le_refl _, .inr (Nat.le_refl _)⟩
      · rw [List.mem_singleton.mp hb]; exact ⟨Nat.le_of_lt hlt, .inl rfl⟩
end
end Mine
end

-- part Iy
section
open PySem PySem.W PySem.Calls PyProof.Rows PySem.Spec
set_option maxRecDepth 100000
namespace Mine
section
variable {prog : Program} {w : World} {A : Around} {E : Value → Shared → Prop} {s : Shared}

theorem collect_set {a : Addr} {so : Obj} {ks : List Str} {Q : List Value → Shared → Prop} (hh : A.handled = none) (ho : s.heap.get? a = some so) (hso : so.SetObjOf (PySem.strKind prog w) (skey ks) ks.length) (sp : SetP w so) (nd : ks.Nodup) (hb : ks.length < scanBound)
    (h : ∀ h' d tk vals ks', StrsAre vals ks' → ks'.Perm ks → (∀ b o, s.heap.get? b = some o → h'.get? b = some o) → s.heap.objs.size ≤ h'.objs.size → Q vals { s with heap := h', drawn := d, toks := tk }) :
    wpAny (model prog w) A (collect (.ref a)) Q E s := by
  have hT : s.TypeIs (.ref a) "set" := ⟨so, ho, hso.1.1⟩
  have hlt := Heap.lt_size ho
  unfold collect
  refine wpAny_bind (wpAny_runValue (codeAny_builtin F.entry_proto_collect ?_))
  rw [Around.under_plainId F.plain_proto_collect _]
  show wpAny _ A.in1 (newList [] >>= fun l => again (.builtin "list.__iadd__" ⟨[l, .ref a], []⟩)) _ _ s
  refine wpAny_bind (wpAny_newObj_type ?_)
  refine wpAny_pure ⟨plainId_quiet F.plain_list_iadd _, codeAny_builtin F.entry_list_iadd ?_⟩
  rw [Around.under_plainId F.plain_list_iadd _]
  generalize hH : s.heap.push { cls := .type "list", data := .seq ([] : List Value).toArray } = H
  have hHs : H.objs.size = s.heap.objs.size + 1 := by rw [← hH, Heap.size_push]
  have up : ∀ b o, s.heap.get? b = some o → H.get? b = some o := fun b o e => hH ▸ Heap.get?_push_of_some _ e
  have hS₁ : H.get? s.heap.objs.size = some { cls := .type "list", data := .seq ([] : List Value).toArray } := hH ▸ Heap.get?_push_size _ rfl
  have hT₁ : Shared.TypeIs { s with heap := H } (.ref a) "set" := ⟨so, up _ _ ho, hso.1.1⟩
  have h1 : Builtin.List.listSameRef (.ref s.heap.objs.size) (.ref a) = false := by simp [Builtin.List.listSameRef, Nat.ne_of_gt hlt]
  have h2 : (Value.type "set" == Value.type "list") = false := by decide
  have h3 : (Value.type "set" == Value.type "tuple") = false := by decide
  show wpAny _ A.in1 (Builtin.List.listExtendWith (.ref s.heap.objs.size) (.ref a) (.ref s.heap.objs.size)) _ _ { s with heap := H }
  unfold Builtin.List.listExtendWith
  refine wpAny_bind (wpAny_typeOf hT₁ ?_)
  simp only [h1, h2, h3, Bool.or_false, Bool.false_eq_true, if_false]
  refine wpAny_bind (iter_set (s := { s with heap := H }) (up _ _ ho) hso sp nd hb fun I fp P St h' d W st hfp hk hI hands => ?_)
  have hT₂ : Shared.TypeIs { s with heap := h', drawn := d } (.ref a) "set" := ⟨so, hk _ _ (up _ _ ho), hso.1.1⟩
  dsimp only
  refine wpAny_bind (wpAny_holding ?_)
  unfold Builtin.List.listLengthHint
  refine wpAny_bind (wpAny_specialOf hT₂ F.slot_set_len.lookup ?_)
  wp_delta
  refine wpAny_bind (wpAny_isInstance (T := "set") (b := true) hT₂ (by rw [isSubtype_type]; kernel_rfl) ?_)
  show wpAny _ A.in1 (typeOf (Value.ref a) >>= _) _ _ _
  refine wpAny_bind (wpAny_typeOf hT₂ ?_)
  refine wpAny_pure ?_
  rw [if_pos (by decide)]
  refine wpAny_bind (wpAny_rule ?_)
  have hS₂ := hk _ _ hS₁
  refine wpAny_bind ?_
  show wpAny _ A.in1 (updateSeq s.heap.objs.size (·.push .none) >>= fun _ => updateSeq s.heap.objs.size (·.pop)) _ _ _
  refine wpAny_bind (wpAny_updateSeq hS₂ rfl ?_)
  have hS₃ := Heap.get?_update_self (Obj.mapSeq (·.push Value.none)) hS₂ rfl
  refine wpAny_updateSeq hS₃ rfl ?_
  have hS₄ := Heap.get?_update_self (Obj.mapSeq (·.pop)) hS₃ rfl
  have oth : ∀ b o, b ≠ s.heap.objs.size → h'.get? b = some o → ((h'.update s.heap.objs.size (Obj.mapSeq (·.push Value.none))).update s.heap.objs.size (Obj.mapSeq (·.pop))).get? b = some o :=
    fun b o hb e => (Heap.get?_update_other _ _ (Ne.symm hb)).trans ((Heap.get?_update_other _ _ (Ne.symm hb)).trans e)
  have W' := (W A.in1 (by simp [hh])).toS
  have hSf : s.heap.objs.size ∉ fp := fun q => by
    rcases (hfp _ q).2 with e | e
    · exact absurd hlt (e ▸ Nat.lt_irrefl _)
    · rw [hHs] at e; exact absurd e (Nat.not_succ_le_self _)
  refine wpAny_pure ⟨plainId_quiet F.plain_extend_loop _, codeAny_extend_loopS W' (fits_of_scanBound hb) _ hSf _ ks.length 0 _ _ _ rfl (Nat.zero_le _) (W'.frame 0 ({ s with heap := h', drawn := d } : Shared) _ s.toks st (Nat.le_refl _) fun b hb o e => oth b o (fun q => hSf (q ▸ hb)) e) hS₄ (ItemsOf.nil P) fun s' acc' c' hm hS' hacc => ?_⟩
  show wpAny _ A (load s.heap.objs.size >>= _) _ _ s'
  refine wpAny_bind (wpAny_load hS' ?_)
  obtain ⟨ks', k1, k2⟩ := hands acc'.toList (by rw [Array.length_toList]; exact hacc.1) fun j v e => hacc.2 j v (by rw [← Array.getElem?_toList]; exact e)
  obtain ⟨hp', g', d', tk', os'⟩ := s'
  have eg : g' = s.gens := hm.gens
  have ed : d' = d := hm.drawn
  have eo : os' = s.os := hm.os
  subst eg; subst ed; subst eo
  have keep : ∀ b o, s.heap.get? b = some o → hp'.get? b = some o := fun b o e => by
    have hlb := Heap.lt_size e
    refine hm.heap b o (fun q => ?_) (oth b o (Nat.ne_of_lt hlb) (hk b o (up b o e)))
    rcases List.mem_cons.mp q with q | q
    · exact absurd hlb (q ▸ Nat.lt_irrefl _)
    · rw [List.mem_singleton.mp q] at hlb
      have hI' : H.objs.size ≤ I := hI
      rw [hHs] at hI'
      exact absurd hlb (Nat.not_lt.mpr (Nat.le_of_succ_le hI'))
  exact wpAny_pure (h hp' d' tk' acc'.toList ks' k1 k2 keep (Nat.le_of_lt (Heap.lt_size hS')))

theorem sorted_set {a : Addr} {so : Obj} {ks : List Str} {Q : Value → Shared → Prop} (hh : A.handled = none) (ho : s.heap.get? a = some so) (hso : so.SetObjOf (PySem.strKind prog w) (skey ks) ks.length) (sp : SetP w so) (nd : ks.Nodup) (hb : ks.length < 64)
    (h : ∀ D h' d tk vs ks' e, s.heap.objs.size ≤ D → h'.get? D = some (listOf vs.toArray e) → StrsAre vs ks' → ks'.Perm ks → sortedS ks' = true → (∀ b o, s.heap.get? b = some o → h'.get? b = some o) → Q (.ref D) { s with heap := h', drawn := d, toks := tk }) :
    wpAny (model prog w) A (call (.builtin "sorted") [.ref a]) Q E s := by
  refine Calls.call_function_entry kind_sorted plain_sorted entry_sorted (args_sorted1 _) ?_
  unfold Builtin.«sorted»
  refine wpAny_bind (m := checkCount "sorted" 1 1 _) (wpAny_pure ?_)
  refine wpAny_bind (collect_set (by simp [hh]) ho hso sp nd (by unfold scanBound; omega) fun h' d tk vals ks' k1 k2 keep hsz => ?_)
  have hlv : vals.length = ks.length := by rw [k1.len_eq, k2.length_eq]
  refine wpAny_bind (wpAny_newList (hsz := by rw [hlv, sizeLine_eq]; omega) ?_)
  have hoL : (h'.push (seqObj "list" vals.toArray 0)).get? h'.objs.size = some (seqObj "list" vals.toArray 0) := Heap.get?_push_size _ rfl
  refine wpAny_bind (wpAny_holding (wpAny_call_entry slot_list_sort ⟨_, hoL, rfl⟩ entry_list_sort (list_sort_treeK strKind_oneLt hoL k1.keysOf (fun v₁ v₂ rest e => keyKind_strs (by rw [← e]; exact k1)) (by omega) fun st' a1 a2 => ⟨_, rfl, ?_⟩) (args_list_sort _)))
  obtain ⟨ks2, q1, q2, q3⟩ := sorted_out_str k1 a1 a2
  obtain ⟨e, he⟩ := sortedHeap_at (out := ((arrOf st').map (·.2))) hoL
  refine wpAny_pure ⟨_, rfl, h h'.objs.size _ d tk ((arrOf st').map (·.2)).toList ks2 e hsz (by rw [show (((arrOf st').map (·.2)).toList.toArray) = (arrOf st').map (·.2) from Array.toArray_toList ..]; exact he) q1 (q2.trans k2) q3 fun b o eb => ?_⟩
  have hlb := Heap.lt_size (keep b o eb)
  rw [sortedHeap_old (Nat.ne_of_lt hlb) (by rw [Heap.size_push]; exact Nat.lt_succ_of_lt hlb)]
  exact Heap.get?_push_of_some _ (keep b o eb)
end
end Mine
end

-- part C13
section
open PySem PySem.W PySem.Calls PyProof.Rows PySem.Spec
set_option maxRecDepth 100000
namespace Mine
section
variable {w : World} {hb : Heap} {p : Program} {loose : List Str} {mean : ExcName → Option Value} {mg mb : Str → Option Value} {out : List Env}
  {s : Shared} {Q : Value → Shared → Prop} {E : Value → Shared → Prop} {x dx l sa : Addr} {t1 t2 t3 : Tok} {k : Nat} {vs : List Value} {R : List Str} {so : Obj}

theorem HS.nodup {h : Heap} (H : HS w h x dx l sa t1 t2 t3 k vs R so) : R.Nodup := List.Pairwise.of_map Txt.lower (fun a b n e => n (e ▸ rfl)) H.dist

set_option maxHeartbeats 8000000 in
theorem as_set_true (X : (hd.heap_39 w.params).In hb) (T : Top p loose mean mg mb hb) (H : HS w s.heap x dx l sa t1 t2 t3 k vs R so) (cx : Cx hb out s.heap [x, dx, l, sa])
    (ret : ∀ D h' tk so', s.heap.get? D = none → h'.get? D = some so' → so'.SetObjOf (PySem.strKind PySem.Challenge.rw_fa0002_01.row.prog w) (skey R) R.length → SetP w so' → Kp [] s.heap h' → Q (.ref D) { s with heap := h', toks := tk }) :
    wpAny (model PySem.Challenge.rw_fa0002_01.row.prog w) (AR 500 500 out) (call (.ref 108) [.ref x, .bool true]) Q E s := by
  revert X; k_fill; intro X
  refine wpAny_call ?_
  obtain ⟨n1, n2, n3, n4, n5, n6⟩ := H.neN
  have hn := H.get
  refine' enter (binds := [(Str.ofString "self", .ref x), (Str.ofString "preserve_casing", .bool true)]) (hsNews w x dx l sa t1 t2 t3 k vs so) X T cx hn ?ho ?hcd ?hroom ?hbind ?hloc ?_ ?c2 ?c3 ?c4 ?c5
  case ho => k_is
  case hcd => k_is
  case hroom => decide
  case hbind => first | exact BindsTo.of_eq rfl | exact binds_K (X.keeps cx.stays) rfl (by k_is) rfl rfl rfl
  case hloc => exact locs rfl
  case c2 => exact rfl
  case c3 => exact rfl
  case c4 => exact rfl
  case c5 => decide
  intro g L' h₁ st' hg hg2 hsz F' N' B' X' T'
  try dsimp only
  all_goals try k_fold
  repeat' (first | ((fail_if_success (with_reducible show wpAny _ _ (call (Value.type "set") _) _ _ _)); (first | (k_unfold; (try dsimp only)) | (k_end; wrow_close) | walk1 | (dsimp only; walk1) | (leave1; try dsimp only))) | fail "stop")
  rename Fr _ _ _ _ => F9
  rename News _ _ _ _ => N9
  refine set_of_list rfl (news_list N9 (.tail _ (.tail _ (.head _)))) H.si H.nodup (Nat.le_trans H.len (by decide)) fun h' tk ⟨so', e1, e2, e3⟩ keep => ?_
  k_steps
  refine ret _ _ _ so' ?_ e1 e2 e3 fun b o e n => keep b o (kp_same hg hn F9 (fun q hq => (N9 q hq).1) b o e n)
  exact Heap.get?_none_of_le (Nat.le_trans hsz (Nat.le_of_lt F9.ns.lt))

set_option maxHeartbeats 8000000 in
theorem as_set_false (X : (hd.heap_39 w.params).In hb) (T : Top p loose mean mg mb hb) (H : HS w s.heap x dx l sa t1 t2 t3 k vs R so) (cx : Cx hb out s.heap [x, dx, l, sa]) (h5 : R.length ≤ 5)
    (ret : ∀ D h' tk so', s.heap.get? D = none → h'.get? D = some so' → so'.SetObjOf (PySem.strKind PySem.Challenge.rw_fa0002_01.row.prog w) (skey (R.map Txt.lower)) R.length → SetP w so' → Kp [] s.heap h' → Q (.ref D) { s with heap := h', toks := tk }) :
    wpAny (model PySem.Challenge.rw_fa0002_01.row.prog w) (AR 500 500 out) (call (.ref 108) [.ref x]) Q E s := by
  revert X; k_fill; intro X
  refine wpAny_call ?_
  obtain ⟨n1, n2, n3, n4, n5, n6⟩ := H.neN
  have hn := H.get
  refine' enter (binds := [(Str.ofString "self", .ref x), (Str.ofString "preserve_casing", .bool false)]) (hsNews w x dx l sa t1 t2 t3 k vs so) X T cx hn ?ho ?hcd ?hroom ?hbind ?hloc ?_ ?c2 ?c3 ?c4 ?c5
  case ho => k_is
  case hcd => k_is
  case hroom => decide
  case hbind => first | exact BindsTo.of_eq rfl | exact binds_K (X.keeps cx.stays) rfl (by k_is) rfl rfl rfl
  case hloc => exact locs rfl
  case c2 => exact rfl
  case c3 => exact rfl
  case c4 => exact rfl
  case c5 => decide
  intro g L' h₁ st' hg hg2 hsz F' N' B' X' T'
  try dsimp only
  all_goals try k_fold
  repeat' (first | ((fail_if_success (with_reducible show wpAny _ _ (call (Value.type "set") _) _ _ _)); (first | (k_unfold; (try dsimp only)) | (k_end; wrow_close) | walk1 | (dsimp only; walk1) | (leave1; try dsimp only))) | fail "stop")
  rename Fr _ _ _ _ => F9
  rename News _ _ _ _ => N9
  have hlR : (R.map Txt.lower).length = R.length := List.length_map ..
  refine set_of_set (ks := R.map Txt.lower) rfl (N9.get (by k_mem)) (hlR.symm ▸ H.ss) H.sp (by rw [hlR]; exact h5) fun h' ⟨so', e1, e2, e3⟩ keep => ?_
  rw [hlR] at e2
  k_steps
  refine ret _ _ _ so' ?_ e1 e2 e3 fun b o e n => keep b o (kp_same hg hn F9 (fun q hq => (N9 q hq).1) b o e n)
  exact Heap.get?_none_of_le (Nat.le_trans hsz (Nat.le_of_lt F9.ns.lt))
end
end Mine
end

-- part C6
section
open PySem PySem.W PySem.Calls PyProof.Rows PySem.Spec
set_option maxRecDepth 100000
namespace Mine
section
variable {w : World} {hb : Heap} {p : Program} {loose : List Str} {mean : ExcName → Option Value} {mg mb : Str → Option Value} {out : List Env}
  {s : Shared} {Q : Value → Shared → Prop} {E : Value → Shared → Prop} {x dx l sa : Addr} {t1 t2 t3 : Tok} {k : Nat} {vs : List Value} {R : List Str} {so : Obj}

set_option maxHeartbeats 8000000 in
theorem add_spec {y : Str} {t : Tok} (X : (hd.heap_39 w.params).In hb) (T : Top p loose mean mg mb hb) (H : HS w s.heap x dx l sa t1 t2 t3 k vs R so) (cx : Cx hb out s.heap [x, dx, l, sa]) (hy : y.length ≤ 1000) (hlen : R.length < 40)
    (ret : ∀ h' tk k' vs' so', HS w h' x dx l sa t1 t2 t3 k' vs' (put1 R y) so' → Kp [x, dx, l, sa] s.heap h' → Q .none { s with heap := h', toks := tk }) :
    wpAny (model PySem.Challenge.rw_fa0002_01.row.prog w) (AR 400 400 out) (call (.ref 58) [.ref x, .str y t]) Q E s := by
  revert X; k_fill; intro X
  refine wpAny_call ?_
  obtain ⟨n1, n2, n3, n4, n5, n6⟩ := H.neN
  have hn := H.get
  refine' enter (binds := [(Str.ofString "self", .ref x), (Str.ofString "header", .str y t)]) (hsNews w x dx l sa t1 t2 t3 k vs so) X T cx hn ?ho ?hcd ?hroom ?hbind ?hloc ?_ ?c2 ?c3 ?c4 ?c5
  case ho => k_is
  case hcd => k_is
  case hroom => decide
  case hbind => exact BindsTo.of_eq rfl
  case hloc => exact locs rfl
  case c2 => exact rfl
  case c3 => exact rfl
  case c4 => exact rfl
  case c5 => decide
  intro g L' h₁ st' hg hg2 hsz F' N' B' X' T'
  try dsimp only
  all_goals try k_fold
  repeat' (first | ((fail_if_success (with_reducible show wpAny _ _ (call (.ref 72) _) _ _ _)); (first | (k_unfold; (try dsimp only)) | (k_end; wrow_close) | walk1 | (dsimp only; walk1) | (leave1; try dsimp only))) | fail "stop")
  rename Fr _ _ _ _ => F9
  rename News _ _ _ _ => N9
  try dsimp only
  have H9 : HS w _ x dx l sa t1 t2 t3 k vs R so := H.at_ fun q hq => (N9 q (.tail _ hq)).1
  have hD : _ ≠ l := (N9 _ (.head _)).1 |> fun e => ne_of_obj e H9.hl (by simp)
  refine ar_raise (D := 500) (U := 500) rfl (Nat.le_of_ble_eq_true rfl) (Nat.le_of_ble_eq_true rfl) rfl ?_
  refine (update_spec (N := [y]) X T H9 (Cx.sub (cx_of B' F9 N9) fun a ha => .tail _ ha) (.inr ⟨_, (N9 _ (.head _)).1, rfl, _, rfl⟩) (.cons y t .nil) hD (fun z hz => List.mem_singleton.mp hz ▸ hy) hlen fun h' tk k' vs' so' H' kp => ?_)
  k_steps
  exact ret _ _ _ _ _ H' (kp_out hg F9 |>.trans kp)
end
end Mine
end

-- part Gx
section
open PySem PySem.W PySem.Calls PyProof.Rows PySem.Spec
set_option maxRecDepth 100000
namespace Mine
/-- the code table at P, however grown -/
def Tab (P : Addr) (h : Heap) : Prop := ∃ ps, h.get? P = some (tabObj ps) ∧ TriplesOk ps.toList

section
variable {prog : Program} {w : World} {A : Around} {E : Value → Shared → Prop} {s : Shared} {g : Heap} {c P L : Addr} {m mg mb : Str → Option Value} {p : Program} {loose : List Str} {mean : ExcName → Option Value}

theorem code_grow {env : Env} {pos : Pos} {qualname : Str} {scope : Scope} {Q : Value → Shared → Prop} {ps : Array Value} (hc : env.code = .ref c) (C : CodeHd s.heap c P) (hP : s.heap.get? P = some (tabObj ps)) (ht : TriplesOk ps.toList)
    (h : ∀ code h' tk, Heap.ExtBut P s.heap h' → s.heap.objs.size ≤ h'.objs.size → Tab P h' → Q code { s with heap := h', toks := tk }) : wpAny (model prog w) A (genexprCode env pos qualname scope) Q E s := by
  cases hn : codeAmong pos ps.toList with
  | some cv => exact wpAny_genexprCode_hit hc (C.code hP ht) hn (h cv s.heap s.toks (Heap.ExtBut.refl _ _) (Nat.le_refl _) ⟨ps, hP, ht⟩)
  | none =>
    refine wpAny_genexprCodeX hc (C.code hP ht) (C.tab hP) hn fun c' h' tk hx hge hlt hcode _ htab _ => h _ h' tk hx (Nat.le_trans hge (Nat.le_of_lt hlt)) ⟨_, htab.2, ?_⟩
    rw [Array.toList_append]
    exact TriplesOk_snoc _ _ _ _ ht

/-- a generator's walk, what it may write lies at N₀ or behind -/
def GenW (prog : Program) (w : World) (A : Around) (N₀ a : Addr) (n : Nat) (F : Nat → Value → Prop) (s : Shared) : Prop :=
  ∃ fp wr gi St, WalksS prog w A.in4 a fp wr (GenOnlyQ gi) n F St ∧ St 0 s ∧ (∀ i s', St i s' → s'.TypeIs (.ref a) "generator") ∧ a ∈ fp ∧ (∀ b ∈ fp, b < s.heap.objs.size) ∧ ∀ b ∈ wr, N₀ ≤ b

theorem genexp_rule {env : Env} {elt iter : Expr} {x : Str} {px : Pos} {ifs : List Expr} {scope : Scope} {cl : List (Str × Addr)} {pos : Pos} {Q : Value → Shared → Prop} {N₀ : Nat}
    (T : Top p loose mean mg mb g) (C : CodeHd g c P) (hcode : env.code = .ref c) (hglob : env.globals = mainGlobals) (hPg : g.get? P = none)
    (hh : A.handled = none) (hco : scope.isCoroutine = false) (hclos : closureFor scope env = pure cl) (hcell : ∀ y ∈ scope.names, y.2 ≠ .cell) (h0 : scope.names.lookup (".0" : Str) = some NameKind.local)
    (hx : scope.names.lookup x = some .local) (hkind : scope.kind = .function) (hroom : A.depth < recursionLimit)
    (hs : ∀ x, genFold iter env x = pure x)
    (h : wpAny (model prog w) A (eval iter env) (fun xv s₁ => wpAny (model prog w) A (pyIter xv) (fun it s₂ => (∀ b o, g.get? b = some o → s₂.heap.get? b = some o) ∧ Tab P s₂.heap ∧ AllBare s₂.gens ∧
      ∃ I fp wr n₀ Pi St₀ pz F, it = .ref I ∧ (∀ A' : Around, A'.handled = none → Walks prog w A' I fp wr n₀ Pi St₀) ∧ St₀ 0 s₂.heap ∧ (∀ b ∈ fp, b < s₂.heap.objs.size) ∧ P ∉ fp ∧ (∀ b ∈ wr, N₀ ≤ b) ∧ N₀ ≤ s₂.heap.objs.size ∧ cStatics < N₀ ∧
        (∀ (code : Value) (h₃ href : Heap), Heap.ExtBut P s₂.heap h₃ → s₂.heap.objs.size ≤ h₃.objs.size → (∀ b o, h₃.get? b = some o → href.get? b = some o) →
          QuietGen prog w (genEnv scope cl h₃.objs.size code builtinsNs env) x ifs elt (List.range h₃.objs.size) wr Pi pz F href) ∧
        (∀ (a : Addr) h₅ gens₅ tk, (∀ b o, b ≠ P → s₂.heap.get? b = some o → h₅.get? b = some o) → Tab P h₅ → AllBare gens₅ → s₂.heap.objs.size ≤ a → a < h₅.objs.size →
          GenW prog w A N₀ a (passing pz n₀ 0).length (fun j y => ∃ i, (passing pz n₀ 0)[j]? = some i ∧ F i y) { s₂ with heap := h₅, gens := gens₅, toks := tk } → Q (.ref a) { s₂ with heap := h₅, gens := gens₅, toks := tk })) E s₁) E s) :
    wpAny (model prog w) A (eval (.GeneratorExp elt [⟨.Name x px, iter, ifs, 0⟩] scope pos) env) Q E s := by
  refine wpAny_GeneratorExp_walksQ hh hco hclos hcell h0 hx hkind hroom (wpAny_mono h (fun xv s₁ h₁' => wpAny_mono h₁' (fun it s₂ h₂ => ?_) fun _ _ e => e) fun _ _ e => e) hs
  obtain ⟨keep, ⟨ps, hP, ht⟩, G₂, I, fp, wr, n₀, Pi, St₀, pz, F, rfl, W₀, hst, hfp, hPf, hwr, hN, hcs, hq, hQ⟩ := h₂
  have hlim : s₂.heap.NoLimit := T.nolimit.keeps keep
  refine ⟨hlim, code_grow hcode (C.keeps keep) hP ht fun code h₃ tk₃ hx₃ hsz htab₃ => ?_⟩
  obtain ⟨bm, ob, b1, b2, b3, b4, b5, b6⟩ := T.bmain
  have neP : ∀ {b : Addr} {o : Obj}, g.get? b = some o → b ≠ P := fun e q => by rw [q, hPg] at e; cases e
  have hgm : h₃.Ns mainGlobals mg := by
    obtain ⟨o, es, ep, e, r⟩ := T.g
    exact ⟨o, es, ep, hx₃ _ _ (neP e) (keep _ _ e), r⟩
  have hcP : cStatics ≠ P := by
    obtain ⟨_, ⟨o, es, ep, e, _⟩, _⟩ := T.nolimit
    exact neP e
  have hl₃ : h₃.NoLimit := hlim.extBut hx₃ hcP
  rw [hglob]
  refine wpAny_builtinsFor hgm b1 b2 (hx₃ _ _ (neP b3) (keep _ _ b3)) b4 b5 b6 ?_
  have hcw : cStatics ∉ wr := fun hm => absurd hcs (Nat.not_lt.mpr (hwr _ hm))
  refine ⟨I, fp, wr, n₀, Pi, St₀, pz, F, rfl, W₀, (W₀ A hh).frame _ _ _ hst (fun b hb o e => hx₃ b o (fun e' => hPf (e' ▸ hb)) e), (fun b hb => Nat.lt_of_lt_of_le (hfp b hb) hsz), hl₃, hcw,
    (fun href hhref => hq _ h₃ href hx₃ hsz hhref), fun a h₅ tk gs hgb hag hsz₅ hk₅ W hat => ?_⟩
  refine hQ a h₅ _ tk (fun b o hb e => hk₅ _ _ (hx₃ b o hb e)) (let ⟨ps', e, t⟩ := htab₃; ⟨ps', hk₅ _ _ e, t⟩) (G₂.push hgb) (Nat.le_trans hsz (Nat.le_of_lt hag)) (by rw [hsz₅]; exact Nat.lt_succ_self _)
    ⟨_, _, _, _, W, hat, (fun i s' st => st.1.typeIs), List.mem_cons_self, ?_, ?_⟩
  · intro b hb
    show b < h₅.objs.size
    rw [hsz₅]
    rcases List.mem_cons.mp hb with rfl | hb
    · exact Nat.lt_succ_self _
    · rcases List.mem_cons.mp hb with rfl | hb
      · exact Nat.lt_succ_of_lt hag
      · exact Nat.lt_succ_of_lt (Nat.lt_trans (List.mem_range.mp hb) hag)
  · intro b hb
    rcases List.mem_cons.mp hb with rfl | hb
    · exact Nat.le_trans hN hsz
    · exact hwr b hb

theorem Keeps.same (s : Shared) : Keeps s s := ⟨s.heap, s.toks, rfl, fun _ _ e => e⟩
/-- `x in y` in a generator: x its own, y a free text -/
theorem gen_in {env : Env} {scope : Scope} {cl : List (Str × Addr)} {C : Addr} {code : Value} {bi : Addr} {x z : Str} {px pz pos : Pos} {a b : Str} {ta tb : Tok} {k : Addr} {o : Obj} {mm : Str → Option Value} {Q : Value → Shared → Prop}
    (hk : scope.kind = .function) (hx : scope.names.lookup x = some .local) (hz : scope.names.lookup z = some .free) (hn : s.heap.Ns C mm) (hm : mm x = some (.str a ta)) (hc : cl.lookup z = some k) (ho : s.heap.get? k = some o) (hd : o.data = .cell (some (.str b tb)))
    (dx : (x == ("__debug__" : Str)) = false) (dz : (z == ("__debug__" : Str)) = false) (dc : (z == ("__classdict__" : Str)) = false) (h : Q (.bool !(Builtin.Str.occurrences b a 0 b.length 1).isEmpty) s) :
    wpAny (model prog w) A (eval (.Compare (.Name x px) [.In] [.Name z pz] pos) (genEnv scope cl C code bi env)) Q E s := by
  refine wpAny_Compare1 ?_
  refine wpAny_Name (wpAny_loadName_local hk hx hn hm ?_) dx
  refine wpAny_Name (wpAny_loadName_free hk hz hc ⟨o, ho, hd⟩ ?_ dc) dz
  exact in_str h

/-- `all(..)` over a generator of bools -/
theorem all_gen {N₀ a : Addr} {n : Nat} {F : Nat → Value → Prop} {tr : Nat → Bool} {Q : Value → Shared → Prop} (W : GenW prog w A N₀ a n F s) (hF : ∀ j v, F j v → v = .bool (tr j)) (hG : AllBare s.gens)
    (h : ∀ h' gens' tk, (∀ b o, b < N₀ → s.heap.get? b = some o → h'.get? b = some o) → AllBare gens' → Q (.bool ((List.range n).all tr)) { s with heap := h', gens := gens', toks := tk }) :
    wpAny (model prog w) A (call (.builtin "all") [.ref a]) Q E s := by
  obtain ⟨fp, wr, gi, St, W, hst, _, _, _, hwr⟩ := W
  refine call_all_walkS (W.in4_1.self 0 s _ _ hst ⟨a, fp, wr, _, n, F, St, tr, rfl, W.in4_1, hst, fun i v s' Q' E' hP hQ => ?_, fun s' hm => ?_⟩)
  · rw [hF i v hP]; exact wpAny_truthy_bool hQ
  · obtain ⟨h', g', d', tk', os'⟩ := s'
    have ed : d' = s.drawn := hm.drawn
    have eo : os' = s.os := hm.os
    subst ed; subst eo
    exact h h' g' tk' (fun b o hb e => hm.heap b o (fun q => absurd hb (Nat.not_lt.mpr (hwr b q))) e) (hm.gens.bare hG)
end
end Mine
end

-- part D1
section
open PySem PySem.W PySem.Calls PyProof.Rows PySem.Spec
set_option maxRecDepth 100000
namespace Mine
def TOK : Str := Str.ofString "!#$%&'*+-.0123456789ABCDEFGHIJKLMNOPQRSTUVWXYZ^_`abcdefghijklmnopqrstuvwxyz|~"
def tokC (ch : Nat) : Bool := !(Builtin.Str.occurrences TOK ⟨#[ch]⟩ 0 TOK.length 1).isEmpty
def tokAt (y : Str) (i : Nat) : Bool := match y.cps[i]? with | some ch => tokC ch | none => false
def BS : Str := Str.ofString "\\"
def DQ : Str := Str.ofString "\""
/-- no backslash, no quote -/
def plainS (y : Str) : Bool := (Builtin.Str.occurrences y BS 0 y.length (y.length + 1)).isEmpty && (Builtin.Str.occurrences y DQ 0 y.length (y.length + 1)).isEmpty
def isTok (y : Str) : Bool := (List.range y.cps.size).all (tokAt y)
theorem empty_app (a : Str) : Str.empty ++ a = a := by
  show (⟨#[] ++ a.cps⟩ : Str) = a
  rw [Array.empty_append]
theorem replace_none {prog : Program} {w : World} {A : Around} {E : Value → Shared → Prop} {s : Shared} {x y z : Str} {t u v : Tok} {Q : Value → Shared → Prop} (h : (Builtin.Str.occurrences x y 0 x.length (x.length + 1)).isEmpty = true) (hq : Q (.str x t) s) :
    wpAny (model prog w) A (call (.builtin "str.replace") [.str x t, .str y u, .str z v]) Q E s := by
  refine call_gives F.slot_str_replace (typeIs_str _ _ _) F.entry_str_replace (F.args_str_replace_3 _ _ _) (gives_str_replace x y z t u v fun q => ?_) ?_
  · rw [h] at q; cases q
  · rw [h]; exact hq
section
variable {w : World} {hb : Heap} {p : Program} {loose : List Str} {mean : ExcName → Option Value} {mg mb : Str → Option Value} {out : List Env}
  {s : Shared} {Q : Value → Shared → Prop} {E : Value → Shared → Prop}

set_option maxHeartbeats 8000000 in
theorem quote_spec {y : Str} {t : Tok} {ps : Array Value} (X : (hd.heap_39 w.params).In hb) (T : Top p loose mean mg mb hb) (cx : Cx hb out s.heap [188]) (hP : s.heap.get? 188 = some (tabObj ps)) (hps : TriplesOk ps.toList) (hG : AllBare s.gens) (hy : y.length ≤ 1000) (hne : 0 < y.length) (hpl : plainS y = true)
    (ret : ∀ r t' h' tk gens', Tab 188 h' → Kp [188] s.heap h' → AllBare gens' → r = (if isTok y then y else DQ ++ y ++ DQ) → Q (.str r t') { s with heap := h', toks := tk, gens := gens' }) :
    wpAny (model PySem.Challenge.rw_fa0002_01.row.prog w) (AR 400 400 out) (call (.ref 193) [.str y t]) Q E s := by
  revert X; k_fill; intro X
  refine wpAny_call ?_
  refine' enterC (binds := [(Str.ofString "value", .str y t), (Str.ofString "allow_token", .bool true)]) [(188, tabObj ps)] X T cx ?hn ?ho ?hcd ?hroom ?hbind ?hkind ?hnd ?_ ?c2 ?c3 ?c4
  case hn => intro q hq; rw [List.mem_singleton.mp hq]; exact hP
  case ho => k_is
  case hcd => k_is
  case hroom => decide
  case hbind => first | exact BindsTo.of_eq rfl | exact binds_K (X.keeps cx.stays) rfl (by k_is) rfl rfl rfl
  case hkind => exact rfl
  case hnd => decide +kernel
  case c2 => exact rfl
  case c3 => exact rfl
  case c4 => exact rfl
  intro g L' h₁ tk cells' st' hg hg2 hsz F' N' Y' l1 B' X' T'
  k_cells Y'
  try simp only [List.cons_append, List.nil_append] at N'
  try dsimp only
  all_goals try k_fold
  repeat' (first | ((with_reducible show wpAny _ _ _ _ _ _); (fail_if_success (with_reducible show wpAny _ _ (eval (Expr.GeneratorExp _ _ _ _) _) _ _ _)); (first | (k_unfold; (try dsimp only)) | (k_end; wrow_close) | walk1 | (dsimp only; walk1) | (leave1; try dsimp only))) | fail "stop")
  rw [if_neg (by
    have : ((y.length : Int) != 0) = true := by simp; omega
    rw [this]; exact Bool.false_ne_true)]
  repeat' (first | ((with_reducible show wpAny _ _ _ _ _ _); (fail_if_success (with_reducible show wpAny _ _ (eval (Expr.GeneratorExp _ _ _ _) _) _ _ _)); (first | (k_unfold; (try dsimp only)) | (k_end; wrow_close) | walk1 | (dsimp only; walk1) | (leave1; try dsimp only))) | fail "stop")
  rw [if_pos rfl]
  repeat' (first | ((with_reducible show wpAny _ _ _ _ _ _); (fail_if_success (with_reducible show wpAny _ _ (eval (Expr.GeneratorExp _ _ _ _) _) _ _ _)); (first | (k_unfold; (try dsimp only)) | (k_end; wrow_close) | walk1 | (dsimp only; walk1) | (leave1; try dsimp only))) | fail "stop")
  rename Fr _ _ _ _ => F9
  rename News _ _ _ _ => N9
  rename (_ = Data.cell _) => hcell9
  have C9 : CodeHd g 192 188 := codeHd_of_K X' (by kernel_rfl)
  simp only [List.nil_append] at N9
  try k_fold
  apply genexp_rule (N₀ := L' + 2) T' C9
  case hcode => rfl
  case hglob => rfl
  case hPg => exact (N9 (188, tabObj ps) (by k_mem)).2.2
  case hh => rfl
  case hco => rfl
  case hclos => with_unfolding_all rfl
  case hcell => decide
  case h0 => rfl
  case hx => rfl
  case hkind => rfl
  case hroom => show (651 : Nat) < recursionLimit; decide
  case hs => intro _; with_unfolding_all rfl
  case h =>
  repeat' (first | ((with_reducible show wpAny _ _ _ _ _ _); (fail_if_success (with_reducible show wpAny _ _ (pyIter _) _ _ _)); (first | (k_unfold; (try dsimp only)) | walk1 | (dsimp only; walk1) | (leave1; try dsimp only))) | fail "stop")
  refine wpAny_pyIter_str fun oI StI WI hstI => ?_
  refine ⟨?keep, ?tab, hG, _, _, _, _, _, _, fun _ => true, fun i v => v = .bool (tokAt y i), rfl, WI, hstI, ?fp, ?pfp, ?wr, ?n0, ?cs, ?quiet, ?fin⟩
  case keep => exact fun b o e => Heap.get?_push_of_some _ (F9.keep b o e)
  case tab => exact ⟨ps, Heap.get?_push_of_some _ (N9 (188, tabObj ps) (by k_mem)).1, hps⟩
  case fp =>
    intro b hb
    rw [List.mem_singleton.mp hb]
    show _ < (Heap.push _ _).objs.size
    rw [Heap.size_push]; exact Nat.lt_succ_self _
  case pfp => exact fun q => absurd (Heap.lt_size (N9 (188, tabObj ps) (by k_mem)).1) (by rw [List.mem_singleton.mp q]; exact Nat.lt_irrefl _)
  case wr =>
    intro b hb
    rw [List.mem_singleton.mp hb]
    exact Heap.lt_size (N9 _ (.head _)).1
  case n0 =>
    show _ ≤ (Heap.push _ _).objs.size
    rw [Heap.size_push]; exact Nat.le_succ_of_le (Heap.lt_size (N9 _ (.head _)).1)
  case cs =>
    obtain ⟨_, ⟨o, es, ep, e, _⟩, _⟩ := T'.nolimit
    exact Nat.lt_succ_of_lt (Nat.lt_succ_of_le (Nat.le_of_lt (Nat.lt_of_lt_of_le (Heap.lt_size e) F9.above)))
  case quiet =>
    intro code h3 href hx3 hsz3 hk3
    refine ⟨fun A' E' i v s2 m2 hA hP hns hm hkk => wpAny_tests_nil ⟨rfl, Keeps.same _⟩, fun A' E' i v s2 m2 hA hP hpz hns hm hkk => ?_⟩
    obtain ⟨ch, u, hch, rfl⟩ := hP
    have ne1 : L' + 1 ≠ 188 := Nat.ne_of_gt (Nat.lt_succ_of_lt (l1 _ (.head _)))
    have hcl := hkk (L' + 1) (List.mem_range.mpr (Nat.lt_of_lt_of_le (by show L' + 1 < (Heap.push _ _).objs.size; rw [Heap.size_push]; exact Nat.lt_succ_of_lt (Heap.lt_size (N9 _ (.head _)).1)) hsz3)) (by
      intro q
      have := Heap.lt_size (N9 _ (.head _)).1
      rw [List.mem_singleton.mp q] at this
      exact Nat.lt_irrefl _ this) _ (hk3 _ _ (hx3 _ _ ne1 (Heap.get?_push_of_some _ (N9 _ (.head _)).1)))
    refine gen_in (by rfl) (by rfl) (by rfl) hns hm (k := L' + 1) (by rfl) hcl hcell9 (by decide) (by decide) (by decide) ⟨?_, Keeps.same _⟩
    show _ = Value.bool (tokAt y i)
    unfold tokAt
    rw [hch]; rfl
  case fin =>
    intro a h5 gens5 tk5 hk5 htab5 hG5 ha1 ha2 W5
    obtain ⟨ps5, hP5, hps5⟩ := htab5
    have n188 : (188 : Nat) < L' := l1 _ (.head _)
    have F5 : Fr g L' h5 _ := ⟨F9.ns.at' fun o e => hk5 _ o (Nat.ne_of_gt n188) (Heap.get?_push_of_some _ e), fun b o e => hk5 b o (fun q => by rw [q, (N9 (188, tabObj ps) (by k_mem)).2.2] at e; cases e) (Heap.get?_push_of_some _ (F9.keep b o e)), F9.above⟩
    have N5 : News g L' h5 [(L' + 1, _), (188, tabObj ps5)] := fun q hq => by
      rcases List.mem_cons.mp hq with rfl | hq
      · exact ⟨hk5 _ _ (Nat.ne_of_gt (Nat.lt_succ_of_lt n188)) (Heap.get?_push_of_some _ (N9 _ (.head _)).1), (N9 _ (.head _)).2⟩
      · rw [List.mem_singleton.mp hq]; exact ⟨hP5, (N9 (188, tabObj ps) (by k_mem)).2⟩
    clear F9 N9
    dsimp only at W5 ⊢
    repeat' (first | ((with_reducible show wpAny _ _ _ _ _ _); (fail_if_success (with_reducible show wpAny _ _ (call (.builtin "all") _) _ _ _)); (first | (k_unfold; (try dsimp only)) | walk1 | (dsimp only; walk1) | (leave1; try dsimp only))) | fail "stop")
    refine all_gen W5 (tr := tokAt y) ?_ hG5 fun h6 gens6 tk6 hk6 hG6 => ?_
    · rintro j v ⟨i, hi, rfl⟩
      have : (passing (fun _ => true) y.cps.size 0) = List.range y.cps.size := by unfold passing; simp
      rw [this] at hi
      obtain ⟨hlt, e⟩ := List.getElem?_eq_some_iff.mp hi
      rw [List.getElem_range] at e
      rw [e]
    have F6 : Fr g L' h6 _ := ⟨F5.ns.at' fun o e => hk6 _ o (Nat.lt_succ_of_lt (Nat.lt_succ_self _)) e, fun b o e => hk6 b o (Nat.lt_of_lt_of_le (Heap.lt_size e) (Nat.le_trans F5.above (Nat.le_add_right _ _))) (F5.keep b o e), F5.above⟩
    have N6 : News g L' h6 [(L' + 1, _), (188, tabObj ps5)] := fun q hq => by
      rcases List.mem_cons.mp hq with rfl | hq
      · exact ⟨hk6 _ _ (Nat.lt_succ_self _) (N5 _ (.head _)).1, (N5 _ (.head _)).2⟩
      · rw [List.mem_singleton.mp hq]; exact ⟨hk6 _ _ (Nat.lt_of_lt_of_le n188 (Nat.le_add_right _ _)) hP5, (N5 (188, tabObj ps5) (by k_mem)).2⟩
    clear F5 N5 W5
    have hpass : (passing (fun _ => true) y.cps.size 0).length = y.cps.size := by unfold passing; rw [List.filter_eq_self.mpr (fun _ _ => rfl), List.drop_zero, List.length_range]
    rw [hpass]
    change wpAny _ _ (truthy (Value.bool (isTok y))) _ _ _
    cases htok : isTok y with
    | true =>
      repeat' (first | ((with_reducible show wpAny _ _ _ _ _ _); (first | (k_unfold; (try dsimp only)) | walk1 | (dsimp only; walk1) | (leave1; try dsimp only))) | fail "stop")
      rw [if_pos rfl]
      repeat' (first | ((with_reducible show wpAny _ _ _ _ _ _); (first | (k_unfold; (try dsimp only)) | walk1 | (dsimp only; walk1) | (leave1; try dsimp only))) | fail "stop")
      try k_unfold
      try dsimp only
      refine ret _ _ _ _ _ ⟨ps5, (N6 (188, tabObj ps5) (by k_mem)).1, hps5⟩ (kp_out hg F6) hG6 (by rw [htok]; rfl)
    | false =>
      repeat' (first | ((with_reducible show wpAny _ _ _ _ _ _); (first | (k_unfold; (try dsimp only)) | walk1 | (dsimp only; walk1) | (leave1; try dsimp only))) | fail "stop")
      rw [if_neg Bool.false_ne_true]
      repeat' (first | ((with_reducible show wpAny _ _ _ _ _ _); (fail_if_success (with_reducible show wpAny _ _ (call (.builtin "str.replace") _) _ _ _)); (first | (k_unfold; (try dsimp only)) | walk1 | (dsimp only; walk1) | (leave1; try dsimp only))) | fail "stop")
      refine replace_none (Bool.and_eq_true_iff.mp hpl).1 ?_
      repeat' (first | ((with_reducible show wpAny _ _ _ _ _ _); (fail_if_success (with_reducible show wpAny _ _ (call (.builtin "str.replace") _) _ _ _)); (first | (k_unfold; (try dsimp only)) | walk1 | (dsimp only; walk1) | (leave1; try dsimp only))) | fail "stop")
      refine replace_none (Bool.and_eq_true_iff.mp hpl).2 ?_
      repeat' (first | ((with_reducible show wpAny _ _ _ _ _ _); (fail_if_success (with_reducible show wpAny _ _ (call (.builtin "str.replace") _) _ _ _)); (first | (k_unfold; (try dsimp only)) | walk1 | (dsimp only; walk1) | (leave1; try dsimp only))) | fail "stop")
      dsimp only
      refine ⟨Nat.le_of_ble_eq_true rfl, ?_⟩
      repeat' (first | ((with_reducible show wpAny _ _ _ _ _ _); (first | (k_unfold; (try dsimp only)) | walk1 | (dsimp only; walk1) | (leave1; try dsimp only))) | fail "stop")
      dsimp only
      have len_app : ∀ a b : Str, (a ++ b).length = a.length + b.length := fun a b => by
        show (a.cps ++ b.cps).size = _
        rw [Array.size_append]; rfl
      have l1 : (Str.empty ++ Str.ofString "\"" ++ y).length = 1 + y.length := by rw [len_app, len_app]; rfl
      refine ⟨by rw [l1, sizeLine_eq]; omega, ?_⟩
      repeat' (first | ((with_reducible show wpAny _ _ _ _ _ _); (first | (k_unfold; (try dsimp only)) | walk1 | (dsimp only; walk1) | (leave1; try dsimp only))) | fail "stop")
      dsimp only
      refine ⟨by rw [len_app, l1, sizeLine_eq]; show 1 + y.length + 1 ≤ _; omega, ?_⟩
      repeat' (first | ((with_reducible show wpAny _ _ _ _ _ _); (first | (k_unfold; (try dsimp only)) | walk1 | (dsimp only; walk1) | (leave1; try dsimp only))) | fail "stop")
      rename Fr _ _ _ _ => F6
      rename News _ _ _ _ => N6
      refine ret _ _ _ _ _ ⟨ps5, (N6 (188, tabObj ps5) (by k_mem)).1, hps5⟩ (kp_out hg F6) hG6 ?_
      rw [htok, if_neg Bool.false_ne_true, empty_app]
      rfl
end
end Mine
end

-- part D3
section
open PySem PySem.W PySem.Calls PyProof.Rows PySem.Spec
set_option maxRecDepth 100000
namespace Mine
section
variable {w : World} {hb : Heap} {p : Program} {loose : List Str} {mean : ExcName → Option Value} {mg mb : Str → Option Value} {out : List Env}
  {s : Shared} {Q : Value → Shared → Prop} {E : Value → Shared → Prop}

set_option maxHeartbeats 8000000 in
theorem unquote_plain {y : Str} {t : Tok} (X : (hd.heap_39 w.params).In hb) (T : Top p loose mean mg mb hb) (cx : Cx hb out s.heap []) (hy : y.length ≤ 1000) (hq : Txt.startswith y DQ = false)
    (ret : ∀ t' h' tk, Kp [] s.heap h' → Q (.str y t') { s with heap := h', toks := tk }) :
    wpAny (model PySem.Challenge.rw_fa0002_01.row.prog w) (AR 400 400 out) (call (.ref 205) [.str y t]) Q E s := by
  revert X; k_fill; intro X
  refine wpAny_call ?_
  refine' enter (binds := [(Str.ofString "value", .str y t)]) [] X T cx ?hn ?ho ?hcd ?hroom ?hbind ?hloc ?_ ?c2 ?c3 ?c4 ?c5
  case hn => intro q hq; cases hq
  case ho => k_is
  case hcd => k_is
  case hroom => decide
  case hbind => exact BindsTo.of_eq rfl
  case hloc => exact locs rfl
  case c2 => exact rfl
  case c3 => exact rfl
  case c4 => exact rfl
  case c5 => decide
  intro g L' h₁ st' hg hg2 hsz F' N' B' X' T'
  try dsimp only
  all_goals try k_fold
  repeat' (first | ((with_reducible show wpAny _ _ _ _ _ _); (first | (k_unfold; (try dsimp only)) | walk1 | (dsimp only; walk1) | (leave1; try dsimp only))) | fail "stop")
  by_cases h2 : 2 ≤ y.length
  · rw [if_pos (by rw [decide_eq_true_eq]; exact_mod_cast h2)]
    repeat' (first | ((with_reducible show wpAny _ _ _ _ _ _); (fail_if_success (with_reducible show wpAny _ _ (call (.builtin "str.startswith") _) _ _ _)); (first | (k_unfold; (try dsimp only)) | walk1 | (dsimp only; walk1) | (leave1; try dsimp only))) | fail "stop")
    refine SC.startswith ?_
    rw [show Txt.startswith y (Str.ofString "\"") = false from hq]
    repeat' (first | ((with_reducible show wpAny _ _ _ _ _ _); (first | (k_unfold; (try dsimp only)) | walk1 | (dsimp only; walk1) | (leave1; try dsimp only))) | fail "stop")
    rw [if_neg Bool.false_ne_true]
    repeat' (first | ((with_reducible show wpAny _ _ _ _ _ _); (first | (k_unfold; (try dsimp only)) | walk1 | (dsimp only; walk1) | (leave1; try dsimp only))) | fail "stop")
    rw [if_neg Bool.false_ne_true]
    repeat' (first | ((with_reducible show wpAny _ _ _ _ _ _); (first | (k_unfold; (try dsimp only)) | walk1 | (dsimp only; walk1) | (leave1; try dsimp only))) | fail "stop")
    exact ret _ _ _ (kp_out hg F')
  · rw [if_neg (by rw [decide_eq_true_eq]; exact_mod_cast h2)]
    repeat' (first | ((with_reducible show wpAny _ _ _ _ _ _); (first | (k_unfold; (try dsimp only)) | walk1 | (dsimp only; walk1) | (leave1; try dsimp only))) | fail "stop")
    rw [if_neg Bool.false_ne_true]
    repeat' (first | ((with_reducible show wpAny _ _ _ _ _ _); (first | (k_unfold; (try dsimp only)) | walk1 | (dsimp only; walk1) | (leave1; try dsimp only))) | fail "stop")
    exact ret _ _ _ (kp_out hg F')
end
end Mine
end

-- part D4
section
open PySem PySem.W PySem.Calls PyProof.Rows PySem.Spec
set_option maxRecDepth 100000
namespace Mine
section ReSub
open Builtin Builtin.Re
variable {prog : Program} {w : World} {A : Around} {E : Value → Shared → Prop} {s : Shared}

/-- the search's own machine, driven on -/
def drv : Nat → Sre.M → Option Sre.M
  | 0, _ => none
  | n + 1, m => let m := m.runFor reTurnSteps
    if m.outcome.isSome then some m else drv n m
theorem drive_of : ∀ (n N : Nat) (m : Sre.M) {Q : Sre.M → Shared → Prop} (p : Sre.M → Bool), n ≤ N → (drv n m).any p = true → (∀ r, p r = true → Q r s) → wpAny (model prog w) A (reDrive N m) Q E s
  | 0, _, _, _, _, _, h, _ => by simp [drv] at h
  | n + 1, 0, _, _, _, hn, _, _ => by omega
  | n + 1, N + 1, m, Q, p, hn, h, hq => by
    unfold reDrive
    unfold drv at h
    dsimp only at h ⊢
    by_cases c : (Sre.M.runFor reTurnSteps m).outcome.isSome = true
    · rw [if_pos c] at h ⊢
      exact wpAny_pure (hq _ (by simpa using h))
    · rw [if_neg c] at h ⊢
      exact wpAny_bind (wpAny_rule (drive_of n N _ p (by omega) h hq))
theorem rules_of {c : Nat → Bool} {f : Nat → String} : ∀ (l : List Nat) {Q : PUnit → Shared → Prop}, Q ⟨⟩ s → wpAny (model prog w) A (forIn l PUnit.unit fun i _ => if c i = true then (do rule (f i); pure (ForInStep.yield PUnit.unit)) else pure (ForInStep.yield PUnit.unit)) Q E s
  | [], _, h => wpAny_pure h
  | i :: l, Q, h => by
    rw [List.forIn_cons]
    by_cases ci : c i = true
    · rw [if_pos ci]
      exact wpAny_bind (wpAny_bind (wpAny_rule (wpAny_pure (rules_of l h))))
    · rw [if_neg ci]
      exact wpAny_bind (wpAny_pure (rules_of l h))
def failedM (m : Sre.M) : Bool := match m.outcome with | some .failed => true | _ => false
theorem run_none {m : Sre.M} {n : Nat} {Q : Option Sre.M → Shared → Prop} (hn : n ≤ 2 ^ 64) (h : (drv n m).any failedM = true) (hq : Q none s) : wpAny (model prog w) A (reRunToEnd m) Q E s := by
  unfold reRunToEnd
  refine wpAny_bind (drive_of n _ m failedM hn h fun r hr => ?_)
  refine wpAny_bind (rules_of _ ?_)
  have : r.outcome = some .failed := by
    unfold failedM at hr
    split at hr
    · assumption
    · cases hr
  rw [this]
  exact wpAny_pure hq
def XY : Str := Str.ofString "x y"
def unslash : Array Nat := #[14, 8, 1, 2, 2, 1, 1, 92, 0, 16, 92, 17, 0, 2, 17, 1, 1]
theorem search_xy : (drv 40 (Sre.forSearch unslash #[120, 32, 121] 1 0 3 false)).any failedM = true := by decide +kernel
end ReSub
end Mine
end

-- part D5
section
open PySem PySem.W PySem.Calls PyProof.Rows PySem.Spec
set_option maxRecDepth 100000
namespace Mine
theorem slot_sub : Slot "re.Pattern" "sub" "re.Pattern.sub" :=
  .of (owner := "re.Pattern") (n := "sub") (by rw [typeLookup_type, builtinLookup_eq_fast]; kernel_rfl) (by decide +kernel) (by decide +kernel) (by decide +kernel)
    (by first | exact .inl (by decide +kernel) | exact .inr (by decide +kernel)) (by rw [isSubtype_type]; kernel_rfl)
theorem entry_sub : entryFor table "re.Pattern.sub" = some Builtin.«re.Pattern.sub» := entryFor_of_tree (by kernel_rfl)
theorem entry_sub_loop : entryFor table "re.Pattern.sub.loop" = some Builtin.«re.Pattern.sub.loop» := entryFor_of_tree (by kernel_rfl)
theorem plain_sub_loop : plainId "re.Pattern.sub.loop" = true := by decide +kernel
theorem args_sub (a b c : Value) : argsOk "re.Pattern.sub" ⟨[a, b, c], []⟩ := by
  unfold argsOk; kernel_rfl
theorem fun_call : typeLookup (.type "function") "__call__" = pure (some (.builtin "function.__call__")) := by rw [typeLookup_type, builtinLookup_eq_fast]; kernel_rfl
theorem str_not_ba : isSubtype (.type "str") (.type "bytearray") = pure false := by rw [isSubtype_type]; kernel_rfl
section ReSub
open Builtin Builtin.Re
variable {prog : Program} {w : World} {A : Around} {E : Value → Shared → Prop} {s : Shared}
structure PatAt (h : Heap) (a c : Addr) (code : Array Nat) : Prop where
  pat : ∃ o vs, h.get? a = some o ∧ o.data = .fields vs ∧ vs.getD 5 .none = .ref c ∧ vs.getD 6 .none = .int 0 0 ∧ vs.getD 2 .none = .int 1 0
  code : ∃ o its n, h.get? c = some o ∧ o.data = .seq its n ∧ (its.map reRawOf).map (·.toNat) = code
theorem PatAt.at_ {h h' : Heap} {a c : Addr} {code : Array Nat} (x : PatAt h a c code) (k : ∀ b o, h.get? b = some o → h'.get? b = some o) : PatAt h' a c code :=
  ⟨let ⟨o, vs, e, r⟩ := x.pat; ⟨o, vs, k _ _ e, r⟩, let ⟨o, vs, n, e, r⟩ := x.code; ⟨o, vs, n, k _ _ e, r⟩⟩
theorem whole_of {a c : Addr} {code : Array Nat} {y : Str} {t : Tok} {Q : ReTarget → Shared → Prop} (P : PatAt s.heap a c code) (h : Q { pattern := .ref a, string := .str y t, code, text := y.cps, kind := 0, groups := 1, pos := 0, lim := y.cps.size } s) :
    wpAny (model prog w) A (reWholeTarget (.ref a) (.str y t)) Q E s := by
  obtain ⟨o, vs, e, hd, f5, f6, f2⟩ := P.pat
  obtain ⟨oc, its, n, ec, hdc, hc⟩ := P.code
  unfold reWholeTarget
  refine wpAny_bind (wpAny_fieldsOf e hd ?_)
  refine wpAny_bind (wpAny_pure ?_)
  dsimp only
  rw [f6]
  show wpAny _ _ (reNoCollectionInside (.str y t) 0 >>= _) _ _ _
  refine wpAny_bind (wpAny_pure ?_)
  refine wpAny_bind ?_
  rw [f5]
  unfold reRawItems
  refine wpAny_bind (wpAny_seqItems ec hdc (wpAny_pure (wpAny_pure ?_)))
  rw [f2]
  show Q ⟨_, _, (its.map reRawOf).map (·.toNat), _, _, _, _, _⟩ s
  rw [hc]
  exact h
theorem sub_none {a c f : Addr} {code : Array Nat} {y : Str} {t : Tok} {Q : Value → Shared → Prop} (P : PatAt s.heap a c code) (hT : s.TypeIs (.ref a) "re.Pattern") (hf : s.TypeIs (.ref f) "function") (hy : (drv 40 (Sre.forSearch code y.cps 1 0 y.cps.size false)).any failedM = true) (h0 : 0 < y.length) (hl : y.length ≤ 1000)
    (hq : ∀ h' t' tk, (∀ b o, s.heap.get? b = some o → h'.get? b = some o) → Q (.str y t') { s with heap := h', toks := tk }) :
    wpAny (model prog w) A (call (.builtin "re.Pattern.sub") [.ref a, .ref f, .str y t]) Q E s := by
  refine wpAny_call (codeAny_call_builtin slot_sub.plain entry_sub (slot_sub.check _ _ _ _ _ _ _ _ hT (args_sub _ _ _) ?_))
  show wpAny _ A.in1 (reNamed "re.Pattern.sub" "sub" ["repl", "string", "count"] 2 [.ref f, .str y t] [] >>= _) _ _ s
  refine wpAny_bind (wpAny_of_eq (show reNamed "re.Pattern.sub" "sub" ["repl", "string", "count"] 2 [.ref f, .str y t] [] = pure [some (.ref f), some (.str y t), none] from by rfl) ?_)
  dsimp only
  refine wpAny_bind (wpAny_pure ?_)
  refine wpAny_bind (wpAny_specialOf hf fun_call ?_)
  dsimp only [Option.isSome]
  rw [if_pos rfl]
  refine wpAny_bind (wpAny_pure ?_)
  rw [if_pos rfl]
  refine wpAny_bind (wpAny_pure ?_)
  refine wpAny_bind (wpAny_holding ?_)
  refine whole_of P ?_
  dsimp only
  rw [if_pos (show ((1 : Int) == 1) = true from by decide)]
  unfold reNotHeld
  refine wpAny_bind (wpAny_bind (wpAny_isInstance_val (T := "str") rfl str_not_ba ?_))
  dsimp only
  rw [if_neg Bool.false_ne_true]
  refine wpAny_pure ?_
  refine wpAny_bind (wpAny_newList ?_)
  have hP1 := P.at_ (h' := s.heap.push { cls := .type "list", data := .seq ([] : List Value).toArray }) fun b o e => Heap.get?_push_of_some _ e
  refine wpAny_pure ⟨plainId_quiet plain_sub_loop _, codeAny_builtin entry_sub_loop ?_⟩
  rw [Around.under_plainId plain_sub_loop _]
  unfold Builtin.«re.Pattern.sub.loop»
  dsimp only [rawInt]
  refine wpAny_bind (whole_of hP1 ?_)
  dsimp only
  rw [if_neg (show ¬ ((1 : Int) == 0) = true from by decide), if_neg (show ¬ ((0 : Int) != 0 && decide ((0 : Int) ≥ 0)) = true from by decide)]
  refine wpAny_bind (run_none (n := 40) (Nat.le_of_ble_eq_true rfl) hy ?_)
  dsimp only
  rw [if_pos (show Int.toNat 0 < y.cps.size from h0)]
  unfold reSlice
  have hcut : (⟨y.cps.extract (Int.toNat 0) y.cps.size⟩ : Str) = y := by
    show (⟨y.cps.extract 0 y.cps.size⟩ : Str) = y
    rw [Array.extract_size]
  have hcut0 : (⟨y.cps.extract 0 0⟩ : Str) = Str.empty := by
    show (⟨y.cps.extract 0 0⟩ : Str) = ⟨#[]⟩
    rw [Array.extract_zero]
  rw [hcut, hcut0]
  rw [if_pos (show ((0 : Nat) == 0) = true from by decide)]
  refine wpAny_bind (wpAny_mkStr ?_ (by rw [sizeLine_eq]; omega))
  have hS0 : (s.heap.push { cls := .type "list", data := .seq ([] : List Value).toArray }).get? s.heap.objs.size = some { cls := .type "list", data := .seq ([] : List Value).toArray } := Heap.get?_push_size _ rfl
  refine wpAny_bind (wpAny_updateSeq hS0 rfl ?_)
  have hS1 := Heap.get?_update_self (Obj.mapSeq (·.push (Value.str y s.toks))) hS0 rfl
  refine wpAny_bind (wpAny_mkStr (x := Str.empty) ?_ (Nat.zero_le _))
  refine wpAny_bind (wpAny_seqItems hS1 rfl ?_)
  dsimp only [Option.getD]
  rw [if_neg (by simp)]
  rw [if_pos (show ((0 : Nat) == 0) = true from by decide)]
  refine wpAny_bind (join_list (D := s.heap.objs.size) (items := #[Value.str y s.toks]) (ys := [y]) ⟨_, hS1, rfl, _, rfl⟩ (.cons _ _ .nil) ?_ fun t' k => ?_)
  · show y.length + 0 + 1 * 0 ≤ _
    omega
  · rw [if_neg Bool.false_ne_true]
    refine wpAny_pure ?_
    show Q _ _
    refine hq _ _ _ fun b o e => ?_
    have hb := Nat.ne_of_lt (Heap.lt_size e)
    exact (Heap.get?_update_other _ _ (Ne.symm hb)).trans (Heap.get?_push_of_some _ e)
end ReSub
end Mine
end

-- part D6
section
open PySem PySem.W PySem.Calls PyProof.Rows PySem.Spec
set_option maxRecDepth 100000
namespace Mine
section
variable {prog : Program} {w : World} {A : Around} {E : Value → Shared → Prop} {s : Shared} {h₀ : Heap} {L a c P : Addr} {m mg mb : Str → Option Value} {cn : Str} {cs : Scope} {ccd : Value} {cl : List (Str × Addr)}
  {p : Program} {loose : List Str} {mean : ExcName → Option Value} {name qual : Str} {params : Arguments} {body : Expr} {scope : Scope} {ps : Array Value} {pos : Pos} {firstLine : Nat} {clos : List (Str × Addr)}
/-- a lambda made, its code found or laid -/
theorem lam_rule {Q : Value → Shared → Prop} {env : Env} (F : Fr h₀ L s.heap m) (N : News h₀ L s.heap [(P, tabObj ps)]) (T : Top p loose mean mg mb h₀) (C : CodeHd h₀ c P) (hgl : env.globals = mainGlobals) (hcd : env.code = .ref c) (ht : TriplesOk ps.toList) (hdef : defaultsOf params env = ([], []))
    (hcl : closureFor scope env = pure clos)
    (h : ∀ f o ps' h' tk, Fr h₀ L h' m → News h₀ L h' [(f, o), (P, tabObj ps')] → TriplesOk ps'.toList → o.cls = .type "function" → Q (.ref f) { s with heap := h', toks := tk }) :
    wpAny (model prog w) A (eval (.Lambda params body scope pos) env) Q E s := by
  refine kla_eval hdef ?_
  have hm := N (P, tabObj ps) (.head _)
  have hgs := T.g.keeps F.keep
  obtain ⟨bm, ob, b1, b2, b3, b4, b5, b6⟩ := T.bmain
  have hgP : mainGlobals ≠ P := fun q => by
    obtain ⟨o, es, ep, e, hd, _⟩ := hgs
    rw [q, hm.1] at e; cases e; cases hd
  have hbP : bm ≠ P := fun q => by
    have e := F.keep _ _ b3
    rw [q, hm.1] at e; cases e; cases b4
  have hbG : bm ≠ mainGlobals := fun q => by
    obtain ⟨o, es, ep, e, hd, _⟩ := T.g
    rw [q, e] at b3; cases b3; rw [hd] at b6; cases b6
  cases hn : codeAmong pos ps.toList with
  | some cv =>
    refine kla_makeFunctionHit (mg := mg) hcl hgl hgs hcd (C.keeps F.keep) hm.1 ht hn ⟨bm, ob, b1, b2, hbG, hbP, F.keep _ _ b3, b4, b5, b6⟩ fun ctv h' tk hk hsz => ?_
    have hLs : L < h'.objs.size := Nat.lt_of_lt_of_le F.ns.lt hsz
    refine h _ { cls := .type "function", data := .func (kla_fn "<lambda>" (env.qual ++ "<lambda>") params body scope clos ((mg "__name__").getD .none) cv ctv) } ps _ _ ⟨(F.ns.keeps hk).push _, fun b o e => Heap.get?_push_of_some _ (hk b o (F.keep b o e)), F.above⟩ (fun q hq => ?_) ht rfl
    rcases List.mem_cons.mp hq with rfl | hq
    · exact ⟨Heap.get?_push_size _ rfl, Nat.ne_of_gt hLs, Heap.get?_none_of_le (Nat.le_trans F.above (Nat.le_of_lt hLs))⟩
    exact ⟨Heap.get?_push_of_some _ (hk _ _ (N q hq).1), (N q hq).2⟩
  | none =>
    refine kla_makeFunction (mg := mg) hcl hgl hgs hcd (C.keeps F.keep) hm.1 ht hn hgP ⟨bm, ob, b1, b2, hbG, hbP, F.keep _ _ b3, b4, b5, b6⟩ fun c' ctv h' tk hx hge hlt hrec htb => ?_
    have hLs : L < h'.objs.size := Nat.lt_trans (Nat.lt_of_lt_of_le F.ns.lt hge) hlt
    refine h _ (kla_obj "<lambda>" (env.qual ++ "<lambda>") params body scope clos ((mg "__name__").getD .none) c' ctv) (ps ++ #[rawInt pos.line, rawInt pos.col, .ref c']) _ _ ⟨(F.ns.extBut hx hm.2.1.symm).push _, fun b o e => Heap.get?_push_of_some _ (hx b o (fun q => by rw [q, hm.2.2] at e; cases e) (F.keep b o e)), F.above⟩ (fun q hq => ?_) ?_ rfl
    · rcases List.mem_cons.mp hq with rfl | hq
      · exact ⟨Heap.get?_push_size _ rfl, Nat.ne_of_gt hLs, Heap.get?_none_of_le (Nat.le_trans F.above (Nat.le_of_lt hLs))⟩
      rw [List.mem_singleton.mp hq]
      exact ⟨Heap.get?_push_of_some _ htb, hm.2⟩
    · rw [Array.toList_append]
      exact TriplesOk_snoc _ _ _ _ ht
end

theorem plainAttrs_pattern : PlainAttrs "re.Pattern" :=
  ⟨⟨"object.__getattribute__", by rw [typeLookup_type, builtinLookup_eq_fast]; kernel_rfl, by decide +kernel⟩, by rw [typeLookup_type, builtinLookup_eq_fast]; kernel_rfl⟩
theorem type_sub : typeOf (.builtin "re.Pattern.sub") = pure (.type "method_descriptor") := by show builtinType _ = _; rw [builtinType_eq_fast]; kernel_rfl
def QXY : Str := Str.ofString "\"x y\""
section
variable {w : World} {hb : Heap} {p : Program} {loose : List Str} {mean : ExcName → Option Value} {mg mb : Str → Option Value} {out : List Env}
  {s : Shared} {Q : Value → Shared → Prop} {E : Value → Shared → Prop}

set_option maxHeartbeats 8000000 in
theorem unquote_quoted {z : Str} (hz : z = QXY) {t : Tok} {ps : Array Value} (X : (hd.heap_39 w.params).In hb) (T : Top p loose mean mg mb hb) (cx : Cx hb out s.heap [200]) (hP : s.heap.get? 200 = some (tabObj ps)) (hps : TriplesOk ps.toList)
    (ret : ∀ t' h' tk, Tab 200 h' → Kp [200] s.heap h' → Q (.str XY t') { s with heap := h', toks := tk }) :
    wpAny (model PySem.Challenge.rw_fa0002_01.row.prog w) (AR 400 400 out) (call (.ref 205) [.str z t]) Q E s := by
  revert X; k_fill; intro X
  have hy : z.length ≤ 1000 := by rw [hz]; decide +kernel
  refine wpAny_call ?_
  refine' enter (binds := [(Str.ofString "value", .str z t)]) [(200, tabObj ps)] X T cx ?hn ?ho ?hcd ?hroom ?hbind ?hloc ?_ ?c2 ?c3 ?c4 ?c5
  case hn => intro q hq; rw [List.mem_singleton.mp hq]; exact hP
  case ho => k_is
  case hcd => k_is
  case hroom => decide
  case hbind => exact BindsTo.of_eq rfl
  case hloc => exact locs rfl
  case c2 => exact rfl
  case c3 => exact rfl
  case c4 => exact rfl
  case c5 => decide
  intro g L' h₁ st' hg hg2 hsz F' N' B' X' T'
  try dsimp only [List.cons_append, List.nil_append] at N'
  try dsimp only
  all_goals try k_fold
  repeat' (first | ((with_reducible show wpAny _ _ _ _ _ _); (first | (k_unfold; (try dsimp only)) | walk1 | (dsimp only; walk1) | (leave1; try dsimp only))) | fail "stop")
  rw [if_pos (by rw [hz]; decide +kernel)]
  repeat' (first | ((with_reducible show wpAny _ _ _ _ _ _); (first | (k_unfold; (try dsimp only)) | walk1 | (dsimp only; walk1) | (leave1; try dsimp only))) | fail "stop")
  rw [show Txt.startswith z (Str.ofString "\"") = true from by rw [hz]; decide +kernel]
  repeat' (first | ((with_reducible show wpAny _ _ _ _ _ _); (first | (k_unfold; (try dsimp only)) | walk1 | (dsimp only; walk1) | (leave1; try dsimp only))) | fail "stop")
  rw [if_pos rfl]
  repeat' (first | ((with_reducible show wpAny _ _ _ _ _ _); (fail_if_success (with_reducible show wpAny _ _ (eval (Expr.Lambda _ _ _ _) _) _ _ _)); (first | (k_unfold; (try dsimp only)) | walk1 | (dsimp only; walk1) | (leave1; try dsimp only))) | fail "stop")
  rw [show Txt.endswith z (Str.ofString "\"") = true from by rw [hz]; decide +kernel]
  repeat' (first | ((with_reducible show wpAny _ _ _ _ _ _); (fail_if_success (with_reducible show wpAny _ _ (eval (Expr.Lambda _ _ _ _) _) _ _ _)); (first | (k_unfold; (try dsimp only)) | walk1 | (dsimp only; walk1) | (leave1; try dsimp only))) | fail "stop")
  rw [if_pos rfl]
  repeat' (first | ((with_reducible show wpAny _ _ _ _ _ _); (fail_if_success (with_reducible show wpAny _ _ (eval (Expr.Lambda _ _ _ _) _) _ _ _)); (first | (k_unfold; (try dsimp only)) | walk1 | (dsimp only; walk1) | (leave1; try dsimp only))) | fail "stop")
  rw [if_pos rfl]
  repeat' (first | ((with_reducible show wpAny _ _ _ _ _ _); (fail_if_success (with_reducible show wpAny _ _ (eval (Expr.Lambda _ _ _ _) _) _ _ _)); (first | (k_unfold; (try dsimp only)) | walk1 | (dsimp only; walk1) | (leave1; try dsimp only))) | fail "stop")
  have hpat := X' 198 _ (by k_is)
  have hcod := X' 197 _ (by k_is)
  rename Fr _ _ _ _ => F9
  rename News _ _ _ _ => N9
  have pat9 : PatAt h₁ 198 197 unslash := ⟨⟨_, _, F9.keep _ _ hpat, rfl, rfl, rfl, rfl⟩, ⟨_, _, _, F9.keep _ _ hcod, rfl, by kernel_rfl⟩⟩
  refine getMethod_builtin (T := "re.Pattern") ⟨_, F9.keep _ _ hpat, rfl⟩ plainAttrs_pattern slot_sub type_sub (fun a e => by cases e; exact ⟨_, F9.keep _ _ hpat, rfl⟩) ?_
  repeat' (first | ((with_reducible show wpAny _ _ _ _ _ _); (fail_if_success (with_reducible show wpAny _ _ (eval (Expr.Lambda _ _ _ _) _) _ _ _)); (first | (k_unfold; (try dsimp only)) | walk1 | (dsimp only; walk1) | (leave1; try dsimp only))) | fail "stop")
  have C9 : CodeHd g 204 200 := codeHd_of_K X' (by kernel_rfl)
  refine lam_rule F9 N9 T' C9 rfl rfl hps rfl (by rfl) fun f o2 ps2 h2 tk2 F8 N8 hps2 hf => ?_
  clear F9 N9
  dsimp only at F8 N8 ⊢
  repeat' (first | ((with_reducible show wpAny _ _ _ _ _ _); (fail_if_success (with_reducible show wpAny _ _ (call (.builtin "re.Pattern.sub") _) _ _ _)); (first | (k_unfold; (try dsimp only)) | walk1 | (dsimp only; walk1) | (leave1; try dsimp only))) | fail "stop")

  rename Fr _ _ _ _ => F7
  rename News _ _ _ _ => N7
  rw [show Txt.slice z (some 1) (some (-1)) = XY from by rw [hz]; decide +kernel]
  have P7 : PatAt _ 198 197 unslash := ⟨⟨_, _, F7.keep _ _ hpat, rfl, rfl, rfl, rfl⟩, ⟨_, _, _, F7.keep _ _ hcod, rfl, by kernel_rfl⟩⟩
  refine sub_none P7 ⟨_, F7.keep _ _ hpat, rfl⟩ ⟨_, (N7 _ (.head _)).1, hf⟩ ?r1 ?r2 ?r3 fun h5 t5 tk5 k5 => ?_
  case r1 => exact search_xy
  case r2 => decide +kernel
  case r3 => decide +kernel
  have F5 : Fr g L' h5 _ := F7.keeps k5
  have N5 : News g L' h5 _ := N7.grown k5
  clear F7 N7
  dsimp only at F5 N5 ⊢
  repeat' (first | ((with_reducible show wpAny _ _ _ _ _ _); (first | (k_unfold; (try dsimp only)) | walk1 | (dsimp only; walk1) | (leave1; try dsimp only))) | fail "stop")

  try show Q _ _
  exact ret _ _ _ ⟨ps2, (N5 (200, tabObj ps2) (by k_mem)).1, hps2⟩ (kp_out hg F5)
end
end Mine
end

-- part E2
section
open PySem PySem.W PySem.Calls PyProof.Rows PySem.Spec
set_option maxRecDepth 100000
namespace Mine
section
variable {prog : Program} {w : World} {A : Around} {E : Value → Shared → Prop} {R : Result → Shared → Prop} {s : Shared}
/-- a turn has moved the ground; what the comprehension itself made stands -/
def MovedG (own : List Addr) (J : Shared → Prop) (s₃ s₅ : Shared) : Prop :=
  ∃ h tk, s₅ = { s₃ with heap := h, toks := tk } ∧ J s₅ ∧ ∀ b ∈ own, ∀ o, s₃.heap.get? b = some o → h.get? b = some o

/-- a list comprehension over a walk that may change the generators -/
structure TurnsG (prog : Program) (w : World) (A : Around) (env : Env) (scope : Scope) (cl : List (Str × Addr)) (x : Str) (ifs : List Expr) (elt : Expr) (I : Addr) (fp wr : List Addr) (G : Array GenState → Array GenState → Prop) (n : Nat) (P : Nat → Value → Prop) (St : Nat → Shared → Prop)
    (J : Nat → List Value → Shared → Prop) (s₂ : Shared) : Prop where
  W : WalksS prog w A I fp wr G n P St
  st : St 0 s₂
  lt : ∀ b ∈ fp, b < s₂.heap.objs.size
  j0 : J 0 [] s₂
  old : ∀ i ys (s : Shared) h' tk, J i ys s → (∀ b o, b < s₂.heap.objs.size → s.heap.get? b = some o → h'.get? b = some o) → J i ys { s with heap := h', toks := tk }
  mov : ∀ i ys (s s' : Shared), J i ys s → PySem.Moved wr G s s' → J i ys s'
  len : ∀ i ys s, J i ys s → ys.length ≤ i
  fit : n ≤ 4000
  turn : ∀ i v C D ys s₃ m₃ E', i < n → P i v → J i ys s₃ → s₃.heap.Ns C m₃ → m₃ x = some v → s₂.heap.objs.size ≤ C → s₃.heap.PlainList D ys.toArray → s₂.heap.objs.size ≤ D → D ≠ C →
    wpAny (model prog w) A (forIn ifs true fun c r => if r = true then do let ok ← isTrue c (compEnvC scope cl C env) (eval c (compEnvC scope cl C env)); pure (ForInStep.yield ok) else pure (ForInStep.yield r))
      (fun ok s₄ => if ok = true then wpAny (model prog w) A (eval elt (compEnvC scope cl C env)) (fun y s₅ => MovedG (C :: D :: fp) (J (i + 1) (ys ++ [y])) s₃ s₅) E' s₄ else MovedG (C :: D :: fp) (J (i + 1) ys) s₃ s₄) E' s₃

theorem listcomp_loopG {elt iter : Expr} {x : Str} {px : Pos} {ifs : List Expr} {scope : Scope} {cl : List (Str × Addr)} {pos : Pos} {env : Env} {s₂ : Shared} {I : Addr} {fp wr : List Addr} {G : Array GenState → Array GenState → Prop} {n : Nat} {P : Nat → Value → Prop}
    {St : Nat → Shared → Prop} {J : Nat → List Value → Shared → Prop} (T : TurnsG prog w A env scope cl x ifs elt I fp wr G n P St J s₂) (hx : scope.names.lookup x = some .local) (hkind : scope.kind = .function) {C D : Addr} {H : Heap} {tk : Nat} {m : Str → Option Value}
    (hC : s₂.heap.objs.size ≤ C) (hD : s₂.heap.objs.size ≤ D) (hDC : D ≠ C) (hold : ∀ b o, s₂.heap.get? b = some o → H.get? b = some o) (hacc : H.PlainList D #[]) (hn : H.Ns C m) (htk : s₂.toks ≤ tk)
    (hw : C ∉ wr ∧ D ∉ wr)
    (hR : ∀ s' m' ys, s'.heap.Ns C m' → s'.heap.PlainList D ys.toArray → J n ys s' → R (.ok .next) s') :
    codeAny (model prog w) A (.compLoop (.ListComp elt [⟨.Name x px, iter, ifs, 0⟩] scope pos) 0 (.ref I) (.ref D) (compEnvC scope cl C env)) R { s₂ with heap := H, toks := tk } := by
  have hxk : (compEnvC scope cl C env).kindOf x = some .local := lookup_relabel_local hx
  have hp : ((compEnvC scope cl C env).scope.kind == .class || ((compEnvC scope cl C env).scope.kind == .module && (compEnvC scope cl C env).locals != (compEnvC scope cl C env).globals)) = false := by simp [compEnvC, relabel, hkind]
  have hCf : C ∉ fp := fun q => absurd (T.lt C q) (Nat.not_lt.mpr hC)
  have hDf : D ∉ fp := fun q => absurd (T.lt D q) (Nat.not_lt.mpr hD)
  have hCw := hw.1
  have hDw := hw.2
  refine codeAny_compLoop_tests
    (fun k s' => ∃ m' ys i, St i s' ∧ s'.heap.PlainList D (List.toArray ys) ∧ s'.heap.Ns C m' ∧ J i ys s' ∧ i ≤ n ∧ k = n + 1 - i) ?_ (n + 1)
    ⟨m, [], 0, T.W.frame _ _ _ _ T.st htk fun b _ o e => hold b o e, hacc, hn, T.old 0 [] _ _ _ T.j0 fun b o _ e => hold b o e, Nat.zero_le _, rfl⟩
  rintro k s' ⟨m', ys, i, hst, ha, hns, hJ, hi, rfl⟩
  by_cases hlt : i < n
  · refine T.W.item i _ _ _ hlt hst fun v s₁ hP hst₁ hm₁ => ?_
    refine wpAny_assign_Name (wpAny_storeName_local hxk (hns.at' fun o e => hm₁.heap _ o hCw e) (fun h₂ hn₂ hs₂ => ?_) hp)
    have hs₂' : Heap.SameBut C s₁.heap h₂ := hs₂
    have hst₂ : St (i + 1) { s₁ with heap := h₂, toks := s₁.toks + 1 } := T.W.frame _ _ _ _ hst₁ (Nat.le_succ _) fun b hb o e => hs₂'.extBut b o (fun q => hCf (q ▸ hb)) e
    have hJ₂ := T.old i ys _ h₂ (s₁.toks + 1) (T.mov i ys _ _ hJ hm₁) fun b o hb e => hs₂'.extBut b o (fun q => absurd hb (by rw [q]; exact Nat.not_lt.mpr hC)) e
    have ha₂ : h₂.PlainList D (List.toArray ys) := ha.at fun o e => hs₂'.extBut D o hDC (hm₁.heap D o hDw e)
    refine wpAny_mono (wpAny_with_toks (Nat.le_refl _) (wpAny_mono (T.turn i v C D ys { s₁ with heap := h₂, toks := s₁.toks + 1 } _ _ hlt hP hJ₂ hn₂ (by simp) hC ha₂ hD hDC) (fun ok s₃ h₃ (ht : s₁.toks + 1 ≤ s₃.toks) => ?_) fun _ _ e _ => e)) (fun _ _ e => e) fun _ _ e => e
    cases ok with
    | false =>
      simp only [Bool.false_eq_true, if_false] at h₃ ⊢
      obtain ⟨h₄, tk₄, rfl, hJ₄, hk₄⟩ := h₃
      exact ⟨n + 1 - (i + 1), by omega, _, ys, i + 1, T.W.frame _ _ _ _ hst₂ ht fun b hb o e => hk₄ b (.tail _ (.tail _ hb)) o e, ha₂.at fun o e => hk₄ D (.tail _ (.head _)) o e, hn₂.at' fun o e => hk₄ C (.head _) o e, hJ₄, hlt, rfl⟩
    | true =>
      simp only [if_true] at h₃ ⊢
      refine wpAny_with_toks ht (wpAny_mono h₃ (fun y s₄ h₄ (ht₄ : s₁.toks + 1 ≤ s₄.toks) => ?_) fun _ _ e _ => e)
      obtain ⟨h₄, tk₄, rfl, hJ₄, hk₄⟩ := h₄
      have ha₄ : h₄.PlainList D (List.toArray ys) := ha₂.at fun o e => hk₄ D (.tail _ (.head _)) o e
      have hlen := T.len _ _ _ hJ
      refine wpAny_list_append_plain (hsz := by rw [List.size_toArray, sizeLine_eq]; have := T.fit; omega) ha₄ fun h₅ hl₅ hs₅ => ?_
      have hl₅' : h₅.PlainList D (List.toArray (ys ++ [y])) := by simpa using hl₅
      have hst₃ := T.W.frame _ _ h₄ tk₄ hst₂ ht₄ fun b hb o e => hk₄ b (.tail _ (.tail _ hb)) o e
      refine ⟨n + 1 - (i + 1), by omega, _, ys ++ [y], i + 1, T.W.frame _ _ _ _ hst₃ (Nat.le_refl _) fun b hb o e => hs₅.extBut b o (fun q => hDf (q ▸ hb)) e, hl₅', (hn₂.at' fun o e => hk₄ C (.head _) o e).sameBut hs₅ (Ne.symm hDC), ?_, hlt, rfl⟩
      exact T.old _ _ _ _ _ hJ₄ fun b o hb e => hs₅.extBut b o (fun q => absurd hb (by rw [q]; exact Nat.not_lt.mpr hD)) e
  · have hin : i = n := by omega
    subst hin
    refine T.W.done _ _ _ hst fun s₁ hm₁ => ?_
    exact hR s₁ m' ys (hns.at' fun o e => hm₁.heap _ o hCw e) (ha.at fun o e => hm₁.heap D o hDw e) (T.mov _ _ _ _ hJ hm₁)

theorem eval_listcompG {s : Shared} {elt iter : Expr} {x : Str} {px : Pos} {ifs : List Expr} {scope : Scope} {cl : List (Str × Addr)} {pos : Pos} {env : Env} {Q : Value → Shared → Prop}
    (hclos : closureFor scope env = pure cl) (hcell : ∀ y ∈ scope.names, y.2 ≠ .cell) (hkind : scope.kind = .function)
    (hnames : ∀ y ∈ scope.names, y.2 = .local → scope.names.lookup y.1 = some .local) (hx : scope.names.lookup x = some .local)
    (hs : ∀ x, foldedSetIterable iter env x = pure x)
    (h : wpAny (model prog w) A (eval iter env) (fun xv s₁ => wpAny (model prog w) A (pyIter xv) (fun it s₂ => ∃ I fp wr G n P St J, it = .ref I ∧ TurnsG prog w A env scope cl x ifs elt I fp wr G n P St J s₂ ∧ (∀ b ∈ wr, b < s₂.heap.objs.size) ∧
      ∀ (D : Addr) (s' : Shared) (h' : Heap) (ys : List Value), s₂.heap.objs.size ≤ D → h'.PlainList D ys.toArray → J n ys { s' with heap := h' } → Q (.ref D) { s' with heap := h' }) E s₁) E s) :
    wpAny (model prog w) A (eval (.ListComp elt [⟨.Name x px, iter, ifs, 0⟩] scope pos) env) Q E s := by
  rw [eval_ListComp]
  refine wpAny_comprehension_free (use := none) rfl hs hclos hkind hnames (wpAny_mono h (fun xv s₁ h₁ => wpAny_mono h₁ (fun it s₂ h₂ => ?_) fun _ _ e => e) fun _ _ e => e)
  obtain ⟨I, fp, wr, G, n, P, St, J, rfl, T, hwr, hQ⟩ := h₂
  refine wpAny_newObj_type (wpAny_newFunctionEnv hcell (by intro y hy; simp at hy) (fun h₁ hns₁ hsb₁ => ?_) hkind)
  dsimp only at hns₁ hsb₁ ⊢
  generalize hH2 : s₂.heap.push { cls := .type "list", dict := none, data := .seq ([] : List Value).toArray } = H2 at hns₁ hsb₁ ⊢
  have hC : H2.objs.size = s₂.heap.objs.size + 1 := by rw [← hH2, Heap.size_push]
  have hDC : s₂.heap.objs.size ≠ H2.objs.size := by rw [hC]; exact Nat.ne_of_lt (Nat.lt_succ_self _)
  have hCle : s₂.heap.objs.size ≤ H2.objs.size := by rw [hC]; exact Nat.le_succ _
  have old : ∀ b o, s₂.heap.get? b = some o → h₁.get? b = some o := fun b o e => hsb₁.extBut b o (by rw [hC]; exact Nat.ne_of_lt (Nat.lt_succ_of_lt (Heap.lt_size e))) (Heap.get?_push_of_some _ (hH2 ▸ Heap.get?_push_of_some _ e))
  have hacc : h₁.PlainList s₂.heap.objs.size #[] := ⟨_, hsb₁.extBut _ _ hDC (Heap.get?_push_of_some _ (hH2 ▸ Heap.get?_push_size _ rfl))⟩
  have hww : H2.objs.size ∉ wr ∧ s₂.heap.objs.size ∉ wr := ⟨fun q => absurd (hwr _ q) (Nat.not_lt.mpr hCle), fun q => absurd (hwr _ q) (Nat.lt_irrefl _)⟩
  have loop : ∀ tk, s₂.toks ≤ tk → codeAny (model prog w) A (.compLoop (.ListComp elt [⟨.Name x px, iter, ifs, 0⟩] scope pos) 0 (.ref I) (.ref s₂.heap.objs.size) (compEnvC scope cl H2.objs.size env))
      (compPost (model prog w) A E none Q (.ref s₂.heap.objs.size) H2.objs.size) { s₂ with heap := h₁, toks := tk } := fun tk htk => by
    refine listcomp_loopG T hx hkind hCle (Nat.le_refl _) hDC old hacc hns₁ htk hww fun s' m' ys hn hl hJ => ?_
    exact ⟨m', hn, fun h'' hs'' => hQ _ s' h'' ys (Nat.le_refl _) (hl.extBut hs''.extBut hDC) (T.old _ _ _ _ s'.toks hJ fun b o hb e => hs''.extBut b o (Nat.ne_of_lt (Nat.lt_of_lt_of_le hb hCle)) e)⟩
  exact codeAny_compStart_list (loop _ (by first | exact Nat.le_refl _ | exact Nat.le_succ _ | simp)) (T.W.self 0 _ _ _ (T.W.frame _ _ _ _ T.st (by first | exact Nat.le_refl _ | exact Nat.le_succ _ | simp) fun b _ o e => old b o e) (loop _ (by first | exact Nat.le_refl _ | exact Nat.le_succ _ | simp)))
end
end Mine
end

-- part E3
section
open PySem PySem.W PySem.Calls PyProof.Rows PySem.Spec
set_option maxRecDepth 100000
namespace Mine
section
variable {prog : Program} {w : World} {A : Around} {E : Value → Shared → Prop} {s : Shared}
/-- `x.strip(sep)` in a generator: x its own -/
theorem gen_strip {env : Env} {scope : Scope} {cl : List (Str × Addr)} {C : Addr} {code : Value} {bi : Addr} {x sep : Str} {px pa pc pos : Pos} {k : Nat} {a : Str} {ta : Tok} {mm : Str → Option Value} {Q : Value → Shared → Prop}
    (hk : scope.kind = .function) (hx : scope.names.lookup x = some .local) (hn : s.heap.Ns C mm) (hm : mm x = some (.str a ta)) (hline : (pa.endLine == pos.line) = true) (dx : (x == ("__debug__" : Str)) = false) (hsz : a.length ≤ sizeLine)
    (h : ∀ t' tk, Q (.str (Txt.stripChars a sep) t') { s with toks := tk }) :
    wpAny (model prog w) A (eval (.Call (.Attribute (.Name x px) "strip" pa) [.Constant (.str sep) k pc] [] pos) (genEnv scope cl C code bi env)) Q E s := by
  refine wpAny_Call_method_lateS (show attributeBase (.Name x px) "strip" _ _ = _ from by rfl) ?f hline ?_
  case f => rfl
  refine wpAny_Name (wpAny_loadName_local hk hx hn hm ?_) dx
  refine SB.stripChars ?_ hsz
  rw [if_neg Bool.false_ne_true]
  exact Calls.Constant_str ⟨sep, _, rfl, fun t' tk => h t' tk⟩
end
end Mine
end

-- part E4
section
open PySem PySem.W PySem.Calls PyProof.Rows PySem.Spec
set_option maxRecDepth 100000
namespace Mine
section
variable {prog : Program} {w : World} {A : Around} {E : Value → Shared → Prop} {s : Shared} {g : Heap} {c P L : Addr} {m mg mb : Str → Option Value} {p : Program} {loose : List Str} {mean : ExcName → Option Value}
/-- a generator that leans on few places of the heap alone -/
theorem genexp_few {env : Env} {elt iter : Expr} {x : Str} {px : Pos} {ifs : List Expr} {scope : Scope} {cl : List (Str × Addr)} {pos : Pos} {Q : Value → Shared → Prop} {N₀ : Nat}
    (T : Top p loose mean mg mb g) (C : CodeHd g c P) (hcode : env.code = .ref c) (hglob : env.globals = mainGlobals) (hPg : g.get? P = none)
    (hh : A.handled = none) (hco : scope.isCoroutine = false) (hclos : closureFor scope env = pure cl) (hcell : ∀ y ∈ scope.names, y.2 ≠ .cell) (h0 : scope.names.lookup (".0" : Str) = some NameKind.local)
    (hx : scope.names.lookup x = some .local) (hkind : scope.kind = .function) (hroom : A.depth < recursionLimit)
    (hs : ∀ x, genFold iter env x = pure x)
    (h : wpAny (model prog w) A (eval iter env) (fun xv s₁ => wpAny (model prog w) A (pyIter xv) (fun it s₂ => (∀ b o, g.get? b = some o → s₂.heap.get? b = some o) ∧ Tab P s₂.heap ∧ AllBare s₂.gens ∧
      ∃ I fp wr n₀ Pi St₀ pz F, it = .ref I ∧ (∀ A' : Around, A'.handled = none → Walks prog w A' I fp wr n₀ Pi St₀) ∧ St₀ 0 s₂.heap ∧ (∀ b ∈ fp, b < s₂.heap.objs.size) ∧ P ∉ fp ∧ (∀ b ∈ wr, N₀ ≤ b) ∧ N₀ ≤ s₂.heap.objs.size ∧ cStatics < N₀ ∧
        (∀ (code : Value) (C : Addr) (href : Heap), QuietGen prog w (genEnv scope cl C code builtinsNs env) x ifs elt (cStatics :: fp) wr Pi pz F href) ∧
        (∀ (a : Addr) h₅ gens₅ tk fx wx gi St, (∀ b o, b ≠ P → s₂.heap.get? b = some o → h₅.get? b = some o) → Tab P h₅ → AllBare gens₅ → s₂.heap.objs.size ≤ a → a < h₅.objs.size →
          WalksS prog w A.in4 a fx wx (GenOnlyQ gi) (passing pz n₀ 0).length (fun j y => ∃ i, (passing pz n₀ 0)[j]? = some i ∧ F i y) St → St 0 { s₂ with heap := h₅, gens := gens₅, toks := tk } →
          (∀ b ∈ fx, b < h₅.objs.size ∧ (b < s₂.heap.objs.size → b = cStatics ∨ b ∈ fp)) → (∀ b ∈ wx, N₀ ≤ b ∧ b < h₅.objs.size) →
          Q (.ref a) { s₂ with heap := h₅, gens := gens₅, toks := tk })) E s₁) E s) :
    wpAny (model prog w) A (eval (.GeneratorExp elt [⟨.Name x px, iter, ifs, 0⟩] scope pos) env) Q E s := by
  refine wpAny_GeneratorExp_make hco hclos hcell h0 hkind hroom (wpAny_mono h (fun xv s₁ h₁' => wpAny_mono h₁' (fun it s₂ h₂ => ?_) fun _ _ e => e) fun _ _ e => e) hs
  obtain ⟨keep, ⟨ps, hP, ht⟩, G₂, I, fp, wr, n₀, Pi, St₀, pz, F, rfl, W₀, hst, hfp, hPf, hwr, hN, hcs, hq, hQ⟩ := h₂
  have hlim : s₂.heap.NoLimit := T.nolimit.keeps keep
  refine ⟨hlim, code_grow hcode (C.keeps keep) hP ht fun code h₃ tk₃ hx₃ hsz htab₃ => ?_⟩
  obtain ⟨bm, ob, b1, b2, b3, b4, b5, b6⟩ := T.bmain
  have neP : ∀ {b : Addr} {o : Obj}, g.get? b = some o → b ≠ P := fun e q => by rw [q, hPg] at e; cases e
  have hgm : h₃.Ns mainGlobals mg := by
    obtain ⟨o, es, ep, e, r⟩ := T.g
    exact ⟨o, es, ep, hx₃ _ _ (neP e) (keep _ _ e), r⟩
  have hcP : cStatics ≠ P := by
    obtain ⟨_, ⟨o, es, ep, e, _⟩, _⟩ := T.nolimit
    exact neP e
  have hl₃ : h₃.NoLimit := hlim.extBut hx₃ hcP
  rw [hglob]
  refine wpAny_builtinsFor hgm b1 b2 (hx₃ _ _ (neP b3) (keep _ _ b3)) b4 b5 b6 ?_
  have hcw : cStatics ∉ wr := fun hm => absurd hcs (Nat.not_lt.mpr (hwr _ hm))
  have hclt : cStatics < h₃.objs.size := let ⟨_, hn, _⟩ := hl₃; hn.lt
  dsimp only
  intro h' hn' hs'
  have hst₃ : St₀ 0 h₃ := (W₀ A hh).frame _ _ _ hst fun b hb o e => hx₃ b o (fun e' => hPf (e' ▸ hb)) e
  have hfp₃ : ∀ b ∈ fp, b < h₃.objs.size := fun b hb => Nat.lt_of_lt_of_le (hfp b hb) hsz
  have hsz' : h'.objs.size = h₃.objs.size + 1 := by rw [hs'.1, Heap.size_push]
  have keep' : ∀ b o, h₃.get? b = some o → h'.get? b = some o := fun b o e => hs'.extBut b o (Nat.ne_of_lt (Heap.lt_size e)) (Heap.get?_push_of_some _ e)
  have hsub : ∀ b ∈ wr, b ∈ cStatics :: fp := fun b hb => .tail _ ((W₀ A hh).sub b hb)
  have hfx : ∀ b ∈ cStatics :: fp, b < h₃.objs.size := fun b hb => by
    rcases List.mem_cons.mp hb with rfl | hb
    · exact hclt
    · exact hfp₃ b hb
  have haC : h'.objs.size ≠ h₃.objs.size := by rw [hsz']; exact Nat.succ_ne_self _
  have haf : h'.objs.size ∉ cStatics :: fp := fun hm => by
    have h9 := hfx _ hm
    rw [hsz'] at h9
    exact absurd (Nat.lt_of_succ_lt h9) (Nat.lt_irrefl _)
  have keep₅ : ∀ (o₅ : Obj) b o, h₃.get? b = some o → (h'.push o₅).get? b = some o := fun o₅ b o e => Heap.get?_push_of_some _ (keep' b o e)
  refine hQ _ _ _ _ (h'.objs.size :: h₃.objs.size :: (cStatics :: fp)) (h₃.objs.size :: wr) s₂.gens.size _ (fun b o hb e => keep₅ _ _ _ (hx₃ b o hb e)) (let ⟨ps', e, t⟩ := htab₃; ⟨ps', keep₅ _ _ _ e, t⟩) (G₂.push rfl)
    (Nat.le_trans hsz (by rw [hsz']; exact Nat.le_succ _)) (by rw [Heap.size_push]; exact Nat.lt_succ_self _)
    (WalksS.genexpQ (A := A.in4) hh _ _ _ _ wr pz n₀ F haC haf hsub hroom (.head _) (Nat.ne_of_lt hclt) hcw)
    (GenAt.fresh (A := A.in4) (cenv := genEnv scope cl h₃.objs.size code builtinsNs env) (m := fun y => if y = ".0" then some (.ref I) else none) hh
      (fun A' hA => (W₀ A' hA).mono_fp fun b hb => .tail _ hb) pz F hx (by simp [genEnv, hkind]) hco
      (fun hm => Nat.lt_irrefl _ (hfx _ hm)) (hq _ _ _) ⟨_, _, _, Heap.get?_push_size _ rfl, rfl, rfl, rfl⟩ (Array.getElem?_push_size ..) ((W₀ A hh).frame _ _ _ hst₃ fun b _ o e => keep₅ _ b o e) (hn'.push _) (hl₃.keeps (keep₅ _))) ?_ ?_
  · intro b hb
    rw [Heap.size_push, hsz']
    rcases List.mem_cons.mp hb with rfl | hb
    · rw [hsz']
      exact ⟨Nat.lt_succ_self _, fun q => absurd (Nat.lt_of_lt_of_le q hsz) (Nat.not_lt.mpr (Nat.le_succ _))⟩
    rcases List.mem_cons.mp hb with rfl | hb
    · exact ⟨Nat.lt_succ_of_lt (Nat.lt_succ_self _), fun q => absurd (Nat.lt_of_lt_of_le q hsz) (Nat.lt_irrefl _)⟩
    · exact ⟨Nat.lt_succ_of_lt (Nat.lt_succ_of_lt (hfx b hb)), fun _ => List.mem_cons.mp hb⟩
  · intro b hb
    rw [Heap.size_push, hsz']
    rcases List.mem_cons.mp hb with rfl | hb
    · exact ⟨Nat.le_trans hN hsz, Nat.lt_succ_of_lt (Nat.lt_succ_self _)⟩
    · exact ⟨hwr b hb, Nat.lt_succ_of_lt (Nat.lt_succ_of_lt (hfx b (hsub b hb)))⟩
end
end Mine
end

-- part E1
section
open PySem PySem.W PySem.Calls PyProof.Rows PySem.Spec
set_option maxRecDepth 100000
namespace Mine
section
variable {prog : Program} {w : World} {A : Around} {E : Value → Shared → Prop} {s : Shared} {g : Heap} {env : Env} {m : Str → Option Value} {led : List (Addr × Obj)} {x : Str} {body : List Stmt} {Q : Flow → Shared → Prop} {y : Str} {t : Tok}
/-- a loop over the signs of a text -/
theorem iter_chars (hh : A.handled = none) (F : Fr g env.locals s.heap m) (N : News g env.locals s.heap led) (J : Nat → (Str → Option Value) → List (Addr × Obj) → Prop) (h0 : J 0 m led)
    (turn : ∀ i ch u m₁ led₁ I oI h tk, y.cps[i]? = some ch → J i m₁ led₁ → (∀ p ∈ led₁, p.1 ≠ I) → s.heap.objs.size ≤ I → Fr g env.locals h (fun z => if z = x then some (.str ⟨#[ch]⟩ u) else m₁ z) → News g env.locals h ((I, oI) :: led₁) →
      wpAny (model prog w) A (execs body env) (TurnPost g env.locals I oI (J (i + 1)) { s with heap := h, toks := tk } Q) E { s with heap := h, toks := tk })
    (done : ∀ h tk m₁ led₁, J y.cps.size m₁ led₁ → Fr g env.locals h m₁ → News g env.locals h led₁ → Q .next { s with heap := h, toks := tk }) :
    wpAny (model prog w) A (pyIter (.str y t)) (fun it s₂ => LoopAtV prog w A g env x body Q E it s₂) E s := by
  have hLs : env.locals < s.heap.objs.size := F.ns.lt
  have side1 : env.locals ∉ [s.heap.objs.size] := fun hm => absurd hLs ((List.mem_singleton.mp hm) ▸ Nat.lt_irrefl _)
  have side2 : ∀ b ∈ [s.heap.objs.size], b ≠ s.heap.objs.size → (g.get? b).isSome = true := fun b hb hn => absurd (List.mem_singleton.mp hb) hn
  have next : ∀ (o : Obj) i v m₁ led₁ oI h tk, i < y.cps.size → SignAt y i v → J i m₁ led₁ → (∀ p ∈ led₁, p.1 ≠ s.heap.objs.size) → Fr g env.locals h (fun z => if z = x then some v else m₁ z) → News g env.locals h ((s.heap.objs.size, oI) :: led₁) →
      wpAny (model prog w) A (execs body env) (TurnPost g env.locals s.heap.objs.size oI (J (i + 1)) { { s with heap := s.heap.push o } with heap := h, toks := tk } Q) E { { s with heap := s.heap.push o } with heap := h, toks := tk } := by
    intro o i v m₁ led₁ oI h tk hi' hP hJ hoff F₁ N₁
    obtain ⟨ch, u, e1, rfl⟩ := hP
    exact turn i ch u m₁ led₁ _ oI h tk e1 hJ hoff (Nat.le_refl _) F₁ N₁
  cases ha : y.cps.all (· < 128)
  · refine wpAny_pyIter_wide ha ?_
    exact loop_gen (s := { s with heap := s.heap.push { cls := .type "str_iterator", data := .fields #[.str y t, .int 0 0] } }) (Walks.strWide hh s.heap.objs.size y t) (.head _) side1 side2 (Heap.get?_none_of_le (Nat.le_trans F.above (Nat.le_of_lt hLs))) (fun p hp => Nat.ne_of_lt (Heap.lt_size (N p hp).1)) ⟨_, Heap.get?_push_size _ rfl, rfl, rfl⟩
      (fun i h st => let ⟨o, e, _⟩ := st; ⟨o, e⟩) (F.keeps fun _ _ e => Heap.get?_push_of_some _ e) (N.grown fun _ _ e => Heap.get?_push_of_some _ e) J h0 (next _) done
  · refine wpAny_pyIter_ascii ha ?_
    exact loop_gen (s := { s with heap := s.heap.push { cls := .type "str_ascii_iterator", data := .fields #[.str y t, .int 0 0] } }) (Walks.strAscii hh s.heap.objs.size y t) (.head _) side1 side2 (Heap.get?_none_of_le (Nat.le_trans F.above (Nat.le_of_lt hLs))) (fun p hp => Nat.ne_of_lt (Heap.lt_size (N p hp).1)) ⟨_, Heap.get?_push_size _ rfl, rfl, rfl⟩
      (fun i h st => let ⟨o, e, _⟩ := st; ⟨o, e⟩) (F.keeps fun _ _ e => Heap.get?_push_of_some _ e) (N.grown fun _ _ e => Heap.get?_push_of_some _ e) J h0 (next _) done
end

/-- where the reader of a list stands -/
structure PS where
  items : List Str
  item : Str
  esc : Bool
  quo : Bool
def chS (ch : Nat) : Str := ⟨#[ch]⟩
def pstep (σ : PS) (ch : Nat) : PS :=
  if σ.esc then { σ with esc := false, item := σ.item ++ chS ch }
  else if σ.quo then (if chS ch = BS then { σ with esc := true, item := σ.item ++ chS ch } else if chS ch = DQ then { σ with quo := false, item := σ.item ++ chS ch } else { σ with item := σ.item ++ chS ch })
  else if chS ch = Str.ofString "," then { σ with items := σ.items ++ [σ.item], item := Str.empty }
  else if chS ch = DQ then { σ with quo := true, item := σ.item ++ chS ch }
  else { σ with item := σ.item ++ chS ch }
def pst (y : Str) (i : Nat) : PS := (y.cps.toList.take i).foldl pstep ⟨[], Str.empty, false, false⟩
theorem pst_succ {y : Str} {i ch : Nat} (h : y.cps[i]? = some ch) : pst y (i + 1) = pstep (pst y i) ch := by
  have : y.cps.toList[i]? = some ch := by rw [Array.getElem?_toList]; exact h
  unfold pst
  rw [List.take_add_one, this]
  simp
theorem pstep_len (σ : PS) (ch : Nat) : (pstep σ ch).item.length ≤ σ.item.length + 1 ∧ (pstep σ ch).items.length ≤ σ.items.length + 1 := by
  have len_app : ∀ a b : Str, (a ++ b).length = a.length + b.length := fun a b => by
    show (a.cps ++ b.cps).size = _
    rw [Array.size_append]; rfl
  have l1 : (chS ch).length = 1 := rfl
  have l0 : Str.empty.length = 0 := rfl
  unfold pstep
  (repeat' split) <;> (simp only [len_app, l1, l0, List.length_append, List.length_cons, List.length_nil]; omega)
theorem pst_len (y : Str) : ∀ i, (pst y i).item.length ≤ i ∧ (pst y i).items.length ≤ i
  | 0 => ⟨Nat.le_refl _, Nat.le_refl _⟩
  | i + 1 => by
    have ih := pst_len y i
    cases h : y.cps[i]? with
    | some ch =>
      rw [pst_succ h]
      have := pstep_len (pst y i) ch
      omega
    | none =>
      have : y.cps.toList[i]? = none := by rw [Array.getElem?_toList]; exact h
      have e : pst y (i + 1) = pst y i := by
        unfold pst
        rw [List.take_add_one, this]
        simp
      rw [e]; omega

theorem pst_mem (y : Str) : ∀ i, ∀ z ∈ (pst y i).items, z.length ≤ i
  | 0 => fun z hz => by simp [pst] at hz
  | i + 1 => by
    intro z hz
    have ih := pst_mem y i
    have hl := (pst_len y i).1
    cases h : y.cps[i]? with
    | some ch =>
      rw [pst_succ h] at hz
      have : z ∈ (pst y i).items ++ [(pst y i).item] := by
        revert hz
        unfold pstep
        (repeat' split) <;> intro hz <;> first | exact hz | exact List.mem_append_left _ hz
      rcases List.mem_append.mp this with hz | hz
      · exact Nat.le_succ_of_le (ih z hz)
      · rw [List.mem_singleton.mp hz]; exact Nat.le_succ_of_le hl
    | none =>
      have : y.cps.toList[i]? = none := by rw [Array.getElem?_toList]; exact h
      have e : pst y (i + 1) = pst y i := by
        unfold pst
        rw [List.take_add_one, this]
        simp
      rw [e] at hz; exact Nat.le_succ_of_le (ih z hz)
def parseNews (a : Addr) (vs : List Value) (k : Nat) (p7 p0 : Array Value) : List (Addr × Obj) := [(a, listOf vs.toArray k), (207, tabObj p7), (200, tabObj p0)]
abbrev m4 (vt ve vq vc : Option Value) (m : Str → Option Value) : Str → Option Value := fun z => if z = Str.ofString "char" then vc else if z = Str.ofString "quote" then vq else if z = Str.ofString "escape" then ve else if z = Str.ofString "item" then vt else m z
def pm0 (a : Addr) (y : Str) (t : Tok) : Str → Option Value := fun z => if z = Str.ofString "items" then some (.ref a) else List.lookup z [(Str.ofString "value", Value.str y t)].reverse
def PInv (p7 p0 : Array Value) (y : Str) (t₀ : Tok) (i : Nat) (m₁ : Str → Option Value) (led : List (Addr × Obj)) : Prop :=
  ∃ a vs k t cv, led = parseNews a vs k p7 p0 ∧ StrsAre vs (pst y i).items ∧ m₁ = m4 (some (.str (pst y i).item t)) (some (.bool (pst y i).esc)) (some (.bool (pst y i).quo)) cv (pm0 a y t₀)
theorem Fr.as {g h : Heap} {L : Addr} {m m' : Str → Option Value} (F : Fr g L h m) (e : ∀ z, m z = m' z) : Fr g L h m' := (funext e : m = m') ▸ F

def unq (z : Str) : Str := if z = QXY then XY else z
def WS : Str := Str.ofString " \t"
/-- the parts of a list's text, stripped -/
def partsOf (y : Str) : List Str := ((pst y y.cps.size).items ++ [(pst y y.cps.size).item]).map fun z => Txt.stripChars z WS
def kept (z : Str) : Bool := z.length != 0
def parsed (y : Str) : List Str := ((partsOf y).filter kept).map unq
/-- what a turn over the parts keeps -/
def PJ (s : Shared) (H : Heap) (y : Str) (i : Nat) (ys : List Value) (s' : Shared) : Prop :=
  ∃ h gens tk, s' = { s with heap := h, gens := gens, toks := tk } ∧ AllBare gens ∧ Tab 207 h ∧ Tab 200 h ∧ (∀ b o, b ≠ 207 → b ≠ 200 → H.get? b = some o → h.get? b = some o) ∧ StrsAre ys ((((partsOf y).take i).filter kept).map unq) ∧ ys.length ≤ i
section
variable {w : World} {hb : Heap} {p : Program} {loose : List Str} {mean : ExcName → Option Value} {mg mb : Str → Option Value} {out : List Env}
  {s : Shared} {Q : Value → Shared → Prop} {E : Value → Shared → Prop}

set_option maxHeartbeats 8000000 in
theorem parse_list_spec {y : Str} {t : Tok} {p7 p0 : Array Value} (X : (hd.heap_39 w.params).In hb) (T : Top p loose mean mg mb hb) (cx : Cx hb out s.heap [207, 200]) (hP7 : s.heap.get? 207 = some (tabObj p7)) (hp7 : TriplesOk p7.toList) (hP0 : s.heap.get? 200 = some (tabObj p0)) (hp0 : TriplesOk p0.toList) (hG : AllBare s.gens) (hy : y.length ≤ 1000) (hq : (pst y y.cps.size).quo = false) (hok : ∀ z ∈ partsOf y, z = QXY ∨ Txt.startswith z DQ = false)
    (ret : ∀ D h' tk gens' vs, h'.PlainList D vs.toArray → StrsAre vs (parsed y) → Tab 207 h' → Tab 200 h' → AllBare gens' → Kp [207, 200] s.heap h' → s.heap.objs.size ≤ D → Q (.ref D) { s with heap := h', gens := gens', toks := tk }) :
    wpAny (model PySem.Challenge.rw_fa0002_01.row.prog w) (AR 300 300 out) (call (.ref 210) [.str y t]) Q E s := by
  revert X; k_fill; intro X
  refine wpAny_call ?_
  refine' enter (binds := [(Str.ofString "value", .str y t)]) [(207, tabObj p7), (200, tabObj p0)] X T cx ?hn ?ho ?hcd ?hroom ?hbind ?hloc ?_ ?c2 ?c3 ?c4 ?c5
  case hn =>
    intro q hq
    rcases List.mem_cons.mp hq with rfl | hq
    · exact hP7
    · rw [List.mem_singleton.mp hq]; exact hP0
  case ho => k_is
  case hcd => k_is
  case hroom => decide
  case hbind => exact BindsTo.of_eq rfl
  case hloc => exact locs rfl
  case c2 => exact rfl
  case c3 => exact rfl
  case c4 => exact rfl
  case c5 => decide
  intro g L' h₁ st' hg hg2 hsz F' N' B' X' T'
  try dsimp only [List.cons_append, List.nil_append] at N'
  try dsimp only
  all_goals try k_fold
  repeat' (first | ((with_reducible show wpAny _ _ _ _ _ _); (fail_if_success (with_reducible show wpAny _ _ (exec (Stmt.For _ _ _ _ _) _) _ _ _)); (first | (k_unfold; (try dsimp only)) | walk1 | (dsimp only; walk1) | (leave1; try dsimp only))) | fail "stop")
  rename Fr _ _ _ _ => F9
  rename News _ _ _ _ => N9
  rename (207 < _ ∧ 200 < _) => hlt9
  refine' For_invVF F9 ?k1 ?k2 ?_
  case k1 => exact rfl
  case k2 => exact rfl
  repeat' (first | ((fail_if_success (with_reducible show wpAny _ _ (pyIter _) _ _ _)); (first | (k_unfold; (try dsimp only)) | walk1 | (dsimp only; walk1) | (leave1; try dsimp only))) | fail "stop")
  try dsimp only
  refine iter_chars rfl F9 N9 (PInv p7 p0 y t) ?h0 ?turn ?done
  case h0 =>
    refine' ⟨_, [], _, _, none, rfl, .nil, ?eq⟩
    case eq =>
    funext z
    by_cases h1 : z = Str.ofString "char"
    · subst h1; rfl
    by_cases h2 : z = Str.ofString "quote"
    · subst h2; rfl
    by_cases h3 : z = Str.ofString "escape"
    · subst h3; rfl
    by_cases h4 : z = Str.ofString "item"
    · subst h4; rfl
    · simp only [m4, pm0, h1, h2, h3, h4, if_false]
  case turn =>
    clear F9 N9 hlt9
    rintro i ch u m₁ led₁ I oI h tk hch ⟨a, vs, k, t', cv, rfl, hvs, rfl⟩ hne hI F9 N9
    simp only [parseNews, List.mem_cons, List.not_mem_nil, or_false, forall_eq_or_imp, forall_eq] at hne
    obtain ⟨i1, i2, i3⟩ := hne
    replace i1 := nn i1
    replace i2 := nn i2
    replace i3 := nn i3
    dsimp only [parseNews] at N9
    have a7 : a ≠ 207 := fun q => by
      have e1 := (N9 (a, listOf vs.toArray k) (by k_mem)).1
      have e2 := (N9 (207, tabObj p7) (by k_mem)).1
      dsimp only at e1 e2
      rw [q, e2] at e1
      cases e1
    have a7' := Ne.symm a7
    have a0 : a ≠ 200 := fun q => by
      have e1 := (N9 (a, listOf vs.toArray k) (by k_mem)).1
      have e2 := (N9 (200, tabObj p0) (by k_mem)).1
      dsimp only at e1 e2
      rw [q, e2] at e1
      cases e1
    have a0' := Ne.symm a0
    have hil := (pst_len y i).1
    have hil2 := (pst_len y i).2
    have hiy : i < y.length := (Array.getElem?_eq_some_iff.mp hch).1
    have hsucc := pst_succ hch
    generalize pst y i = σ at *
    obtain ⟨its, it, esc, quo⟩ := σ
    dsimp only [m4] at F9 hil hil2 hvs
    have hit : it.length ≤ 1000 := by omega
    have beq1 : ∀ {u : Str}, chS ch = u → ((⟨#[ch]⟩ : Str) == u) = true := fun h => beq_iff_eq.mpr h
    have beq2 : ∀ {u : Str}, ¬ chS ch = u → ¬ ((⟨#[ch]⟩ : Str) == u) = true := fun h q => h (beq_iff_eq.mp q)
    cases esc with
    | true =>
      have e1 : pstep ⟨its, it, true, quo⟩ ch = ⟨its, it ++ chS ch, false, quo⟩ := by simp only [pstep, if_true]
      rw [e1] at hsucc
      repeat' (first | ((with_reducible show wpAny _ _ _ _ _ _); (first | (k_unfold; (try dsimp only)) | walk1 | (dsimp only; walk1) | (leave1; try dsimp only))) | fail "stop")
      rw [if_pos rfl]
      repeat' (first | ((with_reducible show wpAny _ _ _ _ _ _); (first | (k_unfold; (try dsimp only)) | walk1 | (dsimp only; walk1) | (leave1; try dsimp only))) | fail "stop")
      rename Fr _ _ _ _ => F8
      rename News _ _ _ _ => N8
      try dsimp only
      try dsimp only
      refine' ⟨_, _, _, _, rfl, F8, N8, ?ne, _, _, _, _, _, rfl, ?it, ?em⟩
      case ne =>
        try simp only [parseNews]
        simp only [List.mem_cons, List.not_mem_nil, or_false, forall_eq_or_imp, forall_eq]
        exact ⟨i1, i2, i3⟩
      case it => rw [hsucc]; exact hvs
      case em =>
        rw [hsucc]
        funext z
        by_cases h1 : z = Str.ofString "char"
        · subst h1; rfl
        by_cases h2 : z = Str.ofString "quote"
        · subst h2; rfl
        by_cases h3 : z = Str.ofString "escape"
        · subst h3; rfl
        by_cases h4 : z = Str.ofString "item"
        · subst h4; rfl
        · simp only [m4, pm0, h1, h2, h3, h4, if_false]
    | false =>
      repeat' (first | ((with_reducible show wpAny _ _ _ _ _ _); (first | (k_unfold; (try dsimp only)) | walk1 | (dsimp only; walk1) | (leave1; try dsimp only))) | fail "stop")
      rw [if_neg Bool.false_ne_true]
      repeat' (first | ((with_reducible show wpAny _ _ _ _ _ _); (first | (k_unfold; (try dsimp only)) | walk1 | (dsimp only; walk1) | (leave1; try dsimp only))) | fail "stop")
      cases quo with
      | true =>
        repeat' (first | ((with_reducible show wpAny _ _ _ _ _ _); (first | (k_unfold; (try dsimp only)) | walk1 | (dsimp only; walk1) | (leave1; try dsimp only))) | fail "stop")
        rw [if_pos rfl]
        repeat' (first | ((with_reducible show wpAny _ _ _ _ _ _); (first | (k_unfold; (try dsimp only)) | walk1 | (dsimp only; walk1) | (leave1; try dsimp only))) | fail "stop")
        by_cases b1 : chS ch = BS
        · have e1 : pstep ⟨its, it, false, true⟩ ch = ⟨its, it ++ chS ch, true, true⟩ := by unfold pstep; dsimp only; rw [if_neg Bool.false_ne_true, if_pos rfl, if_pos b1]
          rw [e1] at hsucc
          rw [if_pos (beq1 (u := Str.ofString "\\") b1)]
          repeat' (first | ((with_reducible show wpAny _ _ _ _ _ _); (first | (k_unfold; (try dsimp only)) | walk1 | (dsimp only; walk1) | (leave1; try dsimp only))) | fail "stop")
          rename Fr _ _ _ _ => F8
          rename News _ _ _ _ => N8
          try dsimp only
          try dsimp only
          refine' ⟨_, _, _, _, rfl, F8, N8, ?ne, _, _, _, _, _, rfl, ?it, ?em⟩
          case ne =>
            try simp only [parseNews]
            simp only [List.mem_cons, List.not_mem_nil, or_false, forall_eq_or_imp, forall_eq]
            exact ⟨i1, i2, i3⟩
          case it => rw [hsucc]; exact hvs
          case em =>
            rw [hsucc]
            funext z
            by_cases h1 : z = Str.ofString "char"
            · subst h1; rfl
            by_cases h2 : z = Str.ofString "quote"
            · subst h2; rfl
            by_cases h3 : z = Str.ofString "escape"
            · subst h3; rfl
            by_cases h4 : z = Str.ofString "item"
            · subst h4; rfl
            · simp only [m4, pm0, h1, h2, h3, h4, if_false]
        rw [if_neg (beq2 (u := Str.ofString "\\") b1)]
        repeat' (first | ((with_reducible show wpAny _ _ _ _ _ _); (first | (k_unfold; (try dsimp only)) | walk1 | (dsimp only; walk1) | (leave1; try dsimp only))) | fail "stop")
        by_cases b2 : chS ch = DQ
        · have e1 : pstep ⟨its, it, false, true⟩ ch = ⟨its, it ++ chS ch, false, false⟩ := by unfold pstep; dsimp only; rw [if_neg Bool.false_ne_true, if_pos rfl, if_neg b1, if_pos b2]
          rw [e1] at hsucc
          rw [if_pos (beq1 (u := Str.ofString "\"") b2)]
          repeat' (first | ((with_reducible show wpAny _ _ _ _ _ _); (first | (k_unfold; (try dsimp only)) | walk1 | (dsimp only; walk1) | (leave1; try dsimp only))) | fail "stop")
          rename Fr _ _ _ _ => F8
          rename News _ _ _ _ => N8
          try dsimp only
          try dsimp only
          refine' ⟨_, _, _, _, rfl, F8, N8, ?ne, _, _, _, _, _, rfl, ?it, ?em⟩
          case ne =>
            try simp only [parseNews]
            simp only [List.mem_cons, List.not_mem_nil, or_false, forall_eq_or_imp, forall_eq]
            exact ⟨i1, i2, i3⟩
          case it => rw [hsucc]; exact hvs
          case em =>
            rw [hsucc]
            funext z
            by_cases h1 : z = Str.ofString "char"
            · subst h1; rfl
            by_cases h2 : z = Str.ofString "quote"
            · subst h2; rfl
            by_cases h3 : z = Str.ofString "escape"
            · subst h3; rfl
            by_cases h4 : z = Str.ofString "item"
            · subst h4; rfl
            · simp only [m4, pm0, h1, h2, h3, h4, if_false]
        · have e1 : pstep ⟨its, it, false, true⟩ ch = ⟨its, it ++ chS ch, false, true⟩ := by unfold pstep; dsimp only; rw [if_neg Bool.false_ne_true, if_pos rfl, if_neg b1, if_neg b2]
          rw [e1] at hsucc
          rw [if_neg (beq2 (u := Str.ofString "\"") b2)]
          repeat' (first | ((with_reducible show wpAny _ _ _ _ _ _); (first | (k_unfold; (try dsimp only)) | walk1 | (dsimp only; walk1) | (leave1; try dsimp only))) | fail "stop")
          rename Fr _ _ _ _ => F8
          rename News _ _ _ _ => N8
          try dsimp only
          try dsimp only
          refine' ⟨_, _, _, _, rfl, F8, N8, ?ne, _, _, _, _, _, rfl, ?it, ?em⟩
          case ne =>
            try simp only [parseNews]
            simp only [List.mem_cons, List.not_mem_nil, or_false, forall_eq_or_imp, forall_eq]
            exact ⟨i1, i2, i3⟩
          case it => rw [hsucc]; exact hvs
          case em =>
            rw [hsucc]
            funext z
            by_cases h1 : z = Str.ofString "char"
            · subst h1; rfl
            by_cases h2 : z = Str.ofString "quote"
            · subst h2; rfl
            by_cases h3 : z = Str.ofString "escape"
            · subst h3; rfl
            by_cases h4 : z = Str.ofString "item"
            · subst h4; rfl
            · simp only [m4, pm0, h1, h2, h3, h4, if_false]
      | false =>
        repeat' (first | ((with_reducible show wpAny _ _ _ _ _ _); (first | (k_unfold; (try dsimp only)) | walk1 | (dsimp only; walk1) | (leave1; try dsimp only))) | fail "stop")
        rw [if_neg Bool.false_ne_true]
        repeat' (first | ((with_reducible show wpAny _ _ _ _ _ _); (first | (k_unfold; (try dsimp only)) | walk1 | (dsimp only; walk1) | (leave1; try dsimp only))) | fail "stop")
        by_cases b1 : chS ch = Str.ofString ","
        · have e1 : pstep ⟨its, it, false, false⟩ ch = ⟨its ++ [it], Str.empty, false, false⟩ := by unfold pstep; dsimp only; rw [if_neg Bool.false_ne_true, if_neg Bool.false_ne_true, if_pos b1]
          rw [e1] at hsucc
          rw [if_pos (beq1 (u := Str.ofString ",") b1)]
          repeat' (first | ((with_reducible show wpAny _ _ _ _ _ _); (first | (k_unfold; (try dsimp only)) | walk1 | (dsimp only; walk1) | (leave1; try dsimp only))) | fail "stop")
          try simp only [List.push_toArray] at *
          rename Fr _ _ _ _ => F8
          rename News _ _ _ _ => N8
          try dsimp only
          try dsimp only
          refine' ⟨_, _, _, _, rfl, F8, N8, ?ne, _, _, _, _, _, rfl, ?it, ?em⟩
          case ne =>
            try simp only [parseNews]
            simp only [List.mem_cons, List.not_mem_nil, or_false, forall_eq_or_imp, forall_eq]
            exact ⟨i1, i2, i3⟩
          case it => rw [hsucc]; exact hvs.append' (.cons _ _ .nil)
          case em =>
            rw [hsucc]
            funext z
            by_cases h1 : z = Str.ofString "char"
            · subst h1; rfl
            by_cases h2 : z = Str.ofString "quote"
            · subst h2; rfl
            by_cases h3 : z = Str.ofString "escape"
            · subst h3; rfl
            by_cases h4 : z = Str.ofString "item"
            · subst h4; rfl
            · simp only [m4, pm0, h1, h2, h3, h4, if_false]
        rw [if_neg (beq2 (u := Str.ofString ",") b1)]
        repeat' (first | ((with_reducible show wpAny _ _ _ _ _ _); (first | (k_unfold; (try dsimp only)) | walk1 | (dsimp only; walk1) | (leave1; try dsimp only))) | fail "stop")
        by_cases b2 : chS ch = DQ
        · have e1 : pstep ⟨its, it, false, false⟩ ch = ⟨its, it ++ chS ch, false, true⟩ := by unfold pstep; dsimp only; rw [if_neg Bool.false_ne_true, if_neg Bool.false_ne_true, if_neg b1, if_pos b2]
          rw [e1] at hsucc
          rw [if_pos (beq1 (u := Str.ofString "\"") b2)]
          repeat' (first | ((with_reducible show wpAny _ _ _ _ _ _); (first | (k_unfold; (try dsimp only)) | walk1 | (dsimp only; walk1) | (leave1; try dsimp only))) | fail "stop")
          rename Fr _ _ _ _ => F8
          rename News _ _ _ _ => N8
          try dsimp only
          try dsimp only
          refine' ⟨_, _, _, _, rfl, F8, N8, ?ne, _, _, _, _, _, rfl, ?it, ?em⟩
          case ne =>
            try simp only [parseNews]
            simp only [List.mem_cons, List.not_mem_nil, or_false, forall_eq_or_imp, forall_eq]
            exact ⟨i1, i2, i3⟩
          case it => rw [hsucc]; exact hvs
          case em =>
            rw [hsucc]
            funext z
            by_cases h1 : z = Str.ofString "char"
            · subst h1; rfl
            by_cases h2 : z = Str.ofString "quote"
            · subst h2; rfl
            by_cases h3 : z = Str.ofString "escape"
            · subst h3; rfl
            by_cases h4 : z = Str.ofString "item"
            · subst h4; rfl
            · simp only [m4, pm0, h1, h2, h3, h4, if_false]
        · have e1 : pstep ⟨its, it, false, false⟩ ch = ⟨its, it ++ chS ch, false, false⟩ := by unfold pstep; dsimp only; rw [if_neg Bool.false_ne_true, if_neg Bool.false_ne_true, if_neg b1, if_neg b2]
          rw [e1] at hsucc
          rw [if_neg (beq2 (u := Str.ofString "\"") b2)]
          repeat' (first | ((with_reducible show wpAny _ _ _ _ _ _); (first | (k_unfold; (try dsimp only)) | walk1 | (dsimp only; walk1) | (leave1; try dsimp only))) | fail "stop")
          rename Fr _ _ _ _ => F8
          rename News _ _ _ _ => N8
          try dsimp only
          try dsimp only
          refine' ⟨_, _, _, _, rfl, F8, N8, ?ne, _, _, _, _, _, rfl, ?it, ?em⟩
          case ne =>
            try simp only [parseNews]
            simp only [List.mem_cons, List.not_mem_nil, or_false, forall_eq_or_imp, forall_eq]
            exact ⟨i1, i2, i3⟩
          case it => rw [hsucc]; exact hvs
          case em =>
            rw [hsucc]
            funext z
            by_cases h1 : z = Str.ofString "char"
            · subst h1; rfl
            by_cases h2 : z = Str.ofString "quote"
            · subst h2; rfl
            by_cases h3 : z = Str.ofString "escape"
            · subst h3; rfl
            by_cases h4 : z = Str.ofString "item"
            · subst h4; rfl
            · simp only [m4, pm0, h1, h2, h3, h4, if_false]
  case done =>
    clear F9 N9 hlt9
    rintro h tk m₁ led₁ ⟨a, vs, k, t', cv, rfl, hvs, rfl⟩ F9 N9
    dsimp only [parseNews] at N9
    have a7 : a ≠ 207 := fun q => by
      have e1 := (N9 (a, listOf vs.toArray k) (by k_mem)).1
      have e2 := (N9 (207, tabObj p7) (by k_mem)).1
      dsimp only at e1 e2
      rw [q, e2] at e1
      cases e1
    have a7' := Ne.symm a7
    have a0 : a ≠ 200 := fun q => by
      have e1 := (N9 (a, listOf vs.toArray k) (by k_mem)).1
      have e2 := (N9 (200, tabObj p0) (by k_mem)).1
      dsimp only at e1 e2
      rw [q, e2] at e1
      cases e1
    have a0' := Ne.symm a0
    have hil := (pst_len y y.cps.size).1
    have hil2 := (pst_len y y.cps.size).2
    have hmem := pst_mem y y.cps.size
    have hyn : y.cps.size ≤ 1000 := hy
    rw [hq] at F9
    generalize hσ : pst y y.cps.size = σ at *
    obtain ⟨its, it, esc, quo⟩ := σ
    dsimp only [m4] at F9 hil hil2 hvs hmem
    repeat' (first | ((with_reducible show wpAny _ _ _ _ _ _); (first | (k_unfold; (try dsimp only)) | walk1 | (dsimp only; walk1) | (leave1; try dsimp only))) | fail "stop")
    rw [if_neg Bool.false_ne_true]
    repeat' (first | ((with_reducible show wpAny _ _ _ _ _ _); (fail_if_success (with_reducible show wpAny _ _ (eval (Expr.ListComp _ _ _ _) _) _ _ _)); (first | (k_unfold; (try dsimp only)) | walk1 | (dsimp only; walk1) | (leave1; try dsimp only))) | fail "stop")
    rename Fr _ _ _ _ => F8
    rename News _ _ _ _ => N8
    have C9 : CodeHd g 209 207 := codeHd_of_K X' (by kernel_rfl)
    refine' eval_listcompG ?l1 ?l2 ?l3 ?l4 ?l5 ?l6 ?_
    case l1 => with_unfolding_all rfl
    case l2 => decide
    case l3 => rfl
    case l4 => decide
    case l5 => rfl
    case l6 => intro _; rfl
    rename Heap => H8
    have hL8 := F8.ns.lt
    apply genexp_few (N₀ := H8.objs.size) T' C9
    case hcode => rfl
    case hglob => rfl
    case hPg => exact (N8 (207, tabObj p7) (by k_mem)).2.2
    case hh => rfl
    case hco => rfl
    case hclos => with_unfolding_all rfl
    case hcell => decide
    case h0 => rfl
    case hx => rfl
    case hkind => rfl
    case hroom => show (551 : Nat) < recursionLimit; decide
    case hs => intro _; with_unfolding_all rfl
    case h =>
      repeat' (first | ((with_reducible show wpAny _ _ _ _ _ _); (fail_if_success (with_reducible show wpAny _ _ (pyIter _) _ _ _)); (first | (k_unfold; (try dsimp only)) | walk1 | (dsimp only; walk1) | (leave1; try dsimp only))) | fail "stop")
      have hal : H8.IsList a _ := news_list N8 (by k_mem)
      rw [List.push_toArray] at hal
      have hvs' := hvs.append' (.cons it t' .nil)
      have hlen' : (vs ++ [Value.str it t']).toArray.size = (its ++ [it]).length := by rw [List.size_toArray]; exact hvs'.len_eq
      have hsh : ∀ z ∈ its ++ [it], z.length ≤ 1000 := fun z hz => by
        rcases List.mem_append.mp hz with hz | hz
        · exact Nat.le_trans (hmem z hz) hyn
        · rw [List.mem_singleton.mp hz]; exact Nat.le_trans hil hyn
      have halt : a < H8.objs.size := Heap.lt_size (N8 (a, _) (.head _)).1
      refine wpAny_pyIter_list hal ?_
      refine ⟨?keep, ?tab, hG, H8.objs.size, [H8.objs.size, a], [H8.objs.size], (its ++ [it]).length, _, _, fun _ => true, fun i v => ∃ u, v = .str (Txt.stripChars ((its ++ [it]).getD i Str.empty) (Str.ofString " \t")) u, rfl, fun A' hA => hlen' ▸ Walks.list hA H8.objs.size a (Nat.ne_of_lt halt) _, ⟨⟨_, Heap.get?_push_size _ rfl, rfl, rfl⟩, hal.push _⟩, ?fp, ?pfp, ?wr, ?n0, ?cs, ?quiet, ?fin⟩
      case keep => exact fun b o e => Heap.get?_push_of_some _ (F8.keep b o e)
      case tab => exact ⟨p7, Heap.get?_push_of_some _ (N8 (207, tabObj p7) (by k_mem)).1, hp7⟩
      case fp =>
        intro b hb
        show _ < (Heap.push _ _).objs.size
        rw [Heap.size_push]
        rcases List.mem_cons.mp hb with rfl | hb
        · exact Nat.lt_succ_self _
        · rw [List.mem_singleton.mp hb]; exact Nat.lt_succ_of_lt halt
      case pfp =>
        intro q
        rcases List.mem_cons.mp q with q | q
        · exact absurd (Heap.lt_size (N8 (207, tabObj p7) (by k_mem)).1) (by rw [q]; exact Nat.lt_irrefl _)
        · exact a7' (List.mem_singleton.mp q)
      case wr => intro b hb; rw [List.mem_singleton.mp hb]; exact Nat.le_refl _
      case n0 =>
        show _ ≤ (Heap.push _ _).objs.size
        rw [Heap.size_push]; exact Nat.le_succ _
      case cs =>
        obtain ⟨_, ⟨o, es, ep, e, _⟩, _⟩ := T'.nolimit
        exact Heap.lt_size (F8.keep _ _ e)
      case quiet =>
        intro code C3 href
        refine ⟨fun A' E' i v s2 m2 hA hP hns hm hkk => wpAny_tests_nil ⟨rfl, Keeps.same _⟩, fun A' E' i v s2 m2 hA hP hpz hns hm hkk => ?_⟩
        obtain ⟨y', t2, e1, rfl⟩ := strs_get hvs' (i := i) (by simpa using hP)
        refine gen_strip rfl rfl hns hm rfl (by decide) ?_ fun t' tk => ⟨⟨t', ?_⟩, _, _, rfl, fun _ _ e => e⟩
        · rw [sizeLine_eq]; exact Nat.le_trans (hsh y' (List.mem_of_getElem? e1)) (Nat.le_of_ble_eq_true rfl)
        · rw [List.getD_eq_getElem?_getD, e1]; rfl
      case fin =>
        intro aG h5 gens5 tk5 fx wx gi St hk5 htab5 hG5 ha1 ha2 W5 hst5 hfx hwx
        dsimp only at hk5 ha1 hst5 hfx ⊢
        have kp2 : Kp [207, 200] s.heap H8 := kp_out hg F8
        have hpass : (passing (fun _ => true) (its ++ [it]).length 0) = List.range (its ++ [it]).length := by unfold passing; simp
        rw [hpass, List.length_range] at W5
        have h200 : (200 : Nat) < H8.objs.size := Heap.lt_size (N8 (200, tabObj p0) (by k_mem)).1
        have h207 : (207 : Nat) < H8.objs.size := Heap.lt_size (N8 (207, tabObj p7) (by k_mem)).1
        have hcst : cStatics ≠ 200 := fun q => by
          obtain ⟨_, ⟨o, es, ep, e, _⟩, _⟩ := T'.nolimit
          have := (N8 (200, tabObj p0) (by k_mem)).2.2
          dsimp only at this
          rw [q, this] at e; cases e
        have hx200 : 200 ∉ fx := fun q => by
          rcases (hfx _ q).2 (by show _ < (Heap.push _ _).objs.size; rw [Heap.size_push]; exact Nat.lt_succ_of_lt h200) with q | q
          · exact hcst q.symm
          rcases List.mem_cons.mp q with q | q
          · exact absurd h200 (by rw [q]; exact Nat.lt_irrefl _)
          · exact a0' (List.mem_singleton.mp q)
        have tab0 : Tab 200 h5 := ⟨p0, hk5 _ _ (by decide) (Heap.get?_push_of_some _ (N8 (200, tabObj p0) (by k_mem)).1), hp0⟩
        have old5 : ∀ b o, b ≠ 207 → b ≠ 200 → H8.get? b = some o → h5.get? b = some o := fun b o n7 _ e => hk5 b o n7 (Heap.get?_push_of_some _ e)
        have W6 := W5.in4_1.of_in1
        refine W6.self 0 _ _ _ hst5 ?_
        have hparts : partsOf y = (its ++ [it]).map fun z => Txt.stripChars z WS := by unfold partsOf; rw [hσ]
        have hplen : (partsOf y).length = (its ++ [it]).length := by rw [hparts, List.length_map]
        have h58 : H8.objs.size ≤ h5.objs.size := by
          have e1 : H8.objs.size + 1 ≤ aG := by have := ha1; rwa [show (H8.push { cls := .type "list_iterator", data := .fields #[.ref a, .int 0 0] }).objs.size = H8.objs.size + 1 from Heap.size_push ..] at this
          exact Nat.le_of_lt (Nat.lt_of_lt_of_le (Nat.lt_of_lt_of_le (Nat.lt_succ_self _) e1) (Nat.le_of_lt ha2))
        refine ⟨aG, fx, wx, _, (its ++ [it]).length, _, St, PJ s H8 y, rfl, ⟨W6, hst5, fun b hb => (hfx b hb).1, ?j0, ?old, ?mov, ?len, ?fit, ?turn⟩, fun b hb => (hwx b hb).2, ?done⟩
        case j0 => exact ⟨h5, gens5, tk5, rfl, hG5, htab5, tab0, old5, .nil, Nat.le_refl _⟩
        case old =>
          rintro i ys s' h' tk' ⟨h, gens, tk, rfl, b1, ⟨q7, e7, t7⟩, ⟨q0, e0, t0⟩, b4, b5, b6⟩ k
          refine ⟨h', gens, tk', rfl, b1, ⟨q7, k _ _ (Nat.lt_of_lt_of_le h207 h58) e7, t7⟩, ⟨q0, k _ _ (Nat.lt_of_lt_of_le h200 h58) e0, t0⟩, fun b o n7 n0 e => k _ _ (Nat.lt_of_lt_of_le (Heap.lt_size e) h58) (b4 b o n7 n0 e), b5, b6⟩
        case mov =>
          rintro i ys s' ⟨h', g', d', tk', os'⟩ ⟨h, gens, tk, rfl, b1, ⟨q7, e7, t7⟩, ⟨q0, e0, t0⟩, b4, b5, b6⟩ hm
          have ed : d' = s.drawn := hm.drawn
          have eo : os' = s.os := hm.os
          subst ed; subst eo
          have kk : ∀ b o, b < H8.objs.size → h.get? b = some o → h'.get? b = some o := fun b o hb e => hm.heap b o (fun q => absurd hb (Nat.not_lt.mpr (hwx b q).1)) e
          exact ⟨h', g', tk', rfl, hm.gens.bare b1, ⟨q7, kk _ _ h207 e7, t7⟩, ⟨q0, kk _ _ h200 e0, t0⟩, fun b o n7 n0 e => kk _ _ (Heap.lt_size e) (b4 b o n7 n0 e), b5, b6⟩
        case len => rintro i ys s' ⟨h, gens, tk, rfl, b1, b2, b3, b4, b5, b6⟩; exact b6
        case fit =>
          rw [List.length_append]
          have : [it].length = 1 := rfl
          omega
        case done =>
          rintro D ⟨h0', g0', d0', tk0', os0'⟩ h' ys hD hl ⟨h, gens, tk', e, b1, b2, b3, b4, b5, b6⟩
          dsimp only at hl e
          cases e
          dsimp only
          repeat' (first | ((with_reducible show wpAny _ _ _ _ _ _); (first | (k_unfold; (try dsimp only)) | walk1 | (dsimp only; walk1) | (leave1; try dsimp only))) | fail "stop")
          try show Q _ _
          rw [List.take_of_length_le (by rw [hplen]; exact Nat.le_refl _)] at b5
          refine ret D _ _ _ ys hl b5 b2 b3 b1 (fun b o e n => b4 b o (fun q => n (by simp [q])) (fun q => n (by simp [q])) (kp2 b o e n)) ?_
          show s.heap.objs.size ≤ D
          exact Nat.le_trans (Nat.le_trans hsz (Nat.le_of_lt hL8)) (Nat.le_trans h58 hD)
        case turn =>
          intro i v C D ys s₃ m₃ E' hi hP hJ hn hx hC hacc hD hDC
          obtain ⟨i', hi', u, rfl⟩ := hP
          obtain ⟨hlt', e'⟩ := List.getElem?_eq_some_iff.mp hi'
          rw [List.getElem_range] at e'
          subst e'
          obtain ⟨h3, gens3, tk3, rfl, b1, ⟨q7, e7, t7⟩, ⟨q0, e0, t0⟩, b4, b5, b6⟩ := hJ
          obtain ⟨oC, heC, hoC⟩ := LCg.ns_obj hn
          obtain ⟨oD, heD⟩ : ∃ o, h3.get? D = some o := by obtain ⟨_, e⟩ := hacc; exact ⟨_, e⟩
          dsimp only at heC heD e7 e0 b4 b1 ⊢
          have hgs : ∀ b o, g.get? b = some o → b ≠ 207 ∧ b ≠ 200 := fun b o e => ⟨fun q => (by rw [q, (N8 (207, tabObj p7) (by k_mem)).2.2] at e; cases e), fun q => (by rw [q, (N8 (200, tabObj p0) (by k_mem)).2.2] at e; cases e)⟩
          have hL7 : L' ≠ 207 := fun q => (N8 (207, tabObj p7) (by k_mem)).2.1 q.symm
          have hL0 : L' ≠ 200 := fun q => (N8 (200, tabObj p0) (by k_mem)).2.1 q.symm
          have F3 : Fr g L' h3 _ := ⟨F8.ns.at' fun o e => b4 _ o hL7 hL0 e, fun b o e => b4 b o (hgs b o e).1 (hgs b o e).2 (F8.keep b o e), F8.above⟩
          have h8C : H8.objs.size ≤ C := Nat.le_trans h58 hC
          have h8D : H8.objs.size ≤ D := Nat.le_trans h58 hD
          have gfresh : ∀ a, H8.objs.size ≤ a → g.get? a = none := fun a ha => Heap.get?_none_of_le (Nat.le_trans F8.above (Nat.le_trans (Nat.le_of_lt hL8) ha))
          have N3 : News g L' h3 [(C, oC), (D, oD), (207, tabObj q7), (200, tabObj q0)] := by
            intro q hq
            rcases List.mem_cons.mp hq with rfl | hq
            · exact ⟨heC, Ne.symm (Nat.ne_of_lt (Nat.lt_of_lt_of_le hL8 h8C)), gfresh _ h8C⟩
            rcases List.mem_cons.mp hq with rfl | hq
            · exact ⟨heD, Ne.symm (Nat.ne_of_lt (Nat.lt_of_lt_of_le hL8 h8D)), gfresh _ h8D⟩
            rcases List.mem_cons.mp hq with rfl | hq
            · exact ⟨e7, (N8 (207, tabObj p7) (by k_mem)).2⟩
            rw [List.mem_singleton.mp hq]
            exact ⟨e0, (N8 (200, tabObj p0) (by k_mem)).2⟩
          have hpi : (partsOf y)[i]? = some (Txt.stripChars ((its ++ [it]).getD i Str.empty) (Str.ofString " \t")) := by
            rw [hparts, List.getElem?_map, List.getD_eq_getElem?_getD, List.getElem?_eq_getElem (by simpa using hlt')]; rfl
          have hzl : (Txt.stripChars ((its ++ [it]).getD i Str.empty) (Str.ofString " \t")).length ≤ 1000 := Nat.le_trans (len_stripChars _ _) (by
            rw [List.getD_eq_getElem?_getD, List.getElem?_eq_getElem (by simpa using hlt')]; exact hsh _ (List.getElem_mem _))
          generalize Txt.stripChars ((its ++ [it]).getD i Str.empty) (Str.ofString " \t") = z at hx hpi hzl
          have htake : (partsOf y).take (i + 1) = (partsOf y).take i ++ [z] := by rw [List.take_add_one, hpi]; rfl
          clear F8 N8
          have hown : ∀ (h' : Heap), Kp [200] h3 h' → ∀ b ∈ C :: D :: fx, ∀ o, h3.get? b = some o → h'.get? b = some o := by
            intro h' kp b hb o e
            refine kp b o e fun q => ?_
            rw [List.mem_singleton.mp q] at hb
            rcases List.mem_cons.mp hb with q | hb
            · exact absurd h200 (by rw [q]; exact Nat.not_lt.mpr h8C)
            rcases List.mem_cons.mp hb with q | hb
            · exact absurd h200 (by rw [q]; exact Nat.not_lt.mpr h8D)
            · exact hx200 hb
          have hnewJ : ∀ (h' : Heap) tk, Kp [200] h3 h' → Tab 200 h' → ∀ ys', StrsAre ys' ((((partsOf y).take (i + 1)).filter kept).map unq) → ys'.length ≤ i + 1 → PJ s H8 y (i + 1) ys' { s with heap := h', gens := gens3, toks := tk } := by
            intro h' tk kp t2 ys' hs hl
            exact ⟨h', gens3, tk, rfl, b1, ⟨q7, kp _ _ e7 (by decide), t7⟩, t2, fun b o n7 n0 e => kp b o (b4 b o n7 n0 e) (by simpa using n0), hs, hl⟩
          refine wpAny_tests_one ?_
          repeat' (first | ((with_reducible show wpAny _ _ _ _ _ _); (first | (k_unfold; (try dsimp only)) | walk1 | (dsimp only; walk1) | (leave1; try dsimp only))) | fail "stop")
          by_cases hz0 : z.length = 0
          · have hkz : kept z = false := by unfold kept; simp [hz0]
            rw [if_neg (by rw [show ((z.length : Int) != 0) = false from by simp [hz0]]; exact Bool.false_ne_true)]
            refine ⟨h3, _, rfl, hnewJ h3 _ (Kp.refl _ _) ⟨q0, e0, t0⟩ ys ?_ (Nat.le_succ_of_le b6), fun b hb o e => e⟩
            rw [htake, List.filter_append, List.filter_cons_of_neg (by rw [hkz]; exact Bool.false_ne_true), List.filter_nil, List.append_nil]
            exact b5
          · have hkz : kept z = true := by unfold kept; simp [hz0]
            rw [if_pos (show ((z.length : Int) != 0) = true from by simp; omega)]
            have hend : ∀ (h' : Heap) tk t9, Kp [200] h3 h' → Tab 200 h' → MovedG (C :: D :: fx) (PJ s H8 y (i + 1) (ys ++ [.str (unq z) t9])) { s with heap := h3, gens := gens3, toks := tk3 } { s with heap := h', gens := gens3, toks := tk } := by
              intro h' tk t9 kp t2
              refine ⟨h', tk, rfl, hnewJ h' tk kp t2 _ ?_ (by rw [List.length_append]; exact Nat.succ_le_succ b6), hown h' kp⟩
              rw [htake, List.filter_append, List.filter_cons_of_pos hkz, List.filter_nil, List.map_append]
              exact b5.append' (.cons _ _ .nil)
            repeat' (first | ((with_reducible show wpAny _ _ _ _ _ _); (fail_if_success (with_reducible show wpAny _ _ (call (.ref 205) _) _ _ _)); (first | (k_unfold; (try dsimp only)) | walk1 | (dsimp only; walk1) | (leave1; try dsimp only))) | fail "stop")
            refine ⟨X'.keeps F3.keep, ?_⟩
            refine ar_raise (D := 400) (U := 400) rfl (Nat.le_of_ble_eq_true rfl) (Nat.le_of_ble_eq_true rfl) rfl ?_
            rcases hok z (List.mem_of_getElem? hpi) with hz | hz
            · refine unquote_quoted hz X T (Cx.sub (cx_of B' F3 N3) fun a ha => by rw [List.mem_singleton.mp ha]; simp) e0 t0 fun t9 h9 tk9 tab9 kp9 => ?_
              rw [show XY = unq z from by rw [hz]; rfl]
              exact hend h9 tk9 t9 kp9 tab9
            · refine unquote_plain X T (Cx.sub (cx_of B' F3 N3) fun a ha => nomatch ha) hzl hz fun t9 h9 tk9 kp9 => ?_
              have : unq z = z := by
                unfold unq
                rw [if_neg]
                intro q
                rw [q] at hz
                revert hz
                decide +kernel
              rw [← this]
              exact hend h9 tk9 t9 (kp9.mono fun a ha => nomatch ha) ⟨q0, kp9 _ _ e0 (fun q => nomatch q), t0⟩
end
end Mine
end

-- part C2
section
open PySem PySem.W PySem.Calls PyProof.Rows PySem.Spec
set_option maxRecDepth 100000
namespace Mine
section
variable {w : World} {hb : Heap} {p : Program} {loose : List Str} {mean : ExcName → Option Value} {mg mb : Str → Option Value} {out : List Env}

set_option maxHeartbeats 8000000 in
theorem new_spec {s : Shared} {Q : Value → Shared → Prop} {E : Value → Shared → Prop} {rl : Addr} {vs : List Value} {R : List Str} {k : Nat}
    (X : (hd.heap_39 w.params).In hb) (T : Top p loose mean mg mb hb) (cx : Cx hb out s.heap [])
    (h1 : s.heap.get? rl = some (listOf vs.toArray k)) (hi : StrsAre vs R) (hlen : R.length ≤ 40) (hdist : (R.map Txt.lower).Nodup) (hsh : ∀ y ∈ R, y.length ≤ 1000)
    (ret : ∀ x dx l sa t1 t2 t3 k' vs' so h' tk, HS w h' x dx l sa t1 t2 t3 k' vs' R so → (∀ b o, s.heap.get? b = some o → h'.get? b = some o) → (s.heap.get? x = none ∧ s.heap.get? dx = none ∧ s.heap.get? l = none ∧ s.heap.get? sa = none) → Q (.ref x) { s with heap := h', toks := tk }) :
    wpAny (model PySem.Challenge.rw_fa0002_01.row.prog w) (AR 500 500 out) (call (.ref 181) [.ref rl]) Q E s := by
  revert X; k_fill; intro X
  obtain ⟨hh, g, d, t, os⟩ := s
  dsimp only at cx h1 ret
  have XS := X.keeps cx.stays
  refine wpAny_call (make_core (C := 181) (init := .ref 51) ?m1 ?m2 ?m3 (.inl rfl) ?_)
  case m1 => exact makes_of XS (by k_is)
  case m2 => exact looks_findIn XS (by k_is)
  case m3 => exact fun self => bind_fn XS self (by k_is)
  refine ar_raise_code (D := 510) (U := 510) rfl ?d1 ?d2 rfl ?_
  case d1 => exact Nat.le_of_ble_eq_true rfl
  case d2 => exact Nat.le_of_ble_eq_true rfl
  generalize hH : (hh.push emptyDict).push (instObj 181 hh.objs.size) = H
  have hx : H.get? (hh.objs.size + 1) = some (instObj 181 hh.objs.size) := by rw [← hH]; heap_get
  have hd : H.get? hh.objs.size = some emptyDict := by rw [← hH]; heap_get
  have up : ∀ b o, hh.get? b = some o → H.get? b = some o := fun b o e => by rw [← hH]; exact Heap.get?_push_of_some _ (Heap.get?_push_of_some _ e)
  have non : ∀ b, hh.objs.size ≤ b → hh.get? b = none := fun b hb => Heap.get?_none_of_le hb
  refine' enter [(hh.objs.size + 1, instObj 181 hh.objs.size), (hh.objs.size, emptyDict)] X T ?cx ?hn ?ho ?hcd ?hroom ?hbind ?hloc ?_ ?c2 ?c3 ?c4 ?c5
  case cx =>
    refine ⟨fun b o e => up b o (cx.stays b o e), cx.frames.of_keeps fun b o e _ => ⟨o, up b o e, rfl⟩, fun a ha => ?_⟩
    have ha' : hh.objs.size ≤ a := by
      simp only [List.map_cons, List.map_nil, List.mem_cons, List.not_mem_nil, or_false] at ha
      rcases ha with rfl | rfl
      · exact Nat.le_succ _
      · exact Nat.le_refl _
    refine ⟨fresh_of_stays cx.stays (non a ha'), fun env he hf => ?_⟩
    obtain ⟨L₁, o₁, hf₁, ho₁⟩ := funFrames_in cx.frames env he
    rw [hf₁] at hf
    rw [Option.some.inj hf, non a ha'] at ho₁; cases ho₁
  case hn =>
    intro q hq
    rcases List.mem_cons.mp hq with rfl | hq
    · exact hx
    · rw [List.mem_singleton.mp hq]; exact hd
  case ho => k_is
  case hcd => k_is
  case hroom => decide
  case hbind => exact binds_K (X.keeps fun b o e => up b o (cx.stays b o e)) rfl (by k_is) rfl rfl rfl
  case hloc => exact locs rfl
  case c2 => exact rfl
  case c3 => exact rfl
  case c4 => exact rfl
  case c5 => decide
  intro g L' h₁ st' hg hg2 hsz F' N' B' X' T'
  have hrl : rl < hh.objs.size := Heap.lt_size h1
  have hW : ∀ a ∈ List.map (fun x : Addr × Obj => x.1) [(hh.objs.size + 1, instObj 181 hh.objs.size), (hh.objs.size, emptyDict)], hh.objs.size ≤ a := fun a ha => by
    simp only [List.map_cons, List.map_nil, List.mem_cons, List.not_mem_nil, or_false] at ha
    rcases ha with rfl | rfl
    · exact Nat.le_succ _
    · exact Nat.le_refl _
  have hnb : g.IsList rl vs.toArray := ⟨_, hg _ _ (up _ _ h1) (not_new h1 hW), rfl, k, rfl⟩
  have hlt : hh.objs.size < hh.objs.size + 1 := Nat.lt_succ_self _
  try dsimp only
  all_goals try k_fold
  k_steps
  refine wpAny_truthy_list (items := vs.toArray) (by is_list) (by rw [List.size_toArray, hi.len_eq]; omega) ?_
  cases hvs : (!vs.toArray.isEmpty)
  case' false =>
    have hv0 : vs = [] := by cases vs with | nil => rfl | cons _ _ => simp at hvs
    subst hv0
    have hR0 : R = [] := by cases hi; rfl
    subst hR0
    k_steps
  case' true => k_steps
  all_goals (
    k_fold
    refine' eval_setcomp ?hclos ?hcell ?hkind ?hnames ?hx ?hs ?h
    case hclos => with_unfolding_all rfl
    case hcell => decide
    case hkind => with_unfolding_all rfl
    case hnames => decide
    case hx => with_unfolding_all rfl
    case hs => intro _; with_unfolding_all rfl
    k_steps
    try dsimp only
    rename Fr _ _ _ _ => F9
    rename News _ _ _ _ => N9
    apply setcomp_src (f := Txt.lower)
    case F => exact F9
    case N => exact N9
    case hh => rfl
    case hi => exact hi
    case hl => exact news_list N9 (.head _)
    case hfit => exact Nat.le_trans hlen (by decide)
    case dist => exact hdist
    case helt =>
      intro y hy t C s₃ m₃ E' hns hm
      have hyl : y.length ≤ 1000 := hsh y hy
      clear F9 N9
      k_steps
      exact ⟨_, _, rfl, fun _ _ e => e⟩
    clear F9 N9
    intro D h' tk so F' N' l1 hso hsp hkeep
    k_lt l1
    k_steps
    refine ⟨rfl, ?_⟩
    rename Fr _ _ _ _ => F9
    rename News _ _ _ _ => N9
    dsimp only
    first
    | refine ret _ _ _ _ _ _ _ _ _ so _ _ ⟨N9.get (.tail _ (.tail _ (.head _))), N9.get (.tail _ (.tail _ (.tail _ (.head _)))), N9.get (.tail _ (.head _)), N9.get (.head _), hi, hso, hdist, hsh, hlen, hsp⟩ ?_ ?_
    | refine ret _ _ _ _ _ _ _ _ _ so _ _ ⟨N9.get (.tail _ (.tail _ (.tail _ (.head _)))), N9.get (.tail _ (.tail _ (.tail _ (.tail _ (.head _))))), N9.get (.tail _ (.head _)), N9.get (.head _), hi, hso, hdist, hsh, hlen, hsp⟩ ?_ ?_
    · exact fun b o e => F9.keep b o (hg b o (up b o e) (not_new e hW))
    · exact ⟨non _ (by omega), non _ (by omega), non _ (by omega), non _ (by omega)⟩)
end
end Mine
end

-- part F1
section
open PySem PySem.W PySem.Calls PyProof.Rows PySem.Spec
set_option maxRecDepth 100000
namespace Mine
section
variable {w : World} {hb : Heap} {p : Program} {loose : List Str} {mean : ExcName → Option Value} {mg mb : Str → Option Value} {out : List Env}

set_option maxHeartbeats 8000000 in
theorem new_spec2 {s : Shared} {Q : Value → Shared → Prop} {E : Value → Shared → Prop} {rl : Addr} {vs : List Value} {R : List Str} {k : Nat}
    (X : (hd.heap_39 w.params).In hb) (T : Top p loose mean mg mb hb) (cx : Cx hb out s.heap [])
    (h1 : s.heap.get? rl = some (listOf vs.toArray k)) (hi : StrsAre vs R) (hlen : R.length ≤ 40) (hdist : (R.map Txt.lower).Nodup) (hsh : ∀ y ∈ R, y.length ≤ 1000)
    (ret : ∀ x dx l sa t1 t2 t3 k' vs' so h' tk, HS w h' x dx l sa t1 t2 t3 k' vs' R so → (∀ b o, s.heap.get? b = some o → h'.get? b = some o) → (s.heap.get? x = none ∧ s.heap.get? dx = none ∧ s.heap.get? l = none ∧ s.heap.get? sa = none) → Q (.ref x) { s with heap := h', toks := tk }) :
    wpAny (model PySem.Challenge.rw_fa0002_01.row.prog w) (AR 500 500 out) (call (.ref 181) [.ref rl, .none]) Q E s := by
  revert X; k_fill; intro X
  obtain ⟨hh, g, d, t, os⟩ := s
  dsimp only at cx h1 ret
  have XS := X.keeps cx.stays
  refine wpAny_call (make_core (C := 181) (init := .ref 51) ?m1 ?m2 ?m3 (.inl rfl) ?_)
  case m1 => exact makes_of XS (by k_is)
  case m2 => exact looks_findIn XS (by k_is)
  case m3 => exact fun self => bind_fn XS self (by k_is)
  refine ar_raise_code (D := 510) (U := 510) rfl ?d1 ?d2 rfl ?_
  case d1 => exact Nat.le_of_ble_eq_true rfl
  case d2 => exact Nat.le_of_ble_eq_true rfl
  generalize hH : (hh.push emptyDict).push (instObj 181 hh.objs.size) = H
  have hx : H.get? (hh.objs.size + 1) = some (instObj 181 hh.objs.size) := by rw [← hH]; heap_get
  have hd : H.get? hh.objs.size = some emptyDict := by rw [← hH]; heap_get
  have up : ∀ b o, hh.get? b = some o → H.get? b = some o := fun b o e => by rw [← hH]; exact Heap.get?_push_of_some _ (Heap.get?_push_of_some _ e)
  have non : ∀ b, hh.objs.size ≤ b → hh.get? b = none := fun b hb => Heap.get?_none_of_le hb
  refine' enter [(hh.objs.size + 1, instObj 181 hh.objs.size), (hh.objs.size, emptyDict)] X T ?cx ?hn ?ho ?hcd ?hroom ?hbind ?hloc ?_ ?c2 ?c3 ?c4 ?c5
  case cx =>
    refine ⟨fun b o e => up b o (cx.stays b o e), cx.frames.of_keeps fun b o e _ => ⟨o, up b o e, rfl⟩, fun a ha => ?_⟩
    have ha' : hh.objs.size ≤ a := by
      simp only [List.map_cons, List.map_nil, List.mem_cons, List.not_mem_nil, or_false] at ha
      rcases ha with rfl | rfl
      · exact Nat.le_succ _
      · exact Nat.le_refl _
    refine ⟨fresh_of_stays cx.stays (non a ha'), fun env he hf => ?_⟩
    obtain ⟨L₁, o₁, hf₁, ho₁⟩ := funFrames_in cx.frames env he
    rw [hf₁] at hf
    rw [Option.some.inj hf, non a ha'] at ho₁; cases ho₁
  case hn =>
    intro q hq
    rcases List.mem_cons.mp hq with rfl | hq
    · exact hx
    · rw [List.mem_singleton.mp hq]; exact hd
  case ho => k_is
  case hcd => k_is
  case hroom => decide
  case hbind => exact binds_K (X.keeps fun b o e => up b o (cx.stays b o e)) rfl (by k_is) rfl rfl rfl
  case hloc => exact locs rfl
  case c2 => exact rfl
  case c3 => exact rfl
  case c4 => exact rfl
  case c5 => decide
  intro g L' h₁ st' hg hg2 hsz F' N' B' X' T'
  have hrl : rl < hh.objs.size := Heap.lt_size h1
  have hW : ∀ a ∈ List.map (fun x : Addr × Obj => x.1) [(hh.objs.size + 1, instObj 181 hh.objs.size), (hh.objs.size, emptyDict)], hh.objs.size ≤ a := fun a ha => by
    simp only [List.map_cons, List.map_nil, List.mem_cons, List.not_mem_nil, or_false] at ha
    rcases ha with rfl | rfl
    · exact Nat.le_succ _
    · exact Nat.le_refl _
  have hnb : g.IsList rl vs.toArray := ⟨_, hg _ _ (up _ _ h1) (not_new h1 hW), rfl, k, rfl⟩
  have hlt : hh.objs.size < hh.objs.size + 1 := Nat.lt_succ_self _
  try dsimp only
  all_goals try k_fold
  k_steps
  refine wpAny_truthy_list (items := vs.toArray) (by is_list) (by rw [List.size_toArray, hi.len_eq]; omega) ?_
  cases hvs : (!vs.toArray.isEmpty)
  case' false =>
    have hv0 : vs = [] := by cases vs with | nil => rfl | cons _ _ => simp at hvs
    subst hv0
    have hR0 : R = [] := by cases hi; rfl
    subst hR0
    k_steps
  case' true => k_steps
  all_goals (
    k_fold
    refine' eval_setcomp ?hclos ?hcell ?hkind ?hnames ?hx ?hs ?h
    case hclos => with_unfolding_all rfl
    case hcell => decide
    case hkind => with_unfolding_all rfl
    case hnames => decide
    case hx => with_unfolding_all rfl
    case hs => intro _; with_unfolding_all rfl
    k_steps
    try dsimp only
    rename Fr _ _ _ _ => F9
    rename News _ _ _ _ => N9
    apply setcomp_src (f := Txt.lower)
    case F => exact F9
    case N => exact N9
    case hh => rfl
    case hi => exact hi
    case hl => exact news_list N9 (.head _)
    case hfit => exact Nat.le_trans hlen (by decide)
    case dist => exact hdist
    case helt =>
      intro y hy t C s₃ m₃ E' hns hm
      have hyl : y.length ≤ 1000 := hsh y hy
      clear F9 N9
      k_steps
      exact ⟨_, _, rfl, fun _ _ e => e⟩
    clear F9 N9
    intro D h' tk so F' N' l1 hso hsp hkeep
    k_lt l1
    k_steps
    refine ⟨rfl, ?_⟩
    rename Fr _ _ _ _ => F9
    rename News _ _ _ _ => N9
    dsimp only
    first
    | refine ret _ _ _ _ _ _ _ _ _ so _ _ ⟨N9.get (.tail _ (.tail _ (.head _))), N9.get (.tail _ (.tail _ (.tail _ (.head _)))), N9.get (.tail _ (.head _)), N9.get (.head _), hi, hso, hdist, hsh, hlen, hsp⟩ ?_ ?_
    | refine ret _ _ _ _ _ _ _ _ _ so _ _ ⟨N9.get (.tail _ (.tail _ (.tail _ (.head _)))), N9.get (.tail _ (.tail _ (.tail _ (.tail _ (.head _))))), N9.get (.tail _ (.head _)), N9.get (.head _), hi, hso, hdist, hsh, hlen, hsp⟩ ?_ ?_
    · exact fun b o e => F9.keep b o (hg b o (up b o e) (not_new e hW))
    · exact ⟨non _ (by omega), non _ (by omega), non _ (by omega), non _ (by omega)⟩)
set_option maxHeartbeats 8000000 in
theorem new_spec0 {s : Shared} {Q : Value → Shared → Prop} {E : Value → Shared → Prop} 
    (X : (hd.heap_39 w.params).In hb) (T : Top p loose mean mg mb hb) (cx : Cx hb out s.heap [])
    (ret : ∀ x dx l sa t1 t2 t3 k' vs' so h' tk, HS w h' x dx l sa t1 t2 t3 k' vs' [] so → (∀ b o, s.heap.get? b = some o → h'.get? b = some o) → (s.heap.get? x = none ∧ s.heap.get? dx = none ∧ s.heap.get? l = none ∧ s.heap.get? sa = none) → Q (.ref x) { s with heap := h', toks := tk }) :
    wpAny (model PySem.Challenge.rw_fa0002_01.row.prog w) (AR 500 500 out) (call (.ref 181) [.none, .none]) Q E s := by
  revert X; k_fill; intro X
  obtain ⟨hh, g, d, t, os⟩ := s
  dsimp only at cx ret
  have XS := X.keeps cx.stays
  refine wpAny_call (make_core (C := 181) (init := .ref 51) ?m1 ?m2 ?m3 (.inl rfl) ?_)
  case m1 => exact makes_of XS (by k_is)
  case m2 => exact looks_findIn XS (by k_is)
  case m3 => exact fun self => bind_fn XS self (by k_is)
  refine ar_raise_code (D := 510) (U := 510) rfl ?d1 ?d2 rfl ?_
  case d1 => exact Nat.le_of_ble_eq_true rfl
  case d2 => exact Nat.le_of_ble_eq_true rfl
  generalize hH : (hh.push emptyDict).push (instObj 181 hh.objs.size) = H
  have hx : H.get? (hh.objs.size + 1) = some (instObj 181 hh.objs.size) := by rw [← hH]; heap_get
  have hd : H.get? hh.objs.size = some emptyDict := by rw [← hH]; heap_get
  have up : ∀ b o, hh.get? b = some o → H.get? b = some o := fun b o e => by rw [← hH]; exact Heap.get?_push_of_some _ (Heap.get?_push_of_some _ e)
  have non : ∀ b, hh.objs.size ≤ b → hh.get? b = none := fun b hb => Heap.get?_none_of_le hb
  refine' enter [(hh.objs.size + 1, instObj 181 hh.objs.size), (hh.objs.size, emptyDict)] X T ?cx ?hn ?ho ?hcd ?hroom ?hbind ?hloc ?_ ?c2 ?c3 ?c4 ?c5
  case cx =>
    refine ⟨fun b o e => up b o (cx.stays b o e), cx.frames.of_keeps fun b o e _ => ⟨o, up b o e, rfl⟩, fun a ha => ?_⟩
    have ha' : hh.objs.size ≤ a := by
      simp only [List.map_cons, List.map_nil, List.mem_cons, List.not_mem_nil, or_false] at ha
      rcases ha with rfl | rfl
      · exact Nat.le_succ _
      · exact Nat.le_refl _
    refine ⟨fresh_of_stays cx.stays (non a ha'), fun env he hf => ?_⟩
    obtain ⟨L₁, o₁, hf₁, ho₁⟩ := funFrames_in cx.frames env he
    rw [hf₁] at hf
    rw [Option.some.inj hf, non a ha'] at ho₁; cases ho₁
  case hn =>
    intro q hq
    rcases List.mem_cons.mp hq with rfl | hq
    · exact hx
    · rw [List.mem_singleton.mp hq]; exact hd
  case ho => k_is
  case hcd => k_is
  case hroom => decide
  case hbind => exact binds_K (X.keeps fun b o e => up b o (cx.stays b o e)) rfl (by k_is) rfl rfl rfl
  case hloc => exact locs rfl
  case c2 => exact rfl
  case c3 => exact rfl
  case c4 => exact rfl
  case c5 => decide
  intro g L' h₁ st' hg hg2 hsz F' N' B' X' T'
  have hW : ∀ a ∈ List.map (fun x : Addr × Obj => x.1) [(hh.objs.size + 1, instObj 181 hh.objs.size), (hh.objs.size, emptyDict)], hh.objs.size ≤ a := fun a ha => by
    simp only [List.map_cons, List.map_nil, List.mem_cons, List.not_mem_nil, or_false] at ha
    rcases ha with rfl | rfl
    · exact Nat.le_succ _
    · exact Nat.le_refl _
  have hlt : hh.objs.size < hh.objs.size + 1 := Nat.lt_succ_self _
  try dsimp only
  all_goals try k_fold
  k_steps
  k_fold
  refine' eval_setcomp ?hclos ?hcell ?hkind ?hnames ?hxx ?hs ?_
  case hclos => with_unfolding_all rfl
  case hcell => decide
  case hkind => with_unfolding_all rfl
  case hnames => decide
  case hxx => with_unfolding_all rfl
  case hs => intro _; with_unfolding_all rfl
  k_steps
  try dsimp only
  rename Fr _ _ _ _ => F9
  rename News _ _ _ _ => N9
  apply setcomp_src (f := Txt.lower)
  case F => exact F9
  case N => exact N9
  case hh => rfl
  case hi => exact StrsAre.nil
  case hl => exact news_list N9 (.head _)
  case hfit => exact Nat.zero_le _
  case dist => exact List.nodup_nil
  case helt =>
    intro y hy t C s₃ m₃ E' hns hm
    cases hy
  clear F9 N9
  intro D h' tk so F' N' l1 hso hsp hkeep
  k_lt l1
  k_steps
  refine ⟨rfl, ?_⟩
  rename Fr _ _ _ _ => F9
  rename News _ _ _ _ => N9
  dsimp only
  first
  | refine ret _ _ _ _ _ _ _ _ _ so _ _ ⟨N9.get (.tail _ (.tail _ (.tail _ (.head _)))), N9.get (.tail _ (.tail _ (.tail _ (.tail _ (.head _))))), N9.get (.tail _ (.head _)), N9.get (.head _), StrsAre.nil, hso, List.nodup_nil, (fun _ q => nomatch q), Nat.zero_le _, hsp⟩ ?_ ?_
  | refine ret _ _ _ _ _ _ _ _ _ so _ _ ⟨N9.get (.tail _ (.tail _ (.tail _ (.head _)))), N9.get (.tail _ (.tail _ (.tail _ (.tail _ (.head _))))), N9.get (.tail _ (.head _)), N9.get (.head _), StrsAre.nil, hso, List.nodup_nil, (fun _ q => nomatch q), Nat.zero_le _, hsp⟩ ?_ ?_
  · exact fun b o e => F9.keep b o (hg b o (up b o e) (not_new e hW))
  · exact ⟨non _ (by omega), non _ (by omega), non _ (by omega), non _ (by omega)⟩
end
end Mine
end

-- part F2
section
open PySem PySem.W PySem.Calls PyProof.Rows PySem.Spec
set_option maxRecDepth 100000
namespace Mine
section
variable {w : World} {hb : Heap} {p : Program} {loose : List Str} {mean : ExcName → Option Value} {mg mb : Str → Option Value} {out : List Env}
  {s : Shared} {Q : Value → Shared → Prop} {E : Value → Shared → Prop}

set_option maxHeartbeats 8000000 in
theorem parse_set_spec {y : Str} {t : Tok} {p7 p0 : Array Value} {R : List Str} (X : (hd.heap_39 w.params).In hb) (T : Top p loose mean mg mb hb) (cx : Cx hb out s.heap [207, 200]) (hP7 : s.heap.get? 207 = some (tabObj p7)) (hp7 : TriplesOk p7.toList) (hP0 : s.heap.get? 200 = some (tabObj p0)) (hp0 : TriplesOk p0.toList) (hG : AllBare s.gens) (hy : y.length ≤ 1000) (hq : (pst y y.cps.size).quo = false) (hok : ∀ z ∈ partsOf y, z = QXY ∨ Txt.startswith z DQ = false)
    (hR : parsed y = R) (hlen : R.length ≤ 40) (hdist : (R.map Txt.lower).Nodup) (hsh : ∀ y ∈ R, y.length ≤ 1000)
    (ret : ∀ x dx l sa t1 t2 t3 k' vs' so h' tk gens', HS w h' x dx l sa t1 t2 t3 k' vs' R so → Tab 207 h' → Tab 200 h' → AllBare gens' → Kp [207, 200] s.heap h' → (s.heap.get? x = none ∧ s.heap.get? dx = none ∧ s.heap.get? l = none ∧ s.heap.get? sa = none) → Q (.ref x) { s with heap := h', gens := gens', toks := tk }) :
    wpAny (model PySem.Challenge.rw_fa0002_01.row.prog w) (AR 200 200 out) (call (.ref 218) [.str y t]) Q E s := by
  revert X; k_fill; intro X
  refine wpAny_call ?_
  refine' enter (binds := [(Str.ofString "value", .str y t), (Str.ofString "on_update", .none)]) [(207, tabObj p7), (200, tabObj p0)] X T cx ?hn ?ho ?hcd ?hroom ?hbind ?hloc ?_ ?c2 ?c3 ?c4 ?c5
  case hn =>
    intro q hq
    rcases List.mem_cons.mp hq with rfl | hq
    · exact hP7
    · rw [List.mem_singleton.mp hq]; exact hP0
  case ho => k_is
  case hcd => k_is
  case hroom => decide
  case hbind => first | exact BindsTo.of_eq rfl | exact binds_K (X.keeps cx.stays) rfl (by k_is) rfl rfl rfl
  case hloc => exact locs rfl
  case c2 => exact rfl
  case c3 => exact rfl
  case c4 => exact rfl
  case c5 => decide
  intro g L' h₁ st' hg hg2 hsz F' N' B' X' T'
  try dsimp only [List.cons_append, List.nil_append] at N'
  try dsimp only
  all_goals try k_fold
  repeat' (first | ((with_reducible show wpAny _ _ _ _ _ _); (first | (k_unfold; (try dsimp only)) | walk1 | (dsimp only; walk1) | (leave1; try dsimp only))) | fail "stop")
  rename Fr _ _ _ _ => F9
  rename News _ _ _ _ => N9
  have kp1 : Kp [] s.heap h₁ := kp_same hg (fun q hq => by
    rcases List.mem_cons.mp hq with rfl | hq
    · exact hP7
    · rw [List.mem_singleton.mp hq]; exact hP0) F9 fun q hq => (N9 q hq).1
  have up1 : ∀ b, h₁.get? b = none → s.heap.get? b = none := fun b e => by
    cases q : s.heap.get? b with
    | none => rfl
    | some o => have := kp1 b o q (fun q => nomatch q); rw [this] at e; cases e
  by_cases h0 : y.length = 0
  · rw [if_pos (by simp [h0])]
    have hRn : R = [] := by
      have e : y = Str.empty := by
        obtain ⟨c⟩ := y
        have : c = #[] := Array.eq_empty_of_size_eq_zero h0
        rw [this]; rfl
      rw [← hR, e]; decide +kernel
    subst hRn
    repeat' (first | ((with_reducible show wpAny _ _ _ _ _ _); (fail_if_success (with_reducible show wpAny _ _ (call (.ref 181) _) _ _ _)); (first | (k_unfold; (try dsimp only)) | walk1 | (dsimp only; walk1) | (leave1; try dsimp only))) | fail "stop")
    refine ⟨X'.keeps F9.keep, ?_⟩
    refine ar_raise (D := 500) (U := 500) rfl (Nat.le_of_ble_eq_true rfl) (Nat.le_of_ble_eq_true rfl) rfl ?_
    refine new_spec0 X T (Cx.sub (cx_of B' F9 N9) fun a ha => nomatch ha) fun x dx l sa t1 t2 t3 k' vs' so h' tk' H kk non => ?_
    show Q _ _
    exact ret _ _ _ _ _ _ _ _ _ _ _ _ _ H ⟨p7, kk _ _ (N9 (207, tabObj p7) (by k_mem)).1, hp7⟩ ⟨p0, kk _ _ (N9 (200, tabObj p0) (by k_mem)).1, hp0⟩ hG (fun b o e n => kk b o (kp1 b o e (fun q => nomatch q))) ⟨up1 _ non.1, up1 _ non.2.1, up1 _ non.2.2.1, up1 _ non.2.2.2⟩
  · rw [if_neg (by simp; omega)]
    repeat' (first | ((with_reducible show wpAny _ _ _ _ _ _); (fail_if_success (with_reducible show wpAny _ _ (call (.ref 210) _) _ _ _)); (first | (k_unfold; (try dsimp only)) | walk1 | (dsimp only; walk1) | (leave1; try dsimp only))) | fail "stop")
    refine ⟨X'.keeps F9.keep, ?_⟩
    refine ar_raise (D := 300) (U := 300) rfl (Nat.le_of_ble_eq_true rfl) (Nat.le_of_ble_eq_true rfl) rfl ?_
    refine parse_list_spec X T (cx_of B' F9 N9) (N9 (207, tabObj p7) (by k_mem)).1 hp7 (N9 (200, tabObj p0) (by k_mem)).1 hp0 hG hy hq hok fun D h8 tk8 gens8 vs hl hvs ⟨q7, e7, t7⟩ ⟨q0, e0, t0⟩ hG8 kp8 hD => ?_
    rw [hR] at hvs
    obtain ⟨k, hl⟩ := hl
    have F8 : Fr g L' h8 _ := fr_back F9 N9 kp8 fun a ha => ha
    have N8 : News g L' h8 [(D, listOf vs.toArray k), (207, tabObj q7), (200, tabObj q0)] := by
      have hLD : L' < D := Nat.lt_of_lt_of_le F9.ns.lt hD
      intro q hq
      rcases List.mem_cons.mp hq with rfl | hq
      · exact ⟨hl, Nat.ne_of_gt hLD, Heap.get?_none_of_le (Nat.le_trans F9.above (Nat.le_of_lt hLD))⟩
      rcases List.mem_cons.mp hq with rfl | hq
      · exact ⟨e7, (N9 (207, tabObj p7) (by k_mem)).2⟩
      rw [List.mem_singleton.mp hq]
      exact ⟨e0, (N9 (200, tabObj p0) (by k_mem)).2⟩
    have up2 : ∀ b, h8.get? b = none → h₁.get? b = none := fun b e => by
      cases q : h₁.get? b with
      | none => rfl
      | some o =>
        by_cases b7 : b = 207
        · rw [b7, e7] at e; cases e
        by_cases b0 : b = 200
        · rw [b0, e0] at e; cases e
        have := kp8 b o q (by simp [b7, b0])
        rw [this] at e; cases e
    clear F9 N9
    dsimp only
    repeat' (first | ((with_reducible show wpAny _ _ _ _ _ _); (fail_if_success (with_reducible show wpAny _ _ (call (.ref 181) _) _ _ _)); (first | (k_unfold; (try dsimp only)) | walk1 | (dsimp only; walk1) | (leave1; try dsimp only))) | fail "stop")
    refine ⟨X'.keeps F8.keep, ?_⟩
    refine ar_raise (D := 500) (U := 500) rfl (Nat.le_of_ble_eq_true rfl) (Nat.le_of_ble_eq_true rfl) rfl ?_
    refine new_spec2 X T (Cx.sub (cx_of B' F8 N8) fun a ha => nomatch ha) (N8 (D, _) (.head _)).1 hvs hlen hdist hsh fun x dx l sa t1 t2 t3 k' vs' so h' tk' H kk non => ?_
    show Q _ _
    exact ret _ _ _ _ _ _ _ _ _ _ _ _ _ H ⟨q7, kk _ _ e7, t7⟩ ⟨q0, kk _ _ e0, t0⟩ hG8 (fun b o e n => kk b o (kp8 b o (kp1 b o e (fun q => nomatch q)) n)) ⟨up1 _ (up2 _ non.1), up1 _ (up2 _ non.2.1), up1 _ (up2 _ non.2.2.1), up1 _ (up2 _ non.2.2.2)⟩
end
end Mine
end

-- part C1
section
open PySem PySem.W PySem.Calls PyProof.Rows PySem.Spec
set_option maxRecDepth 100000
namespace Mine

theorem fdiv_bd {a b : Int} (ha : 0 ≤ a) (hb : 0 < b) : 0 ≤ a.fdiv b ∧ a.fdiv b ≤ a := by
  rw [Int.fdiv_eq_ediv_of_nonneg _ (Int.le_of_lt hb)]
  exact ⟨Int.ediv_nonneg ha (Int.le_of_lt hb), Int.ediv_le_self _ ha⟩
theorem fmod_bd (a : Int) {b : Int} (hb : 0 < b) : 0 ≤ a.fmod b ∧ a.fmod b < b := ⟨Int.fmod_nonneg_of_pos _ hb, Int.fmod_lt_of_pos _ hb⟩
theorem getD_bd {ns : List Int} (hns : ∀ x ∈ ns, 0 ≤ x ∧ x < 1000003) (i : Nat) : 0 ≤ ns.getD i 0 ∧ ns.getD i 0 < 1000003 := by
  rw [List.getD_eq_getElem?_getD]
  cases e : ns[i]? with
  | none => exact ⟨by decide, by decide⟩
  | some x => exact hns x (List.mem_of_getElem? e)

section
variable {w : World} {hb : Heap} {p : Program} {loose : List Str} {mean : ExcName → Option Value} {mg mb : Str → Option Value} {out : List Env}

set_option maxHeartbeats 8000000 in
theorem next_spec {s : Shared} {Q : Value → Shared → Prop} {E : Value → Shared → Prop} {st nb : Addr} {vs : List Value} {ns : List Int} {k k2 : Nat} {at' many : Int} {ta tm : Tok}
    (X : (hd.heap_39 w.params).In hb) (T : Top p loose mean mg mb hb) (cx : Cx hb out s.heap [st])
    (h1 : s.heap.get? st = some (listOf #[.ref nb, .int at' ta] k)) (h2 : s.heap.get? nb = some (listOf vs.toArray k2)) (hi : IntsAre vs ns) (hne : st ≠ nb)
    (hlen : 0 < ns.length) (hl2 : ns.length ≤ 100) (hns : ∀ x ∈ ns, 0 ≤ x ∧ x < 1000003) (ha0 : 0 ≤ at') (ha1 : at' < 1000000) (hm0 : 0 < many) (hm1 : many ≤ 100)
    (ret : ∀ r tr h' tk ta', 0 ≤ r → r < many → Kp [st] s.heap h' → h'.get? st = some (listOf #[.ref nb, .int (at' + 1) ta'] k) → Q (.int r tr) { s with heap := h', toks := tk }) :
    wpAny (model PySem.Challenge.rw_fa0002_01.row.prog w) (AR 700 700 out) (call (.ref 225) [.ref st, .int many tm]) Q E s := by
  revert X; k_fill; intro X
  refine wpAny_call ?_
  refine' enter [(st, listOf #[.ref nb, .int at' ta] k)] X T cx ?hn ?ho ?hcd ?hroom ?hbind ?hloc ?_ ?c2 ?c3 ?c4 ?c5
  case hn => intro q hq; cases hq with | head => exact h1 | tail _ q => cases q
  case ho => k_is
  case hcd => k_is
  case hroom => decide
  case hbind => exact BindsTo.of_eq rfl
  case hloc => exact locs rfl
  case c2 => exact rfl
  case c3 => exact rfl
  case c4 => exact rfl
  case c5 => decide
  intro g L' h₁ st' hg hg2 hsz F' N' B' X' T'
  have hnb : g.IsList nb vs.toArray := ⟨_, hg _ _ h2 (by simpa using hne.symm), rfl, k2, rfl⟩
  have hL : (0 : Int) < (ns.length : Int) := by omega
  have q1 := fdiv_bd ha0 hL
  have q2 := getD_bd hns (at'.fmod (ns.length : Int)).toNat
  have q3 := fdiv_bd q2.1 (show (0 : Int) < 1 + at'.fdiv (ns.length : Int) by omega)
  obtain ⟨q1a, q1b⟩ := q1
  obtain ⟨q2a, q2b⟩ := q2
  obtain ⟨q3a, q3b⟩ := q3
  try dsimp only
  all_goals try k_fold
  k_steps
  all_goals try dsimp only
  rename Fr _ _ _ _ => F9
  rename News _ _ _ _ => N9
  exact ret _ _ _ _ _ (fmod_bd _ hm0).1 (fmod_bd _ hm0).2 (kp_out hg F9) (N9.get (.tail _ (.head _)))
end
end Mine
end

-- part F3
section
open PySem PySem.W PySem.Calls PyProof.Rows PySem.Spec
set_option maxRecDepth 100000
namespace Mine
section
variable {w : World} {hb : Heap} {p : Program} {loose : List Str} {mean : ExcName → Option Value} {mg mb : Str → Option Value} {out : List Env}
  {s : Shared} {Q : Value → Shared → Prop} {E : Value → Shared → Prop}

set_option maxHeartbeats 8000000 in
theorem state_spec {sc : Addr} {vs : List Value} {xs : List Int} (X : (hd.heap_39 w.params).In hb) (T : Top p loose mean mg mb hb) (cx : Cx hb out s.heap []) (h1 : s.heap.IsList sc vs.toArray) (hi : IntsAre vs xs) (hlen : xs.length ≤ 63)
    (ret : ∀ st nb ws ns t0 h' tk, h'.get? st = some (listOf #[.ref nb, .int 0 t0] 0) → h'.get? nb = some (listOf ws.toArray 0) → IntsAre ws ns → st ≠ nb → 0 < ns.length → ns.length ≤ 100 → (∀ x ∈ ns, 0 ≤ x ∧ x < 1000003) → Kp [] s.heap h' → s.heap.get? st = none → s.heap.get? nb = none → Q (.ref st) { s with heap := h', toks := tk }) :
    wpAny (model PySem.Challenge.rw_fa0002_01.row.prog w) (AR 600 600 out) (call (.ref 230) [.ref sc]) Q E s := by
  revert X; k_fill; intro X
  refine wpAny_call ?_
  refine' enter (binds := [(Str.ofString "script", .ref sc)]) [] X T cx ?hn ?ho ?hcd ?hroom ?hbind ?hloc ?_ ?c2 ?c3 ?c4 ?c5
  case hn => intro q hq; cases hq
  case ho => k_is
  case hcd => k_is
  case hroom => decide
  case hbind => exact BindsTo.of_eq rfl
  case hloc => exact locs rfl
  case c2 => exact rfl
  case c3 => exact rfl
  case c4 => exact rfl
  case c5 => decide
  intro g L' h₁ st' hg hg2 hsz F' N' B' X' T'
  have hsc : g.IsList sc vs.toArray := h1.at fun o e => hg _ o e (fun q => nomatch q)
  try dsimp only
  all_goals try k_fold
  k_steps
  rename Fr _ _ _ _ => F9
  rename News _ _ _ _ => N9
  rename (_ < _ ∧ _ < _ ∧ _ < _ ∧ _ < _) => l9
  rename IntsAre _ (_ ++ _) => hI9
  obtain ⟨l91, -⟩ := l9
  have kp1 := kp_out hg F9
  have up1 : ∀ b, g.get? b = none → s.heap.get? b = none := fun b e => by
    cases q : s.heap.get? b with
    | none => rfl
    | some o => have := hg b o q (fun q => nomatch q); rw [this] at e; cases e
  refine ret _ _ _ _ _ _ _ (N9 _ (.head _)).1 (N9 _ (.tail _ (.head _))).1 hI9 (Ne.symm (Nat.ne_of_lt l91)) (by simp) (by simp; omega) ?_ kp1 (up1 _ (N9 _ (.head _)).2.2) (up1 _ (N9 _ (.tail _ (.head _))).2.2)
  intro x hx
  rcases List.mem_append.mp hx with hx | hx
  · obtain ⟨a, -, rfl⟩ := List.mem_map.mp hx
    exact fmod_bd _ (by decide)
  · simp only [List.mem_cons, List.not_mem_nil, or_false] at hx
    rcases hx with rfl | rfl | rfl <;> decide
end
end Mine
end

-- part G1
section
open PySem PySem.W PySem.Calls PyProof.Rows PySem.Spec
set_option maxRecDepth 100000
namespace Mine
section
variable {prog : Program} {w : World} {A : Around} {E : Value → Shared → Prop} {s : Shared} {env : Env} {g : Heap} {body : List Stmt} {x : Str} {Q : Flow → Shared → Prop}

/-- a loop over a range whose turns may change all but the system's state: what it keeps is told of the frame, the ledger, the generators -/
theorem for_law {iter : Expr} {px pos : Pos} (hh : A.handled = none) (hx : env.kindOf x = some .local)
    (hp : (env.scope.kind == .class || (env.scope.kind == .module && env.locals != env.globals)) = false)
    (hs : ∀ x, foldedSetIterable iter env x = pure x) (hE : PassesOwn (model prog w) A env E)
    (h : wpAny (model prog w) A (eval iter env) (fun xv s₁ => ∃ (r : Addr) (n : Nat) (t u v : Tok) (m : Str → Option Value) (led : List (Addr × Obj)) (P : Nat → (Str → Option Value) → List (Addr × Obj) → Array GenState → OsState → Prop),
      xv = .ref r ∧ IsRange s₁.heap r 0 (n : Int) 1 t u v ∧ n ≤ 1000 ∧ Fr g env.locals s₁.heap m ∧ News g env.locals s₁.heap led ∧ P 0 m led s₁.gens s₁.os ∧
      (∀ i m₁ led₁ s' I oI tv, i < n → P i m₁ led₁ s'.gens s'.os → (∀ p ∈ led₁, p.1 ≠ I) → Fr g env.locals s'.heap (fun z => if z = x then some (.int (i : Int) tv) else m₁ z) → News g env.locals s'.heap ((I, oI) :: led₁) →
        wpAny (model prog w) A (execs body env) (fun f s₂ => match f with
          | .ret v => Q (.ret v) s₂
          | .brk => Q .next s₂
          | _ => ∃ m₂ led₂, Fr g env.locals s₂.heap m₂ ∧ News g env.locals s₂.heap ((I, oI) :: led₂) ∧ (∀ p ∈ led₂, p.1 ≠ I) ∧ P (i + 1) m₂ led₂ s₂.gens s₂.os) E s') ∧
      (∀ m' led' s', P n m' led' s'.gens s'.os → Fr g env.locals s'.heap m' → News g env.locals s'.heap led' → Q .next s')) E s) :
    wpAny (model prog w) A (exec (.For (.Name x px) iter body [] pos) env) Q E s := by
  refine wpAny_For (wpAny_mono h (fun xv s₁ h₁ => ?_) fun _ _ e => e) hs
  obtain ⟨r, n, t, u, v, m, led, P, rfl, hr, hn, F, N, hP, turn, done⟩ := h₁
  have hsize : Builtin.Range.rangeSize 0 (n : Int) 1 = (n : Int) := by unfold Builtin.Range.rangeSize; simp; omega
  refine wpAny_pyIter_range hr (small_one (by decide) (by decide) (by omega) (by omega)) ?_
  rw [hsize]
  generalize hI : s₁.heap.objs.size = I
  have hIL : env.locals ≠ I := hI ▸ Nat.ne_of_lt F.ns.lt
  have hIg : g.get? I = none := Heap.get?_none_of_le (hI ▸ Nat.le_trans F.above (Nat.le_of_lt F.ns.lt))
  have hit0 : IsRangeIter (s₁.heap.push { cls := .type "range_iterator", data := .fields #[rawInt 0, rawInt (n : Int), rawInt 1] }) I 0 n 1 := hI ▸ Heap.get?_push_size _ rfl
  refine codeAny_forLoop (R := fun r s' => match r with | .ok f => Q f s' | .error e => cameBackBy (model prog w) A env E e s')
    (fun k s' => ∃ (i : Nat) (m₁ : Str → Option Value) (led₁ : List (Addr × Obj)), IsRangeIter s'.heap I ((i : Nat) : Int) ((n : Int) - (i : Nat)) 1 ∧ Fr g env.locals s'.heap m₁ ∧ News g env.locals s'.heap led₁ ∧ (∀ p ∈ led₁, p.1 ≠ I) ∧ P i m₁ led₁ s'.gens s'.os ∧ i ≤ n ∧ k = n + 1 - i) ?_ (n + 1)
    ⟨0, m, led, by simpa using hit0, F.keeps fun _ _ e => Heap.get?_push_of_some _ e, N.grown fun _ _ e => Heap.get?_push_of_some _ e, fun p hp => hI ▸ Nat.ne_of_lt (Heap.lt_size (N p hp).1), hP, Nat.zero_le _, rfl⟩
  rintro k s' ⟨i, m₁, led₁, hit, F₁, N₁, hoff, hP₁, hi, rfl⟩
  by_cases hlt : i < n
  · refine wpAny_pyNext_range_item hit (by omega) fun h₁ hit₁ hs₁ => ?_
    have hs₁' : Heap.SameBut I s'.heap h₁ := hs₁
    have F₂ : Fr g env.locals h₁ m₁ := ⟨F₁.ns.at' fun o e => hs₁'.extBut _ o hIL e, fun b o e => hs₁'.extBut b o (fun q => by rw [q, hIg] at e; cases e) (F₁.keep b o e), F₁.above⟩
    refine wpAny_assign_Name (wpAny_storeName_local hx F₂.ns (fun h₂ hn₂ hs₂ => ?_) hp)
    have hs₂' : Heap.SameBut env.locals h₁ h₂ := hs₂
    have hgL : g.get? env.locals = none := Heap.get?_none_of_le F₁.above
    have F₃ : Fr g env.locals h₂ (fun z => if z = x then some (.int (i : Int) s'.toks) else m₁ z) := ⟨hn₂, fun b o e => hs₂'.extBut b o (fun q => by rw [q, hgL] at e; cases e) (F₂.keep b o e), F₁.above⟩
    have hit₂ : IsRangeIter h₂ I ((i : Int) + 1) ((n : Int) - (i : Nat) - 1) 1 := hs₂'.extBut _ _ (Ne.symm hIL) hit₁
    have N₃ : News g env.locals h₂ ((I, { cls := .type "range_iterator", data := .fields #[rawInt ((i : Int) + 1), rawInt ((n : Int) - (i : Nat) - 1), rawInt 1] }) :: led₁) := fun p hp => by
      rcases List.mem_cons.mp hp with rfl | hp
      · exact ⟨hit₂, Ne.symm hIL, hIg⟩
      · exact ⟨hs₂'.extBut _ _ (N₁ p hp).2.1 (hs₁'.extBut _ _ (hoff p hp) (N₁ p hp).1), (N₁ p hp).2⟩
    refine wpAny_mono (wpAny_passesOwn hE (turn i m₁ led₁ { s' with heap := h₂, toks := _ } I _ _ hlt hP₁ hoff F₃ N₃)) (fun f s₃ h₃ => ?_) fun _ _ e => e
    have fin : (∃ m₂ led₂, Fr g env.locals s₃.heap m₂ ∧ News g env.locals s₃.heap ((I, { cls := .type "range_iterator", data := .fields #[rawInt ((i : Int) + 1), rawInt ((n : Int) - (i : Nat) - 1), rawInt 1] }) :: led₂) ∧ (∀ p ∈ led₂, p.1 ≠ I) ∧ P (i + 1) m₂ led₂ s₃.gens s₃.os) →
        ∃ m, m < n + 1 - i ∧ ∃ (j : Nat) (m₁ : Str → Option Value) (led₁ : List (Addr × Obj)), IsRangeIter s₃.heap I ((j : Nat) : Int) ((n : Int) - (j : Nat)) 1 ∧ Fr g env.locals s₃.heap m₁ ∧ News g env.locals s₃.heap led₁ ∧ (∀ p ∈ led₁, p.1 ≠ I) ∧ P j m₁ led₁ s₃.gens s₃.os ∧ j ≤ n ∧ m = n + 1 - j := by
      rintro ⟨m₂, led₂, F₄, N₄, hoff₄, hP₄⟩
      refine ⟨n + 1 - (i + 1), by omega, i + 1, m₂, led₂, ?_, F₄, fun p hp => N₄ p (.tail _ hp), hoff₄, hP₄, hlt, rfl⟩
      have e1 := (N₄ _ (.head _)).1
      have q1 : (((i + 1 : Nat) : Int)) = (i : Int) + 1 := by push_cast; rfl
      have q2 : ((n : Int) - ((i + 1 : Nat) : Int)) = (n : Int) - (i : Nat) - 1 := by push_cast; omega
      rw [q2, q1]
      exact e1
    cases f with
    | ret v => exact h₃
    | brk => exact h₃
    | next => exact fin h₃
    | cont => exact fin h₃
  · have hin : i = n := by omega
    subst hin
    refine wpAny_pyNext_range_end hh hit (by omega) fun h₁ he₁ => wpAny_execs_nil ?_
    have he₁' : Heap.ExtBut I s'.heap h₁ := he₁
    exact done m₁ led₁ _ hP₁ ⟨F₁.ns.at' fun o e => he₁' _ o hIL e, fun b o e => he₁' b o (fun q => by rw [q, hIg] at e; cases e) (F₁.keep b o e), F₁.above⟩ fun p hp => ⟨he₁' _ _ (hoff p hp) (N₁ p hp).1, (N₁ p hp).2⟩
end
end Mine
end

-- part Mp
section
open PySem PySem.W PySem.Calls PyProof.Rows PySem.Spec
open Builtin Builtin.Str Builtin.Int
set_option maxRecDepth 100000
namespace Mine
theorem sub_map : isSubtype (.type "map") (.type "map") = pure true := by rw [isSubtype_type]; kernel_rfl
theorem slot_map_init : Slot "map" "__init__" "object.__init__" :=
  .of (owner := "object") (n := "__init__") (by rw [typeLookup_type, builtinLookup_eq_fast]; kernel_rfl) (by decide +kernel) (by decide +kernel) (by decide +kernel)
    (by first | exact .inl (by decide +kernel) | exact .inr (by decide +kernel)) (by rw [isSubtype_type]; kernel_rfl)
theorem slot_map_next : Slot "map" "__next__" "map.__next__" :=
  .of (owner := "map") (n := "__next__") (by rw [typeLookup_type, builtinLookup_eq_fast]; kernel_rfl) (by decide +kernel) (by decide +kernel) (by decide +kernel)
    (by first | exact .inl (by decide +kernel) | exact .inr (by decide +kernel)) (by rw [isSubtype_type]; kernel_rfl)
theorem slot_map_iter : Slot "map" "__iter__" "map.__iter__" :=
  .of (owner := "map") (n := "__iter__") (by rw [typeLookup_type, builtinLookup_eq_fast]; kernel_rfl) (by decide +kernel) (by decide +kernel) (by decide +kernel)
    (by first | exact .inl (by decide +kernel) | exact .inr (by decide +kernel)) (by rw [isSubtype_type]; kernel_rfl)
theorem entry_map_new : entryFor table "map.__new__" = some Builtin.«map.__new__» := entryFor_of_tree (by kernel_rfl)
theorem entry_map_next : entryFor table "map.__next__" = some Builtin.«map.__next__» := entryFor_of_tree (by kernel_rfl)
theorem entry_map_iter : entryFor table "map.__iter__" = some Builtin.«dict_keyiterator.__iter__» :=
  entryFor_alias (id' := "dict_keyiterator.__iter__") (by kernel_rfl) rfl (by decide +kernel) (by kernel_rfl)
theorem owner_map : Manifest.owners.lookup (String.ofList ['p', 'a', 'm'].reverse) = some Manifest.sig_map := by kernel_rfl
theorem args_map_next (a : Value) : argsOk "map.__next__" ⟨[a], []⟩ := by
  unfold argsOk; rw [signature?_of (id := "map.__next__") (n := ['_', '_', 't', 'x', 'e', 'n', '_', '_']) (o := ['p', 'a', 'm']) (by kernel_rfl) owner_map]; kernel_rfl
theorem args_map_iter (a : Value) : argsOk "map.__iter__" ⟨[a], []⟩ := by
  unfold argsOk; rw [signature?_of (id := "map.__iter__") (n := ['_', '_', 'r', 'e', 't', 'i', '_', '_']) (o := ['p', 'a', 'm']) (by kernel_rfl) owner_map]; kernel_rfl
theorem no_len_map : typeLookup (.type "map") "__len__" = pure none := by rw [typeLookup_type, builtinLookup_eq_fast]; kernel_rfl
theorem no_hint_map : typeLookup (.type "map") "__length_hint__" = pure none := by rw [typeLookup_type, builtinLookup_eq_fast]; kernel_rfl
theorem typeCall_map (a b : Value) : checkTypeCall "map" ⟨[a, b], []⟩ = pure () := by kernel_rfl
theorem newCall_map (a b : Value) : checkBuiltinCall "map.__new__" ⟨[.type "map", a, b], []⟩ = pure () := by kernel_rfl
theorem mro_map : mroOf (.type "map") = pure [.type "map", .type "object"] := by rw [mroOf_type]; kernel_rfl
theorem lookup_map_new : typeLookup (.type "map") "__new__" = pure (some (.builtin "map.__new__")) := by rw [typeLookup_type, builtinLookup_eq_fast]; kernel_rfl
theorem called_map : TypeCalled "map" "map.__new__" "object.__init__" :=
  ⟨by decide +kernel, by decide +kernel, ⟨_, _, mro_map⟩, madeBy_type mro_map lookup_map_new (by decide +kernel), by decide +kernel, by rw [isSubtype_type]; kernel_rfl, slot_map_init⟩
theorem args_obj_init3 (a b c : Value) : argsOk "object.__init__" ⟨[a, b, c], []⟩ := by
  unfold argsOk; rw [signature?_of (id := "object.__init__") (n := ['_', '_', 't', 'i', 'n', 'i', '_', '_']) (o := ['t', 'c', 'e', 'j', 'b', 'o']) (by kernel_rfl) F.owner_object]; kernel_rfl

abbrev mapObj (T f : Addr) : Obj := { cls := .type "map", data := .fields #[.ref T, .ref f] }
abbrev liObj (l : Addr) (i : Int) : Obj := { cls := .type "list_iterator", data := .fields #[.ref l, .int i 0] }

theorem meets_map_new (f l : Addr) (items : Array Value) (n : Nat) (dct : Option Addr) (sl : Array (Option Value)) :
    Meets (Builtin.«map.__new__» ⟨[.type "map", .ref f, .ref l], []⟩) (fun _ R s => s.heap.get? l = some { cls := .type "list", dict := dct, data := .seq items n, slots := sl } ∧
      R (.ok (.ret (.ref ((s.heap.push (liObj l 0)).push { cls := .type "tuple", data := .seq #[.ref s.heap.objs.size] }).objs.size)))
        { s with heap := ((s.heap.push (liObj l 0)).push { cls := .type "tuple", data := .seq #[.ref s.heap.objs.size] }).push (mapObj (s.heap.push (liObj l 0)).objs.size f) }) :=
  .of_wp fun prog w A R s h => by
    obtain ⟨hp, g, d, tk, os⟩ := s; obtain ⟨hl, h⟩ := h
    have hsub := sub_map
    have hL : Heap.IsList (Shared.heap ⟨hp, g, d, tk, os⟩) l items := ⟨_, hl, rfl, n, rfl⟩
    wp_walk using AutoSeq1.wpAny_loadPart' hl, wpAny_pyIter_list hL
    exact ⟨_, rfl, h⟩

section
variable {prog : Program} {w : World} {A : Around} {E : Value → Shared → Prop} {s : Shared}
theorem call_map {f l : Addr} {items : Array Value} {Q : Value → Shared → Prop} (hl : s.heap.IsList l items)
    (h : ∀ h', h'.get? s.heap.objs.size = some (liObj l 0) → h'.get? (s.heap.objs.size + 1) = some { cls := .type "tuple", data := .seq #[.ref s.heap.objs.size] } → h'.get? (s.heap.objs.size + 2) = some (mapObj (s.heap.objs.size + 1) f) →
      h'.objs.size = s.heap.objs.size + 3 → (∀ b o, s.heap.get? b = some o → h'.get? b = some o) → Q (.ref (s.heap.objs.size + 2)) { s with heap := h' }) :
    wpAny (model prog w) A (call (.type "map") [.ref f, .ref l]) Q E s := by
  obtain ⟨⟨c, dct, dt, sl⟩, hl, hc, n, hd⟩ := hl
  replace hc : c = .type "list" := hc
  replace hd : dt = .seq items n := hd
  subst hc hd
  refine callType_new called_map (by decide) (typeCall_map _ _) (newCall_map _ _) (fun obj => args_obj_init3 obj _ _) entry_map_new (meets_map_new f l items n dct sl) ⟨hl, ?_⟩
  have z1 : (s.heap.push (liObj l 0)).objs.size = s.heap.objs.size + 1 := Heap.size_push ..
  have z2 : ((s.heap.push (liObj l 0)).push { cls := .type "tuple", data := .seq #[.ref s.heap.objs.size] }).objs.size = s.heap.objs.size + 2 := by rw [Heap.size_push, z1]
  show _ ∧ _
  rw [z2, z1]
  have g3 : (((s.heap.push (liObj l 0)).push { cls := .type "tuple", data := .seq #[.ref s.heap.objs.size] }).push (mapObj (s.heap.objs.size + 1) f)).get? (s.heap.objs.size + 2) = some (mapObj (s.heap.objs.size + 1) f) := by
    have := Heap.get?_push_size ((s.heap.push (liObj l 0)).push { cls := .type "tuple", data := .seq #[.ref s.heap.objs.size] }) (o := mapObj (s.heap.objs.size + 1) f) rfl
    rw [z2] at this; exact this
  have g2 : ((s.heap.push (liObj l 0)).push { cls := .type "tuple", data := .seq #[.ref s.heap.objs.size] }).get? (s.heap.objs.size + 1) = some { cls := .type "tuple", data := .seq #[.ref s.heap.objs.size] } := by
    have := Heap.get?_push_size (s.heap.push (liObj l 0)) (o := { cls := .type "tuple", data := .seq #[.ref s.heap.objs.size] }) rfl
    rw [z1] at this; exact this
  exact ⟨⟨_, g3, rfl⟩, h _ (Heap.get?_push_of_some _ (Heap.get?_push_of_some _ (Heap.get?_push_size _ rfl))) (Heap.get?_push_of_some _ g2) g3 (by rw [Heap.size_push, z2]) fun b o e => Heap.get?_push_of_some _ (Heap.get?_push_of_some _ (Heap.get?_push_of_some _ e))⟩

theorem next_item {it l : Addr} {i : Nat} {items : Array Value} {x : Value} {Q : Value → Shared → Prop} (ho : s.heap.get? it = some (liObj l i)) (hl : s.heap.IsList l items) (hx : items[i]? = some x)
    (hQ : ∀ h', h'.get? it = some (liObj l (i + 1 : Nat)) → Heap.SameBut it s.heap h' → Q x { s with heap := h' }) :
    wpAny (model prog w) A (Builtin.SmallTypes.nextOf (.ref it)) Q E s := by
  have hT : s.TypeIs (.ref it) "list_iterator" := ⟨_, ho, rfl⟩
  obtain ⟨ol, hol, _, nl, hdl⟩ := hl
  unfold Builtin.SmallTypes.nextOf
  refine wpAny_bind (wpAny_callSpecial?_slot (name := Str.ofString "__next__") hT slot_listiter_next (wpAny_call_entry slot_listiter_next hT entry_listiter_next ?_ (args_listiter_next _)))
  show wpAny _ _ (field (.ref it) 0 >>= _) _ _ s
  refine wpAny_bind (wpAny_field ho rfl (x := .ref l) rfl ?_)
  show wpAny _ _ (if (Value.ref l == Value.none) = true then _ else _) _ _ s
  rw [if_neg (show ¬ ((Value.ref l == Value.none) = true) from Bool.false_ne_true)]
  show wpAny _ _ (field (.ref it) 1 >>= _) _ _ s
  refine wpAny_bind (wpAny_field ho rfl (x := .int i 0) rfl ?_)
  show wpAny _ _ (seqItems? (.ref l) >>= _) _ _ s
  refine wpAny_bind (wpAny_seqItems hol hdl ?_)
  simp only [Int.toNat_natCast, hx]
  refine wpAny_bind (wpAny_setField ho rfl (by simp) (wpAny_pure ⟨x, rfl, wpAny_pure (hQ _ ?_ (Heap.SameBut.update ..))⟩))
  rw [Heap.get?_update_self _ ho rfl]
  simp [Obj.mapFields, rawInt]

theorem next_end {it l : Addr} {i : Nat} {items : Array Value} {Q : Value → Shared → Prop} (hh : A.handled = none) (ho : s.heap.get? it = some (liObj l i)) (hl : s.heap.IsList l items) (hx : items[i]? = none)
    (hE : ∀ h' e, Heap.ExtBut it s.heap h' → (Shared.TypeIs { s with heap := h' } (.ref e) "StopIteration") → E (.ref e) { s with heap := h' }) :
    wpAny (model prog w) A (Builtin.SmallTypes.nextOf (.ref it)) Q E s := by
  have hT : s.TypeIs (.ref it) "list_iterator" := ⟨_, ho, rfl⟩
  obtain ⟨ol, hol, _, nl, hdl⟩ := hl
  unfold Builtin.SmallTypes.nextOf
  refine wpAny_bind (wpAny_callSpecial?_slot (name := Str.ofString "__next__") hT slot_listiter_next (wpAny_call_entry slot_listiter_next hT entry_listiter_next ?_ (args_listiter_next _)))
  show wpAny _ _ (field (.ref it) 0 >>= _) _ _ s
  refine wpAny_bind (wpAny_field ho rfl (x := .ref l) rfl ?_)
  show wpAny _ _ (if (Value.ref l == Value.none) = true then _ else _) _ _ s
  rw [if_neg (show ¬ ((Value.ref l == Value.none) = true) from Bool.false_ne_true)]
  show wpAny _ _ (field (.ref it) 1 >>= _) _ _ s
  refine wpAny_bind (wpAny_field ho rfl (x := .int i 0) rfl ?_)
  show wpAny _ _ (seqItems? (.ref l) >>= _) _ _ s
  refine wpAny_bind (wpAny_seqItems hol hdl ?_)
  simp only [Int.toNat_natCast, hx]
  refine wpAny_bind (wpAny_rule (wpAny_bind (wpAny_setField ho rfl (by simp) ?_)))
  show wpAny _ _ (newExc (.type "StopIteration") [] >>= _) _ _ _
  refine wpAny_bind ?_
  simp only [newExc, newTuple]
  refine wpAny_bind (wpAny_newObj_type ?_ (by size_fits))
  refine wpAny_bind (m := firstArgMember _ _) (wpAny_of_eq (a := Value.none) (by first | rfl | (simp only [firstArgMember]; rfl)) ?_)
  refine wpAny_newObj_type ?_ (by size_fits)
  simp only [raiseNew]
  refine wpAny_bind (wpAny_handled ?_)
  rw [show A.in1.handled = none from hh]
  refine wpAny_bind (wpAny_pure (wpAny_throw ?_))
  exact hE _ _ (((Heap.SameBut.update ..).extBut.push _).push _) ⟨_, Heap.get?_push_size _ rfl, rfl⟩

theorem map_item {M T I f l : Addr} {i : Nat} {items : Array Value} {x : Value} {Q : Option Value → Shared → Prop} (hM : s.heap.get? M = some (mapObj T f)) (hT : s.heap.get? T = some { cls := .type "tuple", data := .seq #[.ref I] })
    (hI : s.heap.get? I = some (liObj l i)) (hl : s.heap.IsList l items) (hx : items[i]? = some x) (hMI : M ≠ I)
    (h : ∀ h' E', h'.get? I = some (liObj l (i + 1 : Nat)) → Heap.SameBut I s.heap h' → wpAny (model prog w) A.in1 (call (.ref f) [x]) (fun v s' => Q (some v) s') E' { s with heap := h' }) :
    wpAny (model prog w) A (pyNext (.ref M)) Q E s := by
  have hTy : s.TypeIs (.ref M) "map" := ⟨_, hM, rfl⟩
  unfold pyNext
  refine wpAny_bind (wpAny_attempt (wpAny_callSpecial?_slot (name := Str.ofString "__next__") hTy slot_map_next (wpAny_call_entry slot_map_next hTy entry_map_next ?_ (args_map_next _))))
  unfold Builtin.«map.__next__»
  refine wpAny_bind (wpAny_pure ?_)
  dsimp only
  refine wpAny_bind (wpAny_field hM rfl (x := .ref T) rfl ?_)
  refine wpAny_bind (wpAny_seqItems hT rfl ?_)
  dsimp only
  rw [← Array.forIn_toList]
  show wpAny _ _ (forIn [Value.ref I] #[] _ >>= _) _ _ _
  rw [List.forIn_cons, bind_assoc, bind_assoc]
  refine wpAny_bind (wpAny_holding (next_item hI hl hx fun h' g hs => ?_))
  rw [pure_bind]
  dsimp only
  rw [List.forIn_nil, pure_bind]
  refine wpAny_bind (wpAny_field (hs.extBut _ _ hMI hM) rfl (x := .ref f) rfl ?_)
  refine wpAny_bind (wpAny_holding ?_)
  refine wpAny_mono (h h' _ g hs) (fun v s' hq => ?_) fun _ _ e => e
  refine wpAny_bind (wpAny_letGo ?_)
  exact wpAny_pure ⟨v, rfl, wpAny_pure hq⟩

theorem map_end {M T I f l : Addr} {i : Nat} {items : Array Value} {Q : Option Value → Shared → Prop} (hh : A.handled = none) (hM : s.heap.get? M = some (mapObj T f)) (hT : s.heap.get? T = some { cls := .type "tuple", data := .seq #[.ref I] })
    (hI : s.heap.get? I = some (liObj l i)) (hl : s.heap.IsList l items) (hx : items[i]? = none)
    (h : ∀ h', Heap.ExtBut I s.heap h' → Q none { s with heap := h' }) :
    wpAny (model prog w) A (pyNext (.ref M)) Q E s := by
  have hTy : s.TypeIs (.ref M) "map" := ⟨_, hM, rfl⟩
  unfold pyNext
  refine wpAny_bind (wpAny_attempt (wpAny_callSpecial?_slot (name := Str.ofString "__next__") hTy slot_map_next (wpAny_call_entry slot_map_next hTy entry_map_next ?_ (args_map_next _))))
  unfold Builtin.«map.__next__»
  refine wpAny_bind (wpAny_pure ?_)
  dsimp only
  refine wpAny_bind (wpAny_field hM rfl (x := .ref T) rfl ?_)
  refine wpAny_bind (wpAny_seqItems hT rfl ?_)
  dsimp only
  rw [← Array.forIn_toList]
  show wpAny _ _ (forIn [Value.ref I] #[] _ >>= _) _ _ _
  rw [List.forIn_cons, bind_assoc, bind_assoc]
  refine wpAny_bind (wpAny_holding (next_end (by simp [hh]) hI hl hx fun h' e he hT' => ?_))
  refine wpAny_bind (wpAny_isInstance (T := "StopIteration") (b := true) hT' isSubtype_stop ?_)
  exact wpAny_pure (h h' he)

theorem map_self {M T f : Addr} {Q : Value → Shared → Prop} (hM : s.heap.get? M = some (mapObj T f)) (h : Q (.ref M) s) : wpAny (model prog w) A (pyIter (.ref M)) Q E s := by
  have hTy : s.TypeIs (.ref M) "map" := ⟨_, hM, rfl⟩
  refine wpAny_pyIter_slot hTy slot_map_iter (wpAny_call_entry slot_map_iter hTy entry_map_iter ?_ (args_map_iter _))
  show wpAny _ _ (ret (.ref M)) _ _ s
  exact wpAny_pure ⟨_, rfl, "map", _, hTy, slot_map_next.lookup, h⟩

/-- a walk by steps, what it may touch lies below N, or it is told at its end -/
structure Steps (prog : Program) (w : World) (A : Around) (M : Addr) (N n : Nat) (P : Nat → Value → Prop) (St : Nat → Shared → Prop) (Fin : Shared → Prop) : Prop where
  frame : ∀ i (s : Shared) h' tk, St i s → (∀ b, b < N → ∀ o, s.heap.get? b = some o → h'.get? b = some o) → St i { s with heap := h', toks := tk }
  item : ∀ i (s : Shared) (Q : Option Value → Shared → Prop) (E : Value → Shared → Prop), i < n → St i s →
    (∀ v s', P i v → St (i + 1) s' → (∀ b o, N ≤ b → s.heap.get? b = some o → s'.heap.get? b = some o) → Q (some v) s') → wpAny (model prog w) A (pyNext (.ref M)) Q E s
  done : ∀ (s : Shared) (Q : Option Value → Shared → Prop) (E : Value → Shared → Prop), St n s → (∀ s', Fin s' → (∀ b o, N ≤ b → s.heap.get? b = some o → s'.heap.get? b = some o) → Q none s') → wpAny (model prog w) A (pyNext (.ref M)) Q E s
  fin : ∀ s h' tk, Fin s → (∀ b, b < N → ∀ o, s.heap.get? b = some o → h'.get? b = some o) → Fin { s with heap := h', toks := tk }

/-- where a walk by `map` stands -/
structure MapAt (P : Addr) (s₀ : Shared) (M T I f l : Addr) (items : Array Value) (i : Nat) (s : Shared) : Prop where
  m : s.heap.get? M = some (mapObj T f)
  t : s.heap.get? T = some { cls := .type "tuple", data := .seq #[.ref I] }
  i : s.heap.get? I = some (liObj l i)
  l : s.heap.IsList l items
  tab : Tab P s.heap
  bare : AllBare s.gens
  keep : ∀ b o, b ≠ I → b ≠ P → s₀.heap.get? b = some o → s.heap.get? b = some o
  drawn : s.drawn = s₀.drawn
  os : s.os = s₀.os
structure MapFin (P : Addr) (s₀ : Shared) (I : Addr) (s : Shared) : Prop where
  tab : Tab P s.heap
  bare : AllBare s.gens
  keep : ∀ b o, b ≠ I → b ≠ P → s₀.heap.get? b = some o → s.heap.get? b = some o
  drawn : s.drawn = s₀.drawn
  os : s.os = s₀.os

theorem steps_map {P : Addr} {s₀ : Shared} {M T I f l : Addr} {items : Array Value} {N : Nat} {R : Nat → Value → Prop} (hh : A.handled = none) (hMI : M ≠ I) (hTI : T ≠ I) (hlI : l ≠ I) (hMP : M ≠ P) (hTP : T ≠ P) (hIP : I ≠ P) (hlP : l ≠ P)
    (hM : M < N) (hT : T < N) (hI : I < N) (hl : l < N) (hP : P < N) (hN : N = s₀.heap.objs.size)
    (hcall : ∀ i x (s : Shared) (Q : Value → Shared → Prop) (E : Value → Shared → Prop), items[i]? = some x → Tab P s.heap → AllBare s.gens → (∀ b o, b ≠ I → b ≠ P → s₀.heap.get? b = some o → s.heap.get? b = some o) →
      (∀ v h' gens' tk, R i v → Kp [P] s.heap h' → Tab P h' → AllBare gens' → Q v { s with heap := h', gens := gens', toks := tk }) → wpAny (model prog w) A.in1 (call (.ref f) [x]) Q E s) :
    Steps prog w A M N items.size R (MapAt P s₀ M T I f l items) (MapFin P s₀ I) where
  frame := fun i s h' tk st k =>
    ⟨k _ hM _ st.m, k _ hT _ st.t, k _ hI _ st.i, let ⟨o, e, r⟩ := st.l; ⟨o, k _ hl _ e, r⟩, let ⟨ps, e, t⟩ := st.tab; ⟨ps, k _ hP _ e, t⟩, st.bare,
      fun b o n1 n2 e => k b (hN ▸ Heap.lt_size e) o (st.keep b o n1 n2 e), st.drawn, st.os⟩
  item := fun i s Q E hi st hQ => by
    have hx := Array.getElem?_eq_getElem hi
    refine map_item st.m st.t st.i st.l hx hMI fun h' E' g hs => ?_
    obtain ⟨ps, e5, t5⟩ := st.tab
    have k1 : ∀ b o, b ≠ I → s.heap.get? b = some o → h'.get? b = some o := fun b o n e => hs.extBut b o n e
    refine hcall i _ { s with heap := h' } _ _ hx ⟨ps, k1 _ _ (Ne.symm hIP) e5, t5⟩ st.bare (fun b o n1 n2 e => k1 b o n1 (st.keep b o n1 n2 e)) fun v h2 gens2 tk2 hR kp htab hG => ?_
    have k2 : ∀ b o, b ≠ I → b ≠ P → s.heap.get? b = some o → h2.get? b = some o := fun b o n1 n2 e => kp b o (k1 b o n1 e) (by simpa using n2)
    exact hQ v _ hR ⟨k2 _ _ hMI hMP st.m, k2 _ _ hTI hTP st.t, kp _ _ g (by simpa using hIP), let ⟨o, e, r⟩ := st.l; ⟨o, k2 _ _ hlI hlP e, r⟩, htab, hG, fun b o n1 n2 e => k2 b o n1 n2 (st.keep b o n1 n2 e), st.drawn, st.os⟩
      fun b o hb e => k2 b o (fun q => absurd hI (Nat.not_lt.mpr (q ▸ hb))) (fun q => absurd hP (Nat.not_lt.mpr (q ▸ hb))) e
  done := fun s Q E st hQ => by
    refine map_end hh st.m st.t st.i st.l (Array.getElem?_eq_none (Nat.le_refl _)) fun h' hs => hQ _ ?_ fun b o hb e => hs b o (fun q => absurd hI (Nat.not_lt.mpr (q ▸ hb))) e
    exact ⟨let ⟨ps, e, t⟩ := st.tab; ⟨ps, hs _ _ (Ne.symm hIP) e, t⟩, st.bare, fun b o n1 n2 e => hs b o n1 (st.keep b o n1 n2 e), st.drawn, st.os⟩
  fin := fun s h' tk st k => ⟨let ⟨ps, e, t⟩ := st.tab; ⟨ps, k _ hP _ e, t⟩, st.bare, fun b o n1 n2 e => k b (hN ▸ Heap.lt_size e) o (st.keep b o n1 n2 e), st.drawn, st.os⟩
end
end Mine
end

-- part Mj
section
open PySem PySem.W PySem.Calls PyProof.Rows PySem.Spec
open Builtin Builtin.Str Builtin.Int
set_option maxRecDepth 100000
namespace Mine
section
variable {prog : Program} {w : World} {A : Around} {E : Value → Shared → Prop} {s : Shared} {M : Addr} {N n : Nat} {P : Nat → Value → Prop} {St : Nat → Shared → Prop} {Fi : Shared → Prop}

theorem extend_steps {R : Result → Shared → Prop} (W : Steps prog w A.in1 M N n P St Fi) (hn : n ≤ sizeLine) (S : Addr) (hS : N ≤ S) (res : Value) :
    ∀ (k i : Nat) (s : Shared) (acc : Array Value) (c : Nat), n - i = k → i ≤ n → St i s → s.heap.get? S = some { cls := .type "list", dict := none, data := .seq acc c, slots := #[] } → ItemsOf P acc i →
    (∀ s' acc' c', Fi s' → s'.heap.get? S = some { cls := .type "list", dict := none, data := .seq acc' c', slots := #[] } → ItemsOf P acc' n → R (.ok (.ret res)) s') →
    codeAny (model prog w) A (.builtin "list.extend.loop" ⟨[.ref S, .ref M, res], []⟩) R s := by
  intro k
  induction k with
  | zero =>
    intro i s acc c hk hi hst hSo hacc hR
    have hin : i = n := by omega
    subst hin
    refine codeAny_builtin F.entry_extend_loop ?_
    rw [Around.under_plainId F.plain_extend_loop _]
    show wpAny _ A.in1 (pyNext (.ref M) >>= _) _ _ s
    refine wpAny_bind (W.done s _ _ hst fun s' hf hk' => ?_)
    exact wpAny_pure (hR s' acc c hf (hk' _ _ hS hSo) hacc)
  | succ k ih =>
    intro i s acc c hk hi hst hSo hacc hR
    have hlt : i < n := by omega
    refine codeAny_builtin F.entry_extend_loop ?_
    rw [Around.under_plainId F.plain_extend_loop _]
    show wpAny _ A.in1 (pyNext (.ref M) >>= _) _ _ s
    refine wpAny_bind (W.item i s _ _ hlt hst fun v s' hP hst' hk' => ?_)
    have hSo' := hk' _ _ hS hSo
    show wpAny _ A.in1 (updateSeq S (·.push v) >>= _) _ _ _
    refine wpAny_bind ?_
    refine wpAny_updateSeq hSo' rfl (wpAny_pure ⟨plainId_quiet F.plain_extend_loop _, ih (i + 1) _ (acc.push v) _ (by omega) hlt (W.frame _ s' _ s'.toks hst' fun b hb o e => ?_) (Heap.get?_update_self _ hSo' rfl) (hacc.push hP) hR⟩)
      (by rw [hacc.1]; omega) (by show (acc.push v).size ≤ sizeLine + 1; rw [Array.size_push, hacc.1]; omega)
    exact (Heap.get?_update_other _ _ (fun h : S = b => absurd hb (Nat.not_lt.mpr (h ▸ hS)))).trans e

theorem collect_map {Q : List Value → Shared → Prop} (W : Steps prog w A.in1 M N n P St Fi) (hself : ∀ i s, St i s → ∃ T f, s.heap.get? M = some (mapObj T f)) (hst : St 0 s) (hN : N ≤ s.heap.objs.size) (hMN : M < N)
    (hQ : ∀ s' acc, Fi s' → ItemsOf P acc n → Q acc.toList s') (hn : n ≤ sizeLine) : wpAny (model prog w) A (collect (.ref M)) Q E s := by
  have hT : ∀ i s, St i s → s.TypeIs (.ref M) "map" := fun i s st => by obtain ⟨T, f, e⟩ := hself i s st; exact ⟨_, e, rfl⟩
  have hSI : s.heap.objs.size ≠ M := Nat.ne_of_gt (Nat.lt_of_lt_of_le hMN hN)
  unfold collect
  refine wpAny_bind (wpAny_runValue (codeAny_builtin F.entry_proto_collect ?_))
  rw [Around.under_plainId F.plain_proto_collect _]
  show wpAny _ A.in1 (newList [] >>= fun l => again (.builtin "list.__iadd__" ⟨[l, .ref M], []⟩)) _ _ s
  refine wpAny_bind (wpAny_newObj_type ?_)
  refine wpAny_pure ⟨plainId_quiet F.plain_list_iadd _, codeAny_builtin F.entry_list_iadd ?_⟩
  rw [Around.under_plainId F.plain_list_iadd _]
  have hst₁ := W.frame 0 s (s.heap.push { cls := .type "list", data := .seq ([] : List Value).toArray }) s.toks hst fun b _ o e => Heap.get?_push_of_some _ e
  show wpAny _ A.in1 (Builtin.List.listExtendWith (.ref s.heap.objs.size) (.ref M) (.ref s.heap.objs.size)) _ _ _
  unfold Builtin.List.listExtendWith
  refine wpAny_bind (wpAny_typeOf (hT 0 _ hst₁) ?_)
  have h1 : Builtin.List.listSameRef (.ref s.heap.objs.size) (.ref M) = false := by simp [Builtin.List.listSameRef, hSI]
  have h2 : (Value.type "map" == Value.type "list") = false := by decide
  have h3 : (Value.type "map" == Value.type "tuple") = false := by decide
  simp only [h1, h2, h3, Bool.or_false, Bool.false_eq_true, if_false]
  obtain ⟨T₁, f₁, eM₁⟩ := hself 0 _ hst₁
  refine wpAny_bind (map_self eM₁ ?_)
  refine wpAny_bind (wpAny_holding ?_)
  unfold Builtin.List.listLengthHint
  refine wpAny_bind (wpAny_specialOf (hT 0 _ hst₁) no_len_map ?_)
  show wpAny _ A.in1 (specialOf (Value.ref M) (Str.ofString "__length_hint__") >>= _) _ _ _
  refine wpAny_bind (wpAny_specialOf (hT 0 _ hst₁) no_hint_map ?_)
  refine wpAny_pure ?_
  show wpAny _ A.in1 (rule "list.extend.makes-room" >>= fun _ => Builtin.List.listTouch (.ref s.heap.objs.size) >>= fun _ =>
    again (.builtin "list.extend.loop" ⟨[.ref s.heap.objs.size, .ref M, .ref s.heap.objs.size], []⟩)) _ _ _
  refine wpAny_bind (wpAny_rule ?_)
  have hS₁ : (s.heap.push { cls := .type "list", data := .seq ([] : List Value).toArray }).get? s.heap.objs.size = some { cls := .type "list", data := .seq ([] : List Value).toArray } := Heap.get?_push_size _ rfl
  refine wpAny_bind ?_
  show wpAny _ A.in1 (updateSeq s.heap.objs.size (·.push .none) >>= fun _ => updateSeq s.heap.objs.size (·.pop)) _ _ _
  refine wpAny_bind (wpAny_updateSeq hS₁ rfl ?_)
  have hS₂ := Heap.get?_update_self (Obj.mapSeq (·.push Value.none)) hS₁ rfl
  refine wpAny_updateSeq hS₂ rfl ?_
  have hS₃ := Heap.get?_update_self (Obj.mapSeq (·.pop)) hS₂ rfl
  have oth : ∀ b o, b ≠ s.heap.objs.size → (s.heap.push { cls := .type "list", data := .seq ([] : List Value).toArray }).get? b = some o →
      (((s.heap.push { cls := .type "list", data := .seq ([] : List Value).toArray }).update s.heap.objs.size (Obj.mapSeq (·.push Value.none))).update s.heap.objs.size (Obj.mapSeq (·.pop))).get? b = some o :=
    fun b o hb e => (Heap.get?_update_other _ _ (Ne.symm hb)).trans ((Heap.get?_update_other _ _ (Ne.symm hb)).trans e)
  refine wpAny_pure ⟨plainId_quiet F.plain_extend_loop _, extend_steps W hn _ hN _ n 0 _ _ _ rfl (Nat.zero_le _)
    (W.frame 0 ({ s with heap := s.heap.push { cls := .type "list", data := .seq ([] : List Value).toArray } } : Shared) _ s.toks hst₁ fun b hb o e => oth b o (Nat.ne_of_lt (Nat.lt_of_lt_of_le hb hN)) e) hS₃ (ItemsOf.nil P) fun s' acc' c' hf hS' hacc => ?_⟩
  show wpAny _ A (load s.heap.objs.size >>= _) _ _ s'
  refine wpAny_bind (wpAny_load hS' ?_)
  exact wpAny_pure (hQ s' acc' hf hacc)

theorem join_map {x : Str} {t : Tok} {Q : Value → Shared → Prop} (W : Steps prog w A.in1.in1 M N n P St Fi) (hself : ∀ i s, St i s → ∃ T f, s.heap.get? M = some (mapObj T f)) (hst : St 0 s) (hN : N ≤ s.heap.objs.size) (hMN : M < N) (hn : n ≤ sizeLine)
    {ys : List Str} (hP : ∀ (vals : List Value), vals.length = n → (∀ (j : Nat) v, vals[j]? = some v → P j v) → StrsAre vals ys) (hok : JoinOk x ys = true)
    (hq : ∀ s' t' k, Fi s' → Q (.str (Txt.join x ys) t') { s' with toks := k }) :
    wpAny (model prog w) A (call (.builtin "str.join") [.str x t, .ref M]) Q E s := by
  refine wpAny_call (codeAny_call_builtin F.slot_str_join.plain F.entry_str_join (F.slot_str_join.check _ _ _ _ _ _ _ _ (typeIs_str _ _ _) (F.args_str_join_2 _ _) ?_))
  rw [join_tree_other]
  obtain ⟨T₁, f₁, eM₁⟩ := hself 0 s hst
  refine wpAny_bind (wpAny_typeOf (T := "map") ⟨_, eM₁, rfl⟩ ?_)
  show wpAny _ A.in1 ((pyIter (.ref M)).tryCatch _ >>= fun it => collect it >>= fun items => joinTail x items) _ _ s
  refine wpAny_bind (wpAny_tryCatch (map_self eM₁ ?_))
  refine wpAny_bind (collect_map W hself hst hN hMN (fun s' acc hm hacc => ?_) hn)
  have hs := hP acc.toList (by rw [Array.length_toList]; exact hacc.1) fun j v e => hacc.2 j v (by rw [← Array.getElem?_toList]; exact e)
  obtain ⟨l, hl⟩ := exists_strValues acc.toList fun v hv => hs.all v hv
  rw [← hl]
  have hly : l.map (·.1) = ys := by
    rw [← hl] at hs
    clear hl hacc hP hok hq
    induction l generalizing ys with
    | nil => cases hs; rfl
    | cons p r ih =>
      cases hs with
      | cons _ _ hr => exact congrArg (p.1 :: ·) (ih hr)
  rw [← hly] at hok
  have hok' := hok
  unfold JoinOk at hok'
  rw [Bool.not_eq_true'] at hok'
  have g : Gives (joinTail x (strValues l)) (joinMade x l) := by
    have g0 := gives_joinTail x l hok'
    cases l with
    | nil => exact g0
    | cons p r => cases r with
      | nil => exact g0
      | cons q r' => exact g0
  exact g prog w A (wants Q E) s' (post_join l ⟨joinFit_length hok', fun t' k => hly ▸ hq s' t' k hm⟩)
end
end Mine
end

-- part D2
section
open PySem PySem.W PySem.Calls PyProof.Rows PySem.Spec
set_option maxRecDepth 100000
namespace Mine
theorem Cx.after {hb h h' : Heap} {out : List Env} {W : List Addr} (cx : Cx hb out h W) (k : ∀ b o, h.get? b = some o → (∀ vs, o.data ≠ .fields vs) → h'.get? b = some o) (st : hb.StaysIn h') : Cx hb out h' W :=
  ⟨st, cx.frames.of_keeps fun b o e n => ⟨o, k b o e n, rfl⟩, cx.off⟩
def quoteS (y : Str) : Str := if isTok y then y else DQ ++ y ++ DQ
/-- a text that the header takes -/
def Good (y : Str) : Prop := 0 < y.length ∧ plainS y = true
theorem strs_of {f : Str → Str} : ∀ {vals : List Value} {R : List Str}, vals.length = R.length → (∀ (j : Nat) v, vals[j]? = some v → ∃ y t', R[j]? = some y ∧ v = .str (f y) t') → StrsAre vals (R.map f)
  | [], [], _, _ => .nil
  | [], _ :: _, h, _ => by cases h
  | _ :: _, [], h, _ => by cases h
  | v :: vals, y :: R, hl, hv => by
    obtain ⟨y', t', e1, rfl⟩ := hv 0 v rfl
    have : y = y' := by simpa using e1
    subst this
    exact .cons _ _ (strs_of (by simpa using hl) fun j v h => by
      obtain ⟨y', t', h1, h2⟩ := hv (j + 1) v (by simpa using h)
      exact ⟨y', t', by simpa using h1, h2⟩)
def SEP : Str := Str.ofString ", "

section
variable {w : World} {hb : Heap} {p : Program} {loose : List Str} {mean : ExcName → Option Value} {mg mb : Str → Option Value} {out : List Env}
  {s : Shared} {Q : Value → Shared → Prop} {E : Value → Shared → Prop} {x dx l sa : Addr} {t1 t2 t3 : Tok} {k : Nat} {vs : List Value} {R : List Str} {so : Obj}

set_option maxHeartbeats 8000000 in
theorem header_spec (X : (hd.heap_39 w.params).In hb) (T : Top p loose mean mg mb hb) (H : HS w s.heap x dx l sa t1 t2 t3 k vs R so) {ps : Array Value} (hP : s.heap.get? 188 = some (tabObj ps)) (hps : TriplesOk ps.toList) (cx : Cx hb out s.heap [x, dx, l, sa, 188]) (hG : AllBare s.gens) (hgood : ∀ y ∈ R, Good y) (hok : JoinOk SEP (R.map quoteS) = true)
    (ret : ∀ t' h' tk gens', Tab 188 h' → Kp [188] s.heap h' → AllBare gens' → Q (.str (Txt.join SEP (R.map quoteS)) t') { s with heap := h', toks := tk, gens := gens' }) :
    wpAny (model PySem.Challenge.rw_fa0002_01.row.prog w) (AR 200 200 out) (call (.ref 115) [.ref x]) Q E s := by
  revert X; k_fill; intro X
  refine wpAny_call ?_
  obtain ⟨n1, n2, n3, n4, n5, n6⟩ := H.neN
  have hn : ∀ q ∈ [(x, instObj 181 dx), (dx, hsD w.params t1 t2 t3 l sa), (l, listOf vs.toArray k), (sa, so), (188, tabObj ps)], s.heap.get? q.1 = some q.2 := fun q hq => by
    have hq' : q ∈ hsNews w x dx l sa t1 t2 t3 k vs so ++ [(188, tabObj ps)] := hq
    rcases List.mem_append.mp hq' with hq | hq
    · exact H.get q hq
    · rw [List.mem_singleton.mp hq]; exact hP
  refine' enter (binds := [(Str.ofString "self", .ref x)]) [(x, instObj 181 dx), (dx, hsD w.params t1 t2 t3 l sa), (l, listOf vs.toArray k), (sa, so), (188, tabObj ps)] X T cx hn ?ho ?hcd ?hroom ?hbind ?hloc ?_ ?c2 ?c3 ?c4 ?c5
  case ho => k_is
  case hcd => k_is
  case hroom => decide
  case hbind => exact BindsTo.of_eq rfl
  case hloc => exact locs rfl
  case c2 => exact rfl
  case c3 => exact rfl
  case c4 => exact rfl
  case c5 => decide
  intro g L' h₁ st' hg hg2 hsz F' N' B' X' T'
  try dsimp only [List.cons_append, List.nil_append] at N'
  try dsimp only
  all_goals try k_fold
  repeat' (first | ((with_reducible show wpAny _ _ _ _ _ _); (fail_if_success (with_reducible show wpAny _ _ (call (.type "map") _) _ _ _)); (first | (k_unfold; (try dsimp only)) | (k_end; wrow_close) | walk1 | (dsimp only; walk1) | (leave1; try dsimp only))) | fail "stop")
  rename Fr _ _ _ _ => F9
  rename News _ _ _ _ => N9
  have hlN : News g L' h₁ [(x, instObj 181 dx), (dx, hsD w.params t1 t2 t3 l sa), (l, listOf vs.toArray k), (sa, so), (188, tabObj ps)] := N9
  refine call_map (news_list N9 (by k_mem)) fun h2 gI gT gM hs2 up2 => ?_
  dsimp only at gI gT gM hs2 up2 ⊢
  have hx1 := Heap.lt_size (N9 (188, tabObj ps) (by k_mem)).1
  have hl1 := Heap.lt_size (N9 (l, listOf vs.toArray k) (by k_mem)).1
  dsimp only at hx1 hl1
  have hL1 := F9.ns.lt
  have F8 : Fr g L' h2 _ := F9.keeps up2
  have N8 : News g L' h2 _ := N9.grown up2
  clear F9 N9
  repeat' (first | ((with_reducible show wpAny _ _ _ _ _ _); (fail_if_success (with_reducible show wpAny _ _ (call (.builtin "str.join") _) _ _ _)); (first | (k_unfold; (try dsimp only)) | (k_end; wrow_close) | walk1 | (dsimp only; walk1) | (leave1; try dsimp only))) | fail "stop")
  have hNI : ∀ b, b < h₁.objs.size → b ≠ h₁.objs.size := fun b hb => Nat.ne_of_lt hb
  have hlen : vs.toArray.size = R.length := by rw [List.size_toArray]; exact H.si.len_eq
  have l188 : l ≠ 188 := fun q => by
    have e1 := (N8 (l, listOf vs.toArray k) (by k_mem)).1
    have e2 := (N8 (188, tabObj ps) (by k_mem)).1
    dsimp only at e1 e2
    rw [q, e2] at e1
    cases e1
  refine join_map (n := vs.toArray.size) (ys := R.map quoteS) (N := h₁.objs.size + 3) (P := fun i v => ∃ y t', R[i]? = some y ∧ v = .str (quoteS y) t')
    (steps_map (P := 188) (s₀ := { s with heap := h2 }) (M := h₁.objs.size + 2) (T := h₁.objs.size + 1) (I := h₁.objs.size) (f := 193) (l := l) (items := vs.toArray) (R := fun i v => ∃ y t', R[i]? = some y ∧ v = .str (quoteS y) t') rfl ?m1 ?m2 ?m3 ?m4 ?m5 ?m6 ?m7 ?m8 ?m9 ?m10 ?m11 ?m12 ?m13 ?call) ?ty ?st ?fp ?hI ?sz ?vals hok ?fin
  case m1 => exact Nat.ne_of_gt (Nat.lt_succ_of_lt (Nat.lt_succ_self _))
  case m2 => exact Nat.ne_of_gt (Nat.lt_succ_self _)
  case m3 => exact Nat.ne_of_lt hl1
  case m4 => exact Nat.ne_of_gt (Nat.lt_succ_of_lt (Nat.lt_succ_of_lt hx1))
  case m5 => exact Nat.ne_of_gt (Nat.lt_succ_of_lt hx1)
  case m6 => exact Nat.ne_of_gt hx1
  case m7 => exact l188
  case m8 => exact Nat.lt_succ_self _
  case m9 => exact Nat.lt_succ_of_lt (Nat.lt_succ_self _)
  case m10 => exact Nat.lt_succ_of_lt (Nat.lt_succ_of_lt (Nat.lt_succ_self _))
  case m11 => exact Nat.lt_succ_of_lt (Nat.lt_succ_of_lt (Nat.lt_succ_of_lt hl1))
  case m12 => exact Nat.lt_succ_of_lt (Nat.lt_succ_of_lt (Nat.lt_succ_of_lt hx1))
  case m13 => exact hs2.symm
  case ty => exact fun i s' st => ⟨_, _, st.m⟩
  case st => exact ⟨gM, gT, gI, ⟨_, (N8 (l, listOf vs.toArray k) (by k_mem)).1, rfl, k, rfl⟩, ⟨ps, (N8 (188, tabObj ps) (by k_mem)).1, hps⟩, hG, fun b o _ _ e => e, rfl, rfl⟩
  case fp => exact Nat.le_of_eq hs2.symm
  case hI => exact Nat.lt_succ_self _
  case sz => rw [hlen, sizeLine_eq]; have := H.len; omega
  case vals =>
    intro vals hl hv
    exact strs_of (by rw [hl, hlen]) hv
  case call =>
    intro i v s' Q' E' hv htab hG' hk hpost
    obtain ⟨y, t, e1, rfl⟩ := strs_get H.si (i := i) (by simpa using hv)
    obtain ⟨ps', hP', hps'⟩ := htab
    have hyR := List.mem_of_getElem? e1
    refine ar_raise (D := 400) (U := 400) rfl (Nat.le_of_ble_eq_true rfl) (Nat.le_of_ble_eq_true rfl) rfl ?_
    refine quote_spec X T (Cx.after (Cx.sub (cx_of B' F8 N8) (fun a ha => by rw [List.mem_singleton.mp ha]; simp)) ?k1 ?k2) hP' hps' hG' (H.sh _ hyR) (hgood _ hyR).1 (hgood _ hyR).2 fun r t' h' tk gens' htab' kp hG2 hr => ?_
    case k1 =>
      intro b o e n
      refine hk b o (fun q => ?_) (fun q => ?_) e
      · rw [q, gI] at e; cases e; exact n _ rfl
      · rw [q, (N8 (188, tabObj ps) (by k_mem)).1] at e; cases e; exact n _ rfl
    case k2 =>
      intro b o e
      have e2 := B'.stays b o e
      refine hk b o (fun q => ?_) (fun q => ?_) (F8.keep b o e2)
      · have h3 := Nat.lt_of_lt_of_le (Heap.lt_size e2) F8.above
        exact absurd (Nat.lt_trans h3 hL1) (by rw [q]; exact Nat.lt_irrefl _)
      · rw [q, (cx.off 188 (by simp)).1] at e; cases e
    refine hpost _ _ _ _ ⟨y, t', e1, by rw [hr]; rfl⟩ kp htab' hG2
  case fin =>
    rintro ⟨h3, g3, d3, tk3, os3⟩ t' k' hm
    have ed : d3 = s.drawn := hm.drawn
    have eo : os3 = s.os := hm.os
    subst ed; subst eo
    have htab := hm.tab
    have hbare := hm.bare
    have keep : ∀ b o, b ≠ h₁.objs.size → b ≠ 188 → h2.get? b = some o → h3.get? b = some o := hm.keep
    dsimp only at htab hbare ⊢
    have kp2 := kp_same hg hn F8 fun q hq => (N8 q hq).1
    clear N8 hm
    repeat' (first | ((with_reducible show wpAny _ _ _ _ _ _); (first | (k_unfold; (try dsimp only)) | walk1 | (dsimp only; walk1) | (leave1; try dsimp only))) | fail "stop")
    show Q _ _
    refine ret _ _ _ _ htab (fun b o e n => keep b o (fun q => ?_) (fun q => n (by simp [q])) (kp2 b o e (fun q => nomatch q))) hbare
    have h4 := Nat.lt_of_lt_of_le (Heap.lt_size e) hsz
    exact absurd (Nat.lt_trans h4 hL1) (by rw [q]; exact Nat.lt_irrefl _)
end
end Mine
end

-- part L0
section
open PySem PySem.W PySem.Calls PyProof.Rows PySem.Spec
set_option maxRecDepth 100000
namespace Mine
theorem cx_ofE {env : Env} {D U : Nat} {hb g h : Heap} {out : List Env} {L : Addr} {m : Str → Option Value} {news : List (Addr × Obj)} (hk : env.scope.kind = .function) (hf : env.frame = some L)
    (B : Below (AR D U out) hb out g) (F : Fr g L h m) (N : News g L h news) : Cx hb (env :: out) h (news.map (·.1)) := by
  have hnew : hb.get? L = none := by
    cases hq : hb.get? L with
    | none => rfl
    | some o => exact absurd (Nat.lt_of_lt_of_le (Heap.lt_size (B.stays L o hq)) F.above) (Nat.lt_irrefl _)
  refine ⟨fun b o e => F.keep b o (B.stays b o e), Heap.FunFrames.cons (by rw [hk]; decide) hf F.ns hnew (B.frames.of_keeps fun b o e _ => ⟨o, F.keep b o e, rfl⟩), fun b hb' => ?_⟩
  obtain ⟨p, hp, rfl⟩ := List.mem_map.mp hb'
  refine ⟨fresh_of_stays B.stays (N p hp).2.2, fun env' he hf' => ?_⟩
  rcases List.mem_cons.mp he with rfl | he
  · rw [hf] at hf'
    exact (N p hp).2.1 (Option.some.inj hf').symm
  · obtain ⟨L₁, o₁, hf₁, ho₁⟩ := funFrames_in B.frames env' he
    rw [hf₁] at hf'
    have := (N p hp).2.2
    rw [← Option.some.inj hf', ho₁] at this; cases this
end Mine
end

-- part L0b
section
open PySem PySem.W PySem.Calls PyProof.Rows PySem.Spec
set_option maxRecDepth 100000
namespace Mine
theorem News.sub {g h : Heap} {L : Addr} {led led' : List (Addr × Obj)} (N : News g L h led) (k : ∀ p ∈ led', p ∈ led) : News g L h led' := fun p hp => N p (k p hp)
theorem ne_led {g h : Heap} {L : Addr} {led : List (Addr × Obj)} {a b : Addr} {o o' : Obj} (N : News g L h led) (ha : (a, o) ∈ led) (hb : (b, o') ∈ led) (n : o ≠ o') : a ≠ b := fun q => by
  subst q
  exact n (Option.some.inj ((N _ ha).1.symm.trans (N _ hb).1))
section
variable {w : World} {hb : Heap} {p : Program} {loose : List Str} {mean : ExcName → Option Value} {mg mb : Str → Option Value} {out : List Env}
  {s : Shared} {Q : Value → Shared → Prop} {E : Value → Shared → Prop} {A : Around} {D U : Nat} {env : Env} {g : Heap} {L : Addr} {m : Str → Option Value} {led : List (Addr × Obj)}
/-- `_law_next`, called where the ledger holds its state -/
theorem call_next {st nb : Addr} {ws : List Value} {ns : List Int} {k k2 : Nat} {at' many : Int} {ta tm : Tok} (X : (hd.heap_39 w.params).In hb) (T : Top p loose mean mg mb hb) (B : Below (AR D U out) hb out g)
    (F : Fr g L s.heap m) (N : News g L s.heap led) (led' : List (Addr × Obj)) (hs1 : (st, listOf #[.ref nb, .int at' ta] k) ∈ led) (hs2 : (nb, listOf ws.toArray k2) ∈ led') (hsub : ∀ p ∈ led', p ∈ led ∧ p.1 ≠ st)
    (hh : A.handled = none) (hd : A.depth ≤ 950) (hu : A.units ≤ 700) (hfr : A.frames = some (env :: out)) (hk : env.scope.kind = .function) (hf : env.frame = some L)
    (hi : IntsAre ws ns) (hlen : 0 < ns.length) (hl2 : ns.length ≤ 100) (hns : ∀ x ∈ ns, 0 ≤ x ∧ x < 1000003) (ha0 : 0 ≤ at') (ha1 : at' < 1000000) (hm0 : 0 < many) (hm1 : many ≤ 100)
    (ret : ∀ r tr h' tk ta', 0 ≤ r → r < many → Fr g L h' m → News g L h' ((st, listOf #[.ref nb, .int (at' + 1) ta'] k) :: led') → Kp [st] s.heap h' → Q (.int r tr) { s with heap := h', toks := tk }) :
    wpAny (model PySem.Challenge.rw_fa0002_01.row.prog w) A (call (.ref 225) [.ref st, .int many tm]) Q E s := by
  have hne : st ≠ nb := Ne.symm (hsub _ hs2).2
  refine ar_raise (D := 700) (U := 700) hh hd hu hfr ?_
  refine next_spec X T (Cx.sub (cx_ofE hk hf B F N) fun a ha => by rw [List.mem_singleton.mp ha]; exact List.mem_map_of_mem hs1) (N _ hs1).1 (N _ (hsub _ hs2).1).1 hi hne hlen hl2 hns ha0 ha1 hm0 hm1 fun r tr h' tk ta' h0 h1 kp e => ?_
  refine ret r tr h' tk ta' h0 h1 (fr_back F N kp fun a ha => by rw [List.mem_singleton.mp ha]; exact List.mem_map_of_mem hs1) (fun q hq => ?_) kp
  rcases List.mem_cons.mp hq with rfl | hq
  · exact ⟨e, (N _ hs1).2⟩
  · exact ⟨kp _ _ (N q (hsub q hq).1).1 (fun z => (hsub q hq).2 (List.mem_singleton.mp z)), (N q (hsub q hq).1).2⟩
end
end Mine
end

-- part L2
section
open PySem PySem.W PySem.Calls PyProof.Rows PySem.Spec
set_option maxRecDepth 100000
namespace Mine
noncomputable def stmtsAt (P : Params) (f : Addr) : List Stmt := match List.lookup f (hd.heap_39 P) with | some ⟨_, _, .func fd, _⟩ => (match fd.body with | .stmts b => b | _ => []) | _ => []
noncomputable def lawScope (P : Params) : Scope := match List.lookup 261 (hd.heap_39 P) with | some ⟨_, _, .func fd, _⟩ => fd.scope | _ => { kind := .function, names := [], isGenerator := false, isCoroutine := false }
noncomputable def lawFor (P : Params) : List Stmt := match List.get?Internal (stmtsAt P 261) 3 with | some (Stmt.For _ _ b _ _) => b | _ => []
noncomputable def lawT (P : Params) (i : Nat) : Stmt := match List.get?Internal (lawFor P) i with | some b => b | _ => .Pass ⟨0, 0, 0, 0⟩
@[irreducible] noncomputable def lawS (P : Params) (i : Nat) : Stmt := lawT P i
theorem lawS_eq (P : Params) (i : Nat) : lawS P i = lawT P i := by unfold lawS; rfl
noncomputable abbrev lawEnv (P : Params) (L : Addr) : Env := envOfC (Str.ofString "law") (lawScope P) L 261 (.ref 260)
abbrev lawA (env : Env) : Around := (AR 100 100 []).deeper env
/-- the names that the law knows -/
def MENU : List Str := [Str.ofString "a", Str.ofString "A", Str.ofString "b", Str.ofString "accept", Str.ofString "ACCEPT", Str.ofString "x y", Str.ofString "c-d", Str.ofString "C-d", Str.ofString "Accept"]
structure RowOk (R : List Str) : Prop where
  menu : ∀ y ∈ R, y ∈ MENU
  dist : (R.map Txt.lower).Nodup
/-- the law's own things -/
structure LV where
  st : Addr
  nb : Addr
  rl : Addr
  x : Addr
  dx : Addr
  l : Addr
  sa : Addr
  oc : Obj
  so : Obj
  t1 : Tok
  t2 : Tok
  t3 : Tok
  ta : Tok
  k : Nat
  kr : Nat
  vs : List Value
  vr : List Value
  ws : List Value
  R : List Str
  ns : List Int
  a : Int
  p7 : Array Value
  p0 : Array Value
  p8 : Array Value
def LV.led (w : World) (L : Addr) (v : LV) : List (Addr × Obj) :=
  [(v.st, listOf #[.ref v.nb, .int v.a v.ta] 0), (v.nb, listOf v.ws.toArray 0), (L + 1, v.oc), (v.rl, listOf v.vr.toArray v.kr), (v.x, instObj 181 v.dx), (v.dx, hsD w.params v.t1 v.t2 v.t3 v.l v.sa), (v.l, listOf v.vs.toArray v.k), (v.sa, v.so), (207, tabObj v.p7), (200, tabObj v.p0), (188, tabObj v.p8)]
structure LV.Ok (w : World) (v : LV) (b : Int) : Prop where
  hoc : v.oc.data = .cell (some (.ref v.st))
  hws : IntsAre v.ws v.ns
  hn0 : 0 < v.ns.length
  hn1 : v.ns.length ≤ 100
  hns : ∀ x ∈ v.ns, 0 ≤ x ∧ x < 1000003
  a0 : 0 ≤ v.a
  a1 : v.a ≤ b
  hvr : StrsAre v.vr v.R
  hvs : StrsAre v.vs v.R
  ss : v.so.SetObjOf (PySem.strKind PySem.Challenge.rw_fa0002_01.row.prog w) (skey (v.R.map Txt.lower)) v.R.length
  sp : SetP w v.so
  row : RowOk v.R
  t7 : TriplesOk v.p7.toList
  t0 : TriplesOk v.p0.toList
  t8 : TriplesOk v.p8.toList
  lr : v.l ≠ v.rl
theorem str_ty {a b : String} (h : a ≠ b) : Value.type a ≠ Value.type b := fun q => h (Value.type.inj q)
theorem strs_ref {a : Addr} {vs : List Value} {R : List Str} (h : StrsAre (.ref a :: vs) R) : False := nomatch h
theorem ints_ref {a : Addr} {vs : List Value} {R : List Int} (h : IntsAre (.ref a :: vs) R) : False := nomatch h
theorem ints_strs {vs : List Value} {R : List Str} {ns : List Int} (h : StrsAre vs R) (h2 : IntsAre vs ns) (hn : 0 < ns.length) : False := by
  cases h with
  | nil => cases h2; exact absurd hn (Nat.lt_irrefl _)
  | cons => cases h2
section
variable {w : World} {g h : Heap} {L : Addr} {led : List (Addr × Obj)} {v : LV} {b : Int}
/-- the places are apart -/
structure LV.Apart (v : LV) (L : Addr) : Prop where
  st : ∀ a ∈ [v.nb, L + 1, v.rl, v.x, v.dx, v.l, v.sa, 207, 200, 188], a ≠ v.st
  hs : ∀ a ∈ [v.st, v.nb, L + 1, v.rl, 207, 200, 188], a ∉ [v.x, v.dx, v.l, v.sa]
  tb : ∀ a ∈ [v.st, v.nb, L + 1, v.rl, v.x, v.dx, v.l, v.sa], a ∉ [207, 200, 188]
theorem LV.Ok.apart (ok : v.Ok w b) (N : News g L h led) (k : ∀ p ∈ v.led w L, p ∈ led) : v.Apart L := by
  have N : News g L h (v.led w L) := News.sub N k
  have so : v.so.cls = .type "set" := ok.ss.1.1
  have c : ∀ {a b : Addr} {o o' : Obj}, (a, o) ∈ v.led w L → (b, o') ∈ v.led w L → o.cls ≠ o'.cls → a ≠ b := fun ha hb n => ne_led N ha hb fun q => n (q ▸ rfl)
  have d : ∀ {a b : Addr} {o o' : Obj}, (a, o) ∈ v.led w L → (b, o') ∈ v.led w L → o.data ≠ o'.data → a ≠ b := fun ha hb n => ne_led N ha hb fun q => n (q ▸ rfl)
  have m1 : (v.st, _) ∈ v.led w L := .head _
  have m2 : (v.nb, _) ∈ v.led w L := .tail _ (.head _)
  have m3 : (L + 1, _) ∈ v.led w L := .tail _ (.tail _ (.head _))
  have m4 : (v.rl, _) ∈ v.led w L := .tail _ (.tail _ (.tail _ (.head _)))
  have m5 : (v.x, _) ∈ v.led w L := .tail _ (.tail _ (.tail _ (.tail _ (.head _))))
  have m6 : (v.dx, _) ∈ v.led w L := .tail _ (.tail _ (.tail _ (.tail _ (.tail _ (.head _)))))
  have m7 : (v.l, _) ∈ v.led w L := .tail _ (.tail _ (.tail _ (.tail _ (.tail _ (.tail _ (.head _))))))
  have m8 : (v.sa, _) ∈ v.led w L := .tail _ (.tail _ (.tail _ (.tail _ (.tail _ (.tail _ (.tail _ (.head _)))))))
  have m9 : (207, _) ∈ v.led w L := .tail _ (.tail _ (.tail _ (.tail _ (.tail _ (.tail _ (.tail _ (.tail _ (.head _))))))))
  have m10 : (200, _) ∈ v.led w L := .tail _ (.tail _ (.tail _ (.tail _ (.tail _ (.tail _ (.tail _ (.tail _ (.tail _ (.head _)))))))))
  have m11 : (188, _) ∈ v.led w L := .tail _ (.tail _ (.tail _ (.tail _ (.tail _ (.tail _ (.tail _ (.tail _ (.tail _ (.tail _ (.head _))))))))))
  have s1 : v.nb ≠ v.st := d m2 m1 (by
    intro q
    have := ok.hws
    have e : v.ws = [.ref v.nb, .int v.a v.ta] := by injection q with q1 q2; simpa using q1
    rw [e] at this; exact ints_ref this)
  have s2 : L + 1 ≠ v.st := d m3 m1 (by rw [ok.hoc]; nofun)
  have s3 : v.rl ≠ v.st := d m4 m1 (by
    intro q
    have := ok.hvr
    have e : v.vr = [.ref v.nb, .int v.a v.ta] := by injection q with q1 q2; simpa using q1
    rw [e] at this; exact strs_ref this)
  have s4 : v.x ≠ v.st := c m5 m1 nofun
  have s5 : v.dx ≠ v.st := c m6 m1 (str_ty (by decide))
  have s6 : v.l ≠ v.st := d m7 m1 (by
    intro q
    have := ok.hvs
    have e : v.vs = [.ref v.nb, .int v.a v.ta] := by injection q with q1 q2; simpa using q1
    rw [e] at this; exact strs_ref this)
  have s7 : v.sa ≠ v.st := c m8 m1 (by rw [so]; exact str_ty (by decide))
  have s8 : 207 ≠ v.st := c m9 m1 nofun
  have s9 : 200 ≠ v.st := c m10 m1 nofun
  have s10 : 188 ≠ v.st := c m11 m1 nofun
  have n1 : v.nb ≠ v.x := c m2 m5 nofun
  have n2 : v.nb ≠ v.dx := c m2 m6 (str_ty (by decide))
  have n3 : v.nb ≠ v.l := d m2 m7 (by
    intro q
    have e : v.ws = v.vs := by injection q with q1 q2; simpa using q1
    exact ints_strs (e ▸ ok.hvs) ok.hws ok.hn0)
  have n4 : v.nb ≠ v.sa := c m2 m8 (by rw [so]; exact str_ty (by decide))
  have c1 : L + 1 ≠ v.x := d m3 m5 (by rw [ok.hoc]; nofun)
  have c2 : L + 1 ≠ v.dx := d m3 m6 (by rw [ok.hoc]; nofun)
  have c3 : L + 1 ≠ v.l := d m3 m7 (by rw [ok.hoc]; nofun)
  have c4 : L + 1 ≠ v.sa := d m3 m8 (by
    rw [ok.hoc]
    obtain ⟨-, es, ep, t, q, -⟩ := ok.ss
    rw [q]; nofun)
  have r1 : v.rl ≠ v.x := c m4 m5 nofun
  have r2 : v.rl ≠ v.dx := c m4 m6 (str_ty (by decide))
  have r4 : v.rl ≠ v.sa := c m4 m8 (by rw [so]; exact str_ty (by decide))
  have tt : ∀ {a : Addr} {o : Obj}, (a, o) ∈ v.led w L → o.cls ≠ .none → a ∉ [207, 200, 188] := fun ha hc hm => by
    simp only [List.mem_cons, List.not_mem_nil, or_false] at hm
    rcases hm with q | q | q
    · exact c ha m9 hc q
    · exact c ha m10 hc q
    · exact c ha m11 hc q
  have tx : ∀ {a : Addr} {o : Obj}, (a, o) ∈ v.led w L → o.cls = .none → a ∉ [v.x, v.dx, v.l, v.sa] := fun ha hc hm => by
    simp only [List.mem_cons, List.not_mem_nil, or_false] at hm
    rcases hm with q | q | q | q
    · exact c ha m5 (by rw [hc]; nofun) q
    · exact c ha m6 (by rw [hc]; nofun) q
    · exact c ha m7 (by rw [hc]; nofun) q
    · exact c ha m8 (by rw [hc, so]; nofun) q
  have c5 : L + 1 ∉ [207, 200, 188] := fun hm => by
    simp only [List.mem_cons, List.not_mem_nil, or_false] at hm
    rcases hm with q | q | q
    · exact d m3 m9 (by rw [ok.hoc]; nofun) q
    · exact d m3 m10 (by rw [ok.hoc]; nofun) q
    · exact d m3 m11 (by rw [ok.hoc]; nofun) q
  refine ⟨?_, ?_, ?_⟩
  · simp only [List.forall_mem_cons]
    exact ⟨s1, s2, s3, s4, s5, s6, s7, s8, s9, s10, fun _ q => nomatch q⟩
  · simp only [List.forall_mem_cons]
    refine ⟨?_, ?_, ?_, ?_, tx m9 rfl, tx m10 rfl, tx m11 rfl, fun _ q => nomatch q⟩
    · simp only [List.mem_cons, List.not_mem_nil, or_false, not_or]; exact ⟨Ne.symm s4, Ne.symm s5, Ne.symm s6, Ne.symm s7⟩
    · simp only [List.mem_cons, List.not_mem_nil, or_false, not_or]; exact ⟨n1, n2, n3, n4⟩
    · simp only [List.mem_cons, List.not_mem_nil, or_false, not_or]; exact ⟨c1, c2, c3, c4⟩
    · simp only [List.mem_cons, List.not_mem_nil, or_false, not_or]; exact ⟨r1, r2, Ne.symm ok.lr, r4⟩
  · simp only [List.forall_mem_cons]
    exact ⟨tt m1 nofun, tt m2 nofun, c5, tt m4 nofun, tt m5 nofun, tt m6 nofun, tt m7 nofun, tt m8 (by rw [so]; nofun), fun _ q => nomatch q⟩
end
section
variable {w : World} {L : Addr} {v : LV}
theorem LV.m_rl : (v.rl, listOf v.vr.toArray v.kr) ∈ v.led w L := .tail _ (.tail _ (.tail _ (.head _)))
theorem LV.m_l : (v.l, listOf v.vs.toArray v.k) ∈ v.led w L := .tail _ (.tail _ (.tail _ (.tail _ (.tail _ (.tail _ (.head _))))))
end
/-- a frame's map that is known at some names -/
def Has (m : Str → Option Value) (bs : List (Str × Value)) : Prop := ∀ p ∈ bs, m p.1 = some p.2
def mL : List (Str × Value) → (Str → Option Value) → Str → Option Value
  | [], m => m
  | (y, v) :: r, m => fun z => if z = y then some v else mL r m z
theorem Has.eq {m : Str → Option Value} : ∀ {bs : List (Str × Value)}, Has m bs → m = mL bs m
  | [], _ => rfl
  | (y, v) :: r, H => by
    have ih := Has.eq (m := m) (bs := r) fun p hp => H p (.tail _ hp)
    funext z
    show m z = if z = y then some v else mL r m z
    by_cases hz : z = y
    · rw [if_pos hz, hz]; exact H (y, v) (.head _)
    · rw [if_neg hz, ← ih]
theorem LV.Ok.mono {w : World} {v : LV} {b b' : Int} (ok : v.Ok w b) (h : b ≤ b') : v.Ok w b' := ⟨ok.hoc, ok.hws, ok.hn0, ok.hn1, ok.hns, ok.a0, Int.le_trans ok.a1 h, ok.hvr, ok.hvs, ok.ss, ok.sp, ok.row, ok.t7, ok.t0, ok.t8, ok.lr⟩
def LV.rest (w : World) (L : Addr) (v : LV) : List (Addr × Obj) := (v.led w L).tail
theorem LV.led_eq {w : World} {L : Addr} {v : LV} : v.led w L = (v.st, listOf #[.ref v.nb, .int v.a v.ta] 0) :: v.rest w L := rfl
section
variable {w : World} {hb : Heap} {p : Program} {loose : List Str} {mean : ExcName → Option Value} {mg mb : Str → Option Value} {out : List Env}
  {s : Shared} {Q : Value → Shared → Prop} {E : Value → Shared → Prop} {A : Around} {D U : Nat} {env : Env} {g : Heap} {L : Addr} {m : Str → Option Value}
/-- `_law_next` in the law -/
theorem next_call {front : List (Addr × Obj)} {b many : Int} {tm : Tok} (v : LV) (X : (hd.heap_39 w.params).In hb) (T : Top p loose mean mg mb hb) (B : Below (AR D U out) hb out g)
    (F : Fr g L s.heap m) (N : News g L s.heap (front ++ v.led w L)) (ok : v.Ok w b) (hb' : b ≤ 1000) (hfront : ∀ q ∈ front, q.1 ≠ v.st)
    (hh : A.handled = none) (hd : A.depth ≤ 950) (hu : A.units ≤ 700) (hfr : A.frames = some (env :: out)) (hk : env.scope.kind = .function) (hf : env.frame = some L)
    (hm0 : 0 < many) (hm1 : many ≤ 100)
    (ret : ∀ r tr h' tk ta', 0 ≤ r → r < many → Fr g L h' m → News g L h' (front ++ ({ v with a := v.a + 1, ta := ta' } : LV).led w L) → ({ v with a := v.a + 1, ta := ta' } : LV).Ok w (b + 1) → Kp [v.st] s.heap h' → Q (.int r tr) { s with heap := h', toks := tk }) :
    wpAny (model PySem.Challenge.rw_fa0002_01.row.prog w) A (call (.ref 225) [.ref v.st, .int many tm]) Q E s := by
  have Ap := ok.apart N fun p hp => List.mem_append_right _ hp
  have hb2 : v.a < 1000000 := by have := ok.a1; omega
  refine call_next X T B F N (front ++ v.rest w L) (List.mem_append_right _ (.head _)) (List.mem_append_right _ (.head _)) (fun q hq => ?_) hh hd hu hfr hk hf ok.hws ok.hn0 ok.hn1 ok.hns ok.a0 hb2 hm0 hm1 fun r tr h' tk ta' r0 r1 F' N' kp => ?_
  · rcases List.mem_append.mp hq with hq | hq
    · exact ⟨List.mem_append_left _ hq, hfront q hq⟩
    · exact ⟨List.mem_append_right _ (.tail _ hq), Ap.st q.1 (List.mem_map_of_mem (f := fun q : Addr × Obj => q.1) hq)⟩
  · refine ret r tr h' tk ta' r0 r1 F' (News.sub N' fun q hq => ?_) ⟨ok.hoc, ok.hws, ok.hn0, ok.hn1, ok.hns, Int.add_nonneg ok.a0 (by decide), Int.add_le_add_right ok.a1 _, ok.hvr, ok.hvs, ok.ss, ok.sp, ok.row, ok.t7, ok.t0, ok.t8, ok.lr⟩ kp
    rcases List.mem_append.mp hq with hq | hq
    · exact .tail _ (List.mem_append_left _ hq)
    · rcases List.mem_cons.mp hq with rfl | hq
      · exact .head _
      · exact .tail _ (List.mem_append_right _ hq)
end
end Mine
end

-- part L3
section
open PySem PySem.W PySem.Calls PyProof.Rows PySem.Spec
set_option maxRecDepth 100000
namespace Mine
open LCg
section
variable {w : World} {hb : Heap} {p : Program} {loose : List Str} {mean : ExcName → Option Value} {mg mb : Str → Option Value}
  {s : Shared} {Q : Flow → Shared → Prop} {E : Value → Shared → Prop} {g : Heap} {L : Addr} {m : Str → Option Value} {v : LV} {b : Int} {I : Addr} {oI : Obj}

theorem menu8 : ∀ y ∈ [Str.ofString "a", Str.ofString "A", Str.ofString "b", Str.ofString "accept", Str.ofString "ACCEPT", Str.ofString "x y", Str.ofString "c-d", Str.ofString "C-d"], y ∈ MENU := by decide +kernel

set_option maxHeartbeats 8000000 in
theorem turn_names (X : (hd.heap_39 w.params).In hb) (T : Top p loose mean mg mb hb) (B' : Below (AR 100 100 []) hb [] g) (X' : (hd.heap_39 w.params).In g) (T' : Top p loose mean mg mb g)
    (F : Fr g L s.heap m) (hm : Has m [(Str.ofString "row", .ref v.rl), (Str.ofString "heads", .ref v.x)]) (N : News g L s.heap ((I, oI) :: v.led w L)) (hoff : ∀ q ∈ v.led w L, q.1 ≠ I) (ok : v.Ok w b) (hbd : b ≤ 900)
    (ret : ∀ h' tk m' a' ta' D kD vn Ns, Fr g L h' m' → Has m' [(Str.ofString "row", .ref v.rl), (Str.ofString "heads", .ref v.x), (Str.ofString "names", .ref D)] → News g L h' ((D, listOf vn.toArray kD) :: (I, oI) :: ({ v with a := a', ta := ta' } : LV).led w L) → ({ v with a := a', ta := ta' } : LV).Ok w (b + 5) →
      StrsAre vn Ns → 0 < Ns.length → Ns.length ≤ 4 → (∀ y ∈ Ns, y ∈ MENU) → D ≠ v.l → Q .next { s with heap := h', toks := tk }) :
    wpAny (model PySem.Challenge.rw_fa0002_01.row.prog w) (lawA (lawEnv w.params L)) (exec (lawS w.params 0) (lawEnv w.params L)) Q E s := by
  unfold lawEnv
  conv in (occs := *) lawScope _ => all_goals whnf
  rw [lawS_eq]
  conv in lawT _ _ => whnf
  revert X; k_fill; intro X
  have F1 : Fr g L s.heap (mL _ m) := Fr.as F fun z => congrFun hm.eq z
  clear F
  obtain ⟨st, nb, rl, x, dx, l, sa, oc, so, t1, t2, t3, ta, k, kr, vs, vr, ws, R, ns, a, p7, p0, p8⟩ := v
  have hoc := ok.hoc
  have hfr : ∀ q ∈ [(I, oI)], q.1 ≠ st := fun q hq => by rw [List.mem_singleton.mp hq]; exact (hoff _ (.head _)).symm
  have N1 := N
  dsimp only [LV.led, mL] at N1 F1 hm hoc ret
  try k_fold
  apply assign_range (g := g) (L := L)
  case hsw => with_unfolding_all rfl
  case hclos => with_unfolding_all rfl
  case hcell => decide
  case hkind => rfl
  case hnames => decide
  case hx => rfl
  case hy => rfl
  case hp => rfl
  case hs => intro _; with_unfolding_all rfl
  case hh => rfl
  case hLe => rfl
  repeat' (first | ((with_reducible show wpAny _ _ _ _ _ _); (fail_if_success (with_reducible show wpAny _ _ (call (.ref 225) _) _ _ _)); (first | (k_unfold; (try dsimp only)) | walk1 | (dsimp only; walk1) | (leave1; try dsimp only))) | fail "stop")
  refine ⟨X'.keeps F1.keep, ?_⟩
  refine next_call (front := [(I, oI)]) ⟨st, nb, rl, x, dx, l, sa, oc, so, t1, t2, t3, ta, k, kr, vs, vr, ws, R, ns, a, p7, p0, p8⟩ X T B' F1 N ok (by omega) hfr rfl (Nat.le_of_ble_eq_true rfl) (Nat.le_of_ble_eq_true rfl) rfl rfl rfl (by decide) (by decide) fun r tr h2 tk2 ta2 r0 r1 F2 N2 ok2 kp2 => ?_
  clear N1 F1
  dsimp only [LV.led, List.cons_append, List.nil_append] at N2 
  dsimp only
  repeat' (first | ((with_reducible show wpAny _ _ _ _ _ _); (first | (k_unfold; (try dsimp only)) | walk1 | (dsimp only; walk1) | (leave1; try dsimp only))) | fail "stop")
  rename IsRange _ _ _ _ _ _ _ _ => hr9
  rename Fr _ _ _ _ => F3
  rename News _ _ _ _ => N3
  obtain ⟨n, hn⟩ : ∃ n : Nat, 1 + r = (n : Int) := ⟨(1 + r).toNat, by omega⟩
  rw [hn] at hr9
  refine ⟨_, _, _, _, _, _, n, _, (I, oI) :: LV.led w L ⟨st, nb, rl, x, dx, l, sa, oc, so, t1, t2, t3, ta2, k, kr, vs, vr, ws, R, ns, a + 1, p7, p0, p8⟩,
    fun i ys led' => ∃ a' ta' Ns, led' = (I, oI) :: LV.led w L ⟨st, nb, rl, x, dx, l, sa, oc, so, t1, t2, t3, ta', k, kr, vs, vr, ws, R, ns, a', p7, p0, p8⟩ ∧ LV.Ok w ⟨st, nb, rl, x, dx, l, sa, oc, so, t1, t2, t3, ta', k, kr, vs, vr, ws, R, ns, a', p7, p0, p8⟩ (b + 1 + i) ∧ StrsAre ys Ns ∧ Ns.length = i ∧ ∀ y ∈ Ns, y ∈ MENU,
    rfl, hr9, range_small_len (by omega), range_size_len _, by omega, F3, N3, ⟨_, _, [], rfl, by simpa using ok2, .nil, rfl, fun _ q => nomatch q⟩, ?turn, ?done⟩
  case turn =>
    clear F3 N3 hr9
    rintro I2 h₂ i v oI2 C oC D oD ys led' m₃ h tk E' hlt ⟨tv, rfl⟩ ⟨a', ta', Ns, rfl, ok3, hys, hNl, hNs⟩ hoC hx F9 N9 - hap
    dsimp only
    refine wpAny_tests_nil ?_
    rw [if_pos rfl]
    dsimp only [LV.led, List.cons_append, List.nil_append] at N9
    repeat' (first | ((with_reducible show wpAny _ _ _ _ _ _); (fail_if_success (with_reducible show wpAny _ _ (call (.ref 225) _) _ _ _)); (first | (k_unfold; (try dsimp only)) | walk1 | (dsimp only; walk1) | (leave1; try dsimp only))) | fail "stop")
    rename Fr _ _ _ _ => F5
    rename News _ _ _ _ => N5
    rename Addr => ll8
    have hst8 : @LT.lt Nat _ st ll8 := by omega
    obtain ⟨vs8, hvs8, N6⟩ : ∃ vs8 : List Value, StrsAre vs8 [Str.ofString "a", Str.ofString "A", Str.ofString "b", Str.ofString "accept", Str.ofString "ACCEPT", Str.ofString "x y", Str.ofString "c-d", Str.ofString "C-d"] ∧ News g L _ ([(ll8, listOf vs8.toArray 0), (I2, oI2), (C, oC), (D, oD), (I, oI)] ++ LV.led w L ⟨st, nb, rl, x, dx, l, sa, oc, so, t1, t2, t3, ta', k, kr, vs, vr, ws, R, ns, a', p7, p0, p8⟩) := ⟨_, .cons _ _ (.cons _ _ (.cons _ _ (.cons _ _ (.cons _ _ (.cons _ _ (.cons _ _ (.cons _ _ .nil))))))), N5⟩
    clear N5
    refine ⟨X'.keeps F5.keep, ?_⟩
    refine next_call (front := [(ll8, listOf vs8.toArray 0), (I2, oI2), (C, oC), (D, oD), (I, oI)]) ⟨st, nb, rl, x, dx, l, sa, oc, so, t1, t2, t3, ta', k, kr, vs, vr, ws, R, ns, a', p7, p0, p8⟩ X T B' F5 N6 ok3 (by omega) ?fr rfl (Nat.le_of_ble_eq_true rfl) (Nat.le_of_ble_eq_true rfl) rfl rfl rfl (by decide) (by decide) fun r' tr' h6 tk6 ta6 r0' r1' F6 N6' ok6 kp6 => ?_
    case fr =>
      have hap' := hap st (.tail _ (.head _))
      simp only [List.forall_mem_cons]
      exact ⟨Nat.ne_of_gt hst8, Ne.symm hap'.1, Ne.symm hap'.2.1, Ne.symm hap'.2.2, hfr _ (.head _), fun _ q => nomatch q⟩
    clear F5 N6
    dsimp only [LV.led, List.cons_append, List.nil_append] at N6'
    dsimp only
    repeat' (first | ((with_reducible show wpAny _ _ _ _ _ _); (first | (k_unfold; (try dsimp only)) | walk1 | (dsimp only; walk1) | (leave1; try dsimp only))) | fail "stop")
    k_unfold
    try dsimp only
    refine ⟨h6, _, _, rfl, F6, fun q hq => N6' q (.tail _ hq), rfl, _, _, Ns ++ [_], rfl, ok6.mono (by push_cast; omega), hys.append' (.cons _ _ .nil), by rw [List.length_append, hNl]; rfl, fun y hy => ?_⟩
    rcases List.mem_append.mp hy with hy | hy
    · exact hNs y hy
    · rw [List.mem_singleton.mp hy, List.getD_eq_getElem?_getD, List.getElem?_eq_getElem (by show r'.toNat < 8; omega)]
      exact menu8 _ (List.getElem_mem _)
  case done =>
    rintro D h' tk' ys led' k' F' N' - l9 ⟨a', ta', Ns, rfl, ok3, hys, hNl, hNs⟩
    refine ret h' tk' _ a' ta' D k' ys Ns F' (fun q hq => ?_) N' (ok3.mono (by omega)) hys (by omega) (by omega) hNs (Nat.ne_of_gt (l9 _ (.tail _ (LV.m_l (v := ⟨st, nb, rl, x, dx, l, sa, oc, so, t1, t2, t3, ta2, k, kr, vs, vr, ws, R, ns, a + 1, p7, p0, p8⟩)))))
    simp only [List.mem_cons, List.not_mem_nil, or_false] at hq
    rcases hq with rfl | rfl | rfl <;> rfl
end
end Mine
end

-- part L4
section
open PySem PySem.W PySem.Calls PyProof.Rows PySem.Spec
set_option maxRecDepth 100000
namespace Mine
theorem menu_len : ∀ y ∈ MENU, y.length ≤ 1000 := by decide +kernel
theorem menu_lower : ∀ y ∈ MENU, (Txt.lower y).length ≤ 1000 ∧ Txt.lower (Txt.lower y) = Txt.lower y := by decide +kernel
theorem RowOk.sh {R : List Str} (h : RowOk R) : ∀ y ∈ R, y.length ≤ 1000 := fun y hy => menu_len y (h.menu y hy)
/-- the small letters of the names -/
def SMALL : List Str := [Str.ofString "a", Str.ofString "b", Str.ofString "accept", Str.ofString "x y", Str.ofString "c-d"]
theorem menu_small : ∀ y ∈ MENU, Txt.lower y ∈ SMALL := by decide +kernel
theorem nodup_len {α : Type} [DecidableEq α] : ∀ {l m : List α}, l.Nodup → (∀ x ∈ l, x ∈ m) → l.length ≤ m.length
  | [], _, _, _ => Nat.zero_le _
  | a :: l, m, hn, h => by
    have ha := h a (.head _)
    have h1 : ∀ x ∈ l, x ∈ m.erase a := fun x hx => (List.mem_erase_of_ne (fun q : x = a => (List.nodup_cons.mp hn).1 (by rw [← q]; exact hx))).mpr (h x (.tail _ hx))
    have := nodup_len (List.nodup_cons.mp hn).2 h1
    rw [List.length_erase_of_mem ha] at this
    have hp := List.length_pos_of_mem ha
    show l.length + 1 ≤ m.length
    omega
theorem RowOk.len {R : List Str} (h : RowOk R) : R.length ≤ 5 := by
  have := nodup_len (m := SMALL) h.dist fun x hx => by
    obtain ⟨y, hy, rfl⟩ := List.mem_map.mp hx
    exact menu_small y (h.menu y hy)
  rwa [List.length_map] at this
section
variable {w : World} {hb : Heap} {p : Program} {loose : List Str} {mean : ExcName → Option Value} {mg mb : Str → Option Value}
  {s : Shared} {Q : Flow → Shared → Prop} {E : Value → Shared → Prop} {g : Heap} {L : Addr} {m : Str → Option Value} {v : LV} {b : Int} {I D : Addr} {oI : Obj} {kD : Nat} {vn : List Value} {Ns : List Str}

set_option maxHeartbeats 8000000 in
theorem turn_deed (X : (hd.heap_39 w.params).In hb) (T : Top p loose mean mg mb hb) (B' : Below (AR 100 100 []) hb [] g) (X' : (hd.heap_39 w.params).In g) (T' : Top p loose mean mg mb g)
    (F : Fr g L s.heap m) (hm : Has m [(Str.ofString "row", .ref v.rl), (Str.ofString "heads", .ref v.x), (Str.ofString "names", .ref D)]) (N : News g L s.heap ((D, listOf vn.toArray kD) :: (I, oI) :: v.led w L)) (hoff : ∀ q ∈ v.led w L, q.1 ≠ I) (ok : v.Ok w b) (hbd : b ≤ 900)
    (hvn : StrsAre vn Ns) (hn0 : 0 < Ns.length) (hn4 : Ns.length ≤ 4) (hNs : ∀ y ∈ Ns, y ∈ MENU)
    (ret : ∀ h' tk m' a' ta' r tr t, 0 ≤ r → r < 4 → Fr g L h' m' → Has m' [(Str.ofString "row", .ref v.rl), (Str.ofString "heads", .ref v.x), (Str.ofString "names", .ref D), (Str.ofString "deed", .int r tr), (Str.ofString "small", .str (Txt.lower (Ns.getD 0 Str.empty)) t)] → News g L h' ((D, listOf vn.toArray kD) :: (I, oI) :: ({ v with a := a', ta := ta' } : LV).led w L) → ({ v with a := a', ta := ta' } : LV).Ok w (b + 1) →
      Q .next { s with heap := h', toks := tk }) :
    wpAny (model PySem.Challenge.rw_fa0002_01.row.prog w) (lawA (lawEnv w.params L)) (exec (lawS w.params 1) (lawEnv w.params L)) Q E s := by
  unfold lawEnv
  conv in (occs := *) lawScope _ => all_goals whnf
  rw [lawS_eq]
  conv in lawT _ _ => whnf
  revert X; k_fill; intro X
  have F1 : Fr g L s.heap (mL _ m) := Fr.as F fun z => congrFun hm.eq z
  clear F
  obtain ⟨st, nb, rl, x, dx, l, sa, oc, so, t1, t2, t3, ta, k, kr, vs, vr, ws, R, ns, a, p7, p0, p8⟩ := v
  have hoc := ok.hoc
  have hD : D ≠ st := ne_led N (.head _) (.tail _ (.tail _ (.head _))) (by
    intro q
    have e : vn = [.ref nb, .int a ta] := by injection q with q1 q2 q3; injection q3 with q4; simpa using q4
    rw [e] at hvn; exact strs_ref hvn)
  have hfr : ∀ q ∈ [(D, listOf vn.toArray kD), (I, oI)], q.1 ≠ st := by
    simp only [List.forall_mem_cons]
    exact ⟨hD, (hoff _ (.head _)).symm, fun _ q => nomatch q⟩
  have hsl : (Ns.getD 0 Str.empty).length ≤ 1000 := by
    rw [List.getD_eq_getElem?_getD, List.getElem?_eq_getElem hn0]; exact menu_len _ (hNs _ (List.getElem_mem _))
  have N1 := N
  dsimp only [LV.led, mL] at N1 F1 hm hoc ret
  try k_fold
  repeat' (first | ((with_reducible show wpAny _ _ _ _ _ _); (fail_if_success (with_reducible show wpAny _ _ (call (.ref 225) _) _ _ _)); (first | (k_unfold; (try dsimp only)) | walk1 | (dsimp only; walk1) | (leave1; try dsimp only))) | fail "stop")
  refine ⟨X'.keeps F1.keep, ?_⟩
  refine next_call (front := [(D, listOf vn.toArray kD), (I, oI)]) ⟨st, nb, rl, x, dx, l, sa, oc, so, t1, t2, t3, ta, k, kr, vs, vr, ws, R, ns, a, p7, p0, p8⟩ X T B' F1 N ok (by omega) hfr rfl (Nat.le_of_ble_eq_true rfl) (Nat.le_of_ble_eq_true rfl) rfl rfl rfl (by decide) (by decide) fun r tr h2 tk2 ta2 r0 r1 F2 N2 ok2 kp2 => ?_
  clear N1 F1
  dsimp only [LV.led, List.cons_append, List.nil_append] at N2 
  dsimp only
  repeat' (first | ((with_reducible show wpAny _ _ _ _ _ _); (first | (k_unfold; (try dsimp only)) | walk1 | (dsimp only; walk1) | (leave1; try dsimp only))) | fail "stop")
  rw [show Int.toNat 0 = 0 from rfl]
  generalize Ns.getD 0 Str.empty = y0 at hsl ret
  dsimp only
  repeat' (first | ((with_reducible show wpAny _ _ _ _ _ _); (first | (k_unfold; (try dsimp only)) | walk1 | (dsimp only; walk1) | (leave1; try dsimp only))) | fail "stop")
  rename Fr _ _ _ _ => F9
  rename News _ _ _ _ => N9
  refine ret _ _ _ (a + 1) ta2 r tr (tk2 + 1) r0 r1 F9 (fun q hq => ?_) (fun q hq => N9 q (.tail _ hq)) ok2
  simp only [List.mem_cons, List.not_mem_nil, or_false] at hq
  rcases hq with rfl | rfl | rfl | rfl | rfl <;> rfl

set_option maxHeartbeats 8000000 in
theorem turn_there {y : Str} {t : Tok} {vd : Value} (X : (hd.heap_39 w.params).In hb) (T : Top p loose mean mg mb hb) (B' : Below (AR 100 100 []) hb [] g) (X' : (hd.heap_39 w.params).In g) (T' : Top p loose mean mg mb g)
    (F : Fr g L s.heap m) (hm : Has m [(Str.ofString "row", .ref v.rl), (Str.ofString "heads", .ref v.x), (Str.ofString "names", .ref D), (Str.ofString "deed", vd), (Str.ofString "small", .str y t)]) (N : News g L s.heap ((D, listOf vn.toArray kD) :: (I, oI) :: v.led w L)) (ok : v.Ok w b)
    (hy : y.length ≤ 1000)
    (ret : ∀ h' tk m' t', Fr g L h' m' → Has m' [(Str.ofString "row", .ref v.rl), (Str.ofString "heads", .ref v.x), (Str.ofString "names", .ref D), (Str.ofString "deed", vd), (Str.ofString "small", .str y t), (Str.ofString "there", .int (place v.R y) t')] → News g L h' ((D, listOf vn.toArray kD) :: (I, oI) :: v.led w L) →
      Q .next { s with heap := h', toks := tk }) :
    wpAny (model PySem.Challenge.rw_fa0002_01.row.prog w) (lawA (lawEnv w.params L)) (exec (lawS w.params 2) (lawEnv w.params L)) Q E s := by
  unfold lawEnv
  conv in (occs := *) lawScope _ => all_goals whnf
  rw [lawS_eq]
  conv in lawT _ _ => whnf
  revert X; k_fill; intro X
  have F1 : Fr g L s.heap (mL _ m) := Fr.as F fun z => congrFun hm.eq z
  clear F
  obtain ⟨st, nb, rl, x, dx, l, sa, oc, so, t1, t2, t3, ta, k, kr, vs, vr, ws, R, ns, a, p7, p0, p8⟩ := v
  have N1 := N
  dsimp only [LV.led, mL] at N1 F1 hm ret
  try k_fold
  repeat' (first | ((with_reducible show wpAny _ _ _ _ _ _); (fail_if_success (with_reducible show wpAny _ _ (call (.ref 235) _) _ _ _)); (first | (k_unfold; (try dsimp only)) | walk1 | (dsimp only; walk1) | (leave1; try dsimp only))) | fail "stop")
  refine ⟨X'.keeps F1.keep, ?_⟩
  refine ar_raise (D := 600) (U := 600) rfl (Nat.le_of_ble_eq_true rfl) (Nat.le_of_ble_eq_true rfl) rfl ?_
  refine place_spec X T (Cx.sub (cx_ofE rfl rfl B' F1 N1) fun a ha => nomatch ha) (N1 (rl, _) (by k_mem)).1 ok.hvr (Nat.le_trans ok.row.len (by decide)) ok.row.dist ok.row.sh hy fun t' h2 tk2 kp => ?_
  have F2 : Fr g L h2 _ := F1.keeps kp.all
  have N2 : News g L h2 _ := N1.grown kp.all
  clear N1 F1
  dsimp only at F2 N2 ⊢
  repeat' (first | ((with_reducible show wpAny _ _ _ _ _ _); (first | (k_unfold; (try dsimp only)) | walk1 | (dsimp only; walk1) | (leave1; try dsimp only))) | fail "stop")
  rename Fr _ _ _ _ => F9
  rename News _ _ _ _ => N9
  refine ret _ _ _ t' F9 (fun q hq => ?_) N9
  simp only [List.mem_cons, List.not_mem_nil, or_false] at hq
  rcases hq with rfl | rfl | rfl | rfl | rfl | rfl <;> rfl
end
end Mine
end

-- part L5
section
open PySem PySem.W PySem.Calls PyProof.Rows PySem.Spec
set_option maxRecDepth 100000
namespace Mine
theorem eraseIdx_nodup {α : Type} {l : List α} (h : l.Nodup) (i : Nat) : (l.eraseIdx i).Nodup := List.Nodup.sublist (List.eraseIdx_sublist l i) h
theorem cut_row {R : List Str} {y : Str} (h : RowOk R) : RowOk (cut R y) := by
  unfold cut
  split
  · rename_i i _
    refine ⟨fun z hz => h.menu z (List.mem_of_mem_eraseIdx hz), ?_⟩
    rw [map_eraseIdx]
    exact eraseIdx_nodup h.dist i
  · exact h
theorem put1_row {R : List Str} {y : Str} (h : RowOk R) (hy : y ∈ MENU) : RowOk (put1 R y) := ⟨put1_sh h.menu hy, put1_dist h.dist⟩
theorem putAll_row {R N : List Str} (h : RowOk R) (hN : ∀ y ∈ N, y ∈ MENU) : RowOk (putAll R N) := ⟨putAll_sh h.menu hN, putAll_dist h.dist⟩
section
variable {w : World} {g h h' : Heap} {L : Addr} {m : Str → Option Value} {led front : List (Addr × Obj)} {v : LV} {b : Int}
theorem LV.hs (ok : v.Ok w b) (N : News g L h (front ++ v.led w L)) : HS w h v.x v.dx v.l v.sa v.t1 v.t2 v.t3 v.k v.vs v.R v.so :=
  have N : News g L h (v.led w L) := News.sub N fun p hp => List.mem_append_right _ hp
  ⟨(N _ (.tail _ (.tail _ (.tail _ (.tail _ (.head _)))))).1, (N _ (.tail _ (.tail _ (.tail _ (.tail _ (.tail _ (.head _))))))).1, (N _ (.tail _ (.tail _ (.tail _ (.tail _ (.tail _ (.tail _ (.head _)))))))).1, (N _ (.tail _ (.tail _ (.tail _ (.tail _ (.tail _ (.tail _ (.tail _ (.head _))))))))).1,
    ok.hvs, ok.ss, ok.row.dist, ok.row.sh, Nat.le_trans ok.row.len (by decide), ok.sp⟩
abbrev LV.hw (v : LV) : List Addr := [v.x, v.dx, v.l, v.sa]
theorem LV.hw_in : ∀ a ∈ v.hw, a ∈ (front ++ v.led w L).map (·.1) := fun a ha => by
  rw [List.map_append]
  refine List.mem_append_right _ ?_
  simp only [LV.led, List.map_cons, List.map_nil, List.mem_cons, List.not_mem_nil, or_false] at ha ⊢
  rcases ha with rfl | rfl | rfl | rfl <;> simp
theorem LV.heads_after {k' : Nat} {vs' : List Value} {so' : Obj} {R' : List Str} (Ap : v.Apart L) (N : News g L h (front ++ v.led w L)) (hfront : ∀ q ∈ front, q.1 ∉ v.hw) (kp : Kp v.hw h h') (H' : HS w h' v.x v.dx v.l v.sa v.t1 v.t2 v.t3 k' vs' R' so') :
    News g L h' (front ++ ({ v with k := k', vs := vs', so := so' } : LV).led w L) := fun q hq => by
  have old : ∀ a o, (a, o) ∈ front ++ v.led w L → a ∉ v.hw → h'.get? a = some o ∧ a ≠ L ∧ g.get? a = none := fun a o hm n => ⟨kp _ _ (N (a, o) hm).1 n, (N (a, o) hm).2⟩
  have new : ∀ a, a ∈ v.hw → a ≠ L ∧ g.get? a = none := fun a ha => by
    obtain ⟨p, hp, e⟩ := List.mem_map.mp (LV.hw_in (w := w) (L := L) (front := front) a ha)
    rw [← e]; exact (N p hp).2
  have hs := Ap.hs
  simp only [List.forall_mem_cons] at hs
  rcases List.mem_append.mp hq with hq | hq
  · exact old _ _ (List.mem_append_left _ hq) (hfront q hq)
  · simp only [LV.led, List.mem_cons, List.not_mem_nil, or_false] at hq
    rcases hq with rfl | rfl | rfl | rfl | rfl | rfl | rfl | rfl | rfl | rfl | rfl
    · exact old _ _ (List.mem_append_right _ (by simp [LV.led])) hs.1
    · exact old _ _ (List.mem_append_right _ (by simp [LV.led])) hs.2.1
    · exact old _ _ (List.mem_append_right _ (by simp [LV.led])) hs.2.2.1
    · exact old _ _ (List.mem_append_right _ (by simp [LV.led])) hs.2.2.2.1
    · exact ⟨H'.hx, new _ (by simp)⟩
    · exact ⟨H'.hd, new _ (by simp)⟩
    · exact ⟨H'.hl, new _ (by simp)⟩
    · exact ⟨H'.hs, new _ (by simp)⟩
    · exact old _ _ (List.mem_append_right _ (by simp [LV.led])) hs.2.2.2.2.1
    · exact old _ _ (List.mem_append_right _ (by simp [LV.led])) hs.2.2.2.2.2.1
    · exact old _ _ (List.mem_append_right _ (by simp [LV.led])) hs.2.2.2.2.2.2.1
theorem fr_backS {W : List Addr} (F : Fr g L h m) (N : News g L h led) (k : KpS [L] W h h') (hW : ∀ a ∈ W, a ∈ led.map (·.1)) : Fr g L h' m := by
  have nW : ∀ b o, g.get? b = some o → b ∉ W := fun b o e q => by
    obtain ⟨p, hp, rfl⟩ := List.mem_map.mp (hW b q)
    rw [(N p hp).2.2] at e; cases e
  have hgL : g.get? L = none := Heap.get?_none_of_le F.above
  obtain ⟨o, es, ep, e, hd, r⟩ := F.ns
  obtain ⟨sl, e', -⟩ := k L o e fun q => by
    obtain ⟨p, hp, e'⟩ := List.mem_map.mp (hW L q)
    exact (N p hp).2.1 e'
  refine ⟨⟨_, es, ep, e', hd, r⟩, fun b o e => ?_, F.above⟩
  have hbL : b ≠ L := fun q => by rw [q, hgL] at e; cases e
  exact k.off b o (F.keep b o e) fun q => by
    rcases List.mem_append.mp q with q | q
    · exact hbL (List.mem_singleton.mp q)
    · exact nW b o e q
theorem news_backS {W : List Addr} {led' : List (Addr × Obj)} (N : News g L h led) (k : KpS [L] W h h') (e : ∀ p ∈ led', (p ∈ led ∧ p.1 ∉ W) ∨ (p.1 ∈ led.map (·.1) ∧ h'.get? p.1 = some p.2)) : News g L h' led' := fun p hp => by
  rcases e p hp with ⟨x, y⟩ | ⟨x, y⟩
  · exact ⟨k.off _ _ (N p x).1 fun q => by
      rcases List.mem_append.mp q with q | q
      · exact (N p x).2.1 (List.mem_singleton.mp q)
      · exact y q, (N p x).2⟩
  · obtain ⟨q, hq, e'⟩ := List.mem_map.mp x
    exact ⟨y, e' ▸ (N q hq).2⟩
theorem LV.heads_afterS {k' : Nat} {vs' : List Value} {so' : Obj} {R' : List Str} (Ap : v.Apart L) (N : News g L h (front ++ v.led w L)) (hfront : ∀ q ∈ front, q.1 ∉ v.hw) (kp : KpS [L] v.hw h h') (H' : HS w h' v.x v.dx v.l v.sa v.t1 v.t2 v.t3 k' vs' R' so') :
    News g L h' (front ++ ({ v with k := k', vs := vs', so := so' } : LV).led w L) := by
  refine news_backS N kp fun q hq => ?_
  have hs := Ap.hs
  simp only [List.forall_mem_cons] at hs
  have new : ∀ a, a ∈ v.hw → a ∈ (front ++ v.led w L).map (·.1) := fun a ha => LV.hw_in a ha
  rcases List.mem_append.mp hq with hq | hq
  · exact .inl ⟨List.mem_append_left _ hq, hfront q hq⟩
  · simp only [LV.led, List.mem_cons, List.not_mem_nil, or_false] at hq
    rcases hq with rfl | rfl | rfl | rfl | rfl | rfl | rfl | rfl | rfl | rfl | rfl
    · exact .inl ⟨List.mem_append_right _ (by simp [LV.led]), hs.1⟩
    · exact .inl ⟨List.mem_append_right _ (by simp [LV.led]), hs.2.1⟩
    · exact .inl ⟨List.mem_append_right _ (by simp [LV.led]), hs.2.2.1⟩
    · exact .inl ⟨List.mem_append_right _ (by simp [LV.led]), hs.2.2.2.1⟩
    · exact .inr ⟨new _ (by simp), H'.hx⟩
    · exact .inr ⟨new _ (by simp), H'.hd⟩
    · exact .inr ⟨new _ (by simp), H'.hl⟩
    · exact .inr ⟨new _ (by simp), H'.hs⟩
    · exact .inl ⟨List.mem_append_right _ (by simp [LV.led]), hs.2.2.2.2.1⟩
    · exact .inl ⟨List.mem_append_right _ (by simp [LV.led]), hs.2.2.2.2.2.1⟩
    · exact .inl ⟨List.mem_append_right _ (by simp [LV.led]), hs.2.2.2.2.2.2.1⟩
theorem dicts1 (F : Fr g L h m) : KtsDicts [L] h := fun b hb => by
  rw [List.mem_singleton.mp hb]
  obtain ⟨o, es, ep, e, d, _⟩ := F.ns
  exact ⟨o, es, ep, e, d⟩
theorem LV.row_after {r : Addr} {kr' : Nat} {vr' : List Value} (F : Fr g L h m) (N : News g L h (front ++ v.led w L)) (kp : Kp [] h h') (e : h'.get? r = some (listOf vr'.toArray kr')) (hr : r = v.rl ∨ h.get? r = none) :
    News g L h' (front ++ ({ v with rl := r, kr := kr', vr := vr' } : LV).led w L) := fun q hq => by
  have old : ∀ a o, (a, o) ∈ front ++ v.led w L → h'.get? a = some o ∧ a ≠ L ∧ g.get? a = none := fun a o hm => ⟨kp.all _ _ (N (a, o) hm).1, (N (a, o) hm).2⟩
  rcases List.mem_append.mp hq with hq | hq
  · exact old _ _ (List.mem_append_left _ hq)
  · simp only [LV.led, List.mem_cons, List.not_mem_nil, or_false] at hq
    rcases hq with rfl | rfl | rfl | rfl | rfl | rfl | rfl | rfl | rfl | rfl | rfl
    · exact old _ _ (List.mem_append_right _ (by simp [LV.led]))
    · exact old _ _ (List.mem_append_right _ (by simp [LV.led]))
    · exact old _ _ (List.mem_append_right _ (by simp [LV.led]))
    · refine ⟨e, ?_⟩
      rcases hr with rfl | hr
      · exact (old _ _ (List.mem_append_right _ (by simp only [LV.led]; exact .tail _ (.tail _ (.tail _ (.head _)))))).2
      · refine ⟨fun q => ?_, ?_⟩
        · obtain ⟨o, _, _, e1, _⟩ := F.ns
          have q : r = L := q
          rw [q, e1] at hr; cases hr
        · cases q : g.get? r with
          | none => rfl
          | some o => rw [F.keep _ _ q] at hr; cases hr
    · exact old _ _ (List.mem_append_right _ (by simp [LV.led]))
    · exact old _ _ (List.mem_append_right _ (by simp [LV.led]))
    · exact old _ _ (List.mem_append_right _ (by simp [LV.led]))
    · exact old _ _ (List.mem_append_right _ (by simp [LV.led]))
    · exact old _ _ (List.mem_append_right _ (by simp [LV.led]))
    · exact old _ _ (List.mem_append_right _ (by simp [LV.led]))
    · exact old _ _ (List.mem_append_right _ (by simp [LV.led]))
theorem LV.Ok.step {r : Addr} {k' kr' : Nat} {vs' vr' : List Value} {so' : Obj} {R' : List Str} (ok : v.Ok w b) (H' : HS w h' v.x v.dx v.l v.sa v.t1 v.t2 v.t3 k' vs' R' so') (hvr' : StrsAre vr' R') (row : RowOk R') (lr : v.l ≠ r) :
    ({ v with k := k', vs := vs', so := so', rl := r, kr := kr', vr := vr', R := R' } : LV).Ok w b :=
  ⟨ok.hoc, ok.hws, ok.hn0, ok.hn1, ok.hns, ok.a0, ok.a1, hvr', H'.si, H'.ss, H'.sp, row, ok.t7, ok.t0, ok.t8, lr⟩
theorem LV.off_step {I r : Addr} {k' kr' : Nat} {vs' vr' : List Value} {so' : Obj} {R' : List Str} (hoff : ∀ q ∈ v.led w L, q.1 ≠ I) (hr : r ≠ I) : ∀ q ∈ ({ v with k := k', vs := vs', so := so', rl := r, kr := kr', vr := vr', R := R' } : LV).led w L, q.1 ≠ I := by
  simp only [LV.led, List.forall_mem_cons] at hoff ⊢
  exact ⟨hoff.1, hoff.2.1, hoff.2.2.1, hr, hoff.2.2.2.2⟩
theorem ne_fresh {r a : Addr} {o : Obj} (e : h.get? a = some o) (hr : r = v.rl ∨ h.get? r = none) (n : a ≠ v.rl) : a ≠ r := by
  rcases hr with rfl | hr
  · exact n
  · exact fun q => by rw [q, hr] at e; cases e
end
end Mine
end

-- part L6
section
open PySem PySem.W PySem.Calls PyProof.Rows PySem.Spec
set_option maxRecDepth 100000
namespace Mine
theorem place_cut {R : List Str} {y : Str} (h : 0 ≤ place R y) : ∃ i : Nat, place R y = (i : Int) ∧ i < R.length ∧ cut R y = R.take i ++ R.drop (i + 1) := by
  unfold place cut at *
  cases e : (R.map Txt.lower).findIdx? (· == Txt.lower y) with
  | none => rw [e] at h; exact absurd h (by decide)
  | some i =>
    refine ⟨i, rfl, ?_, ?_⟩
    · have := (List.findIdx?_eq_some_iff_getElem.mp e).1
      rwa [List.length_map] at this
    · exact List.eraseIdx_eq_take_drop_succ ..
theorem place_not {R : List Str} {y : Str} (h : ¬ 0 ≤ place R y) : cut R y = R := by
  unfold place cut at *
  cases e : (R.map Txt.lower).findIdx? (· == Txt.lower y) with
  | none => rfl
  | some i => rw [e] at h; exact absurd (Int.natCast_nonneg i) h
theorem place_in {R : List Str} {y : Str} (h : Txt.lower y = y) : decide (y ∈ R.map Txt.lower) = decide (0 ≤ place R y) := by
  have h1 := place_neg (R := R) (y := y)
  rw [h] at h1
  rcases place_nn (R := R) (y := y) with q | q
  · rw [decide_eq_false (h1.mp q), decide_eq_false (by omega)]
  · rw [decide_eq_true q, decide_eq_true (Decidable.byContradiction fun z => by have := h1.mpr z; omega)]
theorem strs_take : ∀ {vs : List Value} {R : List Str}, StrsAre vs R → ∀ n, StrsAre (vs.take n) (R.take n)
  | _, _, _, 0 => by simp only [List.take_zero]; exact .nil
  | _, _, .nil, n + 1 => .nil
  | _, _, .cons y t h, n + 1 => .cons y t (strs_take h n)
theorem strs_drop : ∀ {vs : List Value} {R : List Str}, StrsAre vs R → ∀ n, StrsAre (vs.drop n) (R.drop n)
  | _, _, h, 0 => h
  | _, _, .nil, n + 1 => .nil
  | _, _, .cons y t h, n + 1 => strs_drop h n
section
variable {w : World} {hb : Heap} {p : Program} {loose : List Str} {mean : ExcName → Option Value} {mg mb : Str → Option Value}
  {s : Shared} {Q : Flow → Shared → Prop} {E : Value → Shared → Prop} {g : Heap} {L : Addr} {m : Str → Option Value} {v : LV} {b : Int} {I D : Addr} {oI : Obj} {kD : Nat} {vn : List Value} {Ns : List Str}

set_option maxHeartbeats 8000000 in
theorem turn_do {y : Str} {t t' : Tok} {r : Int} {tr : Tok} (X : (hd.heap_39 w.params).In hb) (T : Top p loose mean mg mb hb) (B' : Below (AR 100 100 []) hb [] g) (X' : (hd.heap_39 w.params).In g) (T' : Top p loose mean mg mb g)
    (F : Fr g L s.heap m) (hm : Has m [(Str.ofString "row", .ref v.rl), (Str.ofString "heads", .ref v.x), (Str.ofString "names", .ref D), (Str.ofString "deed", .int r tr), (Str.ofString "small", .str y t), (Str.ofString "there", .int (place v.R y) t')]) (N : News g L s.heap ((D, listOf vn.toArray kD) :: (I, oI) :: v.led w L)) (hoff : ∀ q ∈ v.led w L, q.1 ≠ I) (hDl : D ≠ v.l) (ok : v.Ok w b) (r0 : 0 ≤ r) (r4 : r < 4)
    (hvn : StrsAre vn Ns) (hn0 : 0 < Ns.length) (hn4 : Ns.length ≤ 4) (hNs : ∀ y ∈ Ns, y ∈ MENU) (hy : y = Txt.lower (Ns.getD 0 Str.empty))
    (ret : ∀ h' tk m' (v' : LV), Fr g L h' m' → Has m' [(Str.ofString "row", .ref v'.rl), (Str.ofString "heads", .ref v'.x), (Str.ofString "names", .ref D)] → News g L h' ((D, listOf vn.toArray kD) :: (I, oI) :: v'.led w L) → v'.Ok w b → (∀ q ∈ v'.led w L, q.1 ≠ I) →
      Q .next { s with heap := h', toks := tk }) :
    wpAny (model PySem.Challenge.rw_fa0002_01.row.prog w) (lawA (lawEnv w.params L)) (exec (lawS w.params 3) (lawEnv w.params L)) Q E s := by
  unfold lawEnv
  conv in (occs := *) lawScope _ => all_goals whnf
  rw [lawS_eq]
  conv in lawT _ _ => whnf
  revert X; k_fill; intro X
  have F1 : Fr g L s.heap (mL _ m) := Fr.as F fun z => congrFun hm.eq z
  clear F
  have Ap := ok.apart N fun p hp => .tail _ (.tail _ hp)
  obtain ⟨st, nb, rl, x, dx, l, sa, oc, so, t1, t2, t3, ta, k, kr, vs, vr, ws, R, ns, a, p7, p0, p8⟩ := v
  have N1 := N
  dsimp only [LV.led, mL] at N1 F1 hm hDl ret
  have hDx : D ∉ [x, dx, l, sa] := by
    have cso : so.cls = .type "set" := ok.ss.1.1
    simp only [List.mem_cons, List.not_mem_nil, or_false, not_or]
    exact ⟨ne_led N1 (.head _) (by k_mem : (x, instObj 181 dx) ∈ _) (fun q => by injection q with q1; cases q1), ne_led N1 (.head _) (by k_mem : (dx, hsD w.params t1 t2 t3 l sa) ∈ _) (fun q => by injection q with q1; exact str_ty (by decide) q1), hDl, ne_led N1 (.head _) (by k_mem : (sa, so) ∈ _) (fun q => by rw [← q] at cso; exact str_ty (by decide) cso)⟩
  have hIx : I ∉ [x, dx, l, sa] := by
    simp only [LV.led, List.forall_mem_cons] at hoff
    simp only [List.mem_cons, List.not_mem_nil, or_false, not_or]
    exact ⟨Ne.symm hoff.2.2.2.2.1, Ne.symm hoff.2.2.2.2.2.1, Ne.symm hoff.2.2.2.2.2.2.1, Ne.symm hoff.2.2.2.2.2.2.2.1⟩
  have hfx : ∀ q ∈ [(D, listOf vn.toArray kD), (I, oI)], q.1 ∉ [x, dx, l, sa] := by
    simp only [List.forall_mem_cons]
    exact ⟨hDx, hIx, fun _ q => nomatch q⟩
  have hy0 : Ns.getD 0 Str.empty ∈ MENU := by
    rw [List.getD_eq_getElem?_getD, List.getElem?_eq_getElem hn0]; exact hNs _ (List.getElem_mem _)
  have hyl : y.length ≤ 1000 := hy ▸ (menu_lower _ hy0).1
  have hlow : Txt.lower y = y := by rw [hy]; exact (menu_lower _ hy0).2
  have hR5 := ok.row.len
  dsimp only at hR5
  have N0 : News g L s.heap ([(D, listOf vn.toArray kD), (I, oI)] ++ LV.led w L ⟨st, nb, rl, x, dx, l, sa, oc, so, t1, t2, t3, ta, k, kr, vs, vr, ws, R, ns, a, p7, p0, p8⟩) := N
  have hwin : ∀ q ∈ [x, dx, l, sa], q ∈ List.map (fun q : Addr × Obj => q.1) ([(D, listOf vn.toArray kD), (I, oI)] ++ LV.led w L ⟨st, nb, rl, x, dx, l, sa, oc, so, t1, t2, t3, ta, k, kr, vs, vr, ws, R, ns, a, p7, p0, p8⟩) := LV.hw_in (v := ⟨st, nb, rl, x, dx, l, sa, oc, so, t1, t2, t3, ta, k, kr, vs, vr, ws, R, ns, a, p7, p0, p8⟩)
  have H := LV.hs ok N0
  dsimp only at H
  try k_fold
  repeat' (first | ((with_reducible show wpAny _ _ _ _ _ _); (first | (k_unfold; (try dsimp only)) | walk1 | (dsimp only; walk1) | (leave1; try dsimp only))) | fail "stop")
  by_cases hr0 : r = 0
  · rw [if_pos (by rw [hr0]; rfl)]
    repeat' (first | ((with_reducible show wpAny _ _ _ _ _ _); (fail_if_success (with_reducible show wpAny _ _ (call (.ref 58) _) _ _ _)); (first | (k_unfold; (try dsimp only)) | walk1 | (dsimp only; walk1) | (leave1; try dsimp only))) | fail "stop")
    refine ⟨X'.keeps F1.keep, ?_⟩
    refine ar_raise (D := 400) (U := 400) rfl (Nat.le_of_ble_eq_true rfl) (Nat.le_of_ble_eq_true rfl) rfl ?_
    refine add_spec X T H (Cx.sub (cx_ofE rfl rfl B' F1 N0) hwin) (menu_len _ hy0) (by omega) fun h2 tk2 k' vs' so' H' kp => ?_
    have F2 := fr_back F1 N0 kp hwin
    have N2 := LV.heads_after Ap N0 hfx kp H'
    clear N1 F1
    dsimp only [LV.led, List.cons_append, List.nil_append] at N2 
    dsimp only
    repeat' (first | ((with_reducible show wpAny _ _ _ _ _ _); (fail_if_success (with_reducible show wpAny _ _ (call (.ref 242) _) _ _ _)); (first | (k_unfold; (try dsimp only)) | walk1 | (dsimp only; walk1) | (leave1; try dsimp only))) | fail "stop")
    rename Fr _ _ _ _ => F3
    rename News _ _ _ _ => N3
    rename StrsAre vn Ns => hvn
    obtain ⟨vt, hvt, N4⟩ : ∃ vt : List Value, StrsAre vt (Ns.take 1) ∧ News g L _ ([(_, listOf vt.toArray 0), (D, listOf vn.toArray kD), (I, oI)] ++ LV.led w L ⟨st, nb, rl, x, dx, l, sa, oc, so', t1, t2, t3, ta, k', kr, vs', vr, ws, R, ns, a, p7, p0, p8⟩) := by
      have e1 : slicePick vn.toArray none (some 1) none = (vn.take 1).toArray := slicePick_upto' vn.toArray 1
      rw [e1] at N3
      exact ⟨_, strs_take hvn 1, N3⟩
    clear N3
    refine ⟨X'.keeps F3.keep, ?_⟩
    refine ar_raise (D := 550) (U := 550) rfl (Nat.le_of_ble_eq_true rfl) (Nat.le_of_ble_eq_true rfl) rfl ?_
    refine put_spec X T (Cx.sub (cx_ofE rfl rfl B' F3 N4) fun a ha => nomatch ha) (N4 _ (List.mem_append_right _ (LV.m_rl (v := ⟨st, nb, rl, x, dx, l, sa, oc, so', t1, t2, t3, ta, k', kr, vs', vr, ws, R, ns, a, p7, p0, p8⟩)))).1 ok.hvr (N4 _ (.head _)).1 hvt (by rw [List.length_take]; dsimp only; omega) ok.row.dist ok.row.sh (fun y hy => menu_len _ (hNs y (List.mem_of_mem_take hy))) fun rr vr' kr' h4 tk4 e4 hvr' kp4 hrr => ?_
    have F5 : Fr g L h4 _ := F3.keeps kp4.all
    have N5 := LV.row_after (front := [(_, listOf vt.toArray 0), (D, listOf vn.toArray kD), (I, oI)]) F3 N4 kp4 e4 hrr
    have hlr : l ≠ rr := ne_fresh (v := ⟨st, nb, rl, x, dx, l, sa, oc, so', t1, t2, t3, ta, k', kr, vs', vr, ws, R, ns, a, p7, p0, p8⟩) (N4 _ (List.mem_append_right _ (LV.m_l (v := ⟨st, nb, rl, x, dx, l, sa, oc, so', t1, t2, t3, ta, k', kr, vs', vr, ws, R, ns, a, p7, p0, p8⟩)))).1 hrr ok.lr
    have hIr : I ≠ rr := ne_fresh (v := ⟨st, nb, rl, x, dx, l, sa, oc, so', t1, t2, t3, ta, k', kr, vs', vr, ws, R, ns, a, p7, p0, p8⟩) (N4 (I, oI) (.tail _ (.tail _ (.head _)))).1 hrr (Ne.symm (hoff _ (LV.m_rl (v := ⟨st, nb, rl, x, dx, l, sa, oc, so, t1, t2, t3, ta, k, kr, vs, vr, ws, R, ns, a, p7, p0, p8⟩))))
    clear F3 N4
    dsimp only [LV.led, List.cons_append, List.nil_append] at N5
    dsimp only
    repeat' (first | ((with_reducible show wpAny _ _ _ _ _ _); (first | (k_unfold; (try dsimp only)) | walk1 | (dsimp only; walk1) | (leave1; try dsimp only))) | fail "stop")
    have hRR : putAll R (Ns.take 1) = put1 R (Ns.getD (Int.toNat 0) Str.empty) := by
      cases Ns with
      | nil => exact absurd hn0 (Nat.lt_irrefl _)
      | cons a r => rfl
    rename Fr _ _ _ _ => F9
    rename News _ _ _ _ => N9
    refine ret _ _ _ ⟨st, nb, rr, x, dx, l, sa, oc, so', t1, t2, t3, ta, k', kr', vs', vr', ws, put1 R (Ns.getD (Int.toNat 0) Str.empty), ns, a, p7, p0, p8⟩ F9 (fun q hq => ?_) (fun q hq => N9 q (.tail _ hq)) (ok.step H' (hRR ▸ hvr') (put1_row ok.row hy0) hlr) (LV.off_step hoff (Ne.symm hIr))
    simp only [List.mem_cons, List.not_mem_nil, or_false] at hq
    rcases hq with rfl | rfl | rfl <;> rfl
  · rw [if_neg (by simpa using hr0)]
    repeat' (first | ((with_reducible show wpAny _ _ _ _ _ _); (first | (k_unfold; (try dsimp only)) | walk1 | (dsimp only; walk1) | (leave1; try dsimp only))) | fail "stop")
    by_cases hr1 : r = 1
    · rw [if_pos (by rw [hr1]; rfl)]
      repeat' (first | ((with_reducible show wpAny _ _ _ _ _ _); (fail_if_success (with_reducible show wpAny _ _ (call (.ref 72) _) _ _ _)); (first | (k_unfold; (try dsimp only)) | walk1 | (dsimp only; walk1) | (leave1; try dsimp only))) | fail "stop")
      refine ⟨X'.keeps F1.keep, ?_⟩
      refine ar_raise (D := 500) (U := 500) rfl (Nat.le_of_ble_eq_true rfl) (Nat.le_of_ble_eq_true rfl) rfl ?_
      refine update_spec X T H (Cx.sub (cx_ofE rfl rfl B' F1 N0) hwin) (.inl (news_list N0 (.head _))) hvn hDl (fun y hy => menu_len _ (hNs y hy)) (by omega) fun h2 tk2 k' vs' so' H' kp => ?_
      have F2 := fr_back F1 N0 kp hwin
      have N2 := LV.heads_after Ap N0 hfx kp H'
      clear N1 F1
      dsimp only [LV.led, List.cons_append, List.nil_append] at N2
      dsimp only
      repeat' (first | ((with_reducible show wpAny _ _ _ _ _ _); (fail_if_success (with_reducible show wpAny _ _ (call (.ref 242) _) _ _ _)); (first | (k_unfold; (try dsimp only)) | walk1 | (dsimp only; walk1) | (leave1; try dsimp only))) | fail "stop")
      rename Fr _ _ _ _ => F3
      rename News _ _ _ _ => N3
      have N4 : News g L _ ([(D, listOf vn.toArray kD), (I, oI)] ++ LV.led w L ⟨st, nb, rl, x, dx, l, sa, oc, so', t1, t2, t3, ta, k', kr, vs', vr, ws, R, ns, a, p7, p0, p8⟩) := N3
      clear N3
      refine ⟨X'.keeps F3.keep, ?_⟩
      refine ar_raise (D := 550) (U := 550) rfl (Nat.le_of_ble_eq_true rfl) (Nat.le_of_ble_eq_true rfl) rfl ?_
      refine put_spec X T (Cx.sub (cx_ofE rfl rfl B' F3 N4) fun a ha => nomatch ha) (N4 _ (List.mem_append_right _ (LV.m_rl (v := ⟨st, nb, rl, x, dx, l, sa, oc, so', t1, t2, t3, ta, k', kr, vs', vr, ws, R, ns, a, p7, p0, p8⟩)))).1 ok.hvr (N4 _ (.head _)).1 hvn (by dsimp only; omega) ok.row.dist ok.row.sh (fun y hy => menu_len _ (hNs y hy)) fun rr vr' kr' h4 tk4 e4 hvr' kp4 hrr => ?_
      have F5 : Fr g L h4 _ := F3.keeps kp4.all
      have N5 := LV.row_after (front := [(D, listOf vn.toArray kD), (I, oI)]) F3 N4 kp4 e4 hrr
      have hlr : l ≠ rr := ne_fresh (v := ⟨st, nb, rl, x, dx, l, sa, oc, so', t1, t2, t3, ta, k', kr, vs', vr, ws, R, ns, a, p7, p0, p8⟩) (N4 _ (List.mem_append_right _ (LV.m_l (v := ⟨st, nb, rl, x, dx, l, sa, oc, so', t1, t2, t3, ta, k', kr, vs', vr, ws, R, ns, a, p7, p0, p8⟩)))).1 hrr ok.lr
      have hIr : I ≠ rr := ne_fresh (v := ⟨st, nb, rl, x, dx, l, sa, oc, so', t1, t2, t3, ta, k', kr, vs', vr, ws, R, ns, a, p7, p0, p8⟩) (N4 (I, oI) (.tail _ (.head _))).1 hrr (Ne.symm (hoff _ (LV.m_rl (v := ⟨st, nb, rl, x, dx, l, sa, oc, so, t1, t2, t3, ta, k, kr, vs, vr, ws, R, ns, a, p7, p0, p8⟩))))
      clear F3 N4
      dsimp only [LV.led, List.cons_append, List.nil_append] at N5
      dsimp only
      repeat' (first | ((with_reducible show wpAny _ _ _ _ _ _); (first | (k_unfold; (try dsimp only)) | walk1 | (dsimp only; walk1) | (leave1; try dsimp only))) | fail "stop")
      rename Fr _ _ _ _ => F9
      rename News _ _ _ _ => N9
      refine ret _ _ _ ⟨st, nb, rr, x, dx, l, sa, oc, so', t1, t2, t3, ta, k', kr', vs', vr', ws, putAll R Ns, ns, a, p7, p0, p8⟩ F9 (fun q hq => ?_) (N9) (ok.step H' (hvr') (putAll_row ok.row hNs) hlr) (LV.off_step hoff (Ne.symm hIr))
      simp only [List.mem_cons, List.not_mem_nil, or_false] at hq
      rcases hq with rfl | rfl | rfl <;> rfl
    · rw [if_neg (by simpa using hr1)]
      repeat' (first | ((with_reducible show wpAny _ _ _ _ _ _); (first | (k_unfold; (try dsimp only)) | walk1 | (dsimp only; walk1) | (leave1; try dsimp only))) | fail "stop")
      by_cases hr2 : r = 2
      · rw [if_pos (by rw [hr2]; rfl)]
        repeat' (first | ((with_reducible show wpAny _ _ _ _ _ _); (fail_if_success (with_reducible show wpAny _ _ (call (.ref 79) _) _ _ _)); (first | (k_unfold; (try dsimp only)) | walk1 | (dsimp only; walk1) | (leave1; try dsimp only))) | fail "stop")
        refine ⟨X'.keeps F1.keep, ?_⟩
        refine ar_raise (D := 300) (U := 300) rfl (Nat.le_of_ble_eq_true rfl) (Nat.le_of_ble_eq_true rfl) rfl ?_
        refine discard_spec X T H (Cx.sub (cx_ofE rfl rfl B' F1 N0) hwin) (dicts1 F1) hyl hlow fun h2 tk2 k' vs' so' H' kp => ?_
        have F2 : Fr g L h2 _ := fr_backS F1 N0 kp hwin
        have N2 := LV.heads_afterS Ap N0 hfx kp H'
        clear N1 F1
        dsimp only [LV.led, List.cons_append, List.nil_append] at N2
        dsimp only
        repeat' (first | ((with_reducible show wpAny _ _ _ _ _ _); (first | (k_unfold; (try dsimp only)) | walk1 | (dsimp only; walk1) | (leave1; try dsimp only))) | fail "stop")
        by_cases hp : 0 ≤ place R y
        · obtain ⟨i, hpi, hiR, hcut⟩ := place_cut hp
          generalize place R y = pq at F2 hp hpi ⊢
          have pq5 : pq < 5 := by omega
          have hvr : StrsAre vr R := ok.hvr
          have hvl : vr.length = R.length := hvr.len_eq
          rw [if_pos (by simpa using hp)]
          repeat' (first | ((with_reducible show wpAny _ _ _ _ _ _); (fail_if_success (with_reducible show wpAny _ _ (subscriptTail _ _ _ _) _ _ _)); (first | (k_unfold; (try dsimp only)) | walk1 | (dsimp only; walk1) | (leave1; try dsimp only))) | fail "stop")
          rename Fr _ _ _ _ => F9
          rename News _ _ _ _ => N9
          refine kmk_slice (s := ⟨_, _, _, _, _⟩) F9 N9 (news_list N9 (by k_mem)) .none (.int _ _) (fun D1 h5 F5 N5 l5 => ?_) (by with_unfolding_all rfl) (by intro _; with_unfolding_all rfl) (by rw [List.size_toArray, hvl, sizeLine_eq]; omega)
          clear F9 N9
          rw [show slicePick vr.toArray none (some pq) none = (vr.take i).toArray from by rw [hpi]; exact slicePick_upto' _ _] at N5
          dsimp only
          repeat' (first | ((with_reducible show wpAny _ _ _ _ _ _); (fail_if_success (with_reducible show wpAny _ _ (subscriptTail _ _ _ _) _ _ _)); (first | (k_unfold; (try dsimp only)) | walk1 | (dsimp only; walk1) | (leave1; try dsimp only))) | fail "stop")
          rename Fr _ _ _ _ => F9
          rename News _ _ _ _ => N9
          refine kmk_slice (s := ⟨_, _, _, _, _⟩) F9 N9 (news_list N9 (by k_mem)) (.int _ _) .none (fun D2 h6 F6 N6 l6 => ?_) (by with_unfolding_all rfl) (by intro _; with_unfolding_all rfl) (by rw [List.size_toArray, hvl, sizeLine_eq]; omega)
          clear F9 N9
          rw [show slicePick vr.toArray (some (pq + 1)) none none = (vr.drop (i + 1)).toArray from by rw [hpi]; exact slicePick_from' _ _] at N6
          dsimp only
          repeat' (first | ((with_reducible show wpAny _ _ _ _ _ _); (fail_if_success (with_reducible show wpAny _ _ (binaryOp _ _ _) _ _ _)); (first | (k_unfold; (try dsimp only)) | walk1 | (dsimp only; walk1) | (leave1; try dsimp only))) | fail "stop")
          rename Fr _ _ _ _ => F9
          rename News _ _ _ _ => N9
          refine kmk_add_lit F9 N9 (news_list N9 (by k_mem)) (news_list N9 (by k_mem)) (zs := vr.take i ++ vr.drop (i + 1)) (by simp) (fun rr h7 F7 N7 l7 => ?_) (by rw [sizeLine_eq]; simp [hvl]; omega)
          clear F9 N9
          dsimp only
          repeat' (first | ((with_reducible show wpAny _ _ _ _ _ _); (first | (k_unfold; (try dsimp only)) | walk1 | (dsimp only; walk1) | (leave1; try dsimp only))) | fail "stop")
          rename Fr _ _ _ _ => F9
          rename News _ _ _ _ => N9
          have N10 : News g L _ ((D, listOf vn.toArray kD) :: (I, oI) :: LV.led w L ⟨st, nb, rr, x, dx, l, sa, oc, so', t1, t2, t3, ta, k', 0, vs', vr.take i ++ vr.drop (i + 1), ws, cut R y, ns, a, p7, p0, p8⟩) := News.sub N9 (by
            simp only [LV.led, List.forall_mem_cons]
            repeat' (first | (refine ⟨by k_mem, ?_⟩) | exact fun _ q => nomatch q))
          have hlr : l ≠ rr := Nat.ne_of_lt (l7 (l, _) (by k_mem))
          have hIr : I ≠ rr := Nat.ne_of_lt (l7 (I, _) (by k_mem))
          refine ret _ _ _ ⟨st, nb, rr, x, dx, l, sa, oc, so', t1, t2, t3, ta, k', 0, vs', vr.take i ++ vr.drop (i + 1), ws, cut R y, ns, a, p7, p0, p8⟩ F9 (fun q hq => ?_) N10 (ok.step H' (hcut.symm ▸ (strs_take hvr i).append' (strs_drop hvr (i + 1))) (cut_row ok.row) hlr) (LV.off_step hoff (Ne.symm hIr))
          simp only [List.mem_cons, List.not_mem_nil, or_false] at hq
          rcases hq with rfl | rfl | rfl <;> rfl
        · rw [if_neg (by simpa using hp)]
          repeat' (first | ((with_reducible show wpAny _ _ _ _ _ _); (first | (k_unfold; (try dsimp only)) | walk1 | (dsimp only; walk1) | (leave1; try dsimp only))) | fail "stop")
          rename Fr _ _ _ _ => F9
          rename News _ _ _ _ => N9
          have hcut := place_not hp
          refine ret _ _ _ ⟨st, nb, rl, x, dx, l, sa, oc, so', t1, t2, t3, ta, k', kr, vs', vr, ws, cut R y, ns, a, p7, p0, p8⟩ F9 (fun q hq => ?_) N9 (ok.step H' (hcut.symm ▸ ok.hvr) (cut_row ok.row) ok.lr) (LV.off_step hoff (hoff _ (LV.m_rl (v := ⟨st, nb, rl, x, dx, l, sa, oc, so, t1, t2, t3, ta, k, kr, vs, vr, ws, R, ns, a, p7, p0, p8⟩))))
          simp only [List.mem_cons, List.not_mem_nil, or_false] at hq
          rcases hq with rfl | rfl | rfl <;> rfl
      · rw [if_neg (by simpa using hr2)]
        repeat' (first | ((with_reducible show wpAny _ _ _ _ _ _); (fail_if_success (with_reducible show wpAny _ _ (call (.ref 249) _) _ _ _)); (first | (k_unfold; (try dsimp only)) | walk1 | (dsimp only; walk1) | (leave1; try dsimp only))) | fail "stop")
        refine ⟨X'.keeps F1.keep, ?_⟩
        refine ar_raise (D := 300) (U := 300) rfl (Nat.le_of_ble_eq_true rfl) (Nat.le_of_ble_eq_true rfl) rfl ?_
        refine removed_spec X T H (Cx.sub (cx_ofE rfl rfl B' F1 N0) hwin) (dicts1 F1) hyl hlow fun h2 tk2 k' vs' so' H' kp => ?_
        have F2 : Fr g L h2 _ := fr_backS F1 N0 kp hwin
        have N2 := LV.heads_afterS Ap N0 hfx kp H'
        clear N1 F1
        dsimp only [LV.led, List.cons_append, List.nil_append] at N2
        dsimp only
        repeat' (first | ((with_reducible show wpAny _ _ _ _ _ _); (first | (k_unfold; (try dsimp only)) | walk1 | (dsimp only; walk1) | (leave1; try dsimp only))) | fail "stop")
        rw [if_neg (by rw [show (decide (y ∈ R.map Txt.lower)) = decide (0 ≤ place R y) from place_in hlow]; simp)]
        repeat' (first | ((with_reducible show wpAny _ _ _ _ _ _); (first | (k_unfold; (try dsimp only)) | walk1 | (dsimp only; walk1) | (leave1; try dsimp only))) | fail "stop")
        by_cases hp : 0 ≤ place R y
        · obtain ⟨i, hpi, hiR, hcut⟩ := place_cut hp
          generalize place R y = pq at F2 hp hpi ⊢
          have pq5 : pq < 5 := by omega
          have hvr : StrsAre vr R := ok.hvr
          have hvl : vr.length = R.length := hvr.len_eq
          rw [if_pos (by simpa using hp)]
          repeat' (first | ((with_reducible show wpAny _ _ _ _ _ _); (fail_if_success (with_reducible show wpAny _ _ (subscriptTail _ _ _ _) _ _ _)); (first | (k_unfold; (try dsimp only)) | walk1 | (dsimp only; walk1) | (leave1; try dsimp only))) | fail "stop")
          rename Fr _ _ _ _ => F9
          rename News _ _ _ _ => N9
          refine kmk_slice (s := ⟨_, _, _, _, _⟩) F9 N9 (news_list N9 (by k_mem)) .none (.int _ _) (fun D1 h5 F5 N5 l5 => ?_) (by with_unfolding_all rfl) (by intro _; with_unfolding_all rfl) (by rw [List.size_toArray, hvl, sizeLine_eq]; omega)
          clear F9 N9
          rw [show slicePick vr.toArray none (some pq) none = (vr.take i).toArray from by rw [hpi]; exact slicePick_upto' _ _] at N5
          dsimp only
          repeat' (first | ((with_reducible show wpAny _ _ _ _ _ _); (fail_if_success (with_reducible show wpAny _ _ (subscriptTail _ _ _ _) _ _ _)); (first | (k_unfold; (try dsimp only)) | walk1 | (dsimp only; walk1) | (leave1; try dsimp only))) | fail "stop")
          rename Fr _ _ _ _ => F9
          rename News _ _ _ _ => N9
          refine kmk_slice (s := ⟨_, _, _, _, _⟩) F9 N9 (news_list N9 (by k_mem)) (.int _ _) .none (fun D2 h6 F6 N6 l6 => ?_) (by with_unfolding_all rfl) (by intro _; with_unfolding_all rfl) (by rw [List.size_toArray, hvl, sizeLine_eq]; omega)
          clear F9 N9
          rw [show slicePick vr.toArray (some (pq + 1)) none none = (vr.drop (i + 1)).toArray from by rw [hpi]; exact slicePick_from' _ _] at N6
          dsimp only
          repeat' (first | ((with_reducible show wpAny _ _ _ _ _ _); (fail_if_success (with_reducible show wpAny _ _ (binaryOp _ _ _) _ _ _)); (first | (k_unfold; (try dsimp only)) | walk1 | (dsimp only; walk1) | (leave1; try dsimp only))) | fail "stop")
          rename Fr _ _ _ _ => F9
          rename News _ _ _ _ => N9
          refine kmk_add_lit F9 N9 (news_list N9 (by k_mem)) (news_list N9 (by k_mem)) (zs := vr.take i ++ vr.drop (i + 1)) (by simp) (fun rr h7 F7 N7 l7 => ?_) (by rw [sizeLine_eq]; simp [hvl]; omega)
          clear F9 N9
          dsimp only
          repeat' (first | ((with_reducible show wpAny _ _ _ _ _ _); (first | (k_unfold; (try dsimp only)) | walk1 | (dsimp only; walk1) | (leave1; try dsimp only))) | fail "stop")
          rename Fr _ _ _ _ => F9
          rename News _ _ _ _ => N9
          have N10 : News g L _ ((D, listOf vn.toArray kD) :: (I, oI) :: LV.led w L ⟨st, nb, rr, x, dx, l, sa, oc, so', t1, t2, t3, ta, k', 0, vs', vr.take i ++ vr.drop (i + 1), ws, cut R y, ns, a, p7, p0, p8⟩) := News.sub N9 (by
            simp only [LV.led, List.forall_mem_cons]
            repeat' (first | (refine ⟨by k_mem, ?_⟩) | exact fun _ q => nomatch q))
          have hlr : l ≠ rr := Nat.ne_of_lt (l7 (l, _) (by k_mem))
          have hIr : I ≠ rr := Nat.ne_of_lt (l7 (I, _) (by k_mem))
          refine ret _ _ _ ⟨st, nb, rr, x, dx, l, sa, oc, so', t1, t2, t3, ta, k', 0, vs', vr.take i ++ vr.drop (i + 1), ws, cut R y, ns, a, p7, p0, p8⟩ F9 (fun q hq => ?_) N10 (ok.step H' (hcut.symm ▸ (strs_take hvr i).append' (strs_drop hvr (i + 1))) (cut_row ok.row) hlr) (LV.off_step hoff (Ne.symm hIr))
          simp only [List.mem_cons, List.not_mem_nil, or_false] at hq
          rcases hq with rfl | rfl | rfl <;> rfl
        · rw [if_neg (by simpa using hp)]
          repeat' (first | ((with_reducible show wpAny _ _ _ _ _ _); (first | (k_unfold; (try dsimp only)) | walk1 | (dsimp only; walk1) | (leave1; try dsimp only))) | fail "stop")
          rename Fr _ _ _ _ => F9
          rename News _ _ _ _ => N9
          have hcut := place_not hp
          refine ret _ _ _ ⟨st, nb, rl, x, dx, l, sa, oc, so', t1, t2, t3, ta, k', kr, vs', vr, ws, cut R y, ns, a, p7, p0, p8⟩ F9 (fun q hq => ?_) N9 (ok.step H' (hcut.symm ▸ ok.hvr) (cut_row ok.row) ok.lr) (LV.off_step hoff (hoff _ (LV.m_rl (v := ⟨st, nb, rl, x, dx, l, sa, oc, so, t1, t2, t3, ta, k, kr, vs, vr, ws, R, ns, a, p7, p0, p8⟩))))
          simp only [List.mem_cons, List.not_mem_nil, or_false] at hq
          rcases hq with rfl | rfl | rfl <;> rfl
end
end Mine
end

-- part L9
section
open PySem PySem.W PySem.Calls PyProof.Rows PySem.Spec
set_option maxRecDepth 100000
namespace Mine
theorem sq_canLay : ∀ ns : List Str, (∀ y ∈ ns, PyData.strOk y = true) → PyData.canLayAll0 (ns.map PyData.str) = true
  | [], _ => rfl
  | y :: r, h => by
    have h1 := h y (.head _)
    simp [PyData.canLayAll0, PyData.canLay0, h1, sq_canLay r fun z hz => h z (.tail _ hz)]
theorem sq_depthAll : ∀ ns : List Str, PyData.depthAll (ns.map PyData.str) = 0
  | [] => rfl
  | _ :: r => by simp [PyData.depthAll, PyData.depth, sq_depthAll r]
theorem sq_shaped (ns : List Str) (h : ∀ y ∈ ns, PyData.strOk y = true) : SeqAt.shaped (.list (ns.map PyData.str)) = true := by
  simp [SeqAt.shaped, PyData.canLay0, PyData.depth, sq_canLay ns h, sq_depthAll]
theorem sq_sameAll : ∀ ns ms : List Str, PySem.Spec.sameAll (ns.map PyData.str) (ms.map PyData.str) = decide (ns = ms)
  | [], [] => by simp [PySem.Spec.sameAll]
  | [], _ :: _ => by simp [PySem.Spec.sameAll]
  | _ :: _, [] => by simp [PySem.Spec.sameAll]
  | a :: r, b :: t => by
    simp only [List.map_cons, PySem.Spec.sameAll, PySem.Spec.same, sq_sameAll r t]
    by_cases h : a = b <;> by_cases h' : r = t <;> simp [h, h']
theorem sq_carried : ∀ {vs : List Value} {ns : List Str}, StrsAre vs ns → CarriedAll vs (ns.map PyData.str)
  | _, _, .nil => .nil
  | _, _, .cons _ t r => .cons (.str _ t) (sq_carried r)
section
variable {prog : Program} {w : World} {A : Around} {E : Value → Shared → Prop} {s : Shared} {a b : Addr} {xs ys : List Value} {ns ms : List Str} {Q : Value → Shared → Prop}
theorem strs_ne (ha : s.heap.IsList a xs.toArray) (hb : s.heap.IsList b ys.toArray) (hi : StrsAre xs ns) (hj : StrsAre ys ms) (h1 : ∀ y ∈ ns, PyData.strOk y = true) (h2 : ∀ y ∈ ms, PyData.strOk y = true) (hu : A.units + 64 < cLine) (h : Q (.bool (!decide (ns = ms))) s) :
    wpAny (model prog w) A (compareOp .NotEq (.ref a) (.ref b)) Q E s :=
  ne_dataH_same (reads_newData ha (sq_carried hi)) (reads_newData hb (sq_carried hj)) (sq_shaped _ h1) (sq_shaped _ h2) hu (SeqAt.noMix_of_shape (.list .str) rfl _ _ (list_map_has fun _ => rfl) (list_map_has fun _ => rfl)) (by simp only [PySem.Spec.same]; rw [sq_sameAll]; exact h)
theorem strs_eq (ha : s.heap.IsList a xs.toArray) (hb : s.heap.IsList b ys.toArray) (hi : StrsAre xs ns) (hj : StrsAre ys ms) (h1 : ∀ y ∈ ns, PyData.strOk y = true) (h2 : ∀ y ∈ ms, PyData.strOk y = true) (hu : A.units + 64 < cLine) (h : Q (.bool (decide (ns = ms))) s) :
    wpAny (model prog w) A (compareOp .Eq (.ref a) (.ref b)) Q E s :=
  eq_dataH_same (reads_newData ha (sq_carried hi)) (reads_newData hb (sq_carried hj)) (sq_shaped _ h1) (sq_shaped _ h2) hu (SeqAt.noMix_of_shape (.list .str) rfl _ _ (list_map_has fun _ => rfl) (list_map_has fun _ => rfl)) (by simp only [PySem.Spec.same]; rw [sq_sameAll]; exact h)
end
theorem rising_pairs : ∀ (p : Str) (l : List Str), risingS p l = true → (p :: l).Pairwise (fun a b => a.cps.toList ≤ b.cps.toList)
  | p, [], _ => List.pairwise_singleton ..
  | p, x :: r, h => by
    have h' : (!ltCps x.cps.toList p.cps.toList && risingS x r) = true := h
    rw [Bool.and_eq_true, ltCps_eq] at h'
    have ih := rising_pairs x r h'.2
    have hpx : p.cps.toList ≤ x.cps.toList := List.not_lt.mp (by simpa using h'.1)
    refine List.pairwise_cons.mpr ⟨fun z hz => ?_, ih⟩
    rcases List.mem_cons.mp hz with rfl | hz
    · exact hpx
    · exact List.le_trans hpx ((List.pairwise_cons.mp ih).1 z hz)
theorem sorted_pairs : ∀ {l : List Str}, sortedS l = true → l.Pairwise (fun a b => a.cps.toList ≤ b.cps.toList)
  | [], _ => .nil
  | x :: r, h => rising_pairs x r h
theorem sorted_unique {l m : List Str} (h1 : sortedS l = true) (h2 : sortedS m = true) (hp : l.Perm m) : l = m :=
  List.Perm.eq_of_pairwise (le := fun a b : Str => a.cps.toList ≤ b.cps.toList) (fun a b _ _ h k => by
    have := List.le_antisymm h k
    obtain ⟨⟨a⟩⟩ := a
    obtain ⟨⟨b⟩⟩ := b
    have e : a = b := this
    rw [e]) (sorted_pairs h1) (sorted_pairs h2) hp
theorem menu_ok : ∀ y ∈ MENU, PyData.strOk y = true ∧ PyData.strOk (Txt.lower y) = true := by decide +kernel
theorem RowOk.ok {R : List Str} (h : RowOk R) : ∀ y ∈ R, PyData.strOk y = true := fun y hy => (menu_ok y (h.menu y hy)).1
theorem RowOk.okl {R : List Str} (h : RowOk R) : ∀ y ∈ R.map Txt.lower, PyData.strOk y = true := fun y hy => by
  obtain ⟨z, hz, rfl⟩ := List.mem_map.mp hy
  exact (menu_ok z (h.menu z hz)).2
theorem RowOk.nodup {R : List Str} (h : RowOk R) : R.Nodup := List.Pairwise.of_map Txt.lower (fun a b n e => n (e ▸ rfl)) h.dist
end Mine
end

-- part C5
section
open PySem PySem.W PySem.Calls PyProof.Rows PySem.Spec
set_option maxRecDepth 100000
namespace Mine
theorem call_iter_list {prog : Program} {w : World} {A : Around} {E : Value → Shared → Prop} {s : Shared} {l : Addr} {items : Array Value} {Q : Value → Shared → Prop} (hl : s.heap.IsList l items)
    (h : Q (.ref s.heap.objs.size) { s with heap := s.heap.push { cls := .type "list_iterator", data := .fields #[.ref l, .int 0 0] } }) :
    wpAny (model prog w) A (call (.builtin "iter") [.ref l]) Q E s := by
  refine call_function_entry (by decide +kernel) (by decide +kernel) kdk_entry_iter (kdk_args_iter _) ?_
  unfold Builtin.«iter»
  refine wpAny_bind (m := someArgs "iter" 1 2 _) (wpAny_of_eq (a := [Value.ref l]) (by first | rfl | kernel_rfl!) ?_)
  show wpAny _ _ (pyIter (.ref l) >>= _) _ _ _
  exact wpAny_bind (wpAny_pyIter_list hl (wpAny_pure ⟨_, rfl, h⟩))
section
variable {w : World} {hb : Heap} {p : Program} {loose : List Str} {mean : ExcName → Option Value} {mg mb : Str → Option Value} {out : List Env}
  {s : Shared} {Q : Value → Shared → Prop} {E : Value → Shared → Prop} {x dx l sa : Addr} {t1 t2 t3 : Tok} {k : Nat} {vs : List Value} {R : List Str} {so : Obj}

set_option maxHeartbeats 8000000 in
theorem contains_spec {y : Str} {t : Tok} (X : (hd.heap_39 w.params).In hb) (T : Top p loose mean mg mb hb) (H : HS w s.heap x dx l sa t1 t2 t3 k vs R so) (cx : Cx hb out s.heap [x, dx, l, sa]) (hy : y.length ≤ 1000)
    (ret : ∀ h' tk, Kp [] s.heap h' → Q (.bool (skey (R.map Txt.lower) (Txt.lower y))) { s with heap := h', toks := tk }) :
    wpAny (model PySem.Challenge.rw_fa0002_01.row.prog w) (AR 500 500 out) (call (.ref 143) [.ref x, .str y t]) Q E s := by
  revert X; k_fill; intro X
  refine wpAny_call ?_
  obtain ⟨n1, n2, n3, n4, n5, n6⟩ := H.neN
  have hn := H.get
  refine' enter (binds := [(Str.ofString "self", .ref x), (Str.ofString "header", .str y t)]) (hsNews w x dx l sa t1 t2 t3 k vs so) X T cx hn ?ho ?hcd ?hroom ?hbind ?hloc ?_ ?c2 ?c3 ?c4 ?c5
  case ho => k_is
  case hcd => k_is
  case hroom => decide
  case hbind => exact BindsTo.of_eq rfl
  case hloc => exact locs rfl
  case c2 => exact rfl
  case c3 => exact rfl
  case c4 => exact rfl
  case c5 => decide
  intro g L' h₁ st' hg hg2 hsz F' N' B' X' T'
  have hso := H.ss
  have hlen := H.len
  try dsimp only
  all_goals try k_fold
  k_steps
  rename Fr _ _ _ _ => F9
  rename News _ _ _ _ => N9
  exact ret _ _ (kp_same hg hn F9 fun q hq => (N9 q hq).1)

set_option maxHeartbeats 8000000 in
theorem len_spec (X : (hd.heap_39 w.params).In hb) (T : Top p loose mean mg mb hb) (H : HS w s.heap x dx l sa t1 t2 t3 k vs R so) (cx : Cx hb out s.heap [x, dx, l, sa])
    (ret : ∀ h' tk t', Kp [] s.heap h' → Q (.int R.length t') { s with heap := h', toks := tk }) :
    wpAny (model PySem.Challenge.rw_fa0002_01.row.prog w) (AR 500 500 out) (call (.ref 150) [.ref x]) Q E s := by
  revert X; k_fill; intro X
  refine wpAny_call ?_
  obtain ⟨n1, n2, n3, n4, n5, n6⟩ := H.neN
  have hn := H.get
  refine' enter (binds := [(Str.ofString "self", .ref x)]) (hsNews w x dx l sa t1 t2 t3 k vs so) X T cx hn ?ho ?hcd ?hroom ?hbind ?hloc ?_ ?c2 ?c3 ?c4 ?c5
  case ho => k_is
  case hcd => k_is
  case hroom => decide
  case hbind => exact BindsTo.of_eq rfl
  case hloc => exact locs rfl
  case c2 => exact rfl
  case c3 => exact rfl
  case c4 => exact rfl
  case c5 => decide
  intro g L' h₁ st' hg hg2 hsz F' N' B' X' T'
  have hso := H.ss
  have hlen := H.len
  try dsimp only
  all_goals try k_fold
  k_steps
  rename Fr _ _ _ _ => F9
  rename News _ _ _ _ => N9
  exact ret _ _ _ (kp_same hg hn F9 fun q hq => (N9 q hq).1)

set_option maxHeartbeats 8000000 in
theorem iter_spec (X : (hd.heap_39 w.params).In hb) (T : Top p loose mean mg mb hb) (H : HS w s.heap x dx l sa t1 t2 t3 k vs R so) (cx : Cx hb out s.heap [x, dx, l, sa])
    (ret : ∀ h' tk I, Kp [] s.heap h' → h'.IsListIter I l 0 → s.heap.get? I = none → Q (.ref I) { s with heap := h', toks := tk }) :
    wpAny (model PySem.Challenge.rw_fa0002_01.row.prog w) (AR 500 500 out) (call (.ref 157) [.ref x]) Q E s := by
  revert X; k_fill; intro X
  refine wpAny_call ?_
  obtain ⟨n1, n2, n3, n4, n5, n6⟩ := H.neN
  have hn := H.get
  refine' enter (binds := [(Str.ofString "self", .ref x)]) (hsNews w x dx l sa t1 t2 t3 k vs so) X T cx hn ?ho ?hcd ?hroom ?hbind ?hloc ?_ ?c2 ?c3 ?c4 ?c5
  case ho => k_is
  case hcd => k_is
  case hroom => decide
  case hbind => exact BindsTo.of_eq rfl
  case hloc => exact locs rfl
  case c2 => exact rfl
  case c3 => exact rfl
  case c4 => exact rfl
  case c5 => decide
  intro g L' h₁ st' hg hg2 hsz F' N' B' X' T'
  have hso := H.ss
  have hlen := H.len
  try dsimp only
  all_goals try k_fold
  k_steps
  rename Fr _ _ _ _ => F9
  rename News _ _ _ _ => N9
  refine call_iter_list (news_list N9 (.tail _ (.tail _ (.head _)))) ?_
  k_steps
  exact ret _ _ _ (fun b o e ne => Heap.get?_push_of_some _ (kp_same hg hn F9 (fun q hq => (N9 q hq).1) b o e ne)) ⟨_, Heap.get?_push_size _ rfl, rfl, rfl⟩ (Heap.get?_none_of_le (Nat.le_trans hsz (Nat.le_of_lt F9.ns.lt)))
end
end Mine
end

-- part L10
section
open PySem PySem.W PySem.Calls PyProof.Rows PySem.Spec
set_option maxRecDepth 100000
namespace Mine
theorem place_skey {R : List Str} {z : Str} : skey (R.map Txt.lower) (Txt.lower z) = decide (0 ≤ place R z) := by
  have h1 := place_neg (R := R) (y := z)
  unfold skey
  rcases place_nn (R := R) (y := z) with q | q
  · rw [decide_eq_false (h1.mp q), decide_eq_false (by omega)]
  · rw [decide_eq_true q, decide_eq_true (Decidable.byContradiction fun z => by have := h1.mpr z; omega)]
section
variable {w : World} {hb : Heap} {p : Program} {loose : List Str} {mean : ExcName → Option Value} {mg mb : Str → Option Value}
  {s : Shared} {Q : Flow → Shared → Prop} {E : Value → Shared → Prop} {g : Heap} {L : Addr} {m : Str → Option Value} {v : LV} {b : Int} {I : Addr} {oI : Obj}

set_option maxHeartbeats 8000000 in
theorem turn_places {z : Str} {t : Tok} (X : (hd.heap_39 w.params).In hb) (T : Top p loose mean mg mb hb) (B' : Below (AR 100 100 []) hb [] g) (X' : (hd.heap_39 w.params).In g) (T' : Top p loose mean mg mb g)
    (F : Fr g L s.heap m) (hm : Has m [(Str.ofString "row", .ref v.rl), (Str.ofString "heads", .ref v.x), (Str.ofString "asked", .str z t)]) (N : News g L s.heap ((I, oI) :: v.led w L)) (hoff : ∀ q ∈ v.led w L, q.1 ≠ I) (ok : v.Ok w b) (hz : z ∈ MENU)
    (ret : ∀ h' tk, Fr g L h' m → News g L h' ((I, oI) :: v.led w L) → Q .next { s with heap := h', toks := tk }) :
    wpAny (model PySem.Challenge.rw_fa0002_01.row.prog w) (lawA (lawEnv w.params L)) (exec (lawS w.params 6) (lawEnv w.params L)) Q E s := by
  unfold lawEnv
  conv in (occs := *) lawScope _ => all_goals whnf
  rw [lawS_eq]
  conv in lawT _ _ => whnf
  revert X; k_fill; intro X
  have hmE := fun z => congrFun hm.eq z
  have F1 : Fr g L s.heap (mL _ m) := Fr.as F hmE
  clear F
  have Ap := ok.apart N fun p hp => .tail _ hp
  obtain ⟨st, nb, rl, x, dx, l, sa, oc, so, t1, t2, t3, ta, k, kr, vs, vr, ws, R, ns, a, p7, p0, p8⟩ := v
  have hvr : StrsAre vr R := ok.hvr
  have hR5 : R.length ≤ 5 := ok.row.len
  have hzl := menu_len z hz
  have N0 : News g L s.heap ([(I, oI)] ++ LV.led w L ⟨st, nb, rl, x, dx, l, sa, oc, so, t1, t2, t3, ta, k, kr, vs, vr, ws, R, ns, a, p7, p0, p8⟩) := N
  have hIx : I ∉ [x, dx, l, sa] := by
    simp only [LV.led, List.forall_mem_cons] at hoff
    simp only [List.mem_cons, List.not_mem_nil, or_false, not_or]
    exact ⟨Ne.symm hoff.2.2.2.2.1, Ne.symm hoff.2.2.2.2.2.1, Ne.symm hoff.2.2.2.2.2.2.1, Ne.symm hoff.2.2.2.2.2.2.2.1⟩
  have N1 := N
  dsimp only [LV.led, mL] at N1 F1 hm
  have hwin : ∀ q ∈ [x, dx, l, sa], q ∈ List.map (fun q : Addr × Obj => q.1) ([(I, oI)] ++ LV.led w L ⟨st, nb, rl, x, dx, l, sa, oc, so, t1, t2, t3, ta, k, kr, vs, vr, ws, R, ns, a, p7, p0, p8⟩) := LV.hw_in (v := ⟨st, nb, rl, x, dx, l, sa, oc, so, t1, t2, t3, ta, k, kr, vs, vr, ws, R, ns, a, p7, p0, p8⟩)
  try k_fold
  repeat' (first | ((with_reducible show wpAny _ _ _ _ _ _); (fail_if_success (with_reducible show wpAny _ _ (call (.ref 86) _) _ _ _)); (first | (k_unfold; (try dsimp only)) | walk1 | (dsimp only; walk1) | (leave1; try dsimp only))) | fail "stop")
  refine ⟨X'.keeps F1.keep, ?_⟩
  refine ar_raise (D := 500) (U := 500) rfl (Nat.le_of_ble_eq_true rfl) (Nat.le_of_ble_eq_true rfl) rfl ?_
  refine find_spec X T (LV.hs ok N0) (Cx.sub (cx_ofE rfl rfl B' F1 N0) fun a ha => hwin a (by simp only [List.mem_cons, List.not_mem_nil, or_false] at ha ⊢; rcases ha with rfl | rfl <;> simp)) hzl fun tf h2 tk2 kp2 => ?_
  have F2 : Fr g L h2 _ := F1.keeps kp2.all
  have N2 := N0.grown kp2.all
  clear F1 N1
  dsimp only
  repeat' (first | ((with_reducible show wpAny _ _ _ _ _ _); (fail_if_success (with_reducible show wpAny _ _ (call (.ref 256) _) _ _ _)); (first | (k_unfold; (try dsimp only)) | walk1 | (dsimp only; walk1) | (leave1; try dsimp only))) | fail "stop")
  refine ⟨X'.keeps F2.keep, ?_⟩
  refine ar_raise (D := 300) (U := 300) rfl (Nat.le_of_ble_eq_true rfl) (Nat.le_of_ble_eq_true rfl) rfl ?_
  refine law_index_spec X T (LV.hs ok N2) (Cx.sub (cx_ofE rfl rfl B' F2 N2) hwin) (dicts1 F2) hzl fun ti h3 tk3 H3 kp3 => ?_
  have F3 : Fr g L h3 _ := fr_backS F2 N2 kp3 hwin
  have N3 : News g L h3 ([(I, oI)] ++ LV.led w L ⟨st, nb, rl, x, dx, l, sa, oc, so, t1, t2, t3, ta, k, kr, vs, vr, ws, R, ns, a, p7, p0, p8⟩) := LV.heads_afterS Ap N2 (fun q hq => by rw [List.mem_singleton.mp hq]; exact hIx) kp3 H3
  clear F2 N2
  have N3' := N3
  dsimp only [LV.led, List.cons_append, List.nil_append] at N3 ⊢
  repeat' (first | ((with_reducible show wpAny _ _ _ _ _ _); (fail_if_success (with_reducible show wpAny _ _ (call (.ref 143) _) _ _ _)); (first | (k_unfold; (try dsimp only)) | walk1 | (dsimp only; walk1) | (leave1; try dsimp only))) | fail "stop")
  refine ar_raise (D := 500) (U := 500) rfl (Nat.le_of_ble_eq_true rfl) (Nat.le_of_ble_eq_true rfl) rfl ?_
  refine contains_spec X T (LV.hs ok N3') (Cx.sub (cx_ofE rfl rfl B' F3 N3') hwin) hzl fun h4 tk4 kp4 => ?_
  have F4 : Fr g L h4 _ := F3.keeps kp4.all
  have N4 : News g L h4 _ := N3.grown kp4.all
  clear F3 N3 N3'
  generalize hci : skey (List.map Txt.lower R) (Txt.lower z) = ci
  try dsimp only
  repeat' (first | ((with_reducible show wpAny _ _ _ _ _ _); (fail_if_success (with_reducible show wpAny _ _ (call (.ref 235) _) _ _ _)); (first | (k_unfold; (try dsimp only)) | walk1 | (dsimp only; walk1) | (leave1; try dsimp only))) | fail "stop")
  rename Fr _ _ _ _ => F5
  rename News _ _ _ _ => N5
  refine ⟨X'.keeps F5.keep, ?_⟩
  refine ar_raise (D := 600) (U := 600) rfl (Nat.le_of_ble_eq_true rfl) (Nat.le_of_ble_eq_true rfl) rfl ?_
  refine place_spec X T (Cx.sub (cx_ofE rfl rfl B' F5 N5) fun a ha => nomatch ha) (N5 (rl, listOf vr.toArray kr) (by k_mem)).1 hvr (Nat.le_trans hR5 (by decide)) ok.row.dist ok.row.sh hzl fun tp h6 tk6 kp6 => ?_
  have F6 : Fr g L h6 _ := F5.keeps kp6.all
  have N6 : News g L h6 _ := N5.grown kp6.all
  clear F5 N5
  dsimp only
  repeat' (first | ((with_reducible show wpAny _ _ _ _ _ _); (fail_if_success (with_reducible show wpAny _ _ (call (.ref 235) _) _ _ _)); (first | (k_unfold; (try dsimp only)) | walk1 | (dsimp only; walk1) | (leave1; try dsimp only))) | fail "stop")
  rename Fr _ _ _ _ => F5
  rename News _ _ _ _ => N5
  refine ⟨X'.keeps F5.keep, ?_⟩
  refine ar_raise (D := 600) (U := 600) rfl (Nat.le_of_ble_eq_true rfl) (Nat.le_of_ble_eq_true rfl) rfl ?_
  refine place_spec X T (Cx.sub (cx_ofE rfl rfl B' F5 N5) fun a ha => nomatch ha) (N5 (rl, listOf vr.toArray kr) (by k_mem)).1 hvr (Nat.le_trans hR5 (by decide)) ok.row.dist ok.row.sh hzl fun tp h6 tk6 kp6 => ?_
  have F6 : Fr g L h6 _ := F5.keeps kp6.all
  have N6 : News g L h6 _ := N5.grown kp6.all
  clear F5 N5
  dsimp only
  repeat' (first | ((with_reducible show wpAny _ _ _ _ _ _); (fail_if_success (with_reducible show wpAny _ _ (call (.ref 235) _) _ _ _)); (first | (k_unfold; (try dsimp only)) | walk1 | (dsimp only; walk1) | (leave1; try dsimp only))) | fail "stop")
  rename Fr _ _ _ _ => F5
  rename News _ _ _ _ => N5
  refine ⟨X'.keeps F5.keep, ?_⟩
  refine ar_raise (D := 600) (U := 600) rfl (Nat.le_of_ble_eq_true rfl) (Nat.le_of_ble_eq_true rfl) rfl ?_
  refine place_spec X T (Cx.sub (cx_ofE rfl rfl B' F5 N5) fun a ha => nomatch ha) (N5 (rl, listOf vr.toArray kr) (by k_mem)).1 hvr (Nat.le_trans hR5 (by decide)) ok.row.dist ok.row.sh hzl fun tp h6 tk6 kp6 => ?_
  have F6 : Fr g L h6 _ := F5.keeps kp6.all
  have N6 : News g L h6 _ := N5.grown kp6.all
  clear F5 N5
  dsimp only
  repeat' (first | ((with_reducible show wpAny _ _ _ _ _ _); (first | (k_unfold; (try dsimp only)) | walk1 | (dsimp only; walk1) | (leave1; try dsimp only))) | fail "stop")
  rename Fr _ _ _ _ => F9
  rename News _ _ _ _ => N9
  rw [if_neg (by rw [← hci, place_skey]; simp)]
  repeat' (first | ((with_reducible show wpAny _ _ _ _ _ _); (first | (k_unfold; (try dsimp only)) | walk1 | (dsimp only; walk1) | (leave1; try dsimp only))) | fail "stop")
  rename Fr _ _ _ _ => F9
  rename News _ _ _ _ => N9
  exact ret _ _ (Fr.as F9 fun q => (hmE q).symm) (News.sub N9 fun q hq => .tail _ (.tail _ hq))
end
end Mine
end

-- part L8
section
open PySem PySem.W PySem.Calls PyProof.Rows PySem.Spec
set_option maxRecDepth 100000
namespace Mine
theorem Cx.up {hb h h' : Heap} {out : List Env} {W : List Addr} (cx : Cx hb out h W) (k : Kp [] h h') : Cx hb out h' W :=
  ⟨fun b o e => k.all _ _ (cx.stays b o e), cx.frames.of_keeps fun b o e _ => ⟨o, k.all _ _ e, rfl⟩, cx.off⟩
section
variable {w : World} {hb : Heap} {p : Program} {loose : List Str} {mean : ExcName → Option Value} {mg mb : Str → Option Value} {out : List Env}
  {s : Shared} {Q : Value → Shared → Prop} {E : Value → Shared → Prop} {A : Around} {g : Heap} {L : Addr} {m : Str → Option Value} {x dx l sa : Addr} {t1 t2 t3 : Tok} {k : Nat} {vs : List Value} {R : List Str} {so : Obj}
set_option maxHeartbeats 4000000 in
/-- `list(heads)` -/
theorem list_heads (X : (hd.heap_39 w.params).In hb) (T : Top p loose mean mg mb hb) (X' : (hd.heap_39 w.params).In g) (FF : Fr g L s.heap m) (H : HS w s.heap x dx l sa t1 t2 t3 k vs R so) (cx : Cx hb out s.heap [x, dx, l, sa]) (hR : R.length ≤ 40)
    (hh : A.handled = none) (hd : A.depth ≤ 750) (hu : A.units ≤ 400) (hfr : A.frames = some out)
    (ret : ∀ D h' tk vs' c, s.heap.objs.size ≤ D → h'.get? D = some (listOf vs'.toArray c) → StrsAre vs' R → Kp [] s.heap h' → Q (.ref D) { s with heap := h', toks := tk }) :
    wpAny (model PySem.Challenge.rw_fa0002_01.row.prog w) A (call (.type "list") [.ref x]) Q E s := by
  revert X; k_fill; intro X
  have hxlt : x < s.heap.objs.size := Heap.lt_size H.hx
  refine callType_codes (Q₁ := fun obj s₁ => obj = .ref s.heap.objs.size ∧ s₁ = { s with heap := s.heap.push { cls := .type "list", data := .seq #[] } }) F.called_list (F.typeCall_list_1 _) F.entry_list_init
    (code_list_new _ ⟨rfl, rfl⟩) fun obj s₁ h₁ => ?_
  obtain ⟨rfl, rfl⟩ := h₁
  have hS : (s.heap.push { cls := .type "list", data := .seq #[] }).get? s.heap.objs.size = some { cls := .type "list", data := .seq #[] } := Heap.get?_push_size _ rfl
  refine ⟨⟨_, hS, rfl⟩, F.args_list_init_2 _ _, ?_⟩
  show wpAny _ _ (do let old ← Builtin.List.listItems (.ref s.heap.objs.size); Builtin.List.listUpdate (.ref s.heap.objs.size) (fun _ => #[]); letGo old.toList.reverse; Builtin.List.listExtendWith (.ref s.heap.objs.size) (.ref x) .none) _ _ _
  refine wpAny_bind ?_
  unfold Builtin.List.listItems
  refine wpAny_bind (wpAny_seqItems hS rfl (wpAny_pure ?_))
  show wpAny _ _ (updateSeq s.heap.objs.size (fun _ => #[]) >>= fun _ => letGo (#[] : Array Value).toList.reverse >>= fun _ => Builtin.List.listExtendWith (.ref s.heap.objs.size) (.ref x) .none) _ _ _
  refine wpAny_bind (wpAny_updateSeq hS rfl ?_)
  have hS₂ := Heap.get?_update_self (Obj.mapSeq (fun _ => (#[] : Array Value))) hS rfl
  have up2 : Kp [] s.heap ((s.heap.push { cls := .type "list", data := .seq #[] }).update s.heap.objs.size (Obj.mapSeq (fun _ => (#[] : Array Value)))) := fun b o e _ =>
    (Heap.get?_update_other _ _ (Ne.symm (Nat.ne_of_lt (Heap.lt_size e)))).trans (Heap.get?_push_of_some _ e)
  generalize hH2 : (s.heap.push { cls := .type "list", data := .seq #[] }).update s.heap.objs.size (Obj.mapSeq (fun _ => (#[] : Array Value))) = H2 at hS₂ up2 ⊢
  refine wpAny_bind (wpAny_letGo ?_)
  have X2 := X'.keeps (fun b o e => up2.all b o (FF.keep b o e))
  have F2 : Fr g L H2 m := FF.keeps up2.all
  have HS2 := H.kp up2 ⟨(fun q => nomatch q), (fun q => nomatch q), (fun q => nomatch q), (fun q => nomatch q)⟩
  have I2 : InstAt H2 x (instObj 181 dx) 181 (some (hsD w.params t1 t2 t3 l sa)) := ⟨HS2.hx, rfl, rfl, HS2.hd⟩
  unfold Builtin.List.listExtendWith
  refine wpAny_bind (I2.type.here ?_)
  have n1 : Builtin.List.listSameRef (.ref s.heap.objs.size) (.ref x) = false := by simp [Builtin.List.listSameRef, Nat.ne_of_gt hxlt]
  have n2 : (Value.ref 181 == Value.type "list") = false := by rfl
  have n3 : (Value.ref 181 == Value.type "tuple") = false := by rfl
  simp only [n1, n2, n3, Bool.or_false, Bool.false_eq_true, if_false]
  refine wpAny_bind (owit_iter F2 X' I2 (f := 157) (by k_is) (by k_is) ?_)
  refine ar_raise (D := 500) (U := 500) hh hd (Nat.le_trans (Nat.add_le_add_right (Nat.add_le_add_right hu _) _) (Nat.le_of_ble_eq_true rfl)) hfr ?_
  refine iter_spec X T HS2 (cx.up up2) fun h3 tk3 J kp3 hJ fJ => ?_
  unfold OwitIt
  refine wpAny_specialOf (let ⟨_, e, q, _⟩ := hJ; ⟨_, e, q⟩) slot_listiter_next.lookup ?_
  dsimp only
  have up3 : Kp [] s.heap h3 := fun b o e n => kp3 b o (up2 b o e n) n
  have F3 : Fr g L h3 m := FF.keeps up3.all
  have X3 := X'.keeps (fun b o e => up3.all b o (FF.keep b o e))
  have HS3 := HS2.kp kp3 ⟨(fun q => nomatch q), (fun q => nomatch q), (fun q => nomatch q), (fun q => nomatch q)⟩
  have I3 : InstAt h3 x (instObj 181 dx) 181 (some (hsD w.params t1 t2 t3 l sa)) := ⟨HS3.hx, rfl, rfl, HS3.hd⟩
  have hS3 := kp3 _ _ hS₂ (fun q => nomatch q)
  refine wpAny_bind (wpAny_holding ?_)
  unfold Builtin.List.listLengthHint
  refine wpAny_bind (wpAny_bind (I3.type.here ((looks_findIn X3 (show findIn _ _ "__len__" = some (some (.ref 150)) from by k_is)).here ?_)))
  wp_delta
  refine wpAny_ite_split (fun hab => absurd hab (by decide +kernel)) (fun _ => ?_)
  refine wpAny_ite_split (fun _ => ?_) (fun hab => absurd rfl hab)
  refine wpAny_bind (wpAny_rule ?_)
  refine wpAny_bind (wpAny_attempt (len_K F3 X' I3 (f := 150) (by k_is) (by k_is) ?_))
  refine ar_raise (D := 500) (U := 500) hh hd (Nat.le_trans (Nat.add_le_add_right (Nat.add_le_add_right (Nat.add_le_add_right hu _) _) _) (Nat.le_of_ble_eq_true rfl)) hfr ?_
  refine len_spec X T HS3 (cx.up up3) fun h4 tk4 t4 kp4 => ⟨⟨Int.natCast_nonneg _, by omega⟩, ?_⟩
  dsimp only
  refine wpAny_bind (m := asInt? _) (wpAny_pure ?_)
  have htl : Builtin.List.listTooLong ((R.length : Int).toNat) = false := by simp [Builtin.List.listTooLong, sizeLine]; omega
  refine wpAny_ite_split (fun hab => absurd hab (by rw [htl]; decide)) (fun _ => wpAny_pure ?_)
  have up4 : Kp [] s.heap h4 := fun b o e n => kp4 b o (up3 b o e n) n
  have hS4 := kp4 _ _ hS3 (fun q => nomatch q)
  have HS4 := HS3.kp kp4 ⟨(fun q => nomatch q), (fun q => nomatch q), (fun q => nomatch q), (fun q => nomatch q)⟩
  have hJ4 : h4.IsListIter J l 0 := let ⟨o, e, r⟩ := hJ; ⟨o, kp4 _ _ e (fun q => nomatch q), r⟩
  have hl4 : h4.IsList l vs.toArray := ⟨_, HS4.hl, rfl, k, rfl⟩
  have hlen : vs.toArray.size = R.length := by rw [List.size_toArray]; exact H.si.len_eq
  have hlS : l ≠ s.heap.objs.size := Nat.ne_of_lt (Heap.lt_size H.hl)
  have hJS : J ≠ s.heap.objs.size := fun q => by
    have e := fJ
    rw [q, show H2.get? s.heap.objs.size = some _ from hS₂] at e; cases e
  have hJl : J ≠ l := fun q => by
    have e := fJ
    rw [q, show H2.get? l = some _ from HS2.hl] at e; cases e
  have hSf : s.heap.objs.size ∉ [J, l] := by
    simp only [List.mem_cons, List.not_mem_nil, or_false, not_or]; exact ⟨Ne.symm hJS, Ne.symm hlS⟩
  have W := (Walks.list (prog := PySem.Challenge.rw_fa0002_01.row.prog) (w := w) (A := A.in1.in1) hh J l (Ne.symm hJl) vs.toArray).toS
  have key : ∀ (h : Heap) (c₁ tk : Nat), (∀ b o, b ≠ s.heap.objs.size → h4.get? b = some o → h.get? b = some o) → h.get? s.heap.objs.size = some { cls := .type "list", data := .seq #[] c₁ } →
      codeAny (model PySem.Challenge.rw_fa0002_01.row.prog w) A.in1 (.builtin "list.extend.loop" ⟨[.ref s.heap.objs.size, .ref J, .none], []⟩) (wants (fun r s₂ => r = Value.none ∧ Q (Value.ref s.heap.objs.size) s₂) E) { s with heap := h, toks := tk } := by
    intro h c₁ tk hk hS₁
    refine codeAny_extend_loopS W (by rw [sizeLine_eq, hlen]; omega) _ hSf .none vs.toArray.size 0 _ #[] c₁ rfl (Nat.zero_le _) ⟨let ⟨o, e, r⟩ := hJ4; ⟨o, hk _ _ hJS e, r⟩, let ⟨o, e, r⟩ := hl4; ⟨o, hk _ _ hlS e, r⟩⟩ hS₁ (ItemsOf.nil _) fun s' acc' c' hm hS' hacc => ?_
    rw [Moved.eq_with hm]
    refine ⟨rfl, ret _ _ _ acc'.toList c' (Nat.le_refl _) (by rw [Array.toArray_toList]; exact hS') ?_ fun b o e _ => hm.heap b o (fun hmem => ?_) (hk b o (Nat.ne_of_lt (Heap.lt_size e)) (up4.all _ _ e))⟩
    · have : acc'.toList = vs := by
        apply List.ext_getElem?
        intro j
        by_cases hj : j < acc'.size
        · obtain ⟨v, hv⟩ : ∃ v, acc'[j]? = some v := ⟨_, Array.getElem?_eq_getElem hj⟩
          have h1 := hacc.2 j v hv
          rw [Array.getElem?_toList, hv]
          simpa using h1.symm
        · rw [Array.getElem?_toList, Array.getElem?_eq_none (Nat.not_lt.mp hj), List.getElem?_eq_none]
          have h5 : acc'.size = vs.length := by have := hacc.1; simpa using this
          have h6 : acc'.size ≤ j := Nat.not_lt.mp hj
          exact h5 ▸ h6
      rw [this]; exact H.si
    · rcases List.mem_cons.mp hmem with q | hmem
      · exact Nat.ne_of_lt (Heap.lt_size e) q
      · have q := List.mem_singleton.mp hmem
        have e2 := fJ
        rw [← q, show H2.get? b = some o from up2.all _ _ e] at e2; cases e2
  have hS4' : h4.get? s.heap.objs.size = some { cls := .type "list", data := .seq #[] 0 } := hS4
  refine wpAny_ite_split (fun _ => ?_) (fun _ => wpAny_pure ⟨plainId_quiet F.plain_extend_loop _, key h4 0 _ (fun b o _ e => e) hS4'⟩)
  refine wpAny_bind (wpAny_rule ?_)
  refine wpAny_bind ?_
  show wpAny _ _ (updateSeq s.heap.objs.size (·.push .none) >>= fun _ => updateSeq s.heap.objs.size (·.pop)) _ _ _
  refine wpAny_bind (wpAny_updateSeq hS4' rfl ?_)
  have hS5 := Heap.get?_update_self (Obj.mapSeq (·.push Value.none)) hS4' rfl
  refine wpAny_updateSeq (hz := by seq_fits) hS5 rfl ?_
  have hS6 := Heap.get?_update_self (Obj.mapSeq (·.pop)) hS5 rfl
  refine wpAny_pure ⟨plainId_quiet F.plain_extend_loop _, key _ _ _ (fun b o hb e => ?_) hS6⟩
  exact (Heap.get?_update_other _ _ (Ne.symm hb)).trans ((Heap.get?_update_other _ _ (Ne.symm hb)).trans e)
end
end Mine
end

-- part L7
section
open PySem PySem.W PySem.Calls PyProof.Rows PySem.Spec
set_option maxRecDepth 100000
namespace Mine
theorem news_cons {g h h' : Heap} {L D : Addr} {m : Str → Option Value} {led : List (Addr × Obj)} {o : Obj} (F : Fr g L h m) (N : News g L h' led) (hD : h.objs.size ≤ D) (e : h'.get? D = some o) : News g L h' ((D, o) :: led) := fun p hp => by
  rcases List.mem_cons.mp hp with rfl | hp
  · have hL := F.ns.lt
    exact ⟨e, Nat.ne_of_gt (Nat.lt_of_lt_of_le hL hD), Heap.get?_none_of_le (Nat.le_trans F.above (Nat.le_trans (Nat.le_of_lt hL) hD))⟩
  · exact N p hp
section
variable {w : World} {hb : Heap} {p : Program} {loose : List Str} {mean : ExcName → Option Value} {mg mb : Str → Option Value}
  {s : Shared} {Q : Flow → Shared → Prop} {E : Value → Shared → Prop} {g : Heap} {L : Addr} {m : Str → Option Value} {v : LV} {b : Int} {I D : Addr} {oI : Obj} {kD : Nat} {vn : List Value} {Ns : List Str}

set_option maxHeartbeats 8000000 in
theorem turn_asked (X : (hd.heap_39 w.params).In hb) (T : Top p loose mean mg mb hb) (B' : Below (AR 100 100 []) hb [] g) (X' : (hd.heap_39 w.params).In g) (T' : Top p loose mean mg mb g)
    (F : Fr g L s.heap m) (hm : Has m [(Str.ofString "row", .ref v.rl), (Str.ofString "heads", .ref v.x), (Str.ofString "names", .ref D)]) (N : News g L s.heap ((D, listOf vn.toArray kD) :: (I, oI) :: v.led w L))
    (hvn : StrsAre vn Ns) (hn0 : 0 < Ns.length) (hn4 : Ns.length ≤ 4) (hNs : ∀ y ∈ Ns, y ∈ MENU)
    (ret : ∀ h' tk m' z t, z ∈ MENU → Fr g L h' m' → Has m' [(Str.ofString "row", .ref v.rl), (Str.ofString "heads", .ref v.x), (Str.ofString "asked", .str z t)] → News g L h' ((I, oI) :: v.led w L) → Q .next { s with heap := h', toks := tk }) :
    wpAny (model PySem.Challenge.rw_fa0002_01.row.prog w) (lawA (lawEnv w.params L)) (exec (lawS w.params 4) (lawEnv w.params L)) Q E s := by
  unfold lawEnv
  conv in (occs := *) lawScope _ => all_goals whnf
  rw [lawS_eq]
  conv in lawT _ _ => whnf
  revert X; k_fill; intro X
  have F1 : Fr g L s.heap (mL _ m) := Fr.as F fun z => congrFun hm.eq z
  clear F
  obtain ⟨st, nb, rl, x, dx, l, sa, oc, so, t1, t2, t3, ta, k, kr, vs, vr, ws, R, ns, a, p7, p0, p8⟩ := v
  have N1 := N
  dsimp only [LV.led, mL] at N1 F1 hm ret
  try k_fold
  repeat' (first | ((with_reducible show wpAny _ _ _ _ _ _); (first | (k_unfold; (try dsimp only)) | walk1 | (dsimp only; walk1) | (leave1; try dsimp only))) | fail "stop")
  rename Fr _ _ _ _ => F9
  rename News _ _ _ _ => N9
  rename Tok => tz
  refine ret _ _ _ (Ns.getD (-1 + (Ns.length : Int)).toNat Str.empty) tz ?_ F9 (fun q hq => ?_) (fun q hq => N9 q (.tail _ hq))
  · rw [List.getD_eq_getElem?_getD, List.getElem?_eq_getElem (by omega)]; exact hNs _ (List.getElem_mem _)
  simp only [List.mem_cons, List.not_mem_nil, or_false] at hq
  rcases hq with rfl | rfl | rfl <;> rfl
set_option maxHeartbeats 8000000 in
theorem turn_same {z : Str} {t : Tok} (X : (hd.heap_39 w.params).In hb) (T : Top p loose mean mg mb hb) (B' : Below (AR 100 100 []) hb [] g) (X' : (hd.heap_39 w.params).In g) (T' : Top p loose mean mg mb g)
    (F : Fr g L s.heap m) (hm : Has m [(Str.ofString "row", .ref v.rl), (Str.ofString "heads", .ref v.x), (Str.ofString "asked", .str z t)]) (N : News g L s.heap ((I, oI) :: v.led w L)) (ok : v.Ok w b)
    (ret : ∀ h' tk d, Fr g L h' m → News g L h' ((I, oI) :: v.led w L) → Q .next { s with heap := h', toks := tk, drawn := d }) :
    wpAny (model PySem.Challenge.rw_fa0002_01.row.prog w) (lawA (lawEnv w.params L)) (exec (lawS w.params 5) (lawEnv w.params L)) Q E s := by
  unfold lawEnv
  conv in (occs := *) lawScope _ => all_goals whnf
  rw [lawS_eq]
  conv in lawT _ _ => whnf
  revert X; k_fill; intro X
  have hmE := fun z => congrFun hm.eq z
  have F1 : Fr g L s.heap (mL _ m) := Fr.as F hmE
  clear F
  obtain ⟨st, nb, rl, x, dx, l, sa, oc, so, t1, t2, t3, ta, k, kr, vs, vr, ws, R, ns, a, p7, p0, p8⟩ := v
  have hvr : StrsAre vr R := ok.hvr
  have hvs : StrsAre vs R := ok.hvs
  have hR5 : R.length ≤ 5 := ok.row.len
  have N0 : News g L s.heap ([(I, oI)] ++ LV.led w L ⟨st, nb, rl, x, dx, l, sa, oc, so, t1, t2, t3, ta, k, kr, vs, vr, ws, R, ns, a, p7, p0, p8⟩) := N
  have H := LV.hs ok N0
  have N1 := N
  dsimp only [LV.led, mL] at N1 F1 hm H
  try k_fold
  have hwin : ∀ q ∈ [x, dx, l, sa], q ∈ List.map (fun q : Addr × Obj => q.1) ([(I, oI)] ++ LV.led w L ⟨st, nb, rl, x, dx, l, sa, oc, so, t1, t2, t3, ta, k, kr, vs, vr, ws, R, ns, a, p7, p0, p8⟩) := LV.hw_in (v := ⟨st, nb, rl, x, dx, l, sa, oc, so, t1, t2, t3, ta, k, kr, vs, vr, ws, R, ns, a, p7, p0, p8⟩)
  repeat' (first | ((with_reducible show wpAny _ _ _ _ _ _); (fail_if_success (with_reducible show wpAny _ _ (call (.type "list") _) _ _ _)); (first | (k_unfold; (try dsimp only)) | walk1 | (dsimp only; walk1) | (leave1; try dsimp only))) | fail "stop")
  refine list_heads X T X' F1 H (Cx.sub (cx_ofE rfl rfl B' F1 N0) hwin) (by omega) rfl (Nat.le_of_ble_eq_true rfl) (Nat.le_of_ble_eq_true rfl) rfl fun D2 h2 tk2 vs2 c2 hD2 e2 hvs2 kp2 => ?_
  have F2 : Fr g L h2 _ := F1.keeps kp2.all
  have N2 : News g L h2 ((D2, listOf vs2.toArray c2) :: _) := news_cons F1 (N1.grown kp2.all) hD2 e2
  clear F1 N1
  try dsimp only
  repeat' (first | ((with_reducible show wpAny _ _ _ _ _ _); (fail_if_success (with_reducible show wpAny _ _ (compareOp _ _ _) _ _ _)); (first | (k_unfold; (try dsimp only)) | walk1 | (dsimp only; walk1) | (leave1; try dsimp only))) | fail "stop")
  rename Fr _ _ _ _ => F2
  rename News _ _ _ _ => N2
  refine strs_ne (news_list N2 (.head _)) (news_list N2 (by k_mem)) hvs2 hvr ok.row.ok ok.row.ok (Nat.lt_of_succ_le (Nat.le_of_ble_eq_true rfl)) ?_
  rw [show (!decide (R = R)) = false from by simp]
  repeat' (first | ((with_reducible show wpAny _ _ _ _ _ _); (first | (k_unfold; (try dsimp only)) | walk1 | (dsimp only; walk1) | (leave1; try dsimp only))) | fail "stop")
  rw [if_neg Bool.false_ne_true]
  repeat' (first | ((with_reducible show wpAny _ _ _ _ _ _); (fail_if_success (with_reducible show wpAny _ _ (call (.ref 150) _) _ _ _)); (first | (k_unfold; (try dsimp only)) | walk1 | (dsimp only; walk1) | (leave1; try dsimp only))) | fail "stop")
  refine ar_raise (D := 500) (U := 500) rfl (Nat.le_of_ble_eq_true rfl) (Nat.le_of_ble_eq_true rfl) rfl ?_
  refine len_spec X T (LV.hs (front := [(D2, listOf vs2.toArray c2), (I, oI)]) ok N2) (Cx.sub (cx_ofE rfl rfl B' F2 N2) fun a ha => .tail _ (hwin a ha)) fun h3 tk3 t3' kp3 => ⟨⟨Int.natCast_nonneg _, by dsimp only; omega⟩, ?_⟩
  have F3 : Fr g L h3 _ := F2.keeps kp3.all
  have N3 : News g L h3 ((I, oI) :: LV.led w L ⟨st, nb, rl, x, dx, l, sa, oc, so, t1, t2, t3, ta, k, kr, vs, vr, ws, R, ns, a, p7, p0, p8⟩) := News.sub (N2.grown kp3.all) fun q hq => .tail _ hq
  clear F2 N2
  dsimp only [LV.led] at N3 ⊢
  repeat' (first | ((with_reducible show wpAny _ _ _ _ _ _); (fail_if_success (with_reducible show wpAny _ _ (call (.builtin "len") _) _ _ _)); (first | (k_unfold; (try dsimp only)) | walk1 | (dsimp only; walk1) | (leave1; try dsimp only))) | fail "stop")
  have hvl : vr.toArray.size = R.length := by rw [List.size_toArray]; exact hvr.len_eq
  refine Calls.call_len_list (news_list N3 (by k_mem : (rl, listOf vr.toArray kr) ∈ _)) (by rw [hvl]; omega) ?_
  rw [hvl]
  repeat' (first | ((with_reducible show wpAny _ _ _ _ _ _); (first | (k_unfold; (try dsimp only)) | walk1 | (dsimp only; walk1) | (leave1; try dsimp only))) | fail "stop")
  rw [if_neg (by simp)]
  repeat' (first | ((with_reducible show wpAny _ _ _ _ _ _); (fail_if_success (with_reducible show wpAny _ _ (call (.ref 108) _) _ _ _)); (first | (k_unfold; (try dsimp only)) | walk1 | (dsimp only; walk1) | (leave1; try dsimp only))) | fail "stop")
  refine ⟨X'.keeps F3.keep, ?_⟩
  refine ar_raise (D := 500) (U := 500) rfl (Nat.le_of_ble_eq_true rfl) (Nat.le_of_ble_eq_true rfl) rfl ?_
  refine as_set_true X T (LV.hs (front := [(I, oI)]) ok N3) (Cx.sub (cx_ofE rfl rfl B' F3 N3) hwin) fun D4 h4 tk4 so4 f4 e4 hso4 hsp4 kp4 => ?_
  have F4 : Fr g L h4 _ := F3.keeps kp4.all
  have N4 : News g L h4 _ := N3.grown kp4.all
  clear F3 N3
  dsimp only
  repeat' (first | ((with_reducible show wpAny _ _ _ _ _ _); (fail_if_success (with_reducible show wpAny _ _ (call (.builtin "sorted") _) _ _ _)); (first | (k_unfold; (try dsimp only)) | walk1 | (dsimp only; walk1) | (leave1; try dsimp only))) | fail "stop")
  refine sorted_set rfl e4 hso4 hsp4 ok.row.nodup (by dsimp only; omega) fun D5 h5 d5 tk5 vs5 ks5 c5 hD5 e5 hs5 hp5 hst5 k5 => ?_
  have F5 : Fr g L h5 _ := F4.keeps k5
  have N5 : News g L h5 ((D5, listOf vs5.toArray c5) :: _) := news_cons F4 (N4.grown k5) hD5 e5
  clear F4 N4
  dsimp only
  repeat' (first | ((with_reducible show wpAny _ _ _ _ _ _); (fail_if_success (with_reducible show wpAny _ _ (call (.builtin "sorted") _) _ _ _)); (first | (k_unfold; (try dsimp only)) | walk1 | (dsimp only; walk1) | (leave1; try dsimp only))) | fail "stop")
  rename Fr _ _ _ _ => F5
  rename News _ _ _ _ => N5
  refine sorted_N_str F5 N5 (news_list N5 (by k_mem : (rl, listOf vr.toArray kr) ∈ _)) hvr (by rw [hvr.len_eq]; omega) fun h6 vs6 ss6 c6 F6 N6 hs6 hp6 hst6 => ?_
  clear F5 N5
  try dsimp only
  repeat' (first | ((with_reducible show wpAny _ _ _ _ _ _); (fail_if_success (with_reducible show wpAny _ _ (compareOp _ _ _) _ _ _)); (first | (k_unfold; (try dsimp only)) | walk1 | (dsimp only; walk1) | (leave1; try dsimp only))) | fail "stop")
  rename Fr _ _ _ _ => F7
  rename News _ _ _ _ => N7
  have hss : ks5 = ss6 := sorted_unique hst5 hst6 (hp5.trans hp6.symm)
  have ok5 : ∀ y ∈ ks5, PyData.strOk y = true := fun y hy => ok.row.ok y (hp5.mem_iff.mp hy)
  refine strs_ne (news_list N7 (.tail _ (.head _))) (news_list N7 (.head _)) hs5 hs6 ok5 (hss ▸ ok5) (Nat.lt_of_succ_le (Nat.le_of_ble_eq_true rfl)) ?_
  rw [show (!decide (ks5 = ss6)) = false from by simp [hss]]
  repeat' (first | ((with_reducible show wpAny _ _ _ _ _ _); (first | (k_unfold; (try dsimp only)) | walk1 | (dsimp only; walk1) | (leave1; try dsimp only))) | fail "stop")
  rw [if_neg Bool.false_ne_true]
  repeat' (first | ((with_reducible show wpAny _ _ _ _ _ _); (first | (k_unfold; (try dsimp only)) | walk1 | (dsimp only; walk1) | (leave1; try dsimp only))) | fail "stop")
  try rw [if_neg Bool.false_ne_true]
  repeat' (first | ((with_reducible show wpAny _ _ _ _ _ _); (first | (k_unfold; (try dsimp only)) | walk1 | (dsimp only; walk1) | (leave1; try dsimp only))) | fail "stop")
  rename Fr _ _ _ _ => F9
  rename News _ _ _ _ => N9
  exact ret _ _ _ (Fr.as F9 fun q => (hmE q).symm) (News.sub N9 fun q hq => .tail _ (.tail _ hq))
end
end Mine
end

-- part M1
section
open PySem PySem.W PySem.Calls PyProof.Rows PySem.Spec
set_option maxRecDepth 100000
namespace Mine
def run (σ : PS) (cs : List Nat) : PS := cs.foldl pstep σ
theorem run_app (σ : PS) (a b : List Nat) : run σ (a ++ b) = run (run σ a) b := by unfold run; rw [List.foldl_append]
theorem pst_run (y : Str) : pst y y.cps.size = run ⟨[], Str.empty, false, false⟩ y.cps.toList := by
  unfold pst run
  rw [List.take_of_length_le (by rw [Array.length_toList]; exact Nat.le_refl _)]
def outCh (c : Nat) : Bool := chS c != Str.ofString "," && chS c != DQ
def inCh (c : Nat) : Bool := chS c != BS && chS c != DQ
theorem app_ch (a : Str) (c : Nat) (cs : List Nat) : a ++ chS c ++ (⟨cs.toArray⟩ : Str) = a ++ (⟨(c :: cs).toArray⟩ : Str) := by
  show (⟨a.cps ++ #[c] ++ cs.toArray⟩ : Str) = ⟨a.cps ++ (c :: cs).toArray⟩
  congr 1
  apply Array.toList_inj.mp
  simp
theorem app_empty (a : Str) : a ++ (⟨([] : List Nat).toArray⟩ : Str) = a := by
  show (⟨a.cps ++ #[]⟩ : Str) = a
  simp
theorem run_out : ∀ (cs : List Nat) (its : List Str) (it : Str), cs.all outCh = true → run ⟨its, it, false, false⟩ cs = ⟨its, it ++ ⟨cs.toArray⟩, false, false⟩
  | [], its, it, _ => by rw [app_empty]; rfl
  | c :: cs, its, it, h => by
    rw [List.all_cons, Bool.and_eq_true] at h
    have h1 := h.1
    unfold outCh at h1
    rw [Bool.and_eq_true, bne_iff_ne, bne_iff_ne] at h1
    have e : pstep ⟨its, it, false, false⟩ c = ⟨its, it ++ chS c, false, false⟩ := by
      unfold pstep; dsimp only; rw [if_neg Bool.false_ne_true, if_neg Bool.false_ne_true, if_neg h1.1, if_neg h1.2]
    show run (pstep _ c) cs = _
    rw [e, run_out cs its _ h.2, app_ch]
theorem run_in : ∀ (cs : List Nat) (its : List Str) (it : Str), cs.all inCh = true → run ⟨its, it, false, true⟩ cs = ⟨its, it ++ ⟨cs.toArray⟩, false, true⟩
  | [], its, it, _ => by rw [app_empty]; rfl
  | c :: cs, its, it, h => by
    rw [List.all_cons, Bool.and_eq_true] at h
    have h1 := h.1
    unfold inCh at h1
    rw [Bool.and_eq_true, bne_iff_ne, bne_iff_ne] at h1
    have e : pstep ⟨its, it, false, true⟩ c = ⟨its, it ++ chS c, false, true⟩ := by
      unfold pstep; dsimp only; rw [if_neg Bool.false_ne_true, if_pos rfl, if_neg h1.1, if_neg h1.2]
    show run (pstep _ c) cs = _
    rw [e, run_in cs its _ h.2, app_ch]
/-- a text that the reader takes as it is -/
def Whole (q : Str) : Prop := ∀ its it, run ⟨its, it, false, false⟩ q.cps.toList = ⟨its, it ++ q, false, false⟩
theorem whole_out {q : Str} (h : q.cps.toList.all outCh = true) : Whole q := fun its it => by
  rw [run_out _ its it h]
theorem whole_quoted {m : List Nat} (h : m.all inCh = true) : Whole (DQ ++ ⟨m.toArray⟩ ++ DQ) := fun its it => by
  have e0 : (DQ ++ (⟨m.toArray⟩ : Str) ++ DQ).cps.toList = [34] ++ m ++ [34] := by
    show (DQ.cps ++ m.toArray ++ DQ.cps).toList = _
    simp [show DQ.cps = #[34] from by decide +kernel]
  have d : chS 34 = DQ := by decide +kernel
  have n1 : chS 34 ≠ Str.ofString "," := by decide +kernel
  have n2 : chS 34 ≠ BS := by decide +kernel
  rw [e0, run_app, run_app]
  have e1 : run ⟨its, it, false, false⟩ [34] = ⟨its, it ++ DQ, false, true⟩ := by
    show pstep ⟨its, it, false, false⟩ 34 = _
    unfold pstep; dsimp only; rw [if_neg Bool.false_ne_true, if_neg Bool.false_ne_true, if_neg n1, if_pos d, d]
  rw [e1, run_in _ _ _ h]
  show pstep ⟨its, it ++ DQ ++ ⟨m.toArray⟩, false, true⟩ 34 = _
  unfold pstep; dsimp only; rw [if_neg Bool.false_ne_true, if_pos rfl, if_neg n2, if_pos d, d]
  congr 1
  show (⟨it.cps ++ DQ.cps ++ m.toArray ++ DQ.cps⟩ : Str) = ⟨it.cps ++ (DQ.cps ++ m.toArray ++ DQ.cps)⟩
  congr 1
  apply Array.toList_inj.mp
  simp
theorem menu_whole : ∀ y ∈ MENU, Whole (quoteS y) := by
  intro y hy
  by_cases h : (quoteS y).cps.toList.all outCh = true
  · exact whole_out h
  · have e : quoteS y = DQ ++ ⟨XY.cps.toList.toArray⟩ ++ DQ := by
      have key : ∀ y ∈ MENU, (quoteS y).cps.toList.all outCh = true ∨ quoteS y = DQ ++ ⟨XY.cps.toList.toArray⟩ ++ DQ := by decide +kernel
      exact (key y hy).resolve_left h
    rw [e]
    exact whole_quoted (by decide +kernel)
def SP : Str := Str.ofString " "
theorem run_sep (its : List Str) (it : Str) : run ⟨its, it, false, false⟩ SEP.cps.toList = ⟨its ++ [it], SP, false, false⟩ := by
  have e : SEP.cps.toList = [44, 32] := by decide +kernel
  have c1 : chS 44 = Str.ofString "," := by decide +kernel
  have c2 : chS 32 ≠ Str.ofString "," := by decide +kernel
  have c3 : chS 32 ≠ DQ := by decide +kernel
  have c4 : Str.empty ++ chS 32 = SP := by decide +kernel
  rw [e]
  show pstep (pstep ⟨its, it, false, false⟩ 44) 32 = _
  have e1 : pstep ⟨its, it, false, false⟩ 44 = ⟨its ++ [it], Str.empty, false, false⟩ := by
    unfold pstep; dsimp only; rw [if_neg Bool.false_ne_true, if_neg Bool.false_ne_true, if_pos c1]
  rw [e1]
  unfold pstep; dsimp only; rw [if_neg Bool.false_ne_true, if_neg Bool.false_ne_true, if_neg c2, if_neg c3, c4]
theorem run_join : ∀ (r : List Str) (q : Str) (its : List Str) (it : Str), (∀ z ∈ q :: r, Whole z) → ∃ σ : PS, run ⟨its, it, false, false⟩ (Str.join SEP (q :: r)).cps.toList = σ ∧ σ.quo = false ∧ σ.items ++ [σ.item] = its ++ (it ++ q) :: r.map (SP ++ ·)
  | [], q, its, it, h => ⟨_, h q (.head _) its it, rfl, rfl⟩
  | q2 :: r, q, its, it, h => by
    obtain ⟨σ, e, h1, h2⟩ := run_join r q2 (its ++ [it ++ q]) SP fun z hz => h z (.tail _ hz)
    refine ⟨σ, ?_, h1, ?_⟩
    · have e0 : (Str.join SEP (q :: q2 :: r)).cps.toList = q.cps.toList ++ SEP.cps.toList ++ (Str.join SEP (q2 :: r)).cps.toList := by
        show (q.cps ++ SEP.cps ++ (Str.join SEP (q2 :: r)).cps).toList = _
        simp
      rw [e0, run_app, run_app, h q (.head _) its it, run_sep, e]
    · rw [h2]; simp
theorem menu_strip : ∀ y ∈ MENU, Txt.stripChars (quoteS y) WS = quoteS y ∧ Txt.stripChars (SP ++ quoteS y) WS = quoteS y ∧ kept (quoteS y) = true ∧ unq (quoteS y) = y ∧ (quoteS y = QXY ∨ Txt.startswith (quoteS y) DQ = false) ∧ (quoteS y).length ≤ 8 ∧ 0 < y.length ∧ plainS y = true := by decide +kernel
theorem all_strip : ∀ {r : List Str}, (∀ y ∈ r, y ∈ MENU) → ((r.map quoteS).map (SP ++ ·)).map (fun z => Txt.stripChars z WS) = r.map quoteS
  | [], _ => rfl
  | y :: r, h => by
    simp only [List.map_cons]
    rw [(menu_strip y (h y (.head _))).2.1]
    have ih := all_strip (r := r) fun z hz => h z (.tail _ hz)
    rw [ih]
theorem parts_join {R : List Str} (h : ∀ y ∈ R, y ∈ MENU) (hne : R ≠ []) : partsOf (Str.join SEP (R.map quoteS)) = R.map quoteS ∧ (pst (Str.join SEP (R.map quoteS)) (Str.join SEP (R.map quoteS)).cps.size).quo = false := by
  cases R with
  | nil => exact absurd rfl hne
  | cons y r =>
    obtain ⟨σ, e, h1, h2⟩ := run_join (r.map quoteS) (quoteS y) [] Str.empty fun z hz => by
      have hz' : z ∈ (y :: r).map quoteS := hz
      obtain ⟨a, ha, rfl⟩ := List.mem_map.mp hz'
      exact menu_whole a (h a ha)
    have ep : pst (Str.join SEP ((y :: r).map quoteS)) (Str.join SEP ((y :: r).map quoteS)).cps.size = σ := (pst_run _).trans e
    refine ⟨?_, by rw [ep]; exact h1⟩
    unfold partsOf
    rw [ep, h2, List.nil_append, empty_app, List.map_cons, (menu_strip y (h y (.head _))).1, all_strip fun z hz => h z (.tail _ hz), List.map_cons]
theorem filter_all {α : Type} {f : α → Bool} : ∀ {l : List α}, (∀ x ∈ l, f x = true) → l.filter f = l
  | [], _ => rfl
  | x :: r, h => by rw [List.filter_cons_of_pos (h x (.head _)), filter_all fun y hy => h y (.tail _ hy)]
theorem map_unq : ∀ {R : List Str}, (∀ y ∈ R, y ∈ MENU) → (R.map quoteS).map unq = R
  | [], _ => rfl
  | y :: r, h => by
    rw [List.map_cons, List.map_cons, (menu_strip y (h y (.head _))).2.2.2.1, map_unq fun z hz => h z (.tail _ hz)]
theorem fold_len : ∀ (l : List Str) (a : Nat), (∀ y ∈ l, y.length ≤ 8) → l.foldl (fun b t => b + t.length + 2) a ≤ a + 10 * l.length
  | [], a, _ => Nat.le_refl _
  | y :: r, a, h => by
    have h1 := h y (.head _)
    have ih := fold_len r (a + y.length + 2) fun z hz => h z (.tail _ hz)
    simp only [List.foldl_cons, List.length_cons]
    omega
structure HeadFacts (R : List Str) : Prop where
  len : (Txt.join SEP (R.map quoteS)).length ≤ 1000
  quo : (pst (Txt.join SEP (R.map quoteS)) (Txt.join SEP (R.map quoteS)).cps.size).quo = false
  ok : ∀ z ∈ partsOf (Txt.join SEP (R.map quoteS)), z = QXY ∨ Txt.startswith z DQ = false
  same : parsed (Txt.join SEP (R.map quoteS)) = R
  join : JoinOk SEP (R.map quoteS) = true
  good : ∀ y ∈ R, Good y
theorem RowOk.head {R : List Str} (h : RowOk R) : HeadFacts R := by
  have e : Txt.join SEP (R.map quoteS) = Str.join SEP (R.map quoteS) := StrLaws.glued_eq_join ..
  have h8 : ∀ z ∈ R.map quoteS, z.length ≤ 8 := fun z hz => by
    obtain ⟨y, hy, rfl⟩ := List.mem_map.mp hz
    exact (menu_strip y (h.menu y hy)).2.2.2.2.2.1
  have hf := fold_len (R.map quoteS) 0 h8
  have hl := h.len
  rw [List.length_map] at hf
  have hs : SEP.length = 2 := by decide +kernel
  have hj : JoinOk SEP (R.map quoteS) = true := by
    unfold JoinOk
    rw [Bool.not_eq_true', List.foldl_toArray', hs] <;> first | exact short24 (by omega) | rfl
  have good : ∀ y ∈ R, Good y := fun y hy => ⟨(menu_strip y (h.menu y hy)).2.2.2.2.2.2.1, (menu_strip y (h.menu y hy)).2.2.2.2.2.2.2⟩
  have hlen : (Txt.join SEP (R.map quoteS)).length ≤ 1000 := by
    rw [e]
    refine Nat.le_trans (StrLaws.join_length_le _ _) ?_
    have q : ∀ l : List Str, (∀ y ∈ l, y.length ≤ 8) → (l.map (·.length)).sum ≤ 8 * l.length := by
      intro l
      induction l with
      | nil => intro _; exact Nat.le_refl _
      | cons a r ih =>
        intro h
        have h1 := h a (.head _)
        have h2 := ih fun z hz => h z (.tail _ hz)
        simp only [List.map_cons, List.sum_cons, List.length_cons]
        omega
    have := q _ h8
    rw [List.length_map] at this ⊢
    rw [hs]
    omega
  by_cases hne : R = []
  · subst hne
    exact ⟨hlen, by decide +kernel, by decide +kernel, by decide +kernel, hj, good⟩
  · obtain ⟨h1, h2⟩ := parts_join h.menu hne
    refine ⟨hlen, e ▸ h2, ?_, ?_, hj, good⟩
    · rw [e, h1]
      intro z hz
      obtain ⟨y, hy, rfl⟩ := List.mem_map.mp hz
      exact (menu_strip y (h.menu y hy)).2.2.2.2.1
    · unfold parsed
      rw [e, h1, filter_all, map_unq h.menu]
      intro z hz
      obtain ⟨y, hy, rfl⟩ := List.mem_map.mp hz
      exact (menu_strip y (h.menu y hy)).2.2.1
end Mine
end

-- part L11
section
open PySem PySem.W PySem.Calls PyProof.Rows PySem.Spec
set_option maxRecDepth 100000
namespace Mine
section
variable {prog : Program} {w : World} {A : Around} {E : Value → Shared → Prop} {s : Shared} {g : Heap} {L l : Addr} {m : Str → Option Value} {news : List (Addr × Obj)} {vs : List Value} {R : List Str}
theorem listcomp_src {env : Env} {scope : Scope} {cl : List (Str × Addr)} {x : Str} {elt : Expr} {Q : Value → Shared → Prop} (f : Str → Str) (F : Fr g L s.heap m) (N : News g L s.heap news) (hh : A.handled = none) (hl : s.heap.IsList l vs.toArray) (hi : StrsAre vs R)
    (hfit : R.length ≤ 1000)
    (helt : ∀ y ∈ R, ∀ t C s₃ m₃ E', s₃.heap.Ns C m₃ → m₃ x = some (.str y t) → wpAny (model prog w) A (eval elt (compEnvC scope cl C env)) (fun v s₅ => (∃ t, v = .str (f y) t) ∧ Keeps s₃ s₅) E' s₃)
    (h : ∀ D h' tk ys c, Fr g L h' m → News g L h' ((D, listOf ys.toArray c) :: news) → StrsAre ys (R.map f) → Q (.ref D) { s with heap := h', toks := tk }) :
    wpAny (model prog w) A (pyIter (.ref l)) (fun it s₂ => ∃ I fp wr n P St J, it = .ref I ∧ Turns prog w A env scope cl x [] elt I fp wr n P St J s₂ ∧
      ∀ D h' tk ys, s₂.heap.objs.size ≤ D → h'.PlainList D ys.toArray → J n ys h' → Q (.ref D) { s₂ with heap := h', toks := tk }) E s := by
  refine wpAny_pyIter_list hl ?_
  have hlt : l < s.heap.objs.size := by obtain ⟨_, e, _⟩ := hl; exact Heap.lt_size e
  have hlen : vs.toArray.size = R.length := by rw [List.size_toArray]; exact hi.len_eq
  refine ⟨s.heap.objs.size, [s.heap.objs.size, l], [s.heap.objs.size], R.length, _, _, fun i ys h => (∀ b o, s.heap.get? b = some o → h.get? b = some o) ∧ StrsAre ys ((R.take i).map f) ∧ ys.length ≤ i, rfl,
    ⟨hlen ▸ Walks.list hh s.heap.objs.size l (Nat.ne_of_lt hlt) vs.toArray, ⟨⟨_, Heap.get?_push_size _ rfl, rfl, rfl⟩, hl.push _⟩, ?_, ⟨fun b o e => Heap.get?_push_of_some _ e, .nil, Nat.le_refl _⟩, ?_, fun i ys h q => q.2.2, by omega, ?_⟩, ?_⟩
  · intro b hb
    show b < (s.heap.push _).objs.size
    rw [Heap.size_push]
    rcases List.mem_cons.mp hb with rfl | hb
    · exact Nat.lt_succ_self _
    · rw [List.mem_singleton.mp hb]; exact Nat.lt_succ_of_lt hlt
  · rintro i ys h h' ⟨q1, q2⟩ k
    refine ⟨fun b o e => k b o ?_ (fun q => ?_) (q1 b o e), q2⟩
    · show b < (s.heap.push _).objs.size
      rw [Heap.size_push]; exact Nat.lt_succ_of_lt (Heap.lt_size e)
    · exact absurd (Heap.lt_size e) (by rw [List.mem_singleton.mp q]; exact Nat.lt_irrefl _)
  · rintro i v C D ys s₃ m₃ E' hi' hP ⟨q1, q2, q3⟩ hst hn hm hC hD hD2 hDC -
    obtain ⟨y, t, e1, rfl⟩ := strs_get hi (i := i) (by simpa using hP)
    refine wpAny_tests_nil ?_
    rw [if_pos rfl]
    refine wpAny_mono (helt y (List.mem_of_getElem? e1) t C s₃ m₃ E' hn hm) (fun v s₅ h₅ => ?_) fun _ _ e => e
    obtain ⟨⟨t', rfl⟩, h5, tk5, rfl, k5⟩ := h₅
    refine ⟨h5, tk5, rfl, ⟨fun b o e => k5 b o (q1 b o e), ?_, by rw [List.length_append]; exact Nat.succ_le_succ q3⟩, fun b _ o e => k5 b o e⟩
    rw [List.take_add_one, e1, List.map_append]
    exact q2.append' (.cons _ _ .nil)
  · rintro D h' tk ys hD ⟨c, hl'⟩ ⟨q1, q2, -⟩
    rw [List.take_length] at q2
    have hD' : s.heap.objs.size + 1 ≤ D := by have := hD; rwa [show ({ s with heap := s.heap.push _ } : Shared).heap.objs.size = s.heap.objs.size + 1 from Heap.size_push ..] at this
    exact h D h' tk ys c (F.keeps q1) (news_cons F (N.grown q1) (Nat.le_of_succ_le hD') hl') q2
end
section
variable {w : World} {g h h' : Heap} {L : Addr} {m : Str → Option Value} {led front : List (Addr × Obj)} {v : LV} {b : Int}
theorem LV.tabs_in : ∀ a ∈ [207, 200, 188], a ∈ (front ++ v.led w L).map (·.1) := fun a ha => by
  rw [List.map_append]
  refine List.mem_append_right _ ?_
  simp only [LV.led, List.map_cons, List.map_nil, List.mem_cons, List.not_mem_nil, or_false] at ha ⊢
  rcases ha with rfl | rfl | rfl <;> simp
theorem LV.tabs_after {q7 q0 q8 : Array Value} (Ap : v.Apart L) (N : News g L h (front ++ v.led w L)) (hfront : ∀ q ∈ front, q.1 ∉ [207, 200, 188]) (kp : Kp [207, 200, 188] h h') (e7 : h'.get? 207 = some (tabObj q7)) (e0 : h'.get? 200 = some (tabObj q0)) (e8 : h'.get? 188 = some (tabObj q8)) :
    News g L h' (front ++ ({ v with p7 := q7, p0 := q0, p8 := q8 } : LV).led w L) := by
  refine news_back N kp fun q hq => ?_
  have hs := Ap.tb
  simp only [List.forall_mem_cons] at hs
  have new : ∀ a, a ∈ [207, 200, 188] → a ∈ (front ++ v.led w L).map (·.1) := fun a ha => LV.tabs_in a ha
  rcases List.mem_append.mp hq with hq | hq
  · exact .inl ⟨List.mem_append_left _ hq, hfront q hq⟩
  · simp only [LV.led, List.mem_cons, List.not_mem_nil, or_false] at hq
    rcases hq with rfl | rfl | rfl | rfl | rfl | rfl | rfl | rfl | rfl | rfl | rfl
    · exact .inl ⟨List.mem_append_right _ (by simp [LV.led]), hs.1⟩
    · exact .inl ⟨List.mem_append_right _ (by simp [LV.led]), hs.2.1⟩
    · exact .inl ⟨List.mem_append_right _ (by simp [LV.led]), hs.2.2.1⟩
    · exact .inl ⟨List.mem_append_right _ (by simp [LV.led]), hs.2.2.2.1⟩
    · exact .inl ⟨List.mem_append_right _ (by simp [LV.led]), hs.2.2.2.2.1⟩
    · exact .inl ⟨List.mem_append_right _ (by simp [LV.led]), hs.2.2.2.2.2.1⟩
    · exact .inl ⟨List.mem_append_right _ (by simp [LV.led]), hs.2.2.2.2.2.2.1⟩
    · exact .inl ⟨List.mem_append_right _ (by simp [LV.led]), hs.2.2.2.2.2.2.2.1⟩
    · exact .inr ⟨new _ (by simp), e7⟩
    · exact .inr ⟨new _ (by simp), e0⟩
    · exact .inr ⟨new _ (by simp), e8⟩
theorem LV.Ok.tabs {q7 q0 q8 : Array Value} (ok : v.Ok w b) (t7 : TriplesOk q7.toList) (t0 : TriplesOk q0.toList) (t8 : TriplesOk q8.toList) : ({ v with p7 := q7, p0 := q0, p8 := q8 } : LV).Ok w b :=
  ⟨ok.hoc, ok.hws, ok.hn0, ok.hn1, ok.hns, ok.a0, ok.a1, ok.hvr, ok.hvs, ok.ss, ok.sp, ok.row, t7, t0, t8, ok.lr⟩
theorem LV.m_7 : (207, tabObj v.p7) ∈ v.led w L := .tail _ (.tail _ (.tail _ (.tail _ (.tail _ (.tail _ (.tail _ (.tail _ (.head _))))))))
theorem LV.m_0 : (200, tabObj v.p0) ∈ v.led w L := .tail _ (.tail _ (.tail _ (.tail _ (.tail _ (.tail _ (.tail _ (.tail _ (.tail _ (.head _)))))))))
theorem LV.m_8 : (188, tabObj v.p8) ∈ v.led w L := .tail _ (.tail _ (.tail _ (.tail _ (.tail _ (.tail _ (.tail _ (.tail _ (.tail _ (.tail _ (.head _))))))))))
end
section
variable {w : World} {hb : Heap} {p : Program} {loose : List Str} {mean : ExcName → Option Value} {mg mb : Str → Option Value}
  {s : Shared} {Q : Flow → Shared → Prop} {E : Value → Shared → Prop} {g : Heap} {L : Addr} {m : Str → Option Value} {v : LV} {b : Int} {I : Addr} {oI : Obj}

set_option maxHeartbeats 8000000 in
theorem turn_text {z : Str} {t : Tok} (X : (hd.heap_39 w.params).In hb) (T : Top p loose mean mg mb hb) (B' : Below (AR 100 100 []) hb [] g) (X' : (hd.heap_39 w.params).In g) (T' : Top p loose mean mg mb g)
    (F : Fr g L s.heap m) (hm : Has m [(Str.ofString "row", .ref v.rl), (Str.ofString "heads", .ref v.x), (Str.ofString "asked", .str z t)]) (N : News g L s.heap ((I, oI) :: v.led w L)) (hoff : ∀ q ∈ v.led w L, q.1 ≠ I) (ok : v.Ok w b) (hG : AllBare s.gens)
    (ret : ∀ h' tk d gens' q7 q0 q8, Fr g L h' m → News g L h' ((I, oI) :: ({ v with p7 := q7, p0 := q0, p8 := q8 } : LV).led w L) → ({ v with p7 := q7, p0 := q0, p8 := q8 } : LV).Ok w b → AllBare gens' → Q .next { s with heap := h', toks := tk, drawn := d, gens := gens' }) :
    wpAny (model PySem.Challenge.rw_fa0002_01.row.prog w) (lawA (lawEnv w.params L)) (exec (lawS w.params 7) (lawEnv w.params L)) Q E s := by
  unfold lawEnv
  conv in (occs := *) lawScope _ => all_goals whnf
  rw [lawS_eq]
  conv in lawT _ _ => whnf
  revert X; k_fill; intro X
  have hmE := fun z => congrFun hm.eq z
  have F1 : Fr g L s.heap (mL _ m) := Fr.as F hmE
  clear F
  have Ap := ok.apart N fun p hp => .tail _ hp
  obtain ⟨st, nb, rl, x, dx, l, sa, oc, so, t1, t2, t3, ta, k, kr, vs, vr, ws, R, ns, a, p7, p0, p8⟩ := v
  have hvr : StrsAre vr R := ok.hvr
  have hR5 : R.length ≤ 5 := ok.row.len
  have HF : HeadFacts R := ok.row.head
  have N0 : News g L s.heap ([(I, oI)] ++ LV.led w L ⟨st, nb, rl, x, dx, l, sa, oc, so, t1, t2, t3, ta, k, kr, vs, vr, ws, R, ns, a, p7, p0, p8⟩) := N
  have hIt : ∀ q ∈ [(I, oI)], q.1 ∉ [207, 200, 188] := fun q hq => by
    rw [List.mem_singleton.mp hq]
    simp only [LV.led, List.forall_mem_cons] at hoff
    simp only [List.mem_cons, List.not_mem_nil, or_false, not_or]
    exact ⟨Ne.symm hoff.2.2.2.2.2.2.2.2.1, Ne.symm hoff.2.2.2.2.2.2.2.2.2.1, Ne.symm hoff.2.2.2.2.2.2.2.2.2.2.1⟩
  have N1 := N
  dsimp only [LV.led, mL] at N1 F1 hm
  have hwin : ∀ q ∈ [x, dx, l, sa], q ∈ List.map (fun q : Addr × Obj => q.1) ([(I, oI)] ++ LV.led w L ⟨st, nb, rl, x, dx, l, sa, oc, so, t1, t2, t3, ta, k, kr, vs, vr, ws, R, ns, a, p7, p0, p8⟩) := LV.hw_in (v := ⟨st, nb, rl, x, dx, l, sa, oc, so, t1, t2, t3, ta, k, kr, vs, vr, ws, R, ns, a, p7, p0, p8⟩)
  have htin : ∀ q ∈ [207, 200, 188], q ∈ List.map (fun q : Addr × Obj => q.1) ([(I, oI)] ++ LV.led w L ⟨st, nb, rl, x, dx, l, sa, oc, so, t1, t2, t3, ta, k, kr, vs, vr, ws, R, ns, a, p7, p0, p8⟩) := LV.tabs_in (v := ⟨st, nb, rl, x, dx, l, sa, oc, so, t1, t2, t3, ta, k, kr, vs, vr, ws, R, ns, a, p7, p0, p8⟩)
  try k_fold
  repeat' (first | ((with_reducible show wpAny _ _ _ _ _ _); (fail_if_success (with_reducible show wpAny _ _ (call (.ref 115) _) _ _ _)); (first | (k_unfold; (try dsimp only)) | walk1 | (dsimp only; walk1) | (leave1; try dsimp only))) | fail "stop")
  dsimp only
  refine callWith_K0 (X'.keeps F1.keep) (by k_is) ?_
  dsimp only [List.cons_append, List.nil_append]
  refine ar_raise (D := 200) (U := 200) rfl (Nat.le_of_ble_eq_true rfl) (Nat.le_of_ble_eq_true rfl) rfl ?_
  refine header_spec X T (LV.hs ok N0) (N0 _ (List.mem_append_right _ (LV.m_8 (v := ⟨st, nb, rl, x, dx, l, sa, oc, so, t1, t2, t3, ta, k, kr, vs, vr, ws, R, ns, a, p7, p0, p8⟩)))).1 ok.t8 (Cx.sub (cx_ofE rfl rfl B' F1 N0) ?sub) hG HF.good HF.join fun th h2 tk2 gens2 tab2 kp2 hG2 => ?_
  case sub =>
    intro q hq
    have hq' : q ∈ [x, dx, l, sa] ++ [188] := hq
    rcases List.mem_append.mp hq' with hq | hq
    · exact hwin q hq
    · exact htin q (by rw [List.mem_singleton.mp hq]; simp)
  obtain ⟨r8, e8, s8⟩ := tab2
  have kp2' : Kp [207, 200, 188] s.heap h2 := kp2.mono fun q hq => by rw [List.mem_singleton.mp hq]; simp
  have e7 := kp2 _ _ (N0 _ (List.mem_append_right _ (LV.m_7 (v := ⟨st, nb, rl, x, dx, l, sa, oc, so, t1, t2, t3, ta, k, kr, vs, vr, ws, R, ns, a, p7, p0, p8⟩)))).1 (show _ ∉ [188] from by simp)
  have e0 := kp2 _ _ (N0 _ (List.mem_append_right _ (LV.m_0 (v := ⟨st, nb, rl, x, dx, l, sa, oc, so, t1, t2, t3, ta, k, kr, vs, vr, ws, R, ns, a, p7, p0, p8⟩)))).1 (show _ ∉ [188] from by simp)
  have F2 := fr_back F1 N0 kp2' htin
  have N2 : News g L h2 ([(I, oI)] ++ LV.led w L ⟨st, nb, rl, x, dx, l, sa, oc, so, t1, t2, t3, ta, k, kr, vs, vr, ws, R, ns, a, p7, p0, r8⟩) := LV.tabs_after Ap N0 hIt kp2' e7 e0 e8
  clear F1 N1
  have N2' := N2
  dsimp only [LV.led, List.cons_append, List.nil_append] at N2' ⊢
  repeat' (first | ((with_reducible show wpAny _ _ _ _ _ _); (fail_if_success (with_reducible show wpAny _ _ (call (.ref 218) _) _ _ _)); (first | (k_unfold; (try dsimp only)) | walk1 | (dsimp only; walk1) | (leave1; try dsimp only))) | fail "stop")
  refine ⟨X'.keeps F2.keep, ?_⟩
  refine ar_raise (D := 200) (U := 200) rfl (Nat.le_of_ble_eq_true rfl) (Nat.le_of_ble_eq_true rfl) rfl ?_
  refine parse_set_spec X T (Cx.sub (cx_ofE rfl rfl B' F2 N2) fun q hq => htin q (by simp only [List.mem_cons, List.not_mem_nil, or_false] at hq ⊢; rcases hq with rfl | rfl <;> simp)) e7 ok.t7 e0 ok.t0 hG2 HF.len HF.quo HF.ok HF.same (by omega) ok.row.dist ok.row.sh fun x5 dx5 l5 sa5 t15 t25 t35 k5 vs5 so5 h3 tk3 gens3 H5 tab7 tab0 hG3 kp3 non => ?_
  obtain ⟨r7, e7', s7⟩ := tab7
  obtain ⟨r0, e0', s0⟩ := tab0
  have kp3' : Kp [207, 200, 188] h2 h3 := kp3.mono fun q hq => by simp only [List.mem_cons, List.not_mem_nil, or_false] at hq ⊢; rcases hq with rfl | rfl <;> simp
  have e8' := kp3 _ _ e8 (by decide)
  have F3 : Fr g L h3 _ := fr_back F2 N2 kp3' htin
  have N3 : News g L h3 ([(I, oI)] ++ LV.led w L ⟨st, nb, rl, x, dx, l, sa, oc, so, t1, t2, t3, ta, k, kr, vs, vr, ws, R, ns, a, r7, r0, r8⟩) := LV.tabs_after (v := ⟨st, nb, rl, x, dx, l, sa, oc, so, t1, t2, t3, ta, k, kr, vs, vr, ws, R, ns, a, p7, p0, r8⟩) ⟨Ap.st, Ap.hs, Ap.tb⟩ N2 hIt kp3' e7' e0' e8'
  have ok3 : LV.Ok w ⟨st, nb, rl, x, dx, l, sa, oc, so, t1, t2, t3, ta, k, kr, vs, vr, ws, R, ns, a, r7, r0, r8⟩ b := (ok.tabs s7 s0 s8)
  have N4 := news_new (news' := hsNews w x5 dx5 l5 sa5 t15 t25 t35 k5 vs5 so5) F2 N3 fun q hq => ⟨by
    rcases List.mem_cons.mp hq with rfl | hq
    · exact non.1
    rcases List.mem_cons.mp hq with rfl | hq
    · exact non.2.1
    rcases List.mem_cons.mp hq with rfl | hq
    · exact non.2.2.1
    · rw [List.mem_singleton.mp hq]; exact non.2.2.2, H5.get q hq⟩
  clear F2 N2 N2'
  have N4' := N4
  dsimp only [LV.led, hsNews, List.cons_append, List.nil_append] at N4' ⊢
  repeat' (first | ((with_reducible show wpAny _ _ _ _ _ _); (fail_if_success (with_reducible show wpAny _ _ (call (.type "list") _) _ _ _)); (first | (k_unfold; (try dsimp only)) | walk1 | (dsimp only; walk1) | (leave1; try dsimp only))) | fail "stop")
  refine list_heads X T X' F3 H5 (Cx.sub (cx_ofE rfl rfl B' F3 N4) fun q hq => ?sub2) (by omega) rfl (Nat.le_of_ble_eq_true rfl) (Nat.le_of_ble_eq_true rfl) rfl fun D6 h6 tk6 vs6 c6 hD6 e6 hvs6 kp6 => ?_
  case sub2 =>
    rw [List.map_append]
    refine List.mem_append_left _ ?_
    simp only [List.mem_cons, List.not_mem_nil, or_false] at hq
    rcases hq with rfl | rfl | rfl | rfl <;> simp
  have F6 : Fr g L h6 _ := F3.keeps kp6.all
  have N6 : News g L h6 ((D6, listOf vs6.toArray c6) :: ([(I, oI)] ++ LV.led w L ⟨st, nb, rl, x, dx, l, sa, oc, so, t1, t2, t3, ta, k, kr, vs, vr, ws, R, ns, a, r7, r0, r8⟩)) := news_cons F3 (N3.grown kp6.all) hD6 e6
  clear F3 N3 N4 N4'
  dsimp only [LV.led, List.cons_append, List.nil_append] at N6
  try dsimp only
  repeat' (first | ((with_reducible show wpAny _ _ _ _ _ _); (fail_if_success (with_reducible show wpAny _ _ (compareOp _ _ _) _ _ _)); (first | (k_unfold; (try dsimp only)) | walk1 | (dsimp only; walk1) | (leave1; try dsimp only))) | fail "stop")
  rename Fr _ _ _ _ => F6
  rename News _ _ _ _ => N6
  refine strs_ne (news_list N6 (.head _)) (news_list N6 (by k_mem : (rl, listOf vr.toArray kr) ∈ _)) hvs6 hvr ok.row.ok ok.row.ok (Nat.lt_of_succ_le (Nat.le_of_ble_eq_true rfl)) ?_
  rw [show (!decide (R = R)) = false from by simp]
  repeat' (first | ((with_reducible show wpAny _ _ _ _ _ _); (first | (k_unfold; (try dsimp only)) | walk1 | (dsimp only; walk1) | (leave1; try dsimp only))) | fail "stop")
  rw [if_neg Bool.false_ne_true]
  repeat' (first | ((with_reducible show wpAny _ _ _ _ _ _); (fail_if_success (with_reducible show wpAny _ _ (call (.ref 108) _) _ _ _)); (first | (k_unfold; (try dsimp only)) | walk1 | (dsimp only; walk1) | (leave1; try dsimp only))) | fail "stop")
  try dsimp only
  rename Fr _ _ _ _ => F6
  rename News _ _ _ _ => N6
  try (refine callWith_K0 (X'.keeps F6.keep) (by k_is) ?_)
  try dsimp only [List.cons_append, List.nil_append]
  refine ar_raise (D := 500) (U := 500) rfl (Nat.le_of_ble_eq_true rfl) (Nat.le_of_ble_eq_true rfl) rfl ?_
  refine as_set_false X T (LV.hs (front := [(D6, listOf vs6.toArray c6), (I, oI)]) ok3 N6) (Cx.sub (cx_ofE rfl rfl B' F6 N6) fun q hq => .tail _ (hwin q hq)) (by dsimp only; omega) fun D7 h7 tk7 so7 f7 e7s hso7 hsp7 kp7 => ?_
  have F7 : Fr g L h7 _ := F6.keeps kp7.all
  have N7 : News g L h7 _ := News.sub (N6.grown kp7.all) fun q hq => .tail _ hq
  clear F6 N6
  dsimp only
  repeat' (first | ((with_reducible show wpAny _ _ _ _ _ _); (fail_if_success (with_reducible show wpAny _ _ (call (.builtin "sorted") _) _ _ _)); (first | (k_unfold; (try dsimp only)) | walk1 | (dsimp only; walk1) | (leave1; try dsimp only))) | fail "stop")
  refine sorted_set (ks := R.map Txt.lower) rfl e7s (by rw [List.length_map]; exact hso7) hsp7 ok.row.dist (by rw [List.length_map]; omega) fun D8 h8 d8 tk8 vs8 ks8 c8 hD8 e8s hs8 hp8 hst8 k8 => ?_
  have F8 : Fr g L h8 _ := F7.keeps k8
  have N8 : News g L h8 ((D8, listOf vs8.toArray c8) :: _) := news_cons F7 (N7.grown k8) hD8 e8s
  clear F7 N7
  dsimp only
  repeat' (first | ((with_reducible show wpAny _ _ _ _ _ _); (fail_if_success (with_reducible show wpAny _ _ (eval (Expr.ListComp _ _ _ _) _) _ _ _)); (first | (k_unfold; (try dsimp only)) | walk1 | (dsimp only; walk1) | (leave1; try dsimp only))) | fail "stop")
  k_fold
  refine' eval_listcomp ?l1 ?l2 ?l3 ?l4 ?l5 ?l6 ?_
  case l1 => with_unfolding_all rfl
  case l2 => decide
  case l3 => rfl
  case l4 => decide
  case l5 => rfl
  case l6 => intro _; rfl
  repeat' (first | ((with_reducible show wpAny _ _ _ _ _ _); (fail_if_success (with_reducible show wpAny _ _ (pyIter _) _ _ _)); (first | (k_unfold; (try dsimp only)) | walk1 | (dsimp only; walk1) | (leave1; try dsimp only))) | fail "stop")
  rename Fr _ _ _ _ => F8
  rename News _ _ _ _ => N8
  apply listcomp_src (f := Txt.lower)
  case F => exact F8
  case N => exact N8
  case hh => rfl
  case hi => exact hvr
  case hl => exact news_list N8 (by k_mem)
  case hfit => omega
  case helt =>
    intro y hy t C s₃ m₃ E' hns hm'
    have hyl : y.length ≤ 1000 := ok.row.sh y hy
    clear F8 N8
    repeat' (first | ((with_reducible show wpAny _ _ _ _ _ _); (first | (k_unfold; (try dsimp only)) | walk1 | (dsimp only; walk1) | (leave1; try dsimp only))) | fail "stop")
    exact ⟨⟨_, rfl⟩, _, _, rfl, fun _ _ e => e⟩
  clear F8 N8
  intro D9 h9 tk9 ys9 c9 F9 N9 hys9
  try dsimp only
  repeat' (first | ((with_reducible show wpAny _ _ _ _ _ _); (fail_if_success (with_reducible show wpAny _ _ (call (.builtin "sorted") _) _ _ _)); (first | (k_unfold; (try dsimp only)) | walk1 | (dsimp only; walk1) | (leave1; try dsimp only))) | fail "stop")
  rename Fr _ _ _ _ => F9
  rename News _ _ _ _ => N9
  refine sorted_N_str F9 N9 (news_list N9 (.head _)) hys9 (by rw [hys9.len_eq, List.length_map]; omega) fun h10 vs10 ss10 c10 F10 N10 hs10 hp10 hst10 => ?_
  clear F9 N9
  try dsimp only
  repeat' (first | ((with_reducible show wpAny _ _ _ _ _ _); (fail_if_success (with_reducible show wpAny _ _ (compareOp _ _ _) _ _ _)); (first | (k_unfold; (try dsimp only)) | walk1 | (dsimp only; walk1) | (leave1; try dsimp only))) | fail "stop")
  rename Fr _ _ _ _ => F7
  rename News _ _ _ _ => N7
  have hss : ks8 = ss10 := sorted_unique hst8 hst10 (hp8.trans hp10.symm)
  have ok5 : ∀ y ∈ ks8, PyData.strOk y = true := fun y hy => ok.row.okl y (hp8.mem_iff.mp hy)
  refine strs_ne (news_list N7 (by k_mem : (D8, listOf vs8.toArray c8) ∈ _)) (news_list N7 (.head _)) hs8 hs10 ok5 (hss ▸ ok5) (Nat.lt_of_succ_le (Nat.le_of_ble_eq_true rfl)) ?_
  rw [show (!decide (ks8 = ss10)) = false from by simp [hss]]
  repeat' (first | ((with_reducible show wpAny _ _ _ _ _ _); (first | (k_unfold; (try dsimp only)) | walk1 | (dsimp only; walk1) | (leave1; try dsimp only))) | fail "stop")
  rw [if_neg Bool.false_ne_true]
  repeat' (first | ((with_reducible show wpAny _ _ _ _ _ _); (first | (k_unfold; (try dsimp only)) | walk1 | (dsimp only; walk1) | (leave1; try dsimp only))) | fail "stop")
  try rw [if_neg Bool.false_ne_true]
  repeat' (first | ((with_reducible show wpAny _ _ _ _ _ _); (first | (k_unfold; (try dsimp only)) | walk1 | (dsimp only; walk1) | (leave1; try dsimp only))) | fail "stop")
  rename Fr _ _ _ _ => F9
  rename News _ _ _ _ => N9
  exact ret _ _ _ _ r7 r0 r8 (Fr.as F9 fun q => (hmE q).symm) (News.sub N9 (by
    simp only [LV.led, List.forall_mem_cons]
    repeat' (first | (refine ⟨by k_mem, ?_⟩) | exact fun _ q => nomatch q))) ok3 hG3
end
end Mine
end

-- part L12
section
open PySem PySem.W PySem.Calls PyProof.Rows PySem.Spec
set_option maxRecDepth 100000
namespace Mine
theorem lawFor_eq (P : Params) : lawFor P = [lawS P 0, lawS P 1, lawS P 2, lawS P 3, lawS P 4, lawS P 5, lawS P 6, lawS P 7] := by
  simp only [lawS_eq]
  rfl
section
variable {w : World} {hb : Heap} {p : Program} {loose : List Str} {mean : ExcName → Option Value} {mg mb : Str → Option Value}
  {s : Shared} {Q : Flow → Shared → Prop} {E : Value → Shared → Prop} {g : Heap} {L : Addr} {m : Str → Option Value} {v : LV} {b : Int} {I : Addr} {oI : Obj}
theorem LV.off_any {v : LV} {a : Int} {ta : Tok} (hoff : ∀ q ∈ v.led w L, q.1 ≠ I) : ∀ q ∈ ({ v with a := a, ta := ta } : LV).led w L, q.1 ≠ I := by
  simp only [LV.led, List.forall_mem_cons] at hoff ⊢; exact hoff
theorem LV.off_tabs {v : LV} {q7 q0 q8 : Array Value} (hoff : ∀ q ∈ v.led w L, q.1 ≠ I) : ∀ q ∈ ({ v with p7 := q7, p0 := q0, p8 := q8 } : LV).led w L, q.1 ≠ I := by
  simp only [LV.led, List.forall_mem_cons] at hoff ⊢; exact hoff
set_option maxHeartbeats 4000000 in
theorem turn_spec (X : (hd.heap_39 w.params).In hb) (T : Top p loose mean mg mb hb) (B' : Below (AR 100 100 []) hb [] g) (X' : (hd.heap_39 w.params).In g) (T' : Top p loose mean mg mb g)
    (F : Fr g L s.heap m) (hm : Has m [(Str.ofString "row", .ref v.rl), (Str.ofString "heads", .ref v.x)]) (N : News g L s.heap ((I, oI) :: v.led w L)) (hoff : ∀ q ∈ v.led w L, q.1 ≠ I) (ok : v.Ok w b) (hbd : b ≤ 800) (hG : AllBare s.gens)
    (ret : ∀ (s' : Shared) (m' : Str → Option Value) (v' : LV), Fr g L s'.heap m' → Has m' [(Str.ofString "row", .ref v'.rl), (Str.ofString "heads", .ref v'.x)] → News g L s'.heap ((I, oI) :: v'.led w L) → (∀ q ∈ v'.led w L, q.1 ≠ I) → v'.Ok w (b + 6) → AllBare s'.gens → s'.os = s.os → Q .next s') :
    wpAny (model PySem.Challenge.rw_fa0002_01.row.prog w) (lawA (lawEnv w.params L)) (execs (lawFor w.params) (lawEnv w.params L)) Q E s := by
  rw [lawFor_eq]
  refine wpAny_execs_cons (turn_names X T B' X' T' F hm N hoff ok (by omega) fun h1 tk1 m1 a1 ta1 D kD vn Ns F1 hm1 N1 ok1 hvn hn0 hn4 hNs hDl => ?_)
  have hoff1 := LV.off_any (a := a1) (ta := ta1) hoff
  refine wpAny_execs_cons (turn_deed (v := { v with a := a1, ta := ta1 }) X T B' X' T' F1 hm1 N1 hoff1 ok1 (by omega) hvn hn0 hn4 hNs fun h2 tk2 m2 a2 ta2 r tr t r0 r4 F2 hm2 N2 ok2 => ?_)
  have hoff2 := LV.off_any (a := a2) (ta := ta2) hoff1
  have hy0 : Ns.getD 0 Str.empty ∈ MENU := by
    rw [List.getD_eq_getElem?_getD, List.getElem?_eq_getElem hn0]; exact hNs _ (List.getElem_mem _)
  refine wpAny_execs_cons (turn_there (v := { v with a := a2, ta := ta2 }) X T B' X' T' F2 hm2 N2 ok2 (menu_lower _ hy0).1 fun h3 tk3 m3 t3 F3 hm3 N3 => ?_)
  refine wpAny_execs_cons (turn_do (v := { v with a := a2, ta := ta2 }) X T B' X' T' F3 hm3 N3 hoff2 hDl ok2 r0 r4 hvn hn0 hn4 hNs rfl fun h4 tk4 m4 v4 F4 hm4 N4 ok4 hoff4 => ?_)
  refine wpAny_execs_cons (turn_asked X T B' X' T' F4 hm4 N4 hvn hn0 hn4 hNs fun h5 tk5 m5 z tz hz F5 hm5 N5 => ?_)
  refine wpAny_execs_cons (turn_same X T B' X' T' F5 hm5 N5 ok4 fun h6 tk6 d6 F6 N6 => ?_)
  refine wpAny_execs_cons (turn_places X T B' X' T' F6 hm5 N6 hoff4 ok4 hz fun h7 tk7 F7 N7 => ?_)
  refine wpAny_execs_cons (turn_text X T B' X' T' F7 hm5 N7 hoff4 ok4 hG fun h8 tk8 d8 gens8 q7 q0 q8 F8 N8 ok8 hG8 => ?_)
  refine wpAny_execs_nil (ret _ _ { v4 with p7 := q7, p0 := q0, p8 := q8 } F8 (fun q hq => hm5 q ?_) N8 (LV.off_tabs hoff4) (ok8.mono (by omega)) hG8 rfl)
  simp only [List.mem_cons, List.not_mem_nil, or_false] at hq ⊢
  rcases hq with rfl | rfl <;> simp
end
end Mine
end

-- part L1
section
open PySem PySem.W PySem.Calls PyProof.Rows PySem.Spec
set_option maxRecDepth 100000
namespace Mine
section
variable {w : World} {hb : Heap} {p : Program} {loose : List Str} {mean : ExcName → Option Value} {mg mb : Str → Option Value}
  {s : Shared} {Q : Value → Shared → Prop} {E : Value → Shared → Prop}

set_option maxHeartbeats 8000000 in
theorem law_spec {sc : Addr} {vs : List Value} {xs : List Int} {p7 p0 p8 : Array Value} (X : (hd.heap_39 w.params).In hb) (T : Top p loose mean mg mb hb) (cx : Cx hb [] s.heap [207, 200, 188]) (hP7 : s.heap.get? 207 = some (tabObj p7)) (hp7 : TriplesOk p7.toList) (hP0 : s.heap.get? 200 = some (tabObj p0)) (hp0 : TriplesOk p0.toList) (hP8 : s.heap.get? 188 = some (tabObj p8)) (hp8 : TriplesOk p8.toList) (hG : AllBare s.gens)
    (h1 : s.heap.IsList sc vs.toArray) (hi : IntsAre vs xs) (hlen : xs.length ≤ 63)
    (ret : ∀ s', s'.os = s.os → AllBare s'.gens → Tab 207 s'.heap → Tab 200 s'.heap → Tab 188 s'.heap → Kp [207, 200, 188] s.heap s'.heap → Q (.bool true) s') :
    wpAny (model PySem.Challenge.rw_fa0002_01.row.prog w) (AR 100 100 []) (call (.ref 261) [.ref sc]) Q E s := by
  revert X; k_fill; intro X
  refine wpAny_call ?_
  refine' enterC (binds := [(Str.ofString "script", .ref sc)]) [(207, tabObj p7), (200, tabObj p0), (188, tabObj p8)] X T cx ?hn ?ho ?hcd ?hroom ?hbind ?hkind ?hnd ?_ ?c2 ?c3 ?c4
  case hn =>
    intro q hq
    rcases List.mem_cons.mp hq with rfl | hq
    · exact hP7
    rcases List.mem_cons.mp hq with rfl | hq
    · exact hP0
    · rw [List.mem_singleton.mp hq]; exact hP8
  case ho => k_is
  case hcd => k_is
  case hroom => decide
  case hbind => exact BindsTo.of_eq rfl
  case hkind => exact rfl
  case hnd => decide +kernel
  case c2 => exact rfl
  case c3 => exact rfl
  case c4 => exact rfl
  intro g L' h₁ tk cells' st' hg hg2 hsz F' N' Y' l1 B' X' T'
  k_cells Y'
  try simp only [List.cons_append, List.nil_append] at N'
  try dsimp only
  all_goals try k_fold
  repeat' (first | ((with_reducible show wpAny _ _ _ _ _ _); (fail_if_success (with_reducible show wpAny _ _ (call (.ref 230) _) _ _ _)); (first | (k_unfold; (try dsimp only)) | walk1 | (dsimp only; walk1) | (leave1; try dsimp only))) | fail "stop")
  rename Fr _ _ _ _ => F0
  rename News _ _ _ _ => N0
  have hscg : g.IsList sc vs.toArray := by
    obtain ⟨o, e, hc, hd⟩ := h1
    have ne7 : sc ≠ 207 := fun q => by rw [q, hP7] at e; cases e; cases hc
    have ne0 : sc ≠ 200 := fun q => by rw [q, hP0] at e; cases e; cases hc
    have ne8 : sc ≠ 188 := fun q => by rw [q, hP8] at e; cases e; cases hc
    exact ⟨o, hg _ _ e (by simp [ne7, ne0, ne8]), hc, hd⟩
  refine ⟨X'.keeps F0.keep, ?_⟩
  refine ar_raise (D := 600) (U := 600) rfl (Nat.le_of_ble_eq_true rfl) (Nat.le_of_ble_eq_true rfl) rfl ?_
  refine state_spec X T (Cx.sub (cx_ofE rfl rfl B' F0 N0) fun a ha => nomatch ha) (hscg.at fun o e => F0.keep _ o e) hi hlen fun st nb ws ns t0 h2 tk2 e1 e2 hws hne hn0 hn1 hns kp2 f1 f2 => ?_
  have F1 : Fr g L' h2 _ := F0.keeps kp2.all
  have N1 : News g L' h2 _ := news_new (news' := [(st, listOf #[.ref nb, .int 0 t0] 0), (nb, listOf ws.toArray 0)]) F0 (N0.grown kp2.all) fun q hq => by
    rcases List.mem_cons.mp hq with rfl | hq
    · exact ⟨f1, e1⟩
    · rw [List.mem_singleton.mp hq]; exact ⟨f2, e2⟩
  have off0 : ∀ a ∈ [L' + 1, 207, 200, 188], a ≠ st ∧ a ≠ nb := fun a ha => by
    obtain ⟨o, ho⟩ : ∃ o, h₁.get? a = some o := by
      simp only [List.mem_cons, List.not_mem_nil, or_false] at ha
      rcases ha with rfl | rfl | rfl | rfl
      · exact ⟨_, (N0 _ (.head _)).1⟩
      · exact ⟨_, (N0 _ (.tail _ (.head _))).1⟩
      · exact ⟨_, (N0 _ (.tail _ (.tail _ (.head _)))).1⟩
      · exact ⟨_, (N0 _ (.tail _ (.tail _ (.tail _ (.head _))))).1⟩
    refine ⟨fun q => ?_, fun q => ?_⟩
    · subst q; rw [show h₁.get? a = none from f1] at ho; cases ho
    · subst q; rw [show h₁.get? a = none from f2] at ho; cases ho
  clear F0 N0
  simp only [List.cons_append, List.nil_append] at N1
  dsimp only
  repeat' (first | ((with_reducible show wpAny _ _ _ _ _ _); (fail_if_success (with_reducible show wpAny _ _ (call (.ref 225) _) _ _ _)); (first | (k_unfold; (try dsimp only)) | walk1 | (dsimp only; walk1) | (leave1; try dsimp only))) | fail "stop")
  rename Fr _ _ _ _ => F2
  rename News _ _ _ _ => N2
  rename Addr => ll
  rename Obj => oc
  rename (_ = Data.cell (some _)) => hoc
  obtain ⟨ktk, rfl⟩ : ∃ k, k = tk := ⟨_, rfl⟩
  have N3 : News g L' _ [(ll, listOf #[.str (Str.ofString "Accept") ktk, .str (Str.ofString "x y") (ktk + 1), .str (Str.ofString "b") (ktk + 1 + 1)] 0), (st, listOf #[.ref nb, .int 0 t0] 0), (nb, listOf ws.toArray 0), (L' + 1, oc), (207, tabObj p7), (200, tabObj p0), (188, tabObj p8)] := N2
  clear N2
  refine ⟨X'.keeps F2.keep, ?_⟩
  refine call_next (led' := [(ll, listOf #[.str (Str.ofString "Accept") ktk, .str (Str.ofString "x y") (ktk + 1), .str (Str.ofString "b") (ktk + 1 + 1)] 0), (nb, listOf ws.toArray 0), (L' + 1, oc), (207, tabObj p7), (200, tabObj p0), (188, tabObj p8)]) X T B' F2 N3 (by k_mem) (by k_mem) ?sub rfl (Nat.le_of_ble_eq_true rfl) (Nat.le_of_ble_eq_true rfl) rfl rfl rfl hws hn0 hn1 hns (by decide) (by decide) (by decide) (by decide) fun r tr h3 tk3 ta3 r0 r1 F4 N4 kp3 => ?_
  case sub =>
    have hl3 : ll ≠ st := ne_led N3 (.head _) (.tail _ (.head _)) (by simp)
    simp only [List.forall_mem_cons] at off0 ⊢
    exact ⟨⟨by k_mem, hl3⟩, ⟨by k_mem, Ne.symm hne⟩, ⟨by k_mem, off0.1.1⟩, ⟨by k_mem, off0.2.1.1⟩, ⟨by k_mem, off0.2.2.1.1⟩, ⟨by k_mem, off0.2.2.2.1.1⟩, fun q hq => nomatch hq⟩
  dsimp only
  clear F2 N3
  repeat' (first | ((with_reducible show wpAny _ _ _ _ _ _); (fail_if_success (with_reducible show wpAny _ _ (call (.ref 181) _) _ _ _)); (first | (k_unfold; (try dsimp only)) | walk1 | (dsimp only; walk1) | (leave1; try dsimp only))) | fail "stop")
  rename Fr _ _ _ _ => F5
  rename News _ _ _ _ => N5
  refine ⟨X'.keeps F5.keep, ?_⟩
  generalize hrl : h3.objs.size + 1 = rl at N5 F5 ⊢
  obtain ⟨vr, R, hvr, hrow, N6⟩ : ∃ (vr : List Value) (R : List Str), StrsAre vr R ∧ RowOk R ∧ News g L' _ [(rl, listOf vr.toArray 0), (st, listOf #[.ref nb, .int (0 + 1) ta3] 0), (nb, listOf ws.toArray 0), (L' + 1, oc), (207, tabObj p7), (200, tabObj p0), (188, tabObj p8)] := by
    have e1 : ∀ y : Array Value, slicePick y none (some r) none = (y.toList.take r.toNat).toArray := fun y => by
      have : r = (r.toNat : Int) := by omega
      rw [this]; exact slicePick_upto' y r.toNat
    refine ⟨_, [Str.ofString "Accept", Str.ofString "x y", Str.ofString "b"].take r.toNat, strs_take (.cons (Str.ofString "Accept") ktk (.cons (Str.ofString "x y") (ktk + 1) (.cons (Str.ofString "b") (ktk + 1 + 1) .nil))) r.toNat, ⟨fun y hy => ?_, ?_⟩, ?_⟩
    · exact (show ∀ y ∈ [Str.ofString "Accept", Str.ofString "x y", Str.ofString "b"], y ∈ MENU from by decide +kernel) y (List.mem_of_mem_take hy)
    · rw [List.map_take]
      exact List.Nodup.sublist (List.take_sublist ..) (by decide +kernel)
    · rw [e1] at N5
      refine News.sub N5 ?_
      simp only [List.forall_mem_cons]
      repeat' (first | (refine ⟨by k_mem, ?_⟩) | exact fun _ q => nomatch q)
  clear N5
  refine ar_raise (D := 500) (U := 500) rfl (Nat.le_of_ble_eq_true rfl) (Nat.le_of_ble_eq_true rfl) rfl ?_
  refine new_spec X T (Cx.sub (cx_ofE rfl rfl B' F5 N6) fun a ha => nomatch ha) (N6 _ (.head _)).1 hvr (Nat.le_trans hrow.len (by decide)) hrow.dist hrow.sh fun x dx l sa t1 t2 t3 kv vs' so h7 tk7 H7 kk7 non7 => ?_
  have F7 : Fr g L' h7 _ := F5.keeps kk7
  have N7 : News g L' h7 _ := News.sub (led' := [(st, listOf #[.ref nb, .int (0 + 1) ta3] 0), (nb, listOf ws.toArray 0), (L' + 1, oc), (rl, listOf vr.toArray 0), (x, instObj 181 dx), (dx, hsD w.params t1 t2 t3 l sa), (l, listOf vs'.toArray kv), (sa, so), (207, tabObj p7), (200, tabObj p0), (188, tabObj p8)]) (news_new (news' := hsNews w x dx l sa t1 t2 t3 kv vs' so) F5 (N6.grown kk7) fun q hq => ⟨by
    rcases List.mem_cons.mp hq with rfl | hq
    · exact non7.1
    rcases List.mem_cons.mp hq with rfl | hq
    · exact non7.2.1
    rcases List.mem_cons.mp hq with rfl | hq
    · exact non7.2.2.1
    · rw [List.mem_singleton.mp hq]; exact non7.2.2.2, H7.get q hq⟩) (by
      simp only [List.forall_mem_cons, hsNews, List.cons_append, List.nil_append]
      repeat' (first | (refine ⟨by k_mem, ?_⟩) | exact fun _ q => nomatch q))
  have hlrl : l ≠ rl := fun q => by
    have := (N6 _ (.head _)).1
    dsimp only at this
    rw [← q, non7.2.2.1] at this; cases this
  have ok7 : LV.Ok w ⟨st, nb, rl, x, dx, l, sa, oc, so, t1, t2, t3, ta3, kv, 0, vs', vr, ws, R, ns, 0 + 1, p7, p0, p8⟩ 1 :=
    ⟨hoc, hws, hn0, hn1, hns, (show (0 : Int) ≤ 0 + 1 by decide), (show (0 + 1 : Int) ≤ 1 by decide), hvr, H7.si, H7.ss, H7.sp, hrow, hp7, hp0, hp8, hlrl⟩
  clear F5 N6 H7
  dsimp only
  repeat' (first | ((with_reducible show wpAny _ _ _ _ _ _); (fail_if_success (with_reducible show wpAny _ _ (exec (Stmt.For _ _ _ _ _) _) _ _ _)); (first | (k_unfold; (try dsimp only)) | walk1 | (dsimp only; walk1) | (leave1; try dsimp only))) | fail "stop")
  rename Fr _ _ _ _ => F8
  rename News _ _ _ _ => N8
  k_fold
  refine for_law (g := g) ?f1 ?f2 ?f3 ?f4 ?f5 ?_
  case f1 => rfl
  case f2 => rfl
  case f3 => rfl
  case f4 => intro _; rfl
  case f5 => passes_own
  repeat' (first | ((with_reducible show wpAny _ _ _ _ _ _); (fail_if_success (with_reducible show wpAny _ _ (call (.ref 225) _) _ _ _)); (first | (k_unfold; (try dsimp only)) | walk1 | (dsimp only; walk1) | (leave1; try dsimp only))) | fail "stop")
  refine ⟨X'.keeps F8.keep, ?_⟩
  refine next_call (front := []) (b := 1) ⟨st, nb, rl, x, dx, l, sa, oc, so, t1, t2, t3, ta3, kv, 0, vs', vr, ws, R, ns, 0 + 1, p7, p0, p8⟩ X T B' F8 N8 ok7 (by decide) (fun _ q => nomatch q) rfl (Nat.le_of_ble_eq_true rfl) (Nat.le_of_ble_eq_true rfl) rfl rfl rfl (by decide) (by decide) fun r' tr' h9 tk9 ta9 r0' r1' F9 N9 ok9 kp9 => ?_
  clear F8 N8
  dsimp only [LV.led, List.cons_append, List.nil_append] at N9
  dsimp only
  repeat' (first | ((with_reducible show wpAny _ _ _ _ _ _); (first | (k_unfold; (try dsimp only)) | walk1 | (dsimp only; walk1) | (leave1; try dsimp only))) | fail "stop")
  rename IsRange _ _ _ _ _ _ _ _ => hr9
  rename Fr _ _ _ _ => F9
  rename News _ _ _ _ => N9
  obtain ⟨n, rfl⟩ : ∃ n : Nat, r' = (n : Int) := ⟨r'.toNat, by omega⟩
  refine ⟨_, n, _, _, _, _, _, fun i m₁ led₁ gens os => ∃ v : LV, led₁ = v.led w L' ∧ Has m₁ [(Str.ofString "row", .ref v.rl), (Str.ofString "heads", .ref v.x)] ∧ v.Ok w (10 + 6 * i) ∧ AllBare gens ∧ os = s.os, rfl, hr9, by omega, F9, N9, ⟨_, rfl, fun q hq => ?has, ok9.mono (by omega), hG, rfl⟩, ?turn, ?done⟩
  case has =>
    simp only [List.mem_cons, List.not_mem_nil, or_false] at hq
    rcases hq with rfl | rfl <;> rfl
  case turn =>
    clear F9 N9 hr9
    rintro i m₁ led₁ s' I oI tv hi ⟨v, rfl, hm, ok, hG', hos⟩ hoff F1 N1
    refine turn_spec X T B' X' T' F1 (fun q hq => ?_) N1 hoff ok (by omega) hG' fun s2 m2 v2 F2 hm2 N2 hoff2 ok2 hG2 hos2 => ?_
    · have := hm q hq
      simp only [List.mem_cons, List.not_mem_nil, or_false] at hq
      rcases hq with rfl | rfl <;> exact this
    · exact ⟨m2, v2.led w L', F2, N2, hoff2, v2, rfl, hm2, ok2.mono (by push_cast; omega), hG2, hos2.trans hos⟩
  case done =>
    clear F9 N9 hr9
    rintro m' led' ⟨sh, sg, sd, stk, sos⟩ ⟨v, rfl, hm, ok, hG', hos⟩ F1 N1
    dsimp only at hG' hos F1 N1
    have tab7 : ∃ ps, sh.get? 207 = some (tabObj ps) ∧ TriplesOk ps.toList := ⟨_, (N1 _ LV.m_7).1, ok.t7⟩
    have tab0 : ∃ ps, sh.get? 200 = some (tabObj ps) ∧ TriplesOk ps.toList := ⟨_, (N1 _ LV.m_0).1, ok.t0⟩
    have tab8 : ∃ ps, sh.get? 188 = some (tabObj ps) ∧ TriplesOk ps.toList := ⟨_, (N1 _ LV.m_8).1, ok.t8⟩
    have n7 := (N1 _ LV.m_7).2
    have n0 := (N1 _ LV.m_0).2
    have n8 := (N1 _ LV.m_8).2
    obtain ⟨q7, g7, t7⟩ := tab7
    obtain ⟨q0, g0, t0'⟩ := tab0
    obtain ⟨q8, g8, t8⟩ := tab8
    have N2 : News g L' sh [(207, tabObj q7), (200, tabObj q0), (188, tabObj q8)] := fun q hq => by
      rcases List.mem_cons.mp hq with rfl | hq
      · exact ⟨g7, n7⟩
      rcases List.mem_cons.mp hq with rfl | hq
      · exact ⟨g0, n0⟩
      · rw [List.mem_singleton.mp hq]; exact ⟨g8, n8⟩
    clear N1 hm ok
    clear ok7 hlrl non7 kk7 hrow hvr hrl kp3 r1 r0 hoc off0 f2 f1 kp2 hns hn1 hn0 hne hws e2 e1
    show wpAny _ _ _ _ _ _
    try dsimp only
    repeat' (first | ((with_reducible show wpAny _ _ _ _ _ _); (fail_if_success (with_reducible show wpAny _ _ (call (.ref 181) _) _ _ _)); (first | (k_unfold; (try dsimp only)) | walk1 | (dsimp only; walk1) | (leave1; try dsimp only))) | fail "stop")
    rename Fr _ _ _ _ => F3
    rename News _ _ _ _ => N3
    refine ⟨X'.keeps F3.keep, ?_⟩
    obtain ⟨va, hva, N4⟩ : ∃ va : List Value, StrsAre va [Str.ofString "a"] ∧ News g L' _ [(_, listOf va.toArray 0), (207, tabObj q7), (200, tabObj q0), (188, tabObj q8)] := ⟨_, .cons _ _ .nil, N3⟩
    clear N3
    refine ar_raise (D := 500) (U := 500) rfl (Nat.le_of_ble_eq_true rfl) (Nat.le_of_ble_eq_true rfl) rfl ?_
    refine new_spec X T (Cx.sub (cx_ofE rfl rfl B' F3 N4) fun a ha => nomatch ha) (N4 _ (.head _)).1 hva (by decide) (by decide +kernel) (by decide +kernel) fun x9 dx9 l9 sa9 u1 u2 u3 k9 vs9 so9 h11 tk11 H11 kk11 non11 => ?_
    have F5 : Fr g L' h11 _ := F3.keeps kk11
    have N5 : News g L' h11 [(x9, instObj 181 dx9), (dx9, hsD w.params u1 u2 u3 l9 sa9), (l9, listOf vs9.toArray k9), (sa9, so9), (207, tabObj q7), (200, tabObj q0), (188, tabObj q8)] := News.sub (news_new (news' := hsNews w x9 dx9 l9 sa9 u1 u2 u3 k9 vs9 so9) F3 (N4.grown kk11) fun q hq => ⟨by
      rcases List.mem_cons.mp hq with rfl | hq
      · exact non11.1
      rcases List.mem_cons.mp hq with rfl | hq
      · exact non11.2.1
      rcases List.mem_cons.mp hq with rfl | hq
      · exact non11.2.2.1
      · rw [List.mem_singleton.mp hq]; exact non11.2.2.2, H11.get q hq⟩) (by
        simp only [List.forall_mem_cons, hsNews, List.cons_append, List.nil_append]
        repeat' (first | (refine ⟨by k_mem, ?_⟩) | exact fun _ q => nomatch q))
    clear F3 N4
    dsimp only
    repeat' (first | ((with_reducible show wpAny _ _ _ _ _ _); (fail_if_success (with_reducible show wpAny _ _ (call (.ref 72) _) _ _ _)); (first | (k_unfold; (try dsimp only)) | walk1 | (dsimp only; walk1) | (leave1; try dsimp only))) | fail "stop")
    rename Fr _ _ _ _ => F6
    rename News _ _ _ _ => N6
    rename Addr => lb
    refine ⟨X'.keeps F6.keep, ?_⟩
    have hlb : @Ne Nat lb l9 := by omega
    obtain ⟨vb, hvb, N7⟩ : ∃ vb : List Value, StrsAre vb [Str.ofString "b", Str.ofString "A", Str.ofString "b", Str.ofString "c"] ∧ News g L' _ [(lb, listOf vb.toArray 0), (x9, instObj 181 dx9), (dx9, hsD w.params u1 u2 u3 l9 sa9), (l9, listOf vs9.toArray k9), (sa9, so9), (207, tabObj q7), (200, tabObj q0), (188, tabObj q8)] := ⟨_, .cons _ _ (.cons _ _ (.cons _ _ (.cons _ _ .nil))), N6⟩
    clear N6
    have H12 := H11.at_ fun q hq => (N7 q (by
      simp only [hsNews, List.mem_cons, List.not_mem_nil, or_false] at hq
      rcases hq with rfl | rfl | rfl | rfl <;> simp)).1
    have hw9 : ∀ q ∈ [x9, dx9, l9, sa9], q ∈ List.map (fun q : Addr × Obj => q.1) [(lb, listOf vb.toArray 0), (x9, instObj 181 dx9), (dx9, hsD w.params u1 u2 u3 l9 sa9), (l9, listOf vs9.toArray k9), (sa9, so9), (207, tabObj q7), (200, tabObj q0), (188, tabObj q8)] := fun q hq => by
      simp only [List.mem_cons, List.not_mem_nil, or_false] at hq
      rcases hq with rfl | rfl | rfl | rfl <;> simp
    refine ar_raise (D := 500) (U := 500) rfl (Nat.le_of_ble_eq_true rfl) (Nat.le_of_ble_eq_true rfl) rfl ?_
    refine update_spec X T H12 (Cx.sub (cx_ofE rfl rfl B' F6 N7) hw9) (.inl ⟨listOf vb.toArray 0, (N7 _ (.head _)).1, rfl, 0, rfl⟩) hvb hlb (by decide +kernel) (by decide) fun h13 tk13 k13 vs13 so13 H13 kp13 => ?_
    have F8 : Fr g L' h13 _ := fr_back F6 N7 kp13 hw9
    have hso : so9.cls = .type "set" := H11.ss.1.1
    have c7 : ∀ {a : Addr} {o : Obj}, (a, o) ∈ [(lb, listOf vb.toArray 0), (x9, instObj 181 dx9), (dx9, hsD w.params u1 u2 u3 l9 sa9), (l9, listOf vs9.toArray k9), (sa9, so9), (207, tabObj q7), (200, tabObj q0), (188, tabObj q8)] → o.cls = .none → a ∉ [x9, dx9, l9, sa9] := fun ha hc hm => by
      simp only [List.mem_cons, List.not_mem_nil, or_false] at hm
      rcases hm with q | q | q | q
      · exact ne_led N7 ha (by k_mem : (x9, instObj 181 dx9) ∈ _) (fun z => by rw [z] at hc; cases hc) q
      · exact ne_led N7 ha (by k_mem : (dx9, hsD w.params u1 u2 u3 l9 sa9) ∈ _) (fun z => by rw [z] at hc; cases hc) q
      · exact ne_led N7 ha (by k_mem : (l9, listOf vs9.toArray k9) ∈ _) (fun z => by rw [z] at hc; cases hc) q
      · exact ne_led N7 ha (by k_mem : (sa9, so9) ∈ _) (fun z => by rw [z, hso] at hc; cases hc) q
    have N8 : News g L' h13 [(x9, instObj 181 dx9), (dx9, hsD w.params u1 u2 u3 l9 sa9), (l9, listOf vs13.toArray k13), (sa9, so13), (207, tabObj q7), (200, tabObj q0), (188, tabObj q8)] := news_back N7 kp13 fun q hq => by
      simp only [List.mem_cons, List.not_mem_nil, or_false] at hq
      rcases hq with rfl | rfl | rfl | rfl | rfl | rfl | rfl
      · exact .inr ⟨hw9 _ (by simp), H13.hx⟩
      · exact .inr ⟨hw9 _ (by simp), H13.hd⟩
      · exact .inr ⟨hw9 _ (by simp), H13.hl⟩
      · exact .inr ⟨hw9 _ (by simp), H13.hs⟩
      · exact .inl ⟨by simp, c7 (o := tabObj q7) (by simp) rfl⟩
      · exact .inl ⟨by simp, c7 (o := tabObj q0) (by simp) rfl⟩
      · exact .inl ⟨by simp, c7 (o := tabObj q8) (by simp) rfl⟩
    rw [show putAll [Str.ofString "a"] [Str.ofString "b", Str.ofString "A", Str.ofString "b", Str.ofString "c"] = [Str.ofString "a", Str.ofString "b", Str.ofString "c"] from by decide +kernel] at H13
    clear F6 N7 H12 H11 c7
    dsimp only
    repeat' (first | ((with_reducible show wpAny _ _ _ _ _ _); (fail_if_success (with_reducible show wpAny _ _ (call (.type "list") _) _ _ _)); (first | (k_unfold; (try dsimp only)) | walk1 | (dsimp only; walk1) | (leave1; try dsimp only))) | fail "stop")
    rename Fr _ _ _ _ => F8
    rename News _ _ _ _ => N8
    refine list_heads X T X' F8 H13 (Cx.sub (cx_ofE rfl rfl B' F8 N8) fun q hq => ?sub4) (by decide) rfl (Nat.le_of_ble_eq_true rfl) (Nat.le_of_ble_eq_true rfl) rfl fun D14 h14 tk14 vs14 c14 hD14 e14 hvs14 kp14 => ?_
    case sub4 =>
      simp only [List.mem_cons, List.not_mem_nil, or_false] at hq
      rcases hq with rfl | rfl | rfl | rfl <;> simp
    have F9 : Fr g L' h14 _ := F8.keeps kp14.all
    have N9 : News g L' h14 ((D14, listOf vs14.toArray c14) :: _) := news_cons F8 (N8.grown kp14.all) hD14 e14
    clear F8 N8 H13
    try dsimp only
    repeat' (first | ((with_reducible show wpAny _ _ _ _ _ _); (fail_if_success (with_reducible show wpAny _ _ (compareOp _ _ _) _ _ _)); (first | (k_unfold; (try dsimp only)) | walk1 | (dsimp only; walk1) | (leave1; try dsimp only))) | fail "stop")
    rename Fr _ _ _ _ => F9
    rename News _ _ _ _ => N9
    rename Addr => lc
    obtain ⟨vc, hvc, N10⟩ : ∃ vc : List Value, StrsAre vc [Str.ofString "a", Str.ofString "b", Str.ofString "c"] ∧ News g L' _ [(lc, listOf vc.toArray 0), (D14, listOf vs14.toArray c14), (x9, instObj 181 dx9), (dx9, hsD w.params u1 u2 u3 l9 sa9), (l9, listOf vs13.toArray k13), (sa9, so13), (207, tabObj q7), (200, tabObj q0), (188, tabObj q8)] := ⟨_, .cons _ _ (.cons _ _ (.cons _ _ .nil)), N9⟩
    clear N9
    refine strs_eq (news_list N10 (.tail _ (.head _))) (news_list N10 (.head _)) hvs14 hvc (by decide +kernel) (by decide +kernel) (Nat.lt_of_succ_le (Nat.le_of_ble_eq_true rfl)) ?_
    rw [show (decide ([Str.ofString "a", Str.ofString "b", Str.ofString "c"] = [Str.ofString "a", Str.ofString "b", Str.ofString "c"])) = true from by simp]
    repeat' (first | ((with_reducible show wpAny _ _ _ _ _ _); (first | (k_unfold; (try dsimp only)) | walk1 | (dsimp only; walk1) | (leave1; try dsimp only))) | fail "stop")
    rename Fr _ _ _ _ => F11
    rename News _ _ _ _ => N11
    try show Q _ _
    refine ret _ hos hG' ⟨q7, (N11 (207, tabObj q7) (by k_mem)).1, t7⟩ ⟨q0, (N11 (200, tabObj q0) (by k_mem)).1, t0'⟩ ⟨q8, (N11 (188, tabObj q8) (by k_mem)).1, t8⟩ (kp_out hg F11)
end
end Mine
end

open PySem PySem.W PySem.Calls PyProof.Rows PySem.Spec
set_option maxRecDepth 100000
set_option maxHeartbeats 8000000 in
theorem PySem.Challenge.cw_fa0002_01_holds : PySem.Challenge.rw_fa0002_01.Holds := by
  refine Mine.hd ?_
  k_fill
  intro w s₀ s₁ mg mb G Y fa o pm cd doc dV kV ho hd hcd hD hmg hg args vals as hpre hlay hrd hwl hlo
  have KX := km_in_of Y
  km_tabs Y
  refine Ground.open G ?_
  intro T B D TE TW
  try (refine guard_noD D (by decide +kernel) ?_; clear D)
  have hfa : fa = 261 := by
    have e := mg_of KX T.g (show nsIn _ mainGlobals (Str.ofString "law") = some (some (.ref 261)) from by kernel_rfl)
    have e2 : some (Value.ref fa) = some (Value.ref 261) := hmg.symm.trans e
    injection e2 with e3
    injection e3
  subst hfa
  clear ho hd hcd hD hmg
  wrow_args hpre hlay hrd hwl hlo
  rename IntsAre _ _ => hI9
  rename Heap.IsList _ _ _ => hL9
  rename (¬ _ < _) => hc9
  have hT : TabsAt [(192, 188), (204, 200), (209, 207)] s₁.heap := fun q hq => by
    simp only [List.mem_cons, List.not_mem_nil, or_false] at hq
    rcases hq with rfl | rfl | rfl
    · exact ⟨codeHd_of_K KX (by kernel_rfl), hT8 188 (by simp)⟩
    · exact ⟨codeHd_of_K KX (by kernel_rfl), hT8 200 (by simp)⟩
    · exact ⟨codeHd_of_K KX (by kernel_rfl), hT8 207 (by simp)⟩
  have hX := ghost_K hT KX (by kernel_rfl)
  have hTop := ghost_top hT T
  have cx : Mine.Cx (ghostOf s₁.heap [(192, 188), (204, 200), (209, 207)]) [] s₁.heap [207, 200, 188] := ⟨fun b o e => of_hideAll _ e, trivial, fun a ha => ⟨hideAll_none _ (by
    simp only [List.mem_cons, List.not_mem_nil, or_false] at ha
    rcases ha with rfl | rfl | rfl <;> simp), fun env he => nomatch he⟩⟩
  show wpAny _ callerA (call (.ref 261) [.ref _]) _ _ s₁
  refine Mine.ar_raise (D := 100) (U := 100) (out := []) rfl (Nat.le_of_ble_eq_true rfl) (Nat.le_of_ble_eq_true rfl) rfl ?_
  refine Mine.law_spec hX hTop cx (hT8 207 (by simp)) trivial (hT8 200 (by simp)) trivial (hT8 188 (by simp)) trivial (.of_eq hg) hL9 hI9 (by omega) fun s' hos hG' t7 t0 t8 kp => ?_
  have grown : ∀ b o, b ∈ [207, 200, 188] → s₁.heap.get? b = some o → isCodeTable s₁.heap b ∧ o = tabObj #[] ∧ ∃ ps, s'.heap.get? b = some (tabObj ps) := fun b o hb e => by
    simp only [List.mem_cons, List.not_mem_nil, or_false] at hb
    rcases hb with rfl | rfl | rfl
    · obtain ⟨ps, hps, _⟩ := t7
      have h2 := hT (209, 207) (by simp)
      exact ⟨(h2.1.tab h2.2).isCodeTable, Option.some.inj (e.symm.trans h2.2), ps, hps⟩
    · obtain ⟨ps, hps, _⟩ := t0
      have h2 := hT (204, 200) (by simp)
      exact ⟨(h2.1.tab h2.2).isCodeTable, Option.some.inj (e.symm.trans h2.2), ps, hps⟩
    · obtain ⟨ps, hps, _⟩ := t8
      have h2 := hT (192, 188) (by simp)
      exact ⟨(h2.1.tab h2.2).isCodeTable, Option.some.inj (e.symm.trans h2.2), ps, hps⟩
  refine ⟨.inl ⟨_, .bool true, [], rfl, fun _ => rfl, .bool _, ?post, fun _ => ⟨.nil, fun _ q => nomatch q⟩⟩, ⟨fun b o e => ?_, fun b o e => ?_⟩, hos, hG'⟩
  case post => first | with_unfolding_all rfl | kernel_rfl | fin_arith
  · by_cases hb : b ∈ [207, 200, 188]
    · obtain ⟨ht, rfl, ps, hP⟩ := grown b o hb e
      exact .inr (.inl ⟨ht, rfl, #[], ps, rfl, by rw [Array.empty_append]; exact hP⟩)
    · exact .inl (kp b o e hb)
  · by_cases hb : b ∈ [207, 200, 188]
    · obtain ⟨_, _, ps, hP⟩ := grown b o hb e
      exact ⟨_, hP⟩
    · exact ⟨o, kp b o e hb⟩

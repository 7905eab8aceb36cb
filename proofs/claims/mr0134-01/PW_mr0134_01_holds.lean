import PyProof.Rows.All
import Wide.All
import OpenK.AllK
import Wide.FinOn
import PySem.Challenge.RW_mr0134_01
set_option Elab.async false
-- Hd
section
open PySem PySem.W PyProof.Rows
namespace Mine
set_option maxRecDepth 100000 in
set_option maxHeartbeats 8000000 in
open_top hd for PySem.Challenge.rw_mr0134_01
end Mine
end
-- F1
section
open PySem PySem.W PyProof.Rows PySem.Calls PySem.Spec
set_option maxRecDepth 100000
namespace Mine



/-- every object stays, its slots apart -/
def Kp (h h' : Heap) : Prop := ∀ b o, h.get? b = some o → ∃ sl, h'.get? b = some { o with slots := sl }
theorem Kp.refl (h : Heap) : Kp h h := fun _ o e => ⟨o.slots, e⟩
theorem Kp.trans {h h' h'' : Heap} (x : Kp h h') (y : Kp h' h'') : Kp h h'' := fun b o e =>
  let ⟨_, e₁⟩ := x b o e
  let ⟨sl, e₂⟩ := y b _ e₁
  ⟨sl, e₂⟩
theorem Kp.of_keeps {h h' : Heap} (k : ∀ b o, h.get? b = some o → h'.get? b = some o) : Kp h h' := fun b o e => ⟨o.slots, k b o e⟩

/-- the same, of lists and tuples alone -/
def Up (h h' : Heap) : Prop := ∀ b o vs n, h.get? b = some o → o.data = .seq vs n → ∃ sl, h'.get? b = some { o with slots := sl }
theorem Kp.up {h h' : Heap} (x : Kp h h') : Up h h' := fun b o _ _ e _ => x b o e
theorem Up.refl (h : Heap) : Up h h := (Kp.refl h).up
theorem Up.trans {h h' h'' : Heap} (x : Up h h') (y : Up h' h'') : Up h h'' := fun b o vs n e d =>
  let ⟨_, e₁⟩ := x b o vs n e d
  let ⟨sl, e₂⟩ := y b _ vs n e₁ d
  ⟨sl, e₂⟩

def Fs (g : Heap) (A : Around) (h : Heap) : Prop := ∃ l, A.frames = some l ∧ h.FunFrames g l
theorem Fs.kp {g h h' : Heap} {A : Around} (F : Fs g A h) (k : Kp h h') : Fs g A h' :=
  let ⟨l, e, f⟩ := F
  ⟨l, e, f.of_keeps fun b o ho _ => let ⟨_, e⟩ := k b o ho; ⟨_, e, rfl⟩⟩

structure In (g : Heap) (A : Around) (h₀ : Heap) (L : Addr) (h : Heap) (m : Str → Option Value) (D : Heap → Prop) : Prop where
  fr : Fr g L h m
  keep : Kp h₀ h
  above : h₀.objs.size ≤ L
  fs : Fs g A h
  hh : A.handled = none
  data : D h
  st : ∀ h h', Up h h' → D h → D h'

section
variable {g h₀ h h' : Heap} {A : Around} {L : Addr} {m m' : Str → Option Value} {D D' : Heap → Prop}
theorem In.stays (I : In g A h₀ L h m D) : g.StaysIn h := I.fr.keep
theorem In.le (I : In g A h₀ L h m D) : g.objs.size ≤ h.objs.size := Nat.le_trans I.fr.above (Nat.le_of_lt I.fr.ns.lt)
theorem In.new (I : In g A h₀ L h m D) {d : Addr} (e : h.get? d = none) : h₀.get? d = none := by
  cases q : h₀.get? d with
  | none => rfl
  | some o => obtain ⟨_, e'⟩ := I.keep d o q; rw [e] at e'; cases e'
theorem In.up (I : In g A h₀ L h m D) : Up h₀ h := I.keep.up
/-- a step that may turn sequences, none of them the entry's -/
theorem In.turn (I : In g A h₀ L h m D) (F : Fr g L h' m') (T : List Addr) (hT : ∀ a ∈ T, h₀.get? a = none ∧ ∃ o, h'.get? a = some o ∧ ∃ vs n, o.data = .seq vs n) (k : ∀ b o, b ≠ L → b ∉ T → h.get? b = some o → ∃ sl, h'.get? b = some { o with slots := sl })
    (d : D' h') (st : ∀ h h', Up h h' → D' h → D' h') : In g A h₀ L h' m' D' := by
  refine ⟨F, fun b o e => ?_, I.above, ?_, I.hh, d, st⟩
  · obtain ⟨sl, e₁⟩ := I.keep b o e
    have hb : b ≠ L := Nat.ne_of_lt (Nat.lt_of_lt_of_le (Heap.lt_size e) I.above)
    have hbT : b ∉ T := fun q => by rw [(hT b q).1] at e; cases e
    obtain ⟨sl', e₂⟩ := k b _ hb hbT e₁
    exact ⟨sl', e₂⟩
  · obtain ⟨l, e, f⟩ := I.fs
    obtain ⟨oL, es, ep, hL, hd, _⟩ := F.ns
    refine ⟨l, e, ?_⟩
    clear e
    induction l with
    | nil => trivial
    | cons env rest ih =>
      obtain ⟨hk, ⟨L', o, hf, hn, ho, hdn⟩, hr⟩ := f
      refine ⟨hk, ?_, ih hr⟩
      by_cases q : L' = L
      · subst q
        exact ⟨L', oL, hf, hn, hL, fun vs q => by rw [hd] at q; cases q⟩
      · by_cases q2 : L' ∈ T
        · obtain ⟨_, o', e, vs, n, hd'⟩ := hT L' q2
          exact ⟨L', o', hf, hn, e, fun vs q => by rw [hd'] at q; cases q⟩
        · obtain ⟨sl, e⟩ := k L' o q q2 ho
          exact ⟨L', _, hf, hn, e, hdn⟩
theorem In.move (I : In g A h₀ L h m D) (F : Fr g L h' m') (k : ∀ b o, b ≠ L → h.get? b = some o → ∃ sl, h'.get? b = some { o with slots := sl }) : In g A h₀ L h' m' D ∧ Up h h' := by
  have U : Up h h' := fun b o vs n e d => k b o (fun q => by
    subst q
    obtain ⟨o', es, ep, hL, hd, _⟩ := I.fr.ns
    rw [e] at hL
    cases hL
    rw [d] at hd
    cases hd) e
  exact ⟨I.turn F [] (fun _ h => nomatch h) (fun b o hb _ e => k b o hb e) (I.st _ _ U I.data) I.st, U⟩
/-- a step that turns one record, not the entry's -/
theorem In.iter (I : In g A h₀ L h m D) {it : Addr} {o : Obj} {fs : Array Value} (ho : h.get? it = some o) (hd : o.data = .fields fs) (hn : h₀.get? it = none) (hg : g.get? it = none) (k : Heap.ExtBut it h h') : In g A h₀ L h' m D := by
  have hL : it ≠ L := fun q => by
    subst q
    obtain ⟨o', es, ep, hL, hd', _⟩ := I.fr.ns
    rw [ho] at hL
    cases hL
    rw [hd] at hd'
    cases hd'
  have F : Fr g L h' m := ⟨I.fr.ns.extBut k (Ne.symm hL), fun b o e => k b o (fun q => by rw [q, hg] at e; cases e) (I.fr.keep b o e), I.fr.above⟩
  have U : Up h h' := fun b o' vs n e d => ⟨o'.slots, k b o' (fun q => by
    subst q
    rw [ho] at e
    cases e
    rw [hd] at d
    cases d) e⟩
  refine ⟨F, fun b o e => ?_, I.above, ?_, I.hh, I.st _ _ U I.data, I.st⟩
  · obtain ⟨sl, e₁⟩ := I.keep b o e
    exact ⟨sl, k b _ (fun q => by rw [q, hn] at e; cases e) e₁⟩
  · obtain ⟨l, e, f⟩ := I.fs
    refine ⟨l, e, f.of_keeps fun b o' e n => ⟨o', k b o' (fun q => ?_) e, rfl⟩⟩
    subst q
    rw [ho] at e
    cases e
    exact n _ hd
theorem In.kp (I : In g A h₀ L h m D) (k : Kp h h') (st : g.StaysIn h') : In g A h₀ L h' m D := by
  obtain ⟨oL, es, ep, hL, hd, r⟩ := I.fr.ns
  obtain ⟨sl, e⟩ := k L oL hL
  exact (I.move ⟨⟨_, es, ep, e, hd, r⟩, st, I.fr.above⟩ fun b o _ e => k b o e).1
theorem In.set (I : In g A h₀ L h m D) (hn : h'.Ns L m') (hs : Heap.SameBut L h h') : In g A h₀ L h' m' D :=
  (I.move (I.fr.set hn hs) fun b o hb e => ⟨o.slots, (hs.2 b hb).trans e⟩).1
theorem In.push (I : In g A h₀ L h m D) (o : Obj) : In g A h₀ L (h.push o) m D :=
  (I.move (I.fr.push o) fun _ o' _ e => ⟨o'.slots, Heap.get?_push_of_some _ e⟩).1
theorem In.also (I : In g A h₀ L h m D) {P : Heap → Prop} (d : P h) (st : ∀ h h', Up h h' → P h → P h') : In g A h₀ L h m (fun h => P h ∧ D h) :=
  ⟨I.fr, I.keep, I.above, I.fs, I.hh, ⟨d, I.data⟩, fun _ _ U x => ⟨st _ _ U x.1, I.st _ _ U x.2⟩⟩
theorem In.but (I : In g A h₀ L h m D) (k : ∀ h, D h → D' h) (st : ∀ h h', Up h h' → D' h → D' h') : In g A h₀ L h m D' :=
  ⟨I.fr, I.keep, I.above, I.fs, I.hh, k _ I.data, st⟩

/-- all that a heap holds beside a frame and what stood first -/
def full (g : Heap) (L : Addr) (h : Heap) : List (Addr × Obj) :=
  (List.range h.objs.size).filterMap fun a => if a = L then none else if (g.get? a).isSome then none else (h.get? a).map fun o => (a, o)
theorem mem_full {a : Addr} {o : Obj} : (a, o) ∈ full g L h ↔ a ≠ L ∧ g.get? a = none ∧ h.get? a = some o := by
  unfold full
  rw [List.mem_filterMap]
  constructor
  · rintro ⟨b, _, e⟩
    by_cases q : b = L
    · rw [if_pos q] at e; cases e
    · rw [if_neg q] at e
      by_cases q2 : (g.get? b).isSome = true
      · rw [if_pos q2] at e; cases e
      · rw [if_neg q2] at e
        obtain ⟨o', e1, e2⟩ := Option.map_eq_some_iff.mp e
        cases e2
        exact ⟨q, by simpa using q2, e1⟩
  · rintro ⟨h1, h2, h3⟩
    refine ⟨a, List.mem_range.mpr (Heap.lt_size h3), ?_⟩
    rw [if_neg h1, h2, h3]; rfl
theorem full_news : News g L h (full g L h) := fun ⟨_, _⟩ hp =>
  let ⟨h1, h2, h3⟩ := mem_full.mp hp
  ⟨h3, h1, h2⟩
theorem In.news {Z : List (Addr × Obj)} (I : In g A h₀ L h m D) (F : Fr g L h' m') (N : News g L h' Z) (hz : ∀ p ∈ full g L h, p ∈ Z) : In g A h₀ L h' m' D ∧ Up h h' := by
  refine I.move F fun b o hb e => ⟨o.slots, ?_⟩
  cases q : g.get? b with
  | some o' =>
    have e1 := I.fr.keep b o' q
    rw [e] at e1
    cases e1
    exact F.keep b o q
  | none => exact (N _ (hz _ (mem_full.mpr ⟨hb, q, e⟩))).1
end

/-- a call that ends with r, of which R is so; all that stood stays -/
def Spec (w : World) (g : Heap) (f : Value) (vs : List Value) (k : Nat) (h : Heap) (R : Heap → Value → Prop) : Prop :=
  ∀ (A : Around) (gn : Array GenState) (dr : Drawn) (tk : Nat) (os : OsState) (Q E : Value → Shared → Prop), A.handled = none → A.depth + k < recursionLimit → A.units + 100 * k < cLine → Fs g A h → g.StaysIn h → g.objs.size ≤ h.objs.size →
    (∀ r h' tk', Kp h h' → g.StaysIn h' → R h' r → Q r ⟨h', gn, dr, tk', os⟩) → wpAny (model PySem.Challenge.rw_mr0134_01.row.prog w) A (call f vs) Q E ⟨h, gn, dr, tk, os⟩

/-- into a def -/
theorem enter {w : World} {g h : Heap} {p : Program} {loose : List Str} {mean : ExcName → Option Value} {mg mb : Str → Option Value} {name qual : Str} {params : Arguments} {body : List Stmt} {scope : Scope} {dV kV doc pm cdv ct oc : Value} {an od : Option Addr} {osl : Array (Option Value)} {f : Addr}
    {vs : List Value} {binds : List (Str × Value)} {k : Nat} {R : Heap → Value → Prop} {D : Heap → Prop} (dD : D h) (sD : ∀ h h', Up h h' → D h → D h') (X : (hd.heap_39 w.params).In g) (T : Top p loose mean mg mb g)
    (ho : (hd.heap_39 w.params).lookup f = some ⟨oc, od, .func (fnOf name qual params body scope dV kV doc pm an cdv ct), osl⟩) (hcd : codeIn (hd.heap_39 w.params) cdv qual = true)
    (hbind : ∀ gn dr tk os, g.StaysIn h → BindsTo ⟨h, gn, dr, tk, os⟩ (fnOf name qual params body scope dV kV doc pm an cdv ct) ⟨vs, []⟩ binds) (hloc : ∀ y ∈ binds, scope.names.lookup y.1 = some .local)
    (hco : scope.isCoroutine = false) (hgen : scope.isGenerator = false) (hk : scope.kind = .function) (hcell : ∀ x ∈ scope.names, x.2 ≠ .cell)
    (hb : ∀ (A : Around) (L : Addr) (h₁ : Heap) (gn : Array GenState) (dr : Drawn) (tk : Nat) (os : OsState) (Q E : Value → Shared → Prop), In g A h L h₁ (fun y => binds.reverse.lookup y) D → A.depth + k < recursionLimit → A.units + 100 * k < cLine →
      (∀ r h' tk', Kp h h' → g.StaysIn h' → R h' r → Q r ⟨h', gn, dr, tk', os⟩) →
      wpAny (model PySem.Challenge.rw_mr0134_01.row.prog w) A (execs body (envOf qual scope L f cdv)) (fun fl s' => Q (match fl with | .ret v => v | _ => .none) s') E ⟨h₁, gn, dr, tk, os⟩) :
    Spec w g (.ref f) vs (k + 1) h R := by
  intro A gn dr tk os Q E hh hd hu hfs hst hsz hret
  refine wpAny_call (codeAny_call_def (fd := fnOf name qual params body scope dV kV doc pm an cdv ct) (body := body) (binds := binds) (Nat.lt_of_le_of_lt (Nat.le_add_right _ _) hd) (X.keeps hst _ _ ho) rfl (T.nolimit.keeps hst) (codeRec_of (X.keeps hst) hcd) rfl (hbind _ _ _ _ hst) hcell hloc (fun h₁ hns hk₁ => ?_) hco hgen hk)
  obtain ⟨l, hl, ff⟩ := hfs
  refine wpAny_mono (hb (A.deeper (envOf qual scope h.objs.size f cdv)) h.objs.size h₁ gn dr (tk + binds.length) os Q (fun _ _ => False) ⟨⟨hns, fun b o e => hk₁ b o (hst b o e), hsz⟩, Kp.of_keeps hk₁, Nat.le_refl _, ⟨_, Around.frames_deeper hl, ?_⟩, hh, sD _ _ (Kp.of_keeps hk₁).up dD, sD⟩ ?_ ?_ hret) (fun _ _ x => x) fun _ _ x => x.elim
  · refine Heap.FunFrames.cons (by show scope.kind ≠ .module; rw [hk]; decide) rfl hns (Heap.get?_none_of_le hsz) (ff.of_keeps fun b o e _ => ⟨o, hk₁ b o e, rfl⟩)
  · show A.depth + 1 + k < _
    omega
  · show A.units + 3 + 100 * k < _
    omega

section
variable {w : World} {g h₀ h : Heap} {A : Around} {L : Addr} {m : Str → Option Value} {D : Heap → Prop} {E : Value → Shared → Prop} {gn : Array GenState} {dr : Drawn} {tk : Nat} {os : OsState} {q : Str} {sc : Scope} {a : Addr} {cd : Value}
/-- a call of a def by its contract -/
theorem In.use (I : In g A h₀ L h m D) {f : Value} {vs : List Value} {k : Nat} {R : Heap → Value → Prop} {Q : Value → Shared → Prop} (S : Spec w g f vs k h R) (sR : ∀ r h h', Up h h' → R h r → R h' r) (hd : A.depth + k < recursionLimit) (hu : A.units + 100 * k < cLine)
    (hret : ∀ r h' tk', In g A h₀ L h' m (fun h => R h r ∧ D h) → Kp h h' → Q r ⟨h', gn, dr, tk', os⟩) : wpAny (model PySem.Challenge.rw_mr0134_01.row.prog w) A (call f vs) Q E ⟨h, gn, dr, tk, os⟩ :=
  S A gn dr tk os Q E I.hh hd hu I.fs I.fr.keep I.le fun r h' tk' k st hR => hret r h' tk' ((I.kp k st).also hR (sR r)) k
theorem In.store (I : In g A h₀ L h m D) {M : Model} {x : Str} {v : Value} {Q : Unit → Shared → Prop} (hl : (envOf q sc L a cd).kindOf x = some .local) (hk : sc.kind = .function)
    (hQ : ∀ h' tk', In g A h₀ L h' (fun y => if y = x then some v else m y) D → Heap.SameBut L h h' → Q () ⟨h', gn, dr, tk', os⟩) : wpAny M A (storeName (envOf q sc L a cd) x v) Q E ⟨h, gn, dr, tk, os⟩ :=
  wpAny_storeName_local hl I.fr.ns (fun h' hn hs => hQ h' _ (I.set hn hs) hs)
    (by show (sc.kind == .class || (sc.kind == .module && L != mainGlobals)) = false; rw [hk]; rfl)
/-- an object of the kind list or tuple -/
def Sq (c : String) (d : Addr) (vs : List Value) (h : Heap) : Prop := ∃ o n, h.get? d = some o ∧ o.cls = .type c ∧ o.data = .seq vs.toArray n ∧ o.dict = none
theorem Sq.up {c : String} {d : Addr} {vs : List Value} {h h' : Heap} (U : Up h h') (x : Sq c d vs h) : Sq c d vs h' := by
  obtain ⟨o, n, e, hc, hd, hn⟩ := x
  obtain ⟨sl, e'⟩ := U d o _ _ e hd
  exact ⟨_, n, e', hc, hd, hn⟩
theorem In.seq (I : In g A h₀ L h m D) {M : Model} {c : String} {vs : List Value} {Q : Value → Shared → Prop} (hsz : vs.length ≤ sizeLine)
    (hQ : ∀ h' d, In g A h₀ L h' m (fun h => Sq c d vs h ∧ D h) → h₀.get? d = none → Kp h h' → Q (.ref d) ⟨h', gn, dr, tk, os⟩) : wpAny M A (newObj (.type c) (.seq vs.toArray)) Q E ⟨h, gn, dr, tk, os⟩ :=
  wpAny_newObj_type (hQ _ _ ((I.push _).also ⟨_, _, Heap.get?_push_size _ rfl, rfl, rfl, rfl⟩ fun _ _ => Sq.up) (I.new (Heap.get?_none_of_le (Nat.le_refl _))) (Kp.of_keeps fun _ _ e => Heap.get?_push_of_some _ e)) (by show vs.toArray.size ≤ sizeLine; rw [List.size_toArray]; exact hsz)
theorem In.tuple (I : In g A h₀ L h m D) {M : Model} {vs : List Value} {Q : Value → Shared → Prop} (hsz : vs.length ≤ sizeLine)
    (hQ : ∀ h' d, In g A h₀ L h' m (fun h => Sq "tuple" d vs h ∧ D h) → h₀.get? d = none → Kp h h' → Q (.ref d) ⟨h', gn, dr, tk, os⟩) : wpAny M A (newTuple vs) Q E ⟨h, gn, dr, tk, os⟩ := I.seq hsz hQ
theorem In.list (I : In g A h₀ L h m D) {M : Model} {vs : List Value} {Q : Value → Shared → Prop} (hsz : vs.length ≤ sizeLine)
    (hQ : ∀ h' d, In g A h₀ L h' m (fun h => Sq "list" d vs h ∧ D h) → h₀.get? d = none → Kp h h' → Q (.ref d) ⟨h', gn, dr, tk, os⟩) : wpAny M A (newList vs) Q E ⟨h, gn, dr, tk, os⟩ := I.seq hsz hQ
end

end Mine
end
-- F2
section
open PySem PySem.W PyProof.Rows PySem.Calls PySem.Spec
set_option maxRecDepth 100000
namespace Mine

structure Bs (w : World) (g : Heap) (mg mb : Str → Option Value) : Prop where
  x : (hd.heap_39 w.params).In g
  t : ∃ p loose mean, Top p loose mean mg mb g
theorem Bs.g {w : World} {g : Heap} {mg mb : Str → Option Value} (B : Bs w g mg mb) : g.Ns mainGlobals mg := let ⟨_, _, _, t⟩ := B.t; t.g
theorem Bs.b {w : World} {g : Heap} {mg mb : Str → Option Value} (B : Bs w g mg mb) : g.Ns builtinsNs mb := let ⟨_, _, _, t⟩ := B.t; t.b
theorem Bs.blt {w : World} {g : Heap} {mg mb : Str → Option Value} (B : Bs w g mg mb) : ∀ x : Str, x ≠ "__name__" → mb x = bootBuiltins x := let ⟨_, _, _, t⟩ := B.t; t.builtins

section
variable {w : World} {g h₀ h : Heap} {A : Around} {L : Addr} {m : Str → Option Value} {D : Heap → Prop} {E : Value → Shared → Prop} {gn : Array GenState} {dr : Drawn} {tk : Nat} {os : OsState} {q : Str} {sc : Scope} {a : Addr} {cd : Value} {M : Model} {mg mb : Str → Option Value} {x : Str} {pos : Pos} {v : Value} {Q : Value → Shared → Prop}
theorem In.loc (I : In g A h₀ L h m D) (hv : m x = some v) (hQ : Q v ⟨h, gn, dr, tk, os⟩) (hk : sc.kind = .function := by rfl) (hl : (envOf q sc L a cd).kindOf x = some .local := by rfl) (hd : (x == ("__debug__" : Str)) = false := by decide) :
    wpAny M A (eval (.Name x pos) (envOf q sc L a cd)) Q E ⟨h, gn, dr, tk, os⟩ := ld I.fr hv hQ hk hl hd
theorem In.glob (I : In g A h₀ L h m D) (B : Bs w g mg mb) (hb : nsIn (hd.heap_39 w.params) mainGlobals x = some (some v)) (hQ : Q v ⟨h, gn, dr, tk, os⟩) (hk : sc.kind = .function := by rfl) (hl : (envOf q sc L a cd).kindOf x = some .globalImplicit := by rfl) (hd : (x == ("__debug__" : Str)) = false := by decide) :
    wpAny M A (eval (.Name x pos) (envOf q sc L a cd)) Q E ⟨h, gn, dr, tk, os⟩ := ld_global_at I.fr B.g (mg_of B.x B.g hb) hQ hk hl hd
theorem In.blt (I : In g A h₀ L h m D) (B : Bs w g mg mb) (hb : nsIn (hd.heap_39 w.params) mainGlobals x = some none) (hv : bootBuiltins x = some v) (hQ : Q v ⟨h, gn, dr, tk, os⟩) (hn : x ≠ "__name__" := by decide) (hk : sc.kind = .function := by rfl) (hl : (envOf q sc L a cd).kindOf x = some .globalImplicit := by rfl) (hd : (x == ("__debug__" : Str)) = false := by decide) :
    wpAny M A (eval (.Name x pos) (envOf q sc L a cd)) Q E ⟨h, gn, dr, tk, os⟩ := ld_builtin_at I.fr B.g (mg_none_of B.x B.g hb) B.b ((B.blt x hn).trans hv) hQ hk hl hd
end
theorem st_true (h h' : Heap) (_ : Up h h') (_ : True) : True := trivial

theorem kfill : (hd.heap_39 = hd.heap_39) ∧ PySem.Challenge.rw_mr0134_01 = PySem.Challenge.rw_mr0134_01 := by
  k_fill
  exact ⟨rfl, rfl⟩
end Mine
end
-- HL
section
open PySem PySem.W PyProof.Rows
set_option maxRecDepth 100000
namespace Mine
abbrev addrs : List Addr := [2, 3, 6, 15, 16, 18, 19, 21, 22, 23, 25, 26, 28, 29, 30, 32, 33, 35, 36, 37, 38, 39, 41, 42, 44, 45, 46, 48, 49, 51, 52, 53, 56, 57, 58, 60, 61, 63, 64, 65, 67, 68, 70, 71, 72, 74, 75, 77, 78, 79, 82, 83, 84, 86, 87, 89, 90, 91, 93, 94, 96, 97, 98, 101, 102]
theorem addrs_eq (P : Params) : addrs = (hd.heap_39 P).map (·.1) := by kernel_rfl
noncomputable abbrev hk : Hook := kmHook hd.heap_39 addrs addrs_eq [99]
abbrev lo : List Str := [Str.ofString "_norm_version", Str.ofString "_initial_missing", Str.ofString "reduce"]
set_option maxHeartbeats 0 in
theorem left : LeftO PySem.Challenge.rw_mr0134_01.row.prog hd.view_39 lo (fun s => xlAt hd.view_39 [] s && recOk (RowW.records PySem.Challenge.rw_mr0134_01.row.toRowW) s) (Hook.obs hk) (Hook.val hk) 1032 := fun w => by kernel_rfl
end Mine
end
-- C1
section
open PySem PySem.W PyProof.Rows PySem.Calls PySem.Spec
open Sem (wp)
set_option maxRecDepth 100000
namespace Mine

/-- the claim's caller stands on the stack -/
def HasC (Γ : PySem.Ctx) : Prop := Γ.code.isCaller = true ∨ Γ.below.any (·.1.isCaller) = true
structure wpC {α : Type} (M : Model) (A : Around) (t : Sem α) (Q : α → Shared → Prop) (E : Value → Shared → Prop) (s : Shared) : Prop where
  run : ∀ Γ p, Γ.In A → HasC Γ → wp M Γ t (fun a _ s' => Q a s') (fun e _ s' => E e s') p s
structure codeC (M : Model) (A : Around) (c : Code) (R : Result → Shared → Prop) (s : Shared) : Prop where
  run : ∀ Γ p, Γ.code = c → Γ.Below A → Γ.below.any (·.1.isCaller) = true → wpCode M Γ R p s

section
variable {α β : Type} {M : Model} {A : Around} {E : Value → Shared → Prop} {s : Shared}
theorem wpC.of {t : Sem α} {Q : α → Shared → Prop} (h : wpAny M A t Q E s) : wpC M A t Q E s := ⟨fun Γ p i _ => h Γ p i⟩
theorem codeC.of {c : Code} {R : Result → Shared → Prop} (h : codeAny M A c R s) : codeC M A c R s := ⟨fun Γ p e b _ => h Γ p e b⟩
theorem wpC_mono {t : Sem α} {Q Q' : α → Shared → Prop} {E' : Value → Shared → Prop} (h : wpC M A t Q E s) (hQ : ∀ a s, Q a s → Q' a s) (hE : ∀ e s, E e s → E' e s) : wpC M A t Q' E' s :=
  ⟨fun Γ p i c => Sem.wp_mono M Γ t (fun a _ s => hQ a s) (fun e _ s => hE e s) p s (h.run Γ p i c)⟩
theorem wpC_bind {m : Sem α} {f : α → Sem β} {Q : β → Shared → Prop} (h : wpC M A m (fun a s' => wpC M A (f a) Q E s') E s) : wpC M A (m >>= f) Q E s := by
  refine ⟨fun Γ p i c => ?_⟩
  rw [Sem.wp_bind']
  exact Sem.wp_mono M Γ m (fun a p' s' h' => h'.run Γ p' i c) (fun _ _ _ h' => h') p s (h.run Γ p i c)
/-- a plain part, then one that needs the caller -/
theorem wpC_next {m : Sem α} {f : α → Sem β} {Q : β → Shared → Prop} (h : wpAny M A m (fun a s' => wpC M A (f a) Q E s') E s) : wpC M A (m >>= f) Q E s := wpC_bind (.of h)
theorem wpC_pure {a : α} {Q : α → Shared → Prop} (h : Q a s) : wpC M A (pure a) Q E s := ⟨fun _ _ _ _ => h⟩
theorem wpC_holding {vs : List Value} {m : Sem α} {Q : α → Shared → Prop} (h : wpC M A m Q E s) : wpC M A (holding vs m) Q E s := by
  refine ⟨fun Γ p i c => ?_⟩
  rw [Sem.wp_holding]; exact h.run Γ p i c
theorem wpC_attempt {m : Sem α} {Q : Except Value α → Shared → Prop} (h : wpC M A m (fun a => Q (.ok a)) (fun e => Q (.error e)) s) : wpC M A m.attempt Q E s := by
  refine ⟨fun Γ p i c => ?_⟩
  rw [Sem.wp_attempt]; exact h.run Γ p i c
theorem wpC_onRaise {m : Sem α} {k : Value → Sem Unit} {Q : α → Shared → Prop} (h : wpC M A m Q (fun e s' => wpC M A (k e) (fun _ s'' => E e s'') E s') s) : wpC M A (m.onRaise k) Q E s := by
  refine ⟨fun Γ p i c => ?_⟩
  rw [Sem.wp_onRaise]
  exact Sem.wp_mono M Γ m (fun _ _ _ h' => h') (fun e p' s' h' => h'.run Γ p' i c) p s (h.run Γ p i c)
theorem wpC_operate {vs : List Value} {m : Sem Value} {Q : Value → Shared → Prop} (h : wpC M A m Q E s) : wpC M A (operate vs m) Q E s := by
  refine ⟨fun Γ p i c => ?_⟩
  rw [Sem.wp_operate]; exact h.run Γ p i c
theorem wpC_ite {c : Prop} [Decidable c] {a b : Sem α} {Q : α → Shared → Prop} (h : if c then wpC M A a Q E s else wpC M A b Q E s) : wpC M A (if c then a else b) Q E s := by
  split
  · rename_i q; rw [if_pos q] at h; exact h
  · rename_i q; rw [if_neg q] at h; exact h
theorem wpC_run {c : Code} {h : Option Value} {Q : Flow → Shared → Prop}
    (hc : codeC M (A.mark h) c (fun r s' => match r with | .ok f => Q f s' | .error e => E e s') s) (hnb : h ≠ some byPass := by intro x; cases x) : wpC M A (run c h) Q E s := by
  refine ⟨fun Γ p i c' => ?_⟩
  rw [Sem.wp_run]
  refine hc.run _ p rfl (i.enter c h p hnb) ?_
  show ((Γ.code, p) :: Γ.below).any (·.1.isCaller) = true
  rw [List.any_cons, Bool.or_eq_true]
  exact c'
theorem wpC_runValue {c : Code} {Q : Value → Shared → Prop}
    (hc : codeC M A c (fun r s' => match r with | .ok (.ret v) => Q v s' | .ok _ => False | .error e => E e s') s) : wpC M A (runValue c) Q E s := by
  refine ⟨fun Γ p i c' => ?_⟩
  rw [Sem.wp_runValue]
  refine hc.run _ p rfl (i.enter c none p (by intro x; cases x)) ?_
  show ((Γ.code, p) :: Γ.below).any (·.1.isCaller) = true
  rw [List.any_cons, Bool.or_eq_true]
  exact c'
theorem wpC_call {f : Value} {pos : List Value} {kw : List (Str × Value)} {Q : Value → Shared → Prop}
    (hc : codeC M A (.call f ⟨pos, kw⟩) (fun r s' => match r with | .ok (.ret v) => Q v s' | .ok _ => False | .error e => E e s') s) : wpC M A (call f pos kw) Q E s := wpC_runValue hc
theorem codeC_mono {c : Code} {R R' : Result → Shared → Prop} (h : codeC M A c R s) (hR : ∀ r s, R r s → R' r s) : codeC M A c R' s := ⟨fun Γ p e b c' => wpCode_mono hR (h.run Γ p e b c')⟩
theorem codeC_of_tree {c : Code} {R : Result → Shared → Prop}
    (h : wpC M (A.under c) (M.den c) (fun fin s' => match fin with | .done f => R (.ok f) s' | .again c' => c'.quiet = true ∧ codeC M A c' R s') (fun e s' => R (.error e) s') s) : codeC M A c R s := by
  refine ⟨fun Γ p e b c' => ?_⟩
  rw [wpCode_iff_wp, e]
  refine Sem.wp_mono M Γ _ (fun fin p' s' h' => ?_) (fun _ _ _ h' => h') p s (h.run Γ p (e ▸ b.in) (.inr c'))
  cases fin with
  | done f => exact h'
  | again c'' => exact ⟨h'.1, h'.2.run (Γ.goto c'') p' rfl (b.goto c'') c'⟩
/-- what stands on the stack -/
theorem wpC_stack {Q : List (Code × Pos) → Shared → Prop} (h : ∀ st : List (Code × Pos), st.any (·.1.isCaller) = true → Q st s) : wpC M A stack Q E s := by
  refine ⟨fun Γ p _ c => ?_⟩
  show Q ((Γ.code, p) :: Γ.below) s
  refine h _ ?_
  rw [List.any_cons, Bool.or_eq_true]
  exact c
end
end Mine
end
-- H1
section
open PySem PySem.W PyProof.Rows PySem.Calls PySem.Spec
open Sem (wp)
set_option maxRecDepth 100000
namespace Mine

theorem thread_C {prog : Program} {w : World} {t : Sem Fin} {s : Shared} {R : Result → Shared → Prop} (hz : s.asleep)
    (h : wpC (model prog w) callerA t (fun fin s' => ∃ f, fin = .done f ∧ R (.ok f) s' ∧ leftWithCleanup s'.gens = false) (fun e s' => R (.error e) s' ∧ leftWithCleanup s'.gens = false) s) :
    ∃ n r s' s'', runN (denote table) prog w n s ⟨t, .builtin "claim.caller" {}, default, []⟩ = .halted (outcomeOf r) s' ∧
      schedN (denote table) prog w n (.single s ⟨t, .builtin "claim.caller" {}, default, []⟩) = .halted (outcomeOf r) s' ∧ s'.forget = s''.forget ∧ R r s'' := by
  have h0 := h.run _ default caller_in (.inl rfl)
  obtain ⟨n, r, s₁, s₂, hs, hn, hf, hR⟩ := wp_halts_full (M := model prog w) (R := R) hz
    (Sem.wp_mono _ _ _ (fun fin p' s' h' => by obtain ⟨f, rfl, k⟩ := h'; exact k) (fun _ _ _ h' => h') default s h0)
  exact ⟨n, r, s₂, s₁, hn, hs, hf, hR⟩

theorem from_C {c : ClaimW} {tree : List Value → Sem Fin} {w : World} {s : Shared} {free : Addr → Prop} {gens : Prop} {kept : Heap → Prop} (hz : s.asleep) (hgens : s.gens = #[])
    (spec : ∀ args, c.pre args = true → WData.layableAll args = true → ∀ ord : List DictEntry → List DictEntry, (∀ l, (ord l).Perm l) →
      ∃ vs s₁, layAllW c.records (classAt s.heap) w.params ord args s = some (vs, s₁) ∧
        wpC (model c.prog w) callerA (tree vs) (fun fin s' => ∃ f, fin = .done f ∧ (c.Ends s args vs s₁ (.ok f) s' ∧ s'.os = s.os ∧ AllBare s'.gens ∧ kept s'.heap))
          (fun e s' => c.Ends s args vs s₁ (.error e) s' ∧ s'.os = s.os ∧ AllBare s'.gens ∧ kept s'.heap) s₁) :
    c.CallFrom (fun vs => ⟨tree vs, .builtin "claim.caller" {}, default, []⟩) w free gens kept s := by
  intro args hpre hlay ord hord
  obtain ⟨vs, s₁, hlaid, hc⟩ := spec args hpre hlay ord hord
  have rest := layAllW_rest _ _ _ hlaid
  obtain ⟨k, r, s', s'', hrun, hsched, hfo, hcase, hos, hkp⟩ := thread_C (prog := c.prog) (w := w) (t := tree vs) (s := s₁)
    (R := fun r s' => c.Ends s args vs s₁ r s' ∧ s'.os = s.os ∧ kept s'.heap) (Shared.asleep_of_life rest.2.2.2 hz)
    (wpC_mono hc (fun fin s' h => by
      obtain ⟨f, e, h1, h2, h3, h4⟩ := h
      exact ⟨f, e, ⟨h1, h2, h4⟩, leftWithCleanup_false_of_bare h3⟩) fun e s' h => by
      obtain ⟨h1, h2, h3, h4⟩ := h
      exact ⟨⟨h1, h2, h4⟩, leftWithCleanup_false_of_bare h3⟩)
  obtain ⟨eh, _, _, eo, _⟩ := Shared.forget_eq hfo
  have hcase := hcase.congr eh
  rw [← eh] at hkp
  rw [← eo] at hos
  have hlife : s'.heap.life = s.heap.life := (runN_life _ _ _ hrun).trans rest.2.2.2
  refine ⟨vs, s₁, hlaid, k, _, s', hsched, ?_, (fun _ i x hx => by rw [hgens] at hx; simp at hx), hkp, by rw [hlife], Shared.rest_eq hos⟩
  rcases hcase with ⟨v, rfl, d1, d2, d3, d4, d5⟩ | ⟨e, ob, cls, rfl, d1, d2, d3, d4, d5⟩
  · exact .inl ⟨v, rfl, d1, d2, d3, fun b o y _ => d4 b o y, d5⟩
  · exact .inr ⟨e, ob, cls, rfl, d1, d2, d3, d4, fun b o y _ => d5 b o y⟩

abbrev WalkC (q : Program) (loose : List Str) (XP : (Str → Option Value) → Heap → Prop) (YP : World → Heap → Prop) (r : RowW) (d : DefRec) (kwd : List (Str × Expr)) : Prop :=
  ∀ (w : World) (s₀ s₁ : Shared) (mg mb : Str → Option Value), Ground q loose r.records XP w s₀ mg mb s₁.heap → YP w s₁.heap → ∀ (a : Addr) (o : Obj) (pm cd doc dV kV : Value), s₁.heap.get? a = some o →
    o.data = .func { docDef d.name d.params d.body d.scope pm cd doc with defaults := dV, kwdefaults := kV } → s₁.heap.CodeRec cd d.name → Dflts mg s₁.heap d.params kwd dV kV → mg d.name = some (.ref a) → s₁.gens = #[] →
    ∀ (args : List WData) (vals : List Value) (as : List Addr), r.claim.pre args = true → WData.layableAll args = true → ReadsAllW r.records (classAt s₀.heap) s₁.heap vals args as → WellAll w.params s₁.heap vals args → (∀ a ∈ as, (a == sysModules) = false) →
      wpC (model r.prog w) callerA (PySem.call (.ref a) vals) (fun v s' => GoodWG r.claim (classAt s₀.heap) (ExcName.means s₀.heap) args s₁ (.ok (.ret v)) s')
        (fun e s' => GoodWG r.claim (classAt s₀.heap) (ExcName.means s₀.heap) args s₁ (.error e) s') s₁

theorem holds_C {r : OpenRow} {q : Program} {loose : List Str} {Xt : Shared → Bool} {XP : (Str → Option Value) → Heap → Prop} {α : Type} {Yf : Shared → α} {Ya : World → α} {YP : World → Heap → Prop} {d : DefRec} {kwd : List (Str × Expr)} {N : Nat}
    (left : LeftO r.prog q loose Xt Yf Ya N) (hY : ∀ w s, Yf s = Ya w → YP w s.heap) (hYk : ∀ w h h', YP w h → (∀ b o, h.get? b = some o → h'.get? b = some o) → YP w h')
    (hX : ∀ s, Xt s = true → XP (s.heap.nsMap mainGlobals) s.heap) (hXk : ∀ mg h h', XP mg h → (∀ b o, h.get? b = some o → h'.get? b = some o) → XP mg h')
    (hdef : defOf q r.name = some (d, kwd)) (hp : r.prog.theDef r.name = some (d.params, d.body, d.scope)) (hk : kwWritten? d.params.kwonlyargs d.params.kw_defaults = some kwd) (hRf : ∀ s, Xt s = true → RecFacts r.records s.heap) (hwr : (!r.writes || r.records.isEmpty) = true)
    (k1 : r.wellSaid = true) (ok : (chainsOk q && opensWell r.prog && (frees r.toRowW && r.within.isEmpty)) = true) (hb : r.prog.bare) (hw : r.toRowW.promised)
    (walk : WalkC q loose XP YP r.toRowW d kwd) : r.Holds := by
  refine ⟨k1, hw, ?_⟩
  obtain ⟨ok, k5⟩ := Bool.and_eq_true_iff.mp ok
  obtain ⟨hch, o1⟩ := Bool.and_eq_true_iff.mp ok
  obtain ⟨k5, k6⟩ := Bool.and_eq_true_iff.mp k5
  obtain ⟨hsame, hu, ha, hap, hm⟩ := frees_parts k5
  refine ⟨⟨hb, o1, by show r.toRowW.makers.map _ = []; rw [hm]; rfl⟩, hw.witness, fun w => ⟨(left.behind hX hch w).1, fun s' hs' => ?_⟩⟩
  obtain ⟨s₀, hf, hg0, s, hT, hz, hgens, hg, G00, y⟩ := (left.behind (XP := fun mg h => XP mg h ∧ RecFacts r.records h) (fun s hs => ⟨hX s hs, hRf s hs⟩) hch w).2 s' hs'
  have G0 : Ground q loose [] XP w s (s.heap.nsMap mainGlobals) (s.heap.nsMap builtinsNs) s.heap := ⟨G00.T, G00.B, G00.D, G00.TE, G00.TD, G00.W, G00.X.1, G00.cls, G00.has, G00.apart, G00.once, G00.K⟩
  have RF := G00.X.2
  refine ⟨s₀, hf, hg0, s, hT, fun n hn => ?_, RF.1, RF.2.1, ?_⟩
  · obtain rfl : n = r.name := by
      revert hn
      split <;> simp_all
    exact pinned_of_view hg G0 hdef hp hk
  have hgens : s.gens = #[] := Array.eq_empty_of_size_eq_zero (beq_iff_eq.mp hgens)
  have G : Ground q loose r.records XP w s _ _ s.heap := RF.ground G0
  refine from_C (c := r.toRowW.claim) hz hgens fun args hpre hlay ord hord => ?_
  obtain ⟨⟨vs, s₁⟩, hlaid⟩ := Option.isSome_iff_exists.mp (layAllW_isSome (P := w.params) (ord := ord) G.has args r.args s (pre_splitW hpre).1)
  have keeps := layAllW_keeps _ _ _ hlaid
  have rest := layAllW_rest _ _ _ hlaid
  obtain ⟨as, hrd, hin, hold⟩ := reads_layAllW hord _ _ _ hlaid hlay s₁.heap (fun _ _ e => e)
  have L : Laid r.records w s s₁ args vs as := ⟨⟨ord, hord, hlaid⟩, hrd, hin, hold, keeps, rest.1.trans hgens, rest.2.2.1⟩
  have G₁ := G.keeps hXk keeps
  obtain ⟨a, o, pm, cd, doc, dV, kV, h1, h2, h3, h4, h5⟩ := G₁.fn hdef
  have hi := ident_freeW hu ha hap
  have hwi : r.toRowW.claim.within = [] := List.isEmpty_iff.mp k6
  refine ⟨vs, s₁, hlaid, ?_⟩
  refine wpC_next (wpAny_nsGet G₁.T.g ?_)
  rw [h1]
  refine wpC_bind (wpC_mono (walk w s s₁ _ _ G₁ (hYk _ _ _ (hY w s y) keeps) a o pm cd doc dV kV h2 h3 h4 h5 (defOf_name hdef ▸ h1) L.gens args vs as hpre hlay L.reads L.well (L.low G.low)) (fun v s' g => ?_) fun e s' g => ?_)
  · refine wpC_pure ⟨_, rfl, ?_⟩
    have z := g.laid (c := r.toRowW.claim) hsame hwi hi L
    exact ⟨z.1, z.2.1, z.2.2, fun q => ⟨namesKept_of hT hg _ keeps g.2.1.old, noTable hwr q⟩⟩
  · have z := g.laid (c := r.toRowW.claim) hsame hwi hi L
    exact ⟨z.1, z.2.1, z.2.2, fun q => ⟨namesKept_of hT hg _ keeps g.2.1.old, noTable hwr q⟩⟩
end Mine
end
-- H2
section
open PySem PySem.W PyProof.Rows PySem.Calls PySem.Spec
set_option maxRecDepth 100000
namespace Mine
set_option maxHeartbeats 4000000 in
theorem top_C {d : DefRec} {kwd : List (Str × Expr)} (hdef : defOf hd.view_39 PySem.Challenge.rw_mr0134_01.row.name = some (d, kwd)) (hp : PySem.Challenge.rw_mr0134_01.row.prog.theDef PySem.Challenge.rw_mr0134_01.row.name = some (d.params, d.body, d.scope)) (hkw : kwWritten? d.params.kwonlyargs d.params.kw_defaults = some kwd) (walk : WalkC hd.view_39 lo (XL hd.view_39 []) (Hook.says hk) PySem.Challenge.rw_mr0134_01.row.toRowW d kwd) : PySem.Challenge.rw_mr0134_01.Holds := by
  o_law
  refine holds_C (q := hd.view_39) (loose := lo) (Xt := fun s => xlAt hd.view_39 [] s && recOk (RowW.records PySem.Challenge.rw_mr0134_01.row.toRowW) s) (XP := XL hd.view_39 []) (Yf := Hook.obs hk) (Ya := Hook.val hk) (YP := Hook.says hk) (N := 1032) left (Hook.of hk) (Hook.keeps hk) (fun s e => xl_of s (Bool.and_eq_true_iff.mp e).1) XL.keeps hdef hp hkw (fun s e => recFacts_of (Bool.and_eq_true_iff.mp e).2) rfl (by first | assumption | decide +kernel) (by decide +kernel) ⟨rfl, rfl, rfl, rfl, rfl, by decide +kernel⟩ ?hw walk
  case hw => w_witness2
end Mine
end
-- C2
section
open PySem PySem.W PyProof.Rows PySem.Calls PySem.Spec
open Sem (wp)
set_option maxRecDepth 100000
namespace Mine
section
variable {prog : Program} {w : World} {A : Around} {E : Value → Shared → Prop} {s : Shared}
theorem codeC_builtin {id : String} {args : Args} {b : Builtin} {R : Result → Shared → Prop} (hb : entryFor table id = some b)
    (h : wpC (model prog w) (A.under (.builtin id args)) (b args)
      (fun fin s' => match fin with | .done f => R (.ok f) s' | .again c' => c'.quiet = true ∧ codeC (model prog w) A c' R s') (fun e s' => R (.error e) s') s) : codeC (model prog w) A (.builtin id args) R s := by
  refine codeC_of_tree ?_
  show wpC _ _ (match entryFor table id with | some b => b args | none => unsupported ((withoutEnding? id "#data").getD id)) _ _ s
  rw [hb]; exact h
theorem codeC_call_builtin {id : String} {args : Args} {b : Builtin} {R : Result → Shared → Prop} (hq : plainId id = true) (hb : entryFor table id = some b)
    (h : wpAny (model prog w) A.in1 (checkBuiltinCall id args) (fun _ s₁ => wpC (model prog w) A.in1 (b args)
      (fun fin s' => match fin with | .done f => R (.ok f) s' | .again c' => c'.quiet = true ∧ codeC (model prog w) A c' R s') (fun e s' => R (.error e) s') s₁)
      (fun e s' => R (.error e) s') s) : codeC (model prog w) A (.call (.builtin id) args) R s := by
  refine codeC_of_tree ?_
  show wpC _ _ (checkBuiltinCall id args >>= fun _ => again (.builtin id args)) _ _ s
  have e : A.under (.call (.builtin id) args) = A.in1 := Around.under_plain rfl rfl
  rw [e]
  refine wpC_next (wpAny_mono h (fun _ s₁ h₁ => wpC_pure ⟨plainId_quiet hq args, codeC_builtin hb ?_⟩) fun _ _ x => x)
  rw [Around.under_plainId hq args]
  exact h₁
theorem type_call_C {T newId : String} {Bn : Builtin} {args : List Value} {Q : Value → Shared → Prop} (ft : TypeCalled T newId "object.__init__")
    (hct : checkTypeCall T ⟨args, []⟩ = pure ()) (hcn : checkBuiltinCall newId ⟨.type T :: args, []⟩ = pure ())
    (entryN : entryFor table newId = some Bn)
    (h : wpC (model prog w) A.in1.in1 (Bn ⟨.type T :: args, []⟩) (fun _ _ => False) E s) :
    wpC (model prog w) A (call (.type T) args) Q E s := by
  obtain ⟨c, tl, hmro⟩ := ft.mro
  have hmade := ft.made
  have h1 := ft.notType
  have h2 := ft.canCreate
  refine wpC_call (codeC_of_tree ?_)
  show wpC _ _ (callAny (.type T) _) _ _ _
  refine wpC_pure ⟨Code.quiet_builtin _ (by decide +kernel), codeC_builtin F.entry_type_call ?_⟩
  rw [Around.under_plain (weight_type_call_type T args []) (units_type_call_type T args [])]
  unfold Builtin.«type.__call__»
  dsimp only
  rw [if_neg (by rw [h1]; decide), if_neg (by rw [h2]; decide), hct, pure_bind, hmro, pure_bind, if_neg (by simp), hmade, pure_bind]
  dsimp only
  rw [pure_bind]
  refine wpC_bind (wpC_holding (wpC_call (codeC_call_builtin ft.plain entryN (wpAny_of_eq hcn (wpC_mono h (fun _ _ x => x.elim) fun _ _ x => x)))))

theorem mark_C {M : Model} {own : List String} {e : Value} {Q : Unit → Shared → Prop} (h : Q () s) : wpC M A (markTheRefusal own e) Q E s := by
  unfold markTheRefusal
  refine wpC_bind (wpC_stack fun st hst => ?_)
  obtain ⟨p, hp, hq⟩ := List.any_eq_true.mp hst
  have e1 : pythonCodeMadeTheCall own (st.map (·.1)) = false := by
    unfold pythonCodeMadeTheCall
    refine Bool.and_eq_false_iff.mpr (.inl (Bool.and_eq_false_iff.mpr (.inl ?_)))
    rw [Bool.not_eq_false']
    exact List.any_eq_true.mpr ⟨p.1, List.mem_map_of_mem hp, hq⟩
  rw [e1]
  exact wpC_pure h
open NumText in
theorem int_bad_tree {x : Str} {u : Tok} {Q : Fin → Shared → Prop} (hl : x.length ≤ 640) (hx : ∀ c ∈ x.cps.toList, c < 128) (hr : (int_private% "readNumeral") 0 10 (numSeenOf x) = int_private% "Numeral.invalid") (hh : A.handled = none)
    (hE : ∀ h' tk e, Heap.NewExc s.heap h' e "ValueError" → E (.ref e) { s with heap := h', toks := tk }) : wpC (model prog w) A (Builtin.«int.__new__» ⟨[.type "int", .str x u], []⟩) Q E s := by
  unfold Builtin.«int.__new__»
  dsimp only
  have e1 : isType (.type "int") = pure true := rfl
  have f3 := KIN.str_int
  have f4 := KIN.str_idx
  have f5 := KIN.str_trunc
  have f6 : typeOf (.str x u) = pure (.type "str") := rfl
  simp only [e1, F.conv_sub_int, F.madeHere_int, pure_bind, Bool.not_true, Bool.false_eq_true, if_false, List.length_cons, List.length_nil, List.forIn_nil, List.head?_cons]
  rw [if_neg (by simp), if_neg (by simp)]
  refine wpC_bind (m := (int_private% "intFromObject") (.str x u)) ?_
  refine wpC_next (m := callSpecial? (.str x u) (Str.ofString "__int__")) ?_
  repeat (first | assumption | wp_step)
  refine wpC_next (m := specialOf (.str x u) (Str.ofString "__index__")) ?_
  repeat (first | assumption | wp_step)
  rw [if_neg (by decide)]
  refine wpC_next (m := specialOf (.str x u) (Str.ofString "__trunc__")) ?_
  repeat (first | assumption | wp_step)
  refine wpC_next (m := (int_private% "numeralText?") (.str x u)) ?_
  repeat (first | assumption | wp_step)
  show wpC _ _ ((int_private% "intFromText") (.str x u) (numTextOf x) 10) _ _ _
  have hs : (numSeenOf x).length ≤ 640 := Nat.le_trans (seen_length x) hl
  show wpC _ _ (if (numSeenOf x).length ≤ 640 then _ else _) _ _ _
  rw [if_pos hs, pure_bind]
  dsimp only
  rw [hr]
  refine wpC_next (m := (int_private% "bytesOf?") (.str x u)) (wpAny_pure ?_)
  rw [if_neg (by simp)]
  refine wpC_next (m := rule "int.__new__.invalid-literal") (wpAny_rule ?_)
  refine wpC_next (m := (int_private% "bytesOf?") (.str x u)) (wpAny_pure ?_)
  refine wpC_next (m := pyRepr (.str x u)) (wpAny_pyRepr_str ?_ ?_)
  · refine wpC_next (wpAny_mkStr ?_ ?_)
    · refine wpC_next (wpAny_newExc_plain plainExc_ValueError fun h' e M => ?_)
      refine wpC_bind ?_
      refine mark_C (wpC.of (wpAny_raiseNew_none hh ?_))
      exact hE _ _ _ M.newExc
    · rw [Str.length_append, sizeLine_eq]
      have h1 : (⟨(reprText x).cps.extract 0 200⟩ : Str).length ≤ 200 := by
        show ((reprText x).cps.extract 0 200).size ≤ 200
        rw [Array.size_extract]
        omega
      have h2 : (Str.ofString (toString "invalid literal for int() with base " ++ toString 10 ++ toString ": ")).length ≤ 100 := by decide +kernel
      omega
  · have := StrLaws.reprText_len x (fun c hc => Nat.lt_of_lt_of_le (hx c hc) (by decide))
    rw [sizeLine_eq]
    omega

open NumText in
/-- int of a text that is no number raises, and leaves no note where the claim calls -/
theorem int_bad {x : Str} {u : Tok} {Q : Value → Shared → Prop} (hl : x.length ≤ 640) (hx : ∀ c ∈ x.cps.toList, c < 128) (hr : (int_private% "readNumeral") 0 10 (numSeenOf x) = int_private% "Numeral.invalid") (hh : A.handled = none)
    (hE : ∀ h' tk e, Heap.NewExc s.heap h' e "ValueError" → E (.ref e) { s with heap := h', toks := tk }) : wpC (model prog w) A (call (.type "int") [.str x u]) Q E s :=
  type_call_C F.called_int (F.typeCall_int_1 _) (F.newCall_int_1 _) F.entry_int_new (int_bad_tree hl hx hr hh hE)
end
end Mine
end
-- F3
section
open PySem PySem.W PyProof.Rows PySem.Calls PySem.Spec
set_option maxRecDepth 100000
namespace Mine

section
variable {prog : Program} {w : World} {A : Around} {s : Shared} {R : Result → Shared → Prop} {target test : Expr} {it : Value} {body : List Stmt} {env : Env}
theorem under_for : A.under (.forLoop target it body [] env) = A := Around.under_of_weight rfl rfl
theorem under_while : A.under (.whileLoop test body [] env) = A := Around.under_of_weight rfl rfl
/-- one turn of a for that raises nothing -/
theorem for_one (h : wpAny (model prog w) A (pyNext it) (fun r s₁ => match r with
      | none => R (.ok .next) s₁
      | some v => wpAny (model prog w) A (assign target env v) (fun _ s₂ => wpAny (model prog w) A (execs body env) (fun f s₃ => match f with
          | .next | .cont => codeAny (model prog w) A (.forLoop target it body [] env) R s₃
          | .brk => R (.ok .next) s₃
          | .ret v => R (.ok (.ret v)) s₃) (fun _ _ => False) s₂) (fun _ _ => False) s₁) (fun _ _ => False) s)
    (ht : ∀ v, letOwnedTupleGo target it v = pure () := by intro _; rfl) : codeAny (model prog w) A (.forLoop target it body [] env) R s := by
  refine codeAny_of_tree ?_
  rw [under_for]
  show wpAny _ _ ((forTurn target it body [] env).onRaise (fun x => do noteFrame x env; theTreesLotGoes x)) _ _ s
  refine wpAny_onRaise ?_
  simp only [forTurn]
  refine wpAny_bind (wpAny_standAt (wpAny_bind (wpAny_onRaise (wpAny_mono h (fun r s₁ h₁ => ?_) fun _ _ x => x.elim))))
  cases r with
  | none => exact wpAny_pure ⟨rfl, codeAny_block (wpAny_execs_nil h₁)⟩
  | some v =>
    refine wpAny_bind (wpAny_of_eq (ht v) (wpAny_bind (wpAny_mono h₁ (fun _ s₂ h₂ => wpAny_bind (wpAny_mono h₂ (fun f s₃ h₃ => ?_) fun _ _ x => x.elim)) fun _ _ x => x.elim)))
    cases f with
    | next => exact wpAny_pure ⟨rfl, h₃⟩
    | cont => exact wpAny_pure ⟨rfl, h₃⟩
    | brk => exact wpAny_pure h₃
    | ret v => exact wpAny_pure h₃
/-- the same where the claim's caller is known -/
theorem for_oneC (h : wpAny (model prog w) A (pyNext it) (fun r s₁ => match r with
      | none => R (.ok .next) s₁
      | some v => wpAny (model prog w) A (assign target env v) (fun _ s₂ => wpC (model prog w) A (execs body env) (fun f s₃ => match f with
          | .next | .cont => codeC (model prog w) A (.forLoop target it body [] env) R s₃
          | .brk => R (.ok .next) s₃
          | .ret v => R (.ok (.ret v)) s₃) (fun _ _ => False) s₂) (fun _ _ => False) s₁) (fun _ _ => False) s)
    (ht : ∀ v, letOwnedTupleGo target it v = pure () := by intro _; rfl) : codeC (model prog w) A (.forLoop target it body [] env) R s := by
  refine codeC_of_tree ?_
  rw [under_for]
  show wpC _ _ ((forTurn target it body [] env).onRaise (fun x => do noteFrame x env; theTreesLotGoes x)) _ _ s
  refine wpC_onRaise ?_
  simp only [forTurn]
  refine wpC_next (wpAny_standAt (wpC_next (wpAny_onRaise (wpAny_mono h (fun r s₁ h₁ => ?_) fun _ _ x => x.elim))))
  cases r with
  | none => exact wpC_pure ⟨rfl, .of (codeAny_block (wpAny_execs_nil h₁))⟩
  | some v =>
    refine wpC_next (wpAny_of_eq (ht v) (wpC_next (wpAny_mono h₁ (fun _ s₂ h₂ => wpC_bind (wpC_mono h₂ (fun f s₃ h₃ => ?_) fun _ _ x => x.elim)) fun _ _ x => x.elim)))
    cases f with
    | next => exact wpC_pure ⟨rfl, h₃⟩
    | cont => exact wpC_pure ⟨rfl, h₃⟩
    | brk => exact wpC_pure h₃
    | ret v => exact wpC_pure h₃
/-- one turn of a while that raises nothing -/
theorem while_one (h : wpAny (model prog w) A (isTrue test env (eval test env)) (fun b s₂ =>
      if b then wpAny (model prog w) A (execs body env) (fun f s₃ => match f with
          | .next | .cont => codeAny (model prog w) A (.whileLoop test body [] env) R s₃
          | .brk => R (.ok .next) s₃
          | .ret v => R (.ok (.ret v)) s₃) (fun _ _ => False) s₂
      else R (.ok .next) s₂) (fun _ _ => False) s) : codeAny (model prog w) A (.whileLoop test body [] env) R s := by
  refine codeAny_of_tree ?_
  rw [under_while]
  show wpAny _ _ ((whileTurn test body [] env).onRaise (fun x => do noteFrame x env; theTreesLotGoes x)) _ _ s
  refine wpAny_onRaise ?_
  simp only [whileTurn]
  refine wpAny_bind (wpAny_mono h (fun b s₂ h₂ => ?_) fun _ _ x => x.elim)
  cases b with
  | false => exact wpAny_bind (wpAny_execs_nil (wpAny_pure h₂))
  | true =>
    refine wpAny_bind (wpAny_mono h₂ (fun f s₃ h₃ => ?_) fun _ _ x => x.elim)
    cases f with
    | next => exact wpAny_pure ⟨rfl, h₃⟩
    | cont => exact wpAny_pure ⟨rfl, h₃⟩
    | brk => exact wpAny_pure h₃
    | ret v => exact wpAny_pure h₃
end

section
variable {w : World} {g h₀ h : Heap} {A : Around} {L : Addr} {m : Str → Option Value} {D : Heap → Prop} {E : Value → Shared → Prop} {gn : Array GenState} {dr : Drawn} {tk : Nat} {os : OsState} {q : Str} {sc : Scope} {a : Addr} {cd : Value} {prog : Program}
theorem Sq.tup {t : Addr} {vs : List Value} (x : Sq "tuple" t vs h) : IsTup h t vs.toArray := let ⟨o, n, e, c, d, _⟩ := x; ⟨o, e, c, n, d⟩
theorem Sq.lst {t : Addr} {vs : List Value} (x : Sq "list" t vs h) : h.IsList t vs.toArray := let ⟨o, n, e, c, d, _⟩ := x; ⟨o, e, c, n, d⟩
theorem In.unpack (I : In g A h₀ L h m D) {t : Addr} {vs : List Value} {n : Nat} {Q : List Value → Shared → Prop} (ht : Sq "tuple" t vs h) (hn : n = vs.length)
    (hQ : ∀ h', In g A h₀ L h' m D → Kp h h' → Q vs ⟨h', gn, dr, tk, os⟩) : wpAny (model prog w) A (unpackItems (.ref t) n none) Q E ⟨h, gn, dr, tk, os⟩ := by
  have e : n = vs.toArray.size := by rw [hn, List.size_toArray]
  subst e
  refine unpackItems_tuple I.hh ht.tup fun h' k => ?_
  have k' : ∀ b o, h.get? b = some o → h'.get? b = some o := fun b o e => k b o (Nat.ne_of_lt (Heap.lt_size e)) e
  have := hQ h' (I.kp (.of_keeps k') fun b o e => k' b o (I.stays b o e)) (.of_keeps k')
  simpa using this
theorem In.assignTup (I : In g A h₀ L h m D) {env : Env} {elts : List Expr} {k : Nat} {pos : Pos} {t : Addr} {vs : List Value} {Q : Unit → Shared → Prop} (ht : Sq "tuple" t vs h)
    (hn : (assignEach elts env).length = vs.length) (hs : (assignEach elts env).findIdx? (·.1) = none)
    (hQ : ∀ h', In g A h₀ L h' m D → Kp h h' → wpAny (model prog w) A (assignInOrder ((assignEach elts env).map (·.2)) vs) Q E ⟨h', gn, dr, tk, os⟩) :
    wpAny (model prog w) A (assign (.Tuple elts k pos) env (.ref t)) Q E ⟨h, gn, dr, tk, os⟩ := by
  refine assign_Tuple_tuple I.hh ht.tup (by rw [hn, List.size_toArray]) hs fun h' k => ?_
  have k' : ∀ b o, h.get? b = some o → h'.get? b = some o := fun b o e => k b o (Nat.ne_of_lt (Heap.lt_size e)) e
  have := hQ h' (I.kp (.of_keeps k') fun b o e => k' b o (I.stays b o e)) (.of_keeps k')
  simpa using this
end
end Mine
end
-- F4
section
open PySem PySem.W PyProof.Rows PySem.Calls PySem.Spec
set_option maxRecDepth 100000
namespace Mine

section
variable {w : World} {g h₀ h : Heap} {A : Around} {L : Addr} {m : Str → Option Value} {D : Heap → Prop} {E : Value → Shared → Prop} {gn : Array GenState} {dr : Drawn} {tk : Nat} {os : OsState} {prog : Program} {value slice : Expr} {Q : Value → Shared → Prop}

theorem item_at {l : Addr} {vs : List Value} {k : Int} {u : Tok} {v : Value} (hl : Sq "list" l vs h) (h0 : 0 ≤ k) (hk : k < 2 ^ 63) (hx : vs[k.toNat]? = some v) (hQ : Q v ⟨h, gn, dr, tk, os⟩)
    (hs : subscripted slice false (.ref l) (.int k u) = operate [.ref l, .int k u] (getItem (.ref l) (.int k u)) := by with_unfolding_all rfl) :
    wpAny (model prog w) A (subscriptTail value slice (.ref l) (.int k u)) Q E ⟨h, gn, dr, tk, os⟩ :=
  tail_any hl.lst.typeIs slot_list_getitem.lookup (wpAny_getItem_list hl.lst h0 hk (by simpa using hx) hQ) hs
theorem item_last {l : Addr} {vs : List Value} {u : Tok} {v : Value} (hl : Sq "list" l vs h) (hx : vs.getLast? = some v) (hQ : Q v ⟨h, gn, dr, tk, os⟩)
    (hs : subscripted slice false (.ref l) (.int (-1) u) = operate [.ref l, .int (-1) u] (getItem (.ref l) (.int (-1) u)) := by with_unfolding_all rfl) :
    wpAny (model prog w) A (subscriptTail value slice (.ref l) (.int (-1) u)) Q E ⟨h, gn, dr, tk, os⟩ := by
  have hne : vs.length ≠ 0 := fun q => by rw [List.length_eq_zero_iff.mp q] at hx; cases hx
  refine tail_any hl.lst.typeIs slot_list_getitem.lookup (wpAny_getItem_list_neg hl.lst (by decide) (by rw [List.size_toArray]; omega) (by decide) ?_ hQ) hs
  rw [List.size_toArray, List.getElem?_toArray, ← hx, List.getLast?_eq_getElem?]
  congr 1
  omega
/-- a slice's own object -/
theorem In.slc (I : In g A h₀ L h m D) {env : Env} {lower upper : Option Expr} {p : Pos} {M : Model}
    (hQ : wpAny M A (evalPart lower env) (fun vl s₁ => wpAny M A (evalPart upper env) (fun vu s₂ => ∃ tk', s₂ = ⟨h, gn, dr, tk', os⟩ ∧
      ∀ h' sl, In g A h₀ L h' m D → Kp h h' → h'.IsSliceOf sl vl vu .none → h' = h.push { cls := .type "slice", data := .fields #[vl, vu, .none] } → Q (.ref sl) ⟨h', gn, dr, tk', os⟩) E s₁) E ⟨h, gn, dr, tk, os⟩) :
    wpAny M A (eval (.Slice lower upper none p) env) Q E ⟨h, gn, dr, tk, os⟩ := by
  refine wpAny_Slice (wpAny_mono hQ (fun vl s₁ h₁ => wpAny_mono h₁ (fun vu s₂ h₂ => ?_) fun _ _ x => x) fun _ _ x => x)
  obtain ⟨tk', rfl, hq⟩ := h₂
  exact wpAny_evalPart_none (hq _ _ (I.push _) (Kp.of_keeps fun _ _ e => Heap.get?_push_of_some _ e) (Heap.IsSliceOf.new _ _ _ _) rfl)
theorem In.cut (I : In g A h₀ L h m D) {l sl : Addr} {vs : List Value} {vl vu : Value} {lo hi : Option Int} (hl : Sq "list" l vs h) (hsl : h.IsSliceOf sl vl vu .none) (pl : IsPart vl lo) (pu : IsPart vu hi) (hsz : vs.length ≤ sizeLine)
    (hQ : ∀ h' d, In g A h₀ L h' m (fun h => Sq "list" d (slicePick vs.toArray lo hi none).toList h ∧ D h) → h₀.get? d = none → Kp h h' → Q (.ref d) ⟨h', gn, dr, tk, os⟩)
    (hs : subscripted slice false (.ref l) (.ref sl) = operate [.ref sl, .ref l] (getItem (.ref l) (.ref sl)) := by with_unfolding_all rfl) :
    wpAny (model prog w) A (subscriptTail value slice (.ref l) (.ref sl)) Q E ⟨h, gn, dr, tk, os⟩ := by
  refine tail_any hl.lst.typeIs slot_list_getitem.lookup (wpAny_getItem_list_slice hl.lst hsl pl pu .none (by intro q; cases q) (hQ _ _ ((I.push _).also ⟨_, _, Heap.get?_push_size _ rfl, rfl, rfl, rfl⟩ fun _ _ => Sq.up) (I.new (Heap.get?_none_of_le (Nat.le_refl _))) (Kp.of_keeps fun _ _ e => Heap.get?_push_of_some _ e)) (by rw [List.size_toArray]; exact hsz)) hs
theorem cut_text {x : Str} {t : Tok} {sl : Addr} {j : Int} {uj : Tok} (hsl : h.IsSliceOf sl .none (.int j uj) .none) (hsz : x.length ≤ sizeLine)
    (hQ : ∀ t' tk', Q (.str (Txt.slice x none (some j)) t') ⟨h, gn, dr, tk', os⟩)
    (hs : subscripted slice false (.str x t) (.ref sl) = operate [.ref sl, .str x t] (getItem (.str x t) (.ref sl)) := by with_unfolding_all rfl) :
    wpAny (model prog w) A (subscriptTail value slice (.str x t) (.ref sl)) Q E ⟨h, gn, dr, tk, os⟩ := by
  refine tail_any (typeIs_str _ _ _) F.slot_str_getitem.lookup (wpAny_getItem_str_slice (l := none) (u := some (j, uj)) (st := none) hsl rfl (post_val_or_str ⟨Nat.le_trans (Txt.slice_le x _ _) hsz, fun t' k => hQ t' k⟩)) hs
/-- what a rule over the whole ledger gives -/
theorem In.more (I : In g A h₀ L h m D) {h' : Heap} {m' : Str → Option Value} {d : Addr} {c : String} {vs : List Value} {n : Nat} (F : Fr g L h' m') (N : News g L h' ((d, { cls := .type c, data := .seq vs.toArray n }) :: full g L h)) (hd : h.get? d = none) :
    In g A h₀ L h' m' (fun h => Sq c d vs h ∧ D h) ∧ h₀.get? d = none :=
  ⟨(I.news F N fun p hp => .tail _ hp).1.also ⟨_, n, (N _ (.head _)).1, rfl, rfl, rfl⟩ fun _ _ => Sq.up, I.new hd⟩
theorem In.cat (I : In g A h₀ L h m D) {l b : Addr} {vs us : List Value} (hl : Sq "list" l vs h) (hb : Sq "list" b us h) (hsz : vs.length + us.length ≤ sizeLine)
    (hQ : ∀ h' d, In g A h₀ L h' m (fun h => Sq "list" d (vs ++ us) h ∧ D h) → h₀.get? d = none → Q (.ref d) ⟨h', gn, dr, tk, os⟩) :
    wpAny (model prog w) A (binaryOp .Add (.ref l) (.ref b)) Q E ⟨h, gn, dr, tk, os⟩ := by
  refine add_arrays (s := ⟨h, gn, dr, tk, os⟩) I.fr (full_news (L := L)) hl.lst hb.lst (fun h' F N => ?_) (by rw [List.size_toArray, List.size_toArray]; exact hsz)
  have J := I.more F N (Heap.get?_none_of_le (Nat.le_refl _))
  exact hQ h' _ J.1 J.2
theorem strsAre_values : ∀ l : List (Str × Tok), StrsAre (strValues l) (l.map (·.1))
  | [] => .nil
  | (x, t) :: r => .cons x t (strsAre_values r)
theorem In.split (I : In g A h₀ L h m D) {x y : Str} {t u : Tok} (hy : (y.length == 0) = false) (hsz : x.length + 2 ≤ sizeLine)
    (hQ : ∀ h' d vs tk', In g A h₀ L h' m (fun h => Sq "list" d vs h ∧ D h) → StrsAre vs (Txt.split x y) → h₀.get? d = none → Q (.ref d) ⟨h', gn, dr, tk', os⟩) :
    wpAny (model prog w) A (call (.builtin "str.split") [.str x t, .str y u]) Q E ⟨h, gn, dr, tk, os⟩ := by
  refine splitN1 (s := ⟨h, gn, dr, tk, os⟩) I.fr (full_news (L := L)) hy (fun l h' k e F N => ?_) hsz
  have J := I.more F N (Heap.get?_none_of_le (Nat.le_refl _))
  exact hQ h' _ _ k J.1 (e ▸ strsAre_values l) J.2
theorem join_at {x : Str} {t : Tok} {l : Addr} {vs : List Value} {ys : List Str} (hl : Sq "list" l vs h) (hi : StrsAre vs ys) (hx : x.length ≤ 64) (hsz : (ys.map (·.length)).sum + ys.length * 64 ≤ 16777216)
    (hQ : ∀ t' tk', Q (.str (Txt.join x ys) t') ⟨h, gn, dr, tk', os⟩) : wpAny (model prog w) A (call (.builtin "str.join") [.str x t, .ref l]) Q E ⟨h, gn, dr, tk, os⟩ :=
  join_listC (s := ⟨h, gn, dr, tk, os⟩) hl.lst hi hx hsz fun t' k => hQ t' k
theorem In.tupleOf (I : In g A h₀ L h m D) {l : Addr} {vs : List Value} (hl : Sq "list" l vs h) (hsz : vs.length ≤ sizeLine)
    (hQ : ∀ h' d, In g A h₀ L h' m (fun h => Sq "tuple" d vs h ∧ D h) → Q (.ref d) ⟨h', gn, dr, tk, os⟩) :
    wpAny (model prog w) A (call (.type "tuple") [.ref l]) Q E ⟨h, gn, dr, tk, os⟩ := by
  refine tuple_ofL (s := ⟨h, gn, dr, tk, os⟩) I.fr (full_news (L := L)) hl.lst (fun d h' F N k => ?_) hsz
  have J := (I.news F N fun p hp => .tail _ hp).1.also (P := Sq "tuple" d vs) ⟨_, _, (N _ (.head _)).1, rfl, rfl, rfl⟩ fun _ _ => Sq.up
  exact hQ h' d J
/-- a list of the frame's own grows -/
theorem In.append (I : In g A h₀ L h m D) {l : Addr} {vs : List Value} {x : Value} {D' : Heap → Prop} (hl : Sq "list" l vs h) (hn : h₀.get? l = none) (hg : g.get? l = none) (hsz : vs.length ≤ sizeLine)
    (hD : ∀ h', Heap.SameBut l h h' → Sq "list" l (vs ++ [x]) h' → D' h') (sD : ∀ h h', Up h h' → D' h → D' h')
    (hQ : ∀ h', In g A h₀ L h' m D' → Heap.SameBut l h h' → Q .none ⟨h', gn, dr, tk, os⟩) :
    wpAny (model prog w) A (call (.builtin "list.append") [.ref l, x]) Q E ⟨h, gn, dr, tk, os⟩ := by
  obtain ⟨o, n, e, hc, hd, hdi⟩ := hl
  have hlL : l ≠ L := fun q => by
    subst q
    obtain ⟨o', es, ep, hL, hd', _⟩ := I.fr.ns
    rw [e] at hL
    cases hL
    rw [hd] at hd'
    cases hd'
  refine list_append_plainL (s := ⟨h, gn, dr, tk, os⟩) (its := vs.toArray) ⟨o, n, e, hc, hdi, hd⟩ (fun h' hp hs => ?_) (by rw [List.size_toArray]; exact hsz)
  obtain ⟨o', n', e', hc', hdi', hd'⟩ := hp
  have hq : Sq "list" l (vs ++ [x]) h' := ⟨o', n', e', hc', by rw [hd']; simp, hdi'⟩
  have F : Fr g L h' m := ⟨I.fr.ns.sameBut hs (Ne.symm hlL), fun b o e => (hs.2 b (fun q => by rw [q, hg] at e; cases e)).trans (I.fr.keep b o e), I.fr.above⟩
  refine hQ h' (I.turn F [l] (fun a ha => ?_) (fun b o _ hb e => ⟨o.slots, (hs.2 b (fun q => hb (by rw [q]; exact .head _))).trans e⟩) (hD h' hs hq) sD) hs
  rw [List.mem_singleton.mp ha]
  exact ⟨hn, o', e', _, n', hd'⟩
end
end Mine
end
-- P1
section
open PySem PySem.W PyProof.Rows PySem.Calls PySem.Spec
set_option maxRecDepth 100000
namespace Mine

def menuB : List Str := [Str.ofString "", Str.ofString "5", Str.ofString "007", Str.ofString "b"]
def menuS : List Str := [Str.ofString "SunOS", Str.ofString "win32", Str.ofString "SunOS", Str.ofString "win16", Str.ofString "Linux", Str.ofString "SunOS", Str.ofString "Windows", Str.ofString "unknown"]
def menuP : List Str := [Str.ofString "5", Str.ofString "7", Str.ofString "0", Str.ofString "10", Str.ofString ".", Str.ofString "a", Str.ofString ".", Str.ofString "9"]
def kindOf (x : Int) : Int := x.fmod 8
def thing (x : Int) : Str :=
  if kindOf x = 1 then menuB.getD ((x.fdiv 8).fmod 4).toNat (Str.ofString "")
  else if kindOf x = 2 then menuS.getD ((x.fdiv 8).fmod 8).toNat (Str.ofString "")
  else menuP.getD ((x.fdiv 8).fmod 8).toNat (Str.ofString "")

theorem strs_at : ∀ {vs : List Value} {ys : List Str}, StrsAre vs ys → ∀ {i : Nat}, i < ys.length → ∀ d, ∃ t, vs[i]? = some (.str (ys.getD i d) t)
  | _, _, .cons y t _, 0, _, _ => ⟨t, rfl⟩
  | _, _, .cons _ _ r, i + 1, hi, d => by
    obtain ⟨t, e⟩ := strs_at r (i := i) (Nat.lt_of_succ_lt_succ hi) d
    exact ⟨t, by simpa using e⟩
theorem strs_len {vs : List Value} {ys : List Str} (h : StrsAre vs ys) : vs.length = ys.length := by
  induction h with
  | nil => rfl
  | cons y t _ ih => simp [ih]
theorem strs_app {vs us : List Value} {ys zs : List Str} (h : StrsAre vs ys) (k : StrsAre us zs) : StrsAre (vs ++ us) (ys ++ zs) := by
  induction h with
  | nil => exact k
  | cons y t _ ih => exact .cons y t ih
theorem strs_take {vs : List Value} {ys : List Str} (h : StrsAre vs ys) : ∀ n, StrsAre (vs.take n) (ys.take n) := by
  induction h with
  | nil => intro n; simp; exact .nil
  | cons y t _ ih =>
    intro n
    cases n with
    | zero => exact .nil
    | succ n => exact .cons y t (ih n)
theorem strs_drop {vs : List Value} {ys : List Str} (h : StrsAre vs ys) : ∀ n, StrsAre (vs.drop n) (ys.drop n) := by
  induction h with
  | nil => intro n; simp; exact .nil
  | @cons y t vs ys r ih =>
    intro n
    cases n with
    | zero => exact .cons y t r
    | succ n => exact ih n
theorem fmod_lt (x : Int) {n : Int} (h : 0 < n) : 0 ≤ x.fmod n ∧ x.fmod n < n := ⟨Int.fmod_nonneg_of_pos x h, Int.fmod_lt_of_pos x h⟩
open NumText
def isD (c : Nat) : Bool := decide (48 ≤ c ∧ c ≤ 57)
/-- the number of a part, -1 if it is none -/
def num (x : Str) : Int := if (x.cps.toList.all isD && !x.cps.toList.isEmpty) = true then (digitsVal x.cps.toList : Int) else -1
def ten : Str := Str.ofString "0123456789"
def Asc (x : Str) : Prop := ∀ c ∈ x.cps.toList, c < 128
theorem in_ten : ∀ c, c < 128 → (Builtin.Str.occurrences ten ⟨#[c]⟩ 0 ten.length 1).isEmpty = !isD c := by decide +kernel
theorem find_ten : ∀ c, c < 128 → 48 ≤ c ∧ c ≤ 57 → Txt.find ten ⟨#[c]⟩ = (c : Int) - 48 := by decide +kernel

/-- the figures of a number -/
def figs (n : Int) : Str := Str.ofString (toString n)
theorem figs_list (n : Nat) : (figs n).cps.toList = (Nat.toDigits 10 n).map Char.toNat := KIN.signs_num n
theorem item_ten : ∀ k : Nat, k < 10 → Txt.item ten (k : Int) = ⟨#[48 + k]⟩ := by decide +kernel
theorem digitChar_nat : ∀ d, d < 10 → (Nat.digitChar d).toNat = 48 + d := by decide
theorem figs_one {n : Nat} (h : n < 10) : figs n = ⟨#[48 + n]⟩ := Str.ext' (Array.ext' (by rw [figs_list, Nat.toDigits_of_lt_base h]; simp [digitChar_nat n h]))
theorem figs_more {n : Nat} (h : 9 < n) : figs n = figs (n / 10 : Nat) ++ ⟨#[48 + n % 10]⟩ := by
  refine Str.ext' (Array.ext' ?_)
  have hm : n % 10 < 10 := Nat.mod_lt n (by decide)
  have t : Nat.toDigits 10 (n / 10) ++ Nat.toDigits 10 (n % 10) = Nat.toDigits 10 (10 * (n / 10) + n % 10) := Nat.toDigits_append_toDigits (by decide) (by omega) hm
  rw [Nat.div_add_mod] at t
  rw [figs_list, ← t, Str.cps_append, Array.toList_append, figs_list, List.map_append, Nat.toDigits_of_lt_base hm]
  simp [digitChar_nat _ hm]

section
variable {M : Model} {A : Around} {E : Value → Shared → Prop} {s : Shared} {env : Env}
theorem Assign_swap2 {a b : Str} {pa pb tp pos : Pos} {k : Nat} {value : Expr} {Q : Flow → Shared → Prop}
    (h : wpAny M A (eval value env) (fun v s₁ => wpAny M A (unpackItems v 2 none) (fun items s₂ => ∃ u v, items = [u, v] ∧ wpAny M A (storeName env b v) (fun _ s₃ => wpAny M A (storeName env a u) (fun _ => Q .next) E s₃) E s₂) E s₁) E s)
    (hs : swapsWithSole [.Tuple [.Name a pa, .Name b pb] k tp] value pos.line env = pure false := by rfl)
    (hw : swappedStores [.Tuple [.Name a pa, .Name b pb] k tp] value env = pure (some [a, b]) := by rfl) : wpAny M A (exec (.Assign [.Tuple [.Name a pa, .Name b pb] k tp] value pos) env) Q E s := by
  refine Assign_Tuple_swapped (names := [a, b]) (wpAny_mono h (fun v s₁ h₁ => wpAny_mono h₁ (fun items s₂ h₂ => ?_) fun _ _ x => x) fun _ _ x => x) hs hw
  obtain ⟨u, v, rfl, h₂⟩ := h₂
  refine wpAny_assignInOrder_more (wpAny_bindName (wpAny_mono h₂ (fun _ s₃ h₃ => wpAny_assignInOrder_more (wpAny_bindName (wpAny_mono h₃ (fun _ _ h₄ => wpAny_assignInOrder_none h₄) fun _ _ x => x))) fun _ _ x => x))
end
end Mine
end
-- F5
section
open PySem PySem.W PyProof.Rows PySem.Calls PySem.Spec
set_option maxRecDepth 100000
namespace Mine
section
variable {w : World} {g h₀ : Heap} {A : Around} {L : Addr} {gn : Array GenState} {dr : Drawn} {os : OsState} {prog : Program} {R : Result → Shared → Prop} {q : Str} {sc : Scope} {a : Addr} {cd : Value} {v : Str} {p : Pos} {body : List Stmt}
theorem striter_rec {h : Heap} {it : Addr} {c : String} {x : Str} {t : Tok} {i : Nat} (x : h.IsStrIter it c x t i) : ∃ o fs, h.get? it = some o ∧ o.data = .fields fs := let ⟨o, e, _, d⟩ := x; ⟨o, _, e, d⟩
theorem lstiter_rec {h : Heap} {it l : Addr} {i : Nat} (x : h.IsListIter it l i) : ∃ o fs, h.get? it = some o ∧ o.data = .fields fs := let ⟨o, e, _, d⟩ := x; ⟨o, _, e, d⟩
theorem rec_ne {h : Heap} {it : Addr} {o : Obj} {fs : Array Value} {m : Str → Option Value} (e : h.get? it = some o) (d : o.data = .fields fs) (n : h.Ns L m) : it ≠ L := fun q => by
  subst q
  obtain ⟨o', es, ep, hL, hd, _⟩ := n
  rw [e] at hL
  cases hL
  rw [d] at hd
  cases hd
theorem In.gnew {h : Heap} {m : Str → Option Value} {D : Heap → Prop} (I : In g A h₀ L h m D) {d : Addr} (e : h.get? d = none) : g.get? d = none := by
  cases q : g.get? d with
  | none => rfl
  | some o => rw [I.stays d o q] at e; cases e
theorem In.iterText {h : Heap} {m : Str → Option Value} {D : Heap → Prop} {E : Value → Shared → Prop} {tk : Nat} (I : In g A h₀ L h m D) {x : Str} {t : Tok} {Q : Value → Shared → Prop} (ha : ∀ c ∈ x.cps.toList, c < 128)
    (hQ : ∀ h' it, In g A h₀ L h' m D → h'.IsStrIter it "str_ascii_iterator" x t 0 → h₀.get? it = none → g.get? it = none → Q (.ref it) ⟨h', gn, dr, tk, os⟩) : wpAny (model prog w) A (pyIter (.str x t)) Q E ⟨h, gn, dr, tk, os⟩ := by
  have e : h.get? h.objs.size = none := Heap.get?_none_of_le (Nat.le_refl _)
  refine wpAny_pyIter_ascii ?_ (hQ _ _ (I.push _) ⟨_, Heap.get?_push_size _ rfl, rfl, rfl⟩ (I.new e) (I.gnew e))
  rw [Array.all_eq_true']
  intro c hc
  exact decide_eq_true (ha c (Array.mem_toList_iff.mpr hc))
theorem In.iterList {h : Heap} {m : Str → Option Value} {D : Heap → Prop} {E : Value → Shared → Prop} {tk : Nat} (I : In g A h₀ L h m D) {l : Addr} {vs : List Value} {Q : Value → Shared → Prop} (hl : Sq "list" l vs h)
    (hQ : ∀ h' it, In g A h₀ L h' m D → h'.IsListIter it l 0 → h₀.get? it = none → g.get? it = none → Q (.ref it) ⟨h', gn, dr, tk, os⟩) : wpAny (model prog w) A (pyIter (.ref l)) Q E ⟨h, gn, dr, tk, os⟩ := by
  have e : h.get? h.objs.size = none := Heap.get?_none_of_le (Nat.le_refl _)
  exact wpAny_pyIter_list hl.lst (hQ _ _ (I.push _) ⟨_, Heap.get?_push_size _ rfl, rfl, rfl⟩ (I.new e) (I.gnew e))
/-- a for over a plain text -/
theorem forText {x : Str} {t : Tok} {it : Addr} (P : Nat → (Str → Option Value) → (Heap → Prop) → Prop) (hn : h₀.get? it = none) (hg : g.get? it = none)
    (hl : (envOf q sc L a cd).kindOf v = some .local) (hk : sc.kind = .function)
    (turn : ∀ i c m D h tk tk', x.cps[i]? = some c → P i m D → In g A h₀ L h (fun y => if y = v then some (.str ⟨#[c]⟩ tk') else m y) D → h.IsStrIter it "str_ascii_iterator" x t (i + 1) →
      wpAny (model prog w) A (execs body (envOf q sc L a cd)) (fun f s₃ => match f with
        | .next | .cont => ∃ h' tk' m' D', s₃ = ⟨h', gn, dr, tk', os⟩ ∧ In g A h₀ L h' m' D' ∧ h'.IsStrIter it "str_ascii_iterator" x t (i + 1) ∧ P (i + 1) m' D'
        | .brk => R (.ok .next) s₃
        | .ret v => R (.ok (.ret v)) s₃) (fun _ _ => False) ⟨h, gn, dr, tk, os⟩)
    (done : ∀ h tk m D, In g A h₀ L h m D → P x.cps.size m D → R (.ok .next) ⟨h, gn, dr, tk, os⟩) :
    ∀ n i h tk m D, n + i = x.cps.size → In g A h₀ L h m D → h.IsStrIter it "str_ascii_iterator" x t i → P i m D → codeAny (model prog w) A (.forLoop (.Name v p) (.ref it) body [] (envOf q sc L a cd)) R ⟨h, gn, dr, tk, os⟩ := by
  intro n
  induction n with
  | zero =>
    intro i h tk m D hi I hit hP
    refine for_one (wpAny_pyNext_ascii_end I.hh hit (by rw [Array.getElem?_eq_none]; omega) fun h' k => ?_)
    obtain ⟨o, fs, e, d⟩ := striter_rec hit
    have hi' : i = x.cps.size := by omega
    exact done h' tk m D (I.iter e d hn hg k) (hi' ▸ hP)
  | succ n ih =>
    intro i h tk m D hi I hit hP
    have hlt : i < x.cps.size := by omega
    refine for_one (wpAny_pyNext_ascii_item hit (c := x.cps[i]) (by rw [Array.getElem?_eq_getElem hlt]) fun h' hit' hs => ?_)
    obtain ⟨o, fs, e, d⟩ := striter_rec hit
    have I' := I.iter e d hn hg hs.extBut
    refine assign_Name (I'.store hl hk fun h₂ tk₂ I₂ S₂ => ?_)
    obtain ⟨o', fs', e', d'⟩ := striter_rec hit'
    have hit₂ : h₂.IsStrIter it "str_ascii_iterator" x t (i + 1) := hit'.extBut S₂.extBut (rec_ne e' d' I'.fr.ns)
    refine wpAny_mono (turn i _ m D h₂ tk₂ tk (by rw [Array.getElem?_eq_getElem hlt]) hP I₂ hit₂) (fun f s₃ h₃ => ?_) fun _ _ x => x
    cases f with
    | next => obtain ⟨h', tk', m', D', rfl, I', it', P'⟩ := h₃; exact ih (i + 1) h' tk' m' D' (by omega) I' it' P'
    | cont => obtain ⟨h', tk', m', D', rfl, I', it', P'⟩ := h₃; exact ih (i + 1) h' tk' m' D' (by omega) I' it' P'
    | brk => exact h₃
    | ret v => exact h₃
/-- a while by a measure -/
theorem whileBy {D : Heap → Prop} {test : Expr} (P : Nat → (Str → Option Value) → Prop)
    (turn : ∀ k m h tk, P k m → In g A h₀ L h m D → wpAny (model prog w) A (isTrue test (envOf q sc L a cd) (eval test (envOf q sc L a cd))) (fun b s₂ =>
      if b then wpAny (model prog w) A (execs body (envOf q sc L a cd)) (fun f s₃ => match f with
          | .next | .cont => ∃ k' h' tk' m', k' < k ∧ s₃ = ⟨h', gn, dr, tk', os⟩ ∧ In g A h₀ L h' m' D ∧ P k' m'
          | .brk => R (.ok .next) s₃
          | .ret v => R (.ok (.ret v)) s₃) (fun _ _ => False) s₂
      else R (.ok .next) s₂) (fun _ _ => False) ⟨h, gn, dr, tk, os⟩) :
    ∀ k m h tk, P k m → In g A h₀ L h m D → codeAny (model prog w) A (.whileLoop test body [] (envOf q sc L a cd)) R ⟨h, gn, dr, tk, os⟩ := by
  intro k
  induction k using Nat.strongRecOn with
  | ind k ih =>
    intro m h tk hP I
    refine while_one (wpAny_mono (turn k m h tk hP I) (fun b s₂ h₂ => ?_) fun _ _ x => x)
    cases b with
    | false => exact h₂
    | true =>
      refine wpAny_mono (show wpAny _ _ _ _ _ s₂ from h₂) (fun f s₃ h₃ => ?_) fun _ _ x => x
      cases f with
      | next => obtain ⟨k', h', tk', m', hk, rfl, I', P'⟩ := h₃; exact ih k' hk m' h' tk' P' I'
      | cont => obtain ⟨k', h', tk', m', hk, rfl, I', P'⟩ := h₃; exact ih k' hk m' h' tk' P' I'
      | brk => exact h₃
      | ret v => exact h₃
/-- a for over a list -/
theorem forList {l it : Addr} {vs : List Value} (P : Nat → (Str → Option Value) → (Heap → Prop) → Prop) (hn : h₀.get? it = none) (hg : g.get? it = none) (hP : ∀ i m D, P i m D → ∀ h, D h → Sq "list" l vs h)
    (hl : (envOf q sc L a cd).kindOf v = some .local) (hk : sc.kind = .function)
    (turn : ∀ i y m D h tk, vs[i]? = some y → P i m D → In g A h₀ L h (fun z => if z = v then some y else m z) D → h.IsListIter it l (i + 1) →
      wpAny (model prog w) A (execs body (envOf q sc L a cd)) (fun f s₃ => match f with
        | .next | .cont => ∃ h' tk' m' D', s₃ = ⟨h', gn, dr, tk', os⟩ ∧ In g A h₀ L h' m' D' ∧ h'.IsListIter it l (i + 1) ∧ P (i + 1) m' D'
        | .brk => R (.ok .next) s₃
        | .ret v => R (.ok (.ret v)) s₃) (fun _ _ => False) ⟨h, gn, dr, tk, os⟩)
    (done : ∀ h tk m D, In g A h₀ L h m D → P vs.length m D → R (.ok .next) ⟨h, gn, dr, tk, os⟩) :
    ∀ n i h tk m D, n + i = vs.length → In g A h₀ L h m D → h.IsListIter it l i → P i m D → codeAny (model prog w) A (.forLoop (.Name v p) (.ref it) body [] (envOf q sc L a cd)) R ⟨h, gn, dr, tk, os⟩ := by
  intro n
  induction n with
  | zero =>
    intro i h tk m D hi I hit hQ
    refine for_one (wpAny_pyNext_list_end I.hh hit (hP _ _ _ hQ h I.data).lst (by simp; omega) fun h' k => ?_)
    obtain ⟨o, fs, e, d⟩ := lstiter_rec hit
    have hi' : i = vs.length := by omega
    exact done h' tk m D (I.iter e d hn hg k) (hi' ▸ hQ)
  | succ n ih =>
    intro i h tk m D hi I hit hQ
    have hlt : i < vs.length := by omega
    refine for_one (wpAny_pyNext_list_item hit (hP _ _ _ hQ h I.data).lst (x := vs[i]) (by simp [hlt]) fun h' hit' hs => ?_)
    obtain ⟨o, fs, e, d⟩ := lstiter_rec hit
    have I' := I.iter e d hn hg hs.extBut
    refine assign_Name (I'.store hl hk fun h₂ tk₂ I₂ S₂ => ?_)
    obtain ⟨o', fs', e', d'⟩ := lstiter_rec hit'
    have hit₂ : h₂.IsListIter it l (i + 1) := hit'.extBut S₂.extBut (rec_ne e' d' I'.fr.ns)
    refine wpAny_mono (turn i _ m D h₂ tk₂ (by simp [hlt]) hQ I₂ hit₂) (fun f s₃ h₃ => ?_) fun _ _ x => x
    cases f with
    | next => obtain ⟨h', tk', m', D', rfl, I', it', P'⟩ := h₃; exact ih (i + 1) h' tk' m' D' (by omega) I' it' P'
    | cont => obtain ⟨h', tk', m', D', rfl, I', it', P'⟩ := h₃; exact ih (i + 1) h' tk' m' D' (by omega) I' it' P'
    | brk => exact h₃
    | ret v => exact h₃
/-- the same where the claim's caller is known -/
theorem forListC {l it : Addr} {vs : List Value} (P : Nat → (Str → Option Value) → (Heap → Prop) → Prop) (hn : h₀.get? it = none) (hg : g.get? it = none) (hP : ∀ i m D, P i m D → ∀ h, D h → Sq "list" l vs h)
    (hl : (envOf q sc L a cd).kindOf v = some .local) (hk : sc.kind = .function)
    (turn : ∀ i y m D h tk, vs[i]? = some y → P i m D → In g A h₀ L h (fun z => if z = v then some y else m z) D → h.IsListIter it l (i + 1) →
      wpC (model prog w) A (execs body (envOf q sc L a cd)) (fun f s₃ => match f with
        | .next | .cont => ∃ h' tk' m' D', s₃ = ⟨h', gn, dr, tk', os⟩ ∧ In g A h₀ L h' m' D' ∧ h'.IsListIter it l (i + 1) ∧ P (i + 1) m' D'
        | .brk => R (.ok .next) s₃
        | .ret v => R (.ok (.ret v)) s₃) (fun _ _ => False) ⟨h, gn, dr, tk, os⟩)
    (done : ∀ h tk m D, In g A h₀ L h m D → P vs.length m D → R (.ok .next) ⟨h, gn, dr, tk, os⟩) :
    ∀ n i h tk m D, n + i = vs.length → In g A h₀ L h m D → h.IsListIter it l i → P i m D → codeC (model prog w) A (.forLoop (.Name v p) (.ref it) body [] (envOf q sc L a cd)) R ⟨h, gn, dr, tk, os⟩ := by
  intro n
  induction n with
  | zero =>
    intro i h tk m D hi I hit hQ
    refine for_oneC (wpAny_pyNext_list_end I.hh hit (hP _ _ _ hQ h I.data).lst (by simp; omega) fun h' k => ?_)
    obtain ⟨o, fs, e, d⟩ := lstiter_rec hit
    have hi' : i = vs.length := by omega
    exact done h' tk m D (I.iter e d hn hg k) (hi' ▸ hQ)
  | succ n ih =>
    intro i h tk m D hi I hit hQ
    have hlt : i < vs.length := by omega
    refine for_oneC (wpAny_pyNext_list_item hit (hP _ _ _ hQ h I.data).lst (x := vs[i]) (by simp [hlt]) fun h' hit' hs => ?_)
    obtain ⟨o, fs, e, d⟩ := lstiter_rec hit
    have I' := I.iter e d hn hg hs.extBut
    refine assign_Name (I'.store hl hk fun h₂ tk₂ I₂ S₂ => ?_)
    obtain ⟨o', fs', e', d'⟩ := lstiter_rec hit'
    have hit₂ : h₂.IsListIter it l (i + 1) := hit'.extBut S₂.extBut (rec_ne e' d' I'.fr.ns)
    refine wpC_mono (turn i _ m D h₂ tk₂ (by simp [hlt]) hQ I₂ hit₂) (fun f s₃ h₃ => ?_) fun _ _ x => x
    cases f with
    | next => obtain ⟨h', tk', m', D', rfl, I', it', P'⟩ := h₃; exact ih (i + 1) h' tk' m' D' (by omega) I' it' P'
    | cont => obtain ⟨h', tk', m', D', rfl, I', it', P'⟩ := h₃; exact ih (i + 1) h' tk' m' D' (by omega) I' it' P'
    | brk => exact h₃
    | ret v => exact h₃
end
end Mine
end
-- F6
section
open PySem PySem.W PyProof.Rows PySem.Calls PySem.Spec
set_option maxRecDepth 100000
namespace Mine
section
variable {w : World} {g h₀ h : Heap} {A : Around} {L : Addr} {m : Str → Option Value} {D : Heap → Prop} {E : Value → Shared → Prop} {gn : Array GenState} {dr : Drawn} {tk : Nat} {os : OsState} {prog : Program} {value slice : Expr} {Q : Value → Shared → Prop} {l sl : Addr} {vs : List Value} {t : Tok}
theorem In.cutTo (I : In g A h₀ L h m D) {n : Nat} (hl : Sq "list" l vs h) (hsl : h.IsSliceOf sl .none (.int (n : Int) t) .none) (hsz : vs.length ≤ sizeLine)
    (hQ : ∀ h' d, In g A h₀ L h' m (fun h => Sq "list" d (vs.take n) h ∧ D h) → h₀.get? d = none → Kp h h' → Q (.ref d) ⟨h', gn, dr, tk, os⟩)
    (hs : subscripted slice false (.ref l) (.ref sl) = operate [.ref sl, .ref l] (getItem (.ref l) (.ref sl)) := by with_unfolding_all rfl) :
    wpAny (model prog w) A (subscriptTail value slice (.ref l) (.ref sl)) Q E ⟨h, gn, dr, tk, os⟩ :=
  I.cut hl hsl .none (.int _ _) hsz (fun h' d I' n' K => hQ h' d (by rw [slicePick_upto'] at I'; exact I') n' K) hs
theorem In.cutFrom (I : In g A h₀ L h m D) {n : Nat} (hl : Sq "list" l vs h) (hsl : h.IsSliceOf sl (.int (n : Int) t) .none .none) (hsz : vs.length ≤ sizeLine)
    (hQ : ∀ h' d, In g A h₀ L h' m (fun h => Sq "list" d (vs.drop n) h ∧ D h) → h₀.get? d = none → Kp h h' → Q (.ref d) ⟨h', gn, dr, tk, os⟩)
    (hs : subscripted slice false (.ref l) (.ref sl) = operate [.ref sl, .ref l] (getItem (.ref l) (.ref sl)) := by with_unfolding_all rfl) :
    wpAny (model prog w) A (subscriptTail value slice (.ref l) (.ref sl)) Q E ⟨h, gn, dr, tk, os⟩ :=
  I.cut hl hsl (.int _ _) .none hsz (fun h' d I' n' K => hQ h' d (by rw [slicePick_from'] at I'; exact I') n' K) hs
theorem In.cutLast (I : In g A h₀ L h m D) (hl : Sq "list" l vs h) (hsl : h.IsSliceOf sl .none (.int (-1) t) .none) (hsz : vs.length ≤ sizeLine)
    (hQ : ∀ h' d, In g A h₀ L h' m (fun h => Sq "list" d vs.dropLast h ∧ D h) → h₀.get? d = none → Kp h h' → Q (.ref d) ⟨h', gn, dr, tk, os⟩)
    (hs : subscripted slice false (.ref l) (.ref sl) = operate [.ref sl, .ref l] (getItem (.ref l) (.ref sl)) := by with_unfolding_all rfl) :
    wpAny (model prog w) A (subscriptTail value slice (.ref l) (.ref sl)) Q E ⟨h, gn, dr, tk, os⟩ :=
  I.cut hl hsl .none (.int _ _) hsz (fun h' d I' n' K => hQ h' d (by
    rw [show (-1 : Int) = -((1 : Nat) : Int) from rfl, slicePick_butLast _ _ (Nat.le_refl _), List.size_toArray] at I'
    rw [List.dropLast_eq_take]
    exact I') n' K) hs
end

/-- a list of texts -/
def TL (r : Value) (xs : List Str) (h : Heap) : Prop := ∃ d vs, r = .ref d ∧ StrsAre vs xs ∧ Sq "list" d vs h
theorem TL.up {r : Value} {xs : List Str} {h h' : Heap} (U : Up h h') (x : TL r xs h) : TL r xs h' := let ⟨d, vs, e, s, q⟩ := x; ⟨d, vs, e, s, q.up U⟩
def behind (xs : List Str) (p : Str) : List Str := if p = Str.ofString "." then xs ++ [Str.ofString ""] else xs.dropLast ++ [xs.getLastD (Str.ofString "") ++ p]
theorem strs_dropLast {vs : List Value} {xs : List Str} (h : StrsAre vs xs) : StrsAre vs.dropLast xs.dropLast := by
  rw [List.dropLast_eq_take, List.dropLast_eq_take, strs_len h]
  exact strs_take h _
theorem strs_last {vs : List Value} {xs : List Str} (h : StrsAre vs xs) (hne : xs ≠ []) (d : Str) : ∃ t, vs.getLast? = some (.str (xs.getLastD d) t) := by
  induction h with
  | nil => exact absurd rfl hne
  | @cons y t vs xs r ih =>
    cases r with
    | nil => exact ⟨t, rfl⟩
    | cons y' t' r' =>
      obtain ⟨t'', e⟩ := ih (by simp)
      refine ⟨t'', ?_⟩
      rw [List.getLast?_cons_cons, e]
      simp [List.getLastD]
end Mine
end
-- P2
section
open PySem PySem.W PyProof.Rows PySem.Calls PySem.Spec
set_option maxRecDepth 100000
namespace Mine
abbrev low (x : Str) : Bool := [Str.ofString "", Str.ofString "0", Str.ofString "1", Str.ofString "2", Str.ofString "3", Str.ofString "4"].any (· == Txt.slice x none (some 1))
abbrev isWin (s : Str) : Bool := [Str.ofString "win32", Str.ofString "win16"].any (· == s)
/-- a record renamed: its system, its release's parts -/
def renamed (s x : Str) (rs : List Str) : Str × List Str :=
  if isWin s = true then (Str.ofString "Windows", x :: rs)
  else if (s != Str.ofString "SunOS") = true then (s, x :: rs)
  else if low x = true then (s, x :: rs)
  else if num x = -1 then (Str.ofString "Solaris", x :: rs)
  else (Str.ofString "Solaris", figs (num x - 3) :: rs)
/-- a version made normal -/
def normal (xs : List Str) : List Str := if (xs.any fun x => num x == -1) = true then xs.take 3 else (xs.take 3).map fun x => figs (num x)
theorem strs_get {vs : List Value} {ys : List Str} (h : StrsAre vs ys) : ∀ {i : Nat} {v : Value}, vs[i]? = some v → ∃ n t, ys[i]? = some n ∧ v = .str n t := by
  induction h with
  | nil => intro i v e; cases i <;> cases e
  | cons y t _ ih =>
    intro i v e
    cases i with
    | zero => cases e; exact ⟨y, t, rfl, rfl⟩
    | succ i => exact ih (by simpa using e)
theorem take_more' {α : Type} {cs : List α} {i : Nat} {c : α} (h : cs[i]? = some c) : cs.take (i + 1) = cs.take i ++ [c] := by simp [List.take_add_one, h]
end Mine
end
-- F7
section
open PySem PySem.W PyProof.Rows PySem.Calls PySem.Spec
set_option maxRecDepth 100000
namespace Mine
/-- all stays but the slots and one namespace -/
def KB (L : Addr) (h h' : Heap) : Prop := ∀ b o, b ≠ L → h.get? b = some o → ∃ sl, h'.get? b = some { o with slots := sl }
theorem KB.refl (L : Addr) (h : Heap) : KB L h h := fun _ o _ e => ⟨o.slots, e⟩
theorem KB.trans {L : Addr} {h h' h'' : Heap} (x : KB L h h') (y : KB L h' h'') : KB L h h'' := fun b o n e =>
  let ⟨_, e₁⟩ := x b o n e
  let ⟨sl, e₂⟩ := y b _ n e₁
  ⟨sl, e₂⟩
theorem Kp.kb {L : Addr} {h h' : Heap} (x : Kp h h') : KB L h h' := fun b o _ e => x b o e
theorem kb_same {L : Addr} {h h' : Heap} (x : Heap.SameBut L h h') : KB L h h' := fun b o n e => ⟨o.slots, (x.2 b n).trans e⟩
/-- sequences stay, one apart -/
def UpB (a : Addr) (h h' : Heap) : Prop := ∀ b o vs n, b ≠ a → h.get? b = some o → o.data = .seq vs n → ∃ sl, h'.get? b = some { o with slots := sl }
theorem Up.b {a : Addr} {h h' : Heap} (x : Up h h') : UpB a h h' := fun b o vs n _ e d => x b o vs n e d
theorem upb_same {a : Addr} {h h' : Heap} (x : Heap.SameBut a h h') : UpB a h h' := fun b o _ _ n e _ => ⟨o.slots, (x.2 b n).trans e⟩
theorem KB.up {L : Addr} {h h' : Heap} {m : Str → Option Value} (x : KB L h h') (n : h.Ns L m) : Up h h' := fun b o vs k e d => x b o (fun q => by
  subst q
  obtain ⟨o', es, ep, hL, hd, _⟩ := n
  rw [e] at hL
  cases hL
  rw [d] at hd
  cases hd) e
theorem Sq.upB {c : String} {d a : Addr} {vs : List Value} {h h' : Heap} (U : UpB a h h') (hn : d ≠ a) (x : Sq c d vs h) : Sq c d vs h' := by
  obtain ⟨o, n, e, hc, hd, hn'⟩ := x
  obtain ⟨sl, e'⟩ := U d o _ _ hn e hd
  exact ⟨_, n, e', hc, hd, hn'⟩
theorem Sq.ne {c c' : String} {d d' : Addr} {vs us : List Value} {h : Heap} (x : Sq c d vs h) (y : Sq c' d' us h) (hn : c ≠ c') : d ≠ d' := fun q => by
  subst q
  obtain ⟨o, n, e, hc, _⟩ := x
  obtain ⟨o', n', e', hc', _⟩ := y
  rw [e] at e'
  cases e'
  rw [hc] at hc'
  cases hc'
  exact hn rfl
theorem Sq.neNs {c : String} {d L : Addr} {vs : List Value} {h : Heap} {m : Str → Option Value} (x : Sq c d vs h) (n : h.Ns L m) : d ≠ L := fun q => by
  subst q
  obtain ⟨o, _, e, _, hd, _⟩ := x
  obtain ⟨o', es, ep, hL, hd', _⟩ := n
  rw [e] at hL
  cases hL
  rw [hd] at hd'
  cases hd'
/-- an iterator over a list or a tuple -/
def ItAt (c : String) (it l : Addr) (i : Nat) (h : Heap) : Prop := ∃ o, h.get? it = some o ∧ o.cls = .type (if c = "list" then "list_iterator" else "tuple_iterator") ∧ o.data = .fields #[.ref l, .int i 0]
theorem ItAt.kb {c : String} {it l L : Addr} {i : Nat} {h h' : Heap} (x : ItAt c it l i h) (k : KB L h h') (hn : it ≠ L) : ItAt c it l i h' := by
  obtain ⟨o, e, hc, hd⟩ := x
  obtain ⟨sl, e'⟩ := k it o hn e
  exact ⟨_, e', hc, hd⟩
theorem ItAt.ne {c : String} {it l L : Addr} {i : Nat} {h : Heap} {m : Str → Option Value} (x : ItAt c it l i h) (n : h.Ns L m) : it ≠ L := let ⟨_, e, _, d⟩ := x; rec_ne e d n

section
variable {w : World} {g h₀ : Heap} {A : Around} {L : Addr} {gn : Array GenState} {dr : Drawn} {os : OsState} {prog : Program} {c : String} {l : Addr} {vs : List Value}
theorem In.iterSq {h : Heap} {m : Str → Option Value} {D : Heap → Prop} {E : Value → Shared → Prop} {tk : Nat} (I : In g A h₀ L h m D) {Q : Value → Shared → Prop} (hl : Sq c l vs h) (hc : c = "list" ∨ c = "tuple")
    (hQ : ∀ h' it, In g A h₀ L h' m D → ItAt c it l 0 h' → Kp h h' → h.get? it = none → Q (.ref it) ⟨h', gn, dr, tk, os⟩) : wpAny (model prog w) A (pyIter (.ref l)) Q E ⟨h, gn, dr, tk, os⟩ := by
  have e : h.get? h.objs.size = none := Heap.get?_none_of_le (Nat.le_refl _)
  rcases hc with rfl | rfl
  · exact wpAny_pyIter_list hl.lst (hQ _ _ (I.push _) ⟨_, Heap.get?_push_size _ rfl, rfl, rfl⟩ (Kp.of_keeps fun _ _ e => Heap.get?_push_of_some _ e) e)
  · exact iter_tuple hl.tup (hQ _ _ (I.push _) ⟨_, Heap.get?_push_size _ rfl, rfl, rfl⟩ (Kp.of_keeps fun _ _ e => Heap.get?_push_of_some _ e) e)
theorem In.itIter {h : Heap} {m : Str → Option Value} {D : Heap → Prop} {E : Value → Shared → Prop} {tk i : Nat} {it : Addr} (_ : In g A h₀ L h m D) {Q : Value → Shared → Prop} (hl : ItAt c it l i h) (hc : c = "list" ∨ c = "tuple")
    (hQ : Q (.ref it) ⟨h, gn, dr, tk, os⟩) : wpAny (model prog w) A (pyIter (.ref it)) Q E ⟨h, gn, dr, tk, os⟩ := by
  rcases hc with rfl | rfl
  · exact wpAny_pyIter_listiter (i := i) (l := l) hl hQ
  · exact wpAny_pyIter_tupleiter (i := i) (t := l) hl hQ
theorem In.nextItem {h : Heap} {m : Str → Option Value} {D : Heap → Prop} {E : Value → Shared → Prop} {tk i : Nat} {it : Addr} {y : Value} (I : In g A h₀ L h m D) {Q : Option Value → Shared → Prop} (hi : ItAt c it l i h) (hl : Sq c l vs h) (hc : c = "list" ∨ c = "tuple")
    (hn : h₀.get? it = none) (hg : g.get? it = none) (hy : vs[i]? = some y)
    (hQ : ∀ h', In g A h₀ L h' m D → ItAt c it l (i + 1) h' → Q (some y) ⟨h', gn, dr, tk, os⟩) : wpAny (model prog w) A (pyNext (.ref it)) Q E ⟨h, gn, dr, tk, os⟩ := by
  obtain ⟨o, e, _, d⟩ := id hi
  rcases hc with rfl | rfl
  · exact wpAny_pyNext_list_item (i := i) hi hl.lst (by simpa using hy) fun h' hit' hs => hQ h' (I.iter e d hn hg hs.extBut) hit'
  · exact next_tuple_item (i := i) hi hl.tup (by simpa using hy) fun h' hit' hs => hQ h' (I.iter e d hn hg hs.extBut) hit'
theorem In.nextEnd {h : Heap} {m : Str → Option Value} {D : Heap → Prop} {E : Value → Shared → Prop} {tk i : Nat} {it : Addr} (I : In g A h₀ L h m D) {Q : Option Value → Shared → Prop} (hi : ItAt c it l i h) (hl : Sq c l vs h) (hc : c = "list" ∨ c = "tuple")
    (hn : h₀.get? it = none) (hg : g.get? it = none) (hy : vs[i]? = none)
    (hQ : ∀ h', In g A h₀ L h' m D → Q none ⟨h', gn, dr, tk, os⟩) : wpAny (model prog w) A (pyNext (.ref it)) Q E ⟨h, gn, dr, tk, os⟩ := by
  obtain ⟨o, e, _, d⟩ := id hi
  rcases hc with rfl | rfl
  · exact wpAny_pyNext_list_end (i := i) I.hh hi hl.lst (by simpa using hy) fun h' hs => hQ h' (I.iter e d hn hg hs)
  · exact next_tuple_end (i := i) I.hh hi hl.tup (by simpa using hy) fun h' hs => hQ h' (I.iter e d hn hg hs)

theorem itGo {E : Value → Shared → Prop} {s : Shared} {target : Expr} {it : Addr} {i : Nat} {v : Value} {Q : Unit → Shared → Prop} (hi : ItAt c it l i s.heap) (hc : c = "list" ∨ c = "tuple") (hQ : Q () s) : wpAny (model prog w) A (letOwnedTupleGo target (.ref it) v) Q E s := by
  rcases hc with rfl | rfl
  · exact letGo_listiter (t := l) (i := i) hi hQ
  · exact letGo_tupleiter (t := l) (i := i) hi hQ
/-- the turns of a comprehension -/
theorem compRun {h₁ : Heap} {Lc it acc : Addr} {target elt iter : Expr} {scope : Scope} {pos : Pos} {env : Env} {D : Heap → Prop} {R : Result → Shared → Prop} (hc : c = "list" ∨ c = "tuple")
    (d₁ : D h₁) (sD : ∀ h h', Up h h' → D h → D h') (hD : ∀ h, D h → Sq c l vs h) (hit1 : h₁.get? it = none) (hit2 : g.get? it = none) (hacc1 : h₁.get? acc = none) (hacc2 : g.get? acc = none) (hvs : vs.length ≤ 1000)
    (P : Nat → List Value → Heap → Prop) (sP : ∀ i us h h', UpB acc h h' → P i us h → P i us h')
    (turn : ∀ i y us m h tk, vs[i]? = some y → In g A h₁ Lc h m (fun h => Sq "list" acc us h ∧ P i us h ∧ D h) →
      wpAny (model prog w) A (assign target env y) (fun _ s₂ => wpAny (model prog w) A (eval elt env) (fun x s₃ => ∃ h' tk' m', s₃ = ⟨h', gn, dr, tk', os⟩ ∧ In g A h₁ Lc h' m' (fun h => Sq "list" acc us h ∧ P i us h ∧ D h) ∧ P (i + 1) (us ++ [x]) h' ∧ KB Lc h h') (fun _ _ => False) s₂) (fun _ _ => False) ⟨h, gn, dr, tk, os⟩)
    (done : ∀ h tk m us, us.length = vs.length → In g A h₁ Lc h m (fun h => Sq "list" acc us h ∧ P vs.length us h ∧ D h) → R (.ok .next) ⟨h, gn, dr, tk, os⟩) :
    ∀ n i h tk m us, n + i = vs.length → us.length = i → In g A h₁ Lc h m (fun h => Sq "list" acc us h ∧ P i us h ∧ D h) → ItAt c it l i h → codeAny (model prog w) A (.compLoop (.ListComp elt [⟨target, iter, [], 0⟩] scope pos) 0 (.ref it) (.ref acc) env) R ⟨h, gn, dr, tk, os⟩ := by
  intro n i h tk m us e1 e2 I t
  refine kcp_loop (fun n s => ∃ i h tk m us, s = ⟨h, gn, dr, tk, os⟩ ∧ n + i = vs.length ∧ us.length = i ∧ In g A h₁ Lc h m (fun h => Sq "list" acc us h ∧ P i us h ∧ D h) ∧ ItAt c it l i h) ?_ n ⟨i, h, tk, m, us, rfl, e1, e2, I, t⟩
  clear I t e1 e2 us m tk h i n
  rintro n s ⟨i, h, tk, m, us, rfl, hn, hu, I, hit⟩
  cases n with
  | zero =>
    have hi : i = vs.length := by omega
    refine I.nextEnd hit (hD _ I.data.2.2) hc hit1 hit2 (by rw [List.getElem?_eq_none]; omega) fun h' I' => ?_
    subst hi
    exact done h' tk m us hu I'
  | succ n =>
    have hlt : i < vs.length := by omega
    refine I.nextItem hit (hD _ I.data.2.2) hc hit1 hit2 (List.getElem?_eq_getElem hlt) fun h' I' hit' => ?_
    refine itGo hit' hc ?_
    refine wpAny_mono (turn i _ us m h' tk (List.getElem?_eq_getElem hlt) I') (fun _ s₂ h₂ => wpAny_mono h₂ (fun x s₃ h₃ => ?_) fun _ _ x => x.elim) fun _ _ x => x.elim
    obtain ⟨h₄, tk₄, m₄, rfl, I₄, hP, hk⟩ := h₃
    have hit₄ := hit'.kb hk (hit'.ne I'.fr.ns)
    refine I₄.append (D' := fun h => Sq "list" acc (us ++ [x]) h ∧ P (i + 1) (us ++ [x]) h ∧ D h) I₄.data.1 hacc1 hacc2 (by rw [sizeLine_eq]; omega) (fun h₅ S q => ⟨q, sP _ _ _ _ (upb_same S) hP, ?_⟩) (fun _ _ U x => ⟨x.1.up U, sP _ _ _ _ U.b x.2.1, sD _ _ U x.2.2⟩) fun h₅ I₅ S => ?_
    · refine sD h₁ h₅ (fun b o vs n e d => ?_) d₁
      obtain ⟨sl, e'⟩ := I₄.keep b o e
      exact ⟨sl, (S.2 b (fun q => by rw [q, hacc1] at e; cases e)).trans e'⟩
    · refine ⟨n, Nat.lt_succ_self n, i + 1, h₅, tk₄, m₄, us ++ [x], rfl, by omega, by simp [hu], I₅, ?_⟩
      obtain ⟨o, e, hc', hd⟩ := hit₄
      refine ⟨o, (S.2 it (fun q => ?_)).trans e, hc', hd⟩
      subst q
      obtain ⟨o', _, e', _, hd', _⟩ := I₄.data.1
      rw [e] at e'
      cases e'
      rw [hd] at hd'
      cases hd'
end
end Mine
end
-- F8
section
open PySem PySem.W PyProof.Rows PySem.Calls PySem.Spec
set_option maxRecDepth 100000
namespace Mine
section
variable {w : World} {g h₀ h : Heap} {A : Around} {L : Addr} {m : Str → Option Value} {D : Heap → Prop} {E : Value → Shared → Prop} {gn : Array GenState} {dr : Drawn} {tk : Nat} {os : OsState} {q : Str} {sc : Scope} {a : Addr} {cd : Value} {M : Model} {mg mb : Str → Option Value} {x : Str} {pos : Pos} {v : Value} {Q : Value → Shared → Prop} {env : Env}
theorem In.locE (I : In g A h₀ L h m D) (hL : env.locals = L) (hv : m x = some v) (hQ : Q v ⟨h, gn, dr, tk, os⟩) (hk : env.scope.kind = .function := by rfl) (hl : env.kindOf x = some .local := by rfl) (hd : (x == ("__debug__" : Str)) = false := by decide) :
    wpAny M A (eval (.Name x pos) env) Q E ⟨h, gn, dr, tk, os⟩ := wpAny_Name (wpAny_loadName_local hk hl (by rw [hL]; exact I.fr.ns) hv hQ) hd
theorem In.globE (I : In g A h₀ L h m D) (B : Bs w g mg mb) (hG : env.globals = mainGlobals) (hb : nsIn (hd.heap_39 w.params) mainGlobals x = some (some v)) (hQ : Q v ⟨h, gn, dr, tk, os⟩) (hk : env.scope.kind = .function := by rfl) (hl : env.kindOf x = some .globalImplicit := by rfl) (hd : (x == ("__debug__" : Str)) = false := by decide) :
    wpAny M A (eval (.Name x pos) env) Q E ⟨h, gn, dr, tk, os⟩ := Name_function_global hk hl (loadGlobal_global (by rw [hG]; exact B.g.keeps I.stays) (mg_of B.x B.g hb) hQ) hd
theorem In.storeE (I : In g A h₀ L h m D) {Q : Unit → Shared → Prop} (hL : env.locals = L) (hl : env.kindOf x = some .local) (hk : env.scope.kind = .function)
    (hQ : ∀ h' tk', In g A h₀ L h' (fun y => if y = x then some v else m y) D → Heap.SameBut L h h' → Q () ⟨h', gn, dr, tk', os⟩) : wpAny M A (storeName env x v) Q E ⟨h, gn, dr, tk, os⟩ := by
  subst hL
  exact wpAny_storeName_local hl I.fr.ns (fun h' hn hs => hQ h' _ (I.set hn hs) hs) (by rw [hk]; rfl)
end

/-- what a comprehension over a list or a tuple asks of its turns -/
structure Turns (w : World) (g : Heap) (A : Around) (gn : Array GenState) (dr : Drawn) (os : OsState) (h₁ : Heap) (D : Heap → Prop) (vs : List Value) (scope : Scope) (env : Env) (target elt : Expr) (P : Addr → Nat → List Value → Heap → Prop) : Prop where
  st : ∀ acc i us h h', UpB acc h h' → P acc i us h → P acc i us h'
  zero : ∀ acc h, P acc 0 [] h
  turn : ∀ acc Lc i y us m h tk, h₁.get? acc = none → vs[i]? = some y → In g A h₁ Lc h m (fun h => Sq "list" acc us h ∧ P acc i us h ∧ D h) →
      wpAny (model PySem.Challenge.rw_mr0134_01.row.prog w) A (assign target (compEnv scope Lc env) y) (fun _ s₂ => wpAny (model PySem.Challenge.rw_mr0134_01.row.prog w) A (eval elt (compEnv scope Lc env)) (fun x s₃ => ∃ h' tk' m', s₃ = ⟨h', gn, dr, tk', os⟩ ∧ In g A h₁ Lc h' m' (fun h => Sq "list" acc us h ∧ P acc i us h ∧ D h) ∧ P acc (i + 1) (us ++ [x]) h' ∧ KB Lc h h') (fun _ _ => False) s₂) (fun _ _ => False) ⟨h, gn, dr, tk, os⟩

section
variable {w : World} {g h₀ h₁ : Heap} {A : Around} {L : Addr} {m : Str → Option Value} {D : Heap → Prop} {E : Value → Shared → Prop} {gn : Array GenState} {dr : Drawn} {tk : Nat} {os : OsState} {c : String} {l : Addr} {vs : List Value} {env : Env} {target elt iter : Expr} {scope : Scope} {pos : Pos} {P : Addr → Nat → List Value → Heap → Prop}
theorem In.compBlock (I : In g A h₀ L h₁ m D) {RR : Value → Env → Result → Shared → Prop} (hc : c = "list" ∨ c = "tuple") (hD : ∀ h, D h → Sq c l vs h) (hvs : vs.length ≤ 1000) (T : Turns w g A gn dr os h₁ D vs scope env target elt P)
    (hcell : ∀ y ∈ scope.names, y.2 ≠ .cell) (hkind : scope.kind = .function)
    (done : ∀ acc Lc h tk m' us, us.length = vs.length → In g A h₁ Lc h m' (fun h => Sq "list" acc us h ∧ P acc vs.length us h ∧ D h) → h₁.get? acc = none → RR (.ref acc) (compEnv scope Lc env) (.ok .next) ⟨h, gn, dr, tk, os⟩) :
    wpAny (model PySem.Challenge.rw_mr0134_01.row.prog w) A (pyIter (.ref l)) (fun it s₂ => wpAny (model PySem.Challenge.rw_mr0134_01.row.prog w) A (newList []) (fun acc s₃ =>
      wpAny (model PySem.Challenge.rw_mr0134_01.row.prog w) A (newFunctionEnv scope env.globals [] [] env.qual none .none (some env)) (fun cenv s₄ =>
        codeAny (model PySem.Challenge.rw_mr0134_01.row.prog w) A (.compStart (.ListComp elt [⟨target, iter, [], 0⟩] scope pos) 0 it acc { cenv with scope := scope }) (RR acc { cenv with scope := scope }) s₄) E s₃) E s₂) E ⟨h₁, gn, dr, tk, os⟩ := by
  have hq := hD _ I.data
  have main : ∀ ob : Obj, ob.isFreed = false → ob.cls = .type (if c = "list" then "list_iterator" else "tuple_iterator") → ob.data = .fields #[.ref l, .int (0 : Nat) 0] →
      wpAny (model PySem.Challenge.rw_mr0134_01.row.prog w) A (newList []) (fun acc s₃ =>
        wpAny (model PySem.Challenge.rw_mr0134_01.row.prog w) A (newFunctionEnv scope env.globals [] [] env.qual none .none (some env)) (fun cenv s₄ =>
          codeAny (model PySem.Challenge.rw_mr0134_01.row.prog w) A (.compStart (.ListComp elt [⟨target, iter, [], 0⟩] scope pos) 0 (.ref h₁.objs.size) acc { cenv with scope := scope }) (RR acc { cenv with scope := scope }) s₄) E s₃) E ⟨h₁.push ob, gn, dr, tk, os⟩ := by
    intro ob hf hoc hod
    have I₂ := I.push ob
    refine wpAny_newObj_type ?_ (by show ([] : List Value).toArray.size ≤ sizeLine; decide)
    dsimp only
    generalize hH3 : (h₁.push ob).push _ = h₃
    have e₃ : h₃.objs.size = h₁.objs.size + 2 := by rw [← hH3, Heap.size_push, Heap.size_push]
    have e₂ : (h₁.push ob).objs.size = h₁.objs.size + 1 := by rw [Heap.size_push]
    have I₃ : In g A h₀ L h₃ m D := hH3 ▸ I₂.push _
    have k₃ : ∀ b o, h₁.get? b = some o → h₃.get? b = some o := fun b o e => hH3 ▸ Heap.get?_push_of_some _ (Heap.get?_push_of_some _ e)
    refine wpAny_newFunctionEnv hcell (by intro y hy; simp at hy) (fun h₄ hns hsb => ?_) hkind
    dsimp only at hns hsb ⊢
    have k₄ : ∀ b o, h₃.get? b = some o → h₄.get? b = some o := fun b o e => hsb.extBut b o (Nat.ne_of_lt (Heap.lt_size e)) (Heap.get?_push_of_some _ e)
    have K₄ : Kp h₃ h₄ := .of_keeps k₄
    have K₁ : Kp h₁ h₄ := .of_keeps fun b o e => k₄ b o (k₃ b o e)
    have eit : h₁.get? h₁.objs.size = none := Heap.get?_none_of_le (Nat.le_refl _)
    have eacc : h₁.get? (h₁.push ob).objs.size = none := Heap.get?_none_of_le (by rw [e₂]; omega)
    have d₄ : Sq "list" (h₁.push ob).objs.size [] h₄ := ⟨_, _, k₄ _ _ (hH3 ▸ Heap.get?_push_size _ rfl), rfl, rfl, rfl⟩
    have J : In g A h₁ h₃.objs.size h₄ (fun x => ([] : List (Str × Value)).reverse.lookup x) (fun h => Sq "list" (h₁.push ob).objs.size [] h ∧ P (h₁.push ob).objs.size 0 [] h ∧ D h) := by
      refine ⟨⟨hns, fun b o e => k₄ b o (I₃.stays b o e), I₃.le⟩, K₁, by rw [e₃]; omega, I₃.fs.kp K₄, I.hh, ⟨d₄, T.zero _ _, I.st _ _ K₁.up I.data⟩, fun _ _ U x => ⟨x.1.up U, T.st _ _ _ _ _ U.b x.2.1, I.st _ _ U x.2.2⟩⟩
    have hit : ItAt c h₁.objs.size l 0 h₄ := ⟨ob, k₄ _ _ (hH3 ▸ Heap.get?_push_of_some _ (Heap.get?_push_size _ hf)), hoc, hod⟩
    have run := compRun (w := w) (gn := gn) (dr := dr) (os := os) (prog := PySem.Challenge.rw_mr0134_01.row.prog) (iter := iter) (scope := scope) (pos := pos) (env := compEnv scope h₃.objs.size env) (R := RR (.ref (h₁.push ob).objs.size) (compEnv scope h₃.objs.size env)) hc I.data I.st hD eit (I.gnew eit) eacc (I.gnew eacc) hvs (P (h₁.push ob).objs.size) (T.st _)
      (fun i y us m' h tk' hy J' => T.turn _ _ i y us m' h tk' eacc hy J') (fun h tk' m' us hu J' => done _ _ h tk' m' us hu J' eacc) vs.length 0 h₄ (tk + 0) _ [] (by omega) rfl J hit
    refine codeAny_compStart_list run (J.itIter hit hc run)
  rcases hc with rfl | rfl
  · exact wpAny_pyIter_list hq.lst (main _ rfl rfl rfl)
  · exact iter_tuple hq.tup (main _ rfl rfl rfl)
/-- what holds behind a comprehension -/
theorem In.compEnd (I : In g A h₀ L h₁ m D) (T : Turns w g A gn dr os h₁ D vs scope env target elt P) {acc Lc : Addr} {h h' : Heap} {m' : Str → Option Value} {us : List Value} (J : In g A h₁ Lc h m' (fun h => Sq "list" acc us h ∧ P acc vs.length us h ∧ D h)) (S : Heap.SameBut Lc h h') :
    In g A h₀ L h' m (fun h => Sq "list" acc us h ∧ D h) ∧ P acc vs.length us h' := by
  have K : Kp h₁ h' := fun b o e => by
    obtain ⟨sl, e'⟩ := J.keep b o e
    exact ⟨sl, (S.2 b (Nat.ne_of_lt (Nat.lt_of_lt_of_le (Heap.lt_size e) J.above))).trans e'⟩
  have U : Up h h' := (kb_same S).up J.fr.ns
  refine ⟨(I.kp K fun b o e => (S.2 b (Nat.ne_of_lt (Nat.lt_of_lt_of_le (Heap.lt_size e) J.fr.above))).trans (J.stays b o e)).also (J.data.1.up U) fun _ _ => Sq.up, T.st _ _ _ _ _ U.b J.data.2.1⟩
/-- a comprehension in an expression -/
theorem In.lcomp {h : Heap} {tk0 : Nat} {m0 : Str → Option Value} {D0 : Heap → Prop} (_ : In g A h₀ L h m0 D0) {Q : Value → Shared → Prop} (hfree : ∀ x ∈ scope.names, x.2 ≠ .free) (hcell : ∀ y ∈ scope.names, y.2 ≠ .cell) (hkind : scope.kind = .function) (hnames : ∀ x ∈ scope.names, x.2 = .local → scope.names.lookup x.1 = some .local)
    (hw : wpAny (model PySem.Challenge.rw_mr0134_01.row.prog w) A (eval iter env) (fun x s₁ => ∃ l h₁ tk m D c vs P, x = .ref l ∧ s₁ = ⟨h₁, gn, dr, tk, os⟩ ∧ In g A h₀ L h₁ m D ∧ (c = "list" ∨ c = "tuple") ∧ (∀ h, D h → Sq c l vs h) ∧ vs.length ≤ 1000 ∧ Turns w g A gn dr os h₁ D vs scope env target elt P ∧
      ∀ acc h' tk' us, us.length = vs.length → In g A h₀ L h' m (fun h => Sq "list" acc us h ∧ D h) → P acc vs.length us h' → h₀.get? acc = none → Kp h₁ h' → Q (.ref acc) ⟨h', gn, dr, tk', os⟩) E ⟨h, gn, dr, tk0, os⟩)
    (hs : ∀ x, foldedSetIterable iter env x = pure x := by intro _; rfl) : wpAny (model PySem.Challenge.rw_mr0134_01.row.prog w) A (eval (.ListComp elt [⟨target, iter, [], 0⟩] scope pos) env) Q E ⟨h, gn, dr, tk0, os⟩ := by
  refine wpAny_ListComp hfree hkind hnames (wpAny_mono hw (fun x s₁ h₁ => ?_) fun _ _ x => x) hs
  obtain ⟨l, h₁, tk, m, D, c, vs, P, rfl, rfl, I, hc, hD, hvs, T, hQ⟩ := h₁
  refine I.compBlock (RR := fun acc cenv r s' => ∃ m, s'.heap.Ns cenv.locals m ∧ ∀ h', Heap.SameBut cenv.locals s'.heap h' →
            match r with | .ok _ => Q acc { s' with heap := h' } | .error x => wpAny _ A (passOn "comprehension.variables-let-go" x { cenv with scope := scope }) Q E { s' with heap := h' }) hc hD hvs T hcell hkind fun acc Lc h tk' m' us hu J hn => ?_
  refine ⟨_, J.fr.ns, fun h' S => ?_⟩
  have Z := I.compEnd T J S
  refine hQ acc h' tk' us hu Z.1 Z.2 (I.new hn) fun b o e => ?_
  obtain ⟨sl, e'⟩ := J.keep b o e
  exact ⟨sl, (S.2 b (Nat.ne_of_lt (Nat.lt_of_lt_of_le (Heap.lt_size e) J.above))).trans e'⟩
/-- a comprehension that a name takes -/
theorem In.acomp {h : Heap} {tk0 : Nat} {m0 : Str → Option Value} {D0 : Heap → Prop} (_ : In g A h₀ L h m0 D0) {Q : Flow → Shared → Prop} {y : Str} {py spos : Pos} {q : Str} {sc : Scope} {a : Addr} {cd : Value} (hsw : swapsWith (.ListComp elt [⟨target, iter, [], 0⟩] scope pos) (some (.Name y py)) spos.line (envOf q sc L a cd) = pure true)
    (hfree : ∀ x ∈ scope.names, x.2 ≠ .free) (hcell : ∀ y ∈ scope.names, y.2 ≠ .cell) (hkind : scope.kind = .function) (hnames : ∀ x ∈ scope.names, x.2 = .local → scope.names.lookup x.1 = some .local)
    (hy : (envOf q sc L a cd).kindOf y = some .local) (hk : sc.kind = .function)
    (hw : wpAny (model PySem.Challenge.rw_mr0134_01.row.prog w) A (eval iter (envOf q sc L a cd)) (fun x s₁ => ∃ l h₁ tk m D c vs P, x = .ref l ∧ s₁ = ⟨h₁, gn, dr, tk, os⟩ ∧ In g A h₀ L h₁ m D ∧ (c = "list" ∨ c = "tuple") ∧ (∀ h, D h → Sq c l vs h) ∧ vs.length ≤ 1000 ∧ Turns w g A gn dr os h₁ D vs scope (envOf q sc L a cd) target elt P ∧
      ∀ acc h' tk' us, us.length = vs.length → In g A h₀ L h' (fun z => if z = y then some (.ref acc) else m z) (fun h => Sq "list" acc us h ∧ D h) → P acc vs.length us h' → h₀.get? acc = none → Q .next ⟨h', gn, dr, tk', os⟩) E ⟨h, gn, dr, tk0, os⟩)
    (hs : ∀ x, foldedSetIterable iter (envOf q sc L a cd) x = pure x := by intro _; rfl) : wpAny (model PySem.Challenge.rw_mr0134_01.row.prog w) A (exec (.Assign [.Name y py] (.ListComp elt [⟨target, iter, [], 0⟩] scope pos) spos) (envOf q sc L a cd)) Q E ⟨h, gn, dr, tk0, os⟩ := by
  rw [exec_Assign_Name_used _ _ _ _ hsw]
  refine wpAny_bind (wpAny_standAt (wpAny_bind ?_))
  show wpAny _ A (do let _ ← comprehension (.ListComp elt [⟨target, iter, [], 0⟩] scope pos) scope (envOf q sc L a cd) _ (newList []) false (eval iter (envOf q sc L a cd)) (some (assign (.Name y py) (envOf q sc L a cd)))) _ _ _
  refine wpAny_bind (wpAny_mono (wpAny_comprehension_use (Q := fun _ s' => Q .next s') rfl hs hfree hkind hnames (wpAny_mono hw (fun xv s₁ h₁ => ?_) fun _ _ e => e))
    (fun _ s' hq => wpAny_pure (wpAny_pure hq)) fun _ _ e => e)
  obtain ⟨l, h₁, tk, m, D, c, vs, P, rfl, rfl, I, hc, hD, hvs, T, hQ⟩ := h₁
  refine I.compBlock (RR := fun acc cenv r s' => match r with
      | .ok _ => wpAny _ A (assign (.Name y py) (envOf q sc L a cd) acc) (fun _ s'' => ∃ m, s''.heap.Ns cenv.locals m ∧ ∀ h', Heap.SameBut cenv.locals s''.heap h' → Q .next { s'' with heap := h' }) E s'
      | .error x => ∃ m, s'.heap.Ns cenv.locals m ∧ ∀ h', Heap.SameBut cenv.locals s'.heap h' → wpAny _ A (passOn "comprehension.variables-let-go" x cenv) (fun _ s' => Q .next s') E { s' with heap := h' }) hc hD hvs T hcell hkind fun acc Lc h tk' m' us hu J hn => ?_
  have Z := I.compEnd T J ⟨rfl, fun _ _ => rfl⟩
  refine assign_Name (Z.1.store hy hk fun h₂ tk₂ I₂ S₂ => ⟨m', J.fr.ns.sameBut S₂ (Nat.ne_of_gt (Nat.lt_of_lt_of_le I.fr.ns.lt J.above)), fun h₃ S₃ => ?_⟩)
  have U : Up h₂ h₃ := (kb_same S₃).up (J.fr.ns.sameBut S₂ (Nat.ne_of_gt (Nat.lt_of_lt_of_le I.fr.ns.lt J.above)))
  have hLc : L ≠ Lc := Nat.ne_of_lt (Nat.lt_of_lt_of_le I.fr.ns.lt J.above)
  have U₂ : Up h h₂ := (kb_same S₂).up Z.1.fr.ns
  have F : Fr g L h₃ (fun z => if z = y then some (.ref acc) else m z) := ⟨I₂.fr.ns.sameBut S₃ hLc, fun b o e => (S₃.2 b (Nat.ne_of_lt (Nat.lt_of_lt_of_le (Heap.lt_size e) J.fr.above))).trans (I₂.stays b o e), I.fr.above⟩
  have G := I.move F fun b o hb e => by
    obtain ⟨sl, e'⟩ := J.keep b o e
    exact ⟨sl, (S₃.2 b (Nat.ne_of_lt (Nat.lt_of_lt_of_le (Heap.lt_size e) J.above))).trans ((S₂.2 b hb).trans e')⟩
  exact hQ acc h₃ tk₂ us hu (G.1.also (I₂.data.1.up U) fun _ _ => Sq.up) (T.st _ _ _ _ _ U.b (T.st _ _ _ _ _ U₂.b Z.2)) (I.new hn)
end
end Mine
end
-- P3
section
open PySem PySem.W PyProof.Rows PySem.Calls PySem.Spec NumText
set_option maxRecDepth 100000
namespace Mine
def ok (c : Nat) : Bool := isD c || c == 97 || c == 98
def Fine (n : Nat) (xs : List Str) : Prop := xs ≠ [] ∧ xs.length ≤ n ∧ ∀ x ∈ xs, x.length ≤ n ∧ ∀ c ∈ x.cps.toList, ok c = true
abbrev St := Str × List Str × List Str
def due (r : St) (x : Int) : St :=
  if kindOf x = 0 then ((renamed r.1 (r.2.1.headD (Str.ofString "")) r.2.1.tail).1, (renamed r.1 (r.2.1.headD (Str.ofString "")) r.2.1.tail).2, r.2.2)
  else if kindOf x = 1 then (r.1, r.2.1, normal (r.2.2 ++ if (thing x != Str.ofString "") = true then [thing x] else []))
  else if kindOf x = 2 then (thing x, r.2.1, r.2.2)
  else if kindOf x = 3 then (if (r.1 == Str.ofString "unknown") = true then Str.ofString "" else r.1, r.2.1, r.2.2)
  else if kindOf x = 4 then (r.1, behind r.2.1 (thing x), r.2.2)
  else if kindOf x = 5 then (r.1, r.2.1, behind r.2.2 (thing x))
  else if kindOf x = 6 then (r.1, r.2.2, r.2.1)
  else (r.1, behind [Str.ofString ""] (thing x), r.2.2)
theorem ok_lt {c : Nat} (h : ok c = true) : c < 128 := by
  simp [ok, isD] at h
  omega
theorem Fine.asc {n : Nat} {xs : List Str} (h : Fine n xs) {x : Str} (hx : x ∈ xs) : Asc x := fun c hc => ok_lt ((h.2.2 x hx).2 c hc)
theorem num_cases (x : Str) : num x = -1 ∨ (num x = (digitsVal x.cps.toList : Int) ∧ x.cps.toList.all isD = true ∧ x.cps.toList ≠ []) := by
  unfold num
  split
  · rename_i q
    rw [Bool.and_eq_true] at q
    exact .inr ⟨rfl, q.1, by intro e; rw [e] at q; simp at q⟩
  · exact .inl rfl
theorem digitsVal_snoc (cs : List Nat) (c : Nat) : digitsVal (cs ++ [c]) = digitsVal cs * 10 + (c - 48) := by simp [digitsVal, List.foldl_append]
theorem digitsVal_from (cs : List Nat) : ∀ n, cs.all isD = true → List.foldl (fun acc c => acc * 10 + (c - 48)) n cs < (n + 1) * 10 ^ cs.length := by
  induction cs with
  | nil => intro n _; simp
  | cons c cs ih =>
    intro n h
    rw [List.all_cons, Bool.and_eq_true] at h
    have hc : 48 ≤ c ∧ c ≤ 57 := by simpa [isD] using h.1
    rw [List.foldl_cons, List.length_cons]
    refine Nat.lt_of_lt_of_le (ih _ h.2) ?_
    rw [Nat.pow_succ, Nat.mul_comm (10 ^ _) 10, ← Nat.mul_assoc]
    exact Nat.mul_le_mul_right _ (by omega)
theorem digitsVal_lt {cs : List Nat} (h : cs.all isD = true) : digitsVal cs < 10 ^ cs.length := by
  have := digitsVal_from cs 0 h
  rw [Nat.zero_add, Nat.one_mul] at this
  exact this
theorem figs_len (k : Nat) : ∀ n, n < 10 ^ (k + 1) → (figs (n : Nat)).length ≤ k + 1 := by
  induction k with
  | zero =>
    intro n h
    rw [figs_one (by simpa using h)]
    exact Nat.le_refl 1
  | succ k ih =>
    intro n h
    by_cases q : n < 10
    · rw [figs_one q]; show 1 ≤ _; omega
    · rw [figs_more (by omega), Str.length_append]
      have := ih (n / 10) (by rw [Nat.pow_succ] at h; omega)
      show _ + 1 ≤ _
      omega
theorem figs_ok : ∀ (n : Nat), ∀ c ∈ (figs n).cps.toList, isD c = true := by
  intro n
  induction n using Nat.strongRecOn with
  | ind n ih =>
    by_cases q : n < 10
    · rw [figs_one q]
      intro c hc
      have : c = 48 + n := by simpa using hc
      simp [isD]
      omega
    · rw [figs_more (by omega)]
      intro c hc
      rw [Str.cps_append, Array.toList_append, List.mem_append] at hc
      rcases hc with hc | hc
      · exact ih _ (by omega) c hc
      · have : c = 48 + n % 10 := by simpa using hc
        simp [isD]
        omega
theorem num_figs {x : Str} (h : num x ≠ -1) (k : Nat) : 0 ≤ num x - k → (figs (num x - k)).length ≤ x.length ∧ ∀ c ∈ (figs (num x - k)).cps.toList, ok c = true := by
  intro h0
  rcases num_cases x with e | ⟨e, ha, hn⟩
  · exact absurd e h
  · have hl : x.length = x.cps.toList.length := by show x.cps.size = _; simp
    have hlt := digitsVal_lt ha
    obtain ⟨j, hj⟩ : ∃ j, x.cps.toList.length = j + 1 := ⟨x.cps.toList.length - 1, by have := List.length_pos_iff.mpr hn; omega⟩
    obtain ⟨r, hr⟩ : ∃ r : Nat, num x - k = (r : Int) := ⟨(num x - k).toNat, by omega⟩
    rw [hr, hl, hj]
    refine ⟨figs_len j r ?_, fun c hc => by rw [ok, figs_ok r c hc]; rfl⟩
    rw [hj] at hlt
    omega
theorem low_nil {x : Str} (h : x.cps.toList = []) : low x = true := by
  have h0 : x = Str.ofString "" := Str.ext' (Array.ext' h)
  subst h0
  decide
theorem low_cons {x : Str} {c : Nat} {cs : List Nat} (h : x.cps.toList = c :: cs) : low x = decide (48 ≤ c ∧ c ≤ 52) := by
  have hl : x.length = cs.length + 1 := by show x.cps.size = _; rw [← Array.length_toList, h]; rfl
  have e : Txt.slice x none (some 1) = ⟨#[c]⟩ := by
    have := slice_closes_toL (x := x) (j := 1) (by decide) (by rw [hl]; omega)
    rw [eq_of_beq this, h]
    rfl
  have e0 : Str.ofString "" = (⟨#[]⟩ : Str) := by decide
  have e1 : Str.ofString "0" = (⟨#[48]⟩ : Str) := by decide
  have e2 : Str.ofString "1" = (⟨#[49]⟩ : Str) := by decide
  have e3 : Str.ofString "2" = (⟨#[50]⟩ : Str) := by decide
  have e4 : Str.ofString "3" = (⟨#[51]⟩ : Str) := by decide
  have e5 : Str.ofString "4" = (⟨#[52]⟩ : Str) := by decide
  have key : ∀ d, (((⟨#[d]⟩ : Str) == ⟨#[c]⟩) = decide (d = c)) := fun d => by
    by_cases q : d = c
    · subst q; simp
    · have : (⟨#[d]⟩ : Str) ≠ ⟨#[c]⟩ := fun z => q (by injection z with z; simpa using z)
      rw [decide_eq_false q]; simpa using this
  have key0 : ((⟨#[]⟩ : Str) == ⟨#[c]⟩) = false := by
    simp
  unfold low
  rw [e, e0, e1, e2, e3, e4, e5]
  simp only [List.any_cons, List.any_nil, key, key0]
  rw [Bool.eq_iff_iff]
  simp
  omega
/-- a part that a renaming touches begins with 5 or more -/
theorem low_head {x : Str} (h : low x = false) (ha : ∀ c ∈ x.cps.toList, ok c = true) : ∃ c cs, x.cps.toList = c :: cs ∧ 53 ≤ c := by
  cases e : x.cps.toList with
  | nil => rw [low_nil e] at h; cases h
  | cons c cs =>
    refine ⟨c, cs, rfl, ?_⟩
    rw [low_cons e] at h
    have := ha c (by rw [e]; exact .head _)
    simp [ok, isD] at this
    simp at h
    omega
theorem low_num {x : Str} (h : low x = false) (ha : ∀ c ∈ x.cps.toList, ok c = true) (hn : num x ≠ -1) : 5 ≤ num x := by
  obtain ⟨c, cs, e, hc⟩ := low_head h ha
  rcases num_cases x with e' | ⟨e', hd, _⟩
  · exact absurd e' hn
  · rw [e', e]
    rw [e] at hd
    have : ∀ (cs : List Nat) (n : Nat), n ≤ List.foldl (fun n c => n * 10 + (c - 48)) n cs := by
      intro cs
      induction cs with
      | nil => intro n; exact Nat.le_refl _
      | cons c cs ih => intro n; exact Nat.le_trans (show n ≤ n * 10 + (c - 48) by omega) (ih _)
    have h5 := this cs (c - 48)
    have : digitsVal (c :: cs) = List.foldl (fun n c => n * 10 + (c - 48)) (c - 48) cs := by simp [digitsVal]
    rw [this]
    omega
end Mine
end
-- P4
section
open PySem PySem.W PyProof.Rows PySem.Calls PySem.Spec NumText
set_option maxRecDepth 100000
namespace Mine
abbrev dot : Str := Str.ofString "."
abbrev glue (xs : List Str) : Str := Txt.join dot xs
theorem dot_eq : dot = (⟨#[46]⟩ : Str) := by decide
theorem glue_one (x : Str) : glue [x] = x := StrLaws.glued_eq_join dot [x]
theorem glue_cons (x y : Str) (xs : List Str) : glue (x :: y :: xs) = x ++ dot ++ glue (y :: xs) := (StrLaws.glued_eq_join dot (x :: y :: xs)).trans (by rw [glue, Txt.join, StrLaws.glued_eq_join]; rfl)
theorem glue_cons_l (x y : Str) (xs : List Str) : (glue (x :: y :: xs)).cps.toList = x.cps.toList ++ 46 :: (glue (y :: xs)).cps.toList := by
  rw [glue_cons, Str.cps_append, Str.cps_append, Array.toList_append, Array.toList_append, dot_eq, List.append_assoc]
  rfl
theorem cut_at {c : Nat} : ∀ {a b r s : List Nat}, c ∉ a → c ∉ b → a ++ c :: r = b ++ c :: s → a = b ∧ r = s
  | [], [], _, _, _, _, e => by cases e; exact ⟨rfl, rfl⟩
  | [], y :: b, _, _, _, h, e => by cases e; exact absurd (.head _) h
  | x :: a, [], _, _, h, _, e => by cases e; exact absurd (.head _) h
  | x :: a, y :: b, r, s, h1, h2, e => by
    rw [List.cons_append, List.cons_append, List.cons.injEq] at e
    have := cut_at (fun q => h1 (.tail _ q)) (fun q => h2 (.tail _ q)) e.2
    exact ⟨by rw [e.1, this.1], this.2⟩
theorem glue_inj : ∀ {xs ys : List Str}, xs ≠ [] → ys ≠ [] → (∀ x ∈ xs, 46 ∉ x.cps.toList) → (∀ x ∈ ys, 46 ∉ x.cps.toList) → (glue xs).cps.toList = (glue ys).cps.toList → xs = ys
  | [], _, h, _, _, _, _ => absurd rfl h
  | _, [], _, h, _, _, _ => absurd rfl h
  | [x], [y], _, _, _, _, e => by rw [glue_one, glue_one] at e; rw [Str.ext' (Array.ext' e)]
  | [x], y :: z :: ys, _, _, h1, _, e => by
    rw [glue_one, glue_cons_l] at e
    exact absurd (by rw [e]; simp) (h1 x (.head _))
  | x :: z :: xs, [y], _, _, _, h2, e => by
    rw [glue_one, glue_cons_l] at e
    exact absurd (by rw [← e]; simp) (h2 y (.head _))
  | x :: z :: xs, y :: u :: ys, _, _, h1, h2, e => by
    rw [glue_cons_l, glue_cons_l] at e
    have := cut_at (h1 x (.head _)) (h2 y (.head _)) e
    rw [glue_inj (by simp) (by simp) (fun x hx => h1 x (.tail _ hx)) (fun x hx => h2 x (.tail _ hx)) this.2, Str.ext' (Array.ext' this.1)]
theorem split_ne (x y : Str) : Txt.split x y ≠ [] := fun q => by have := split_pos x y; rw [q] at this; simp at this
theorem split_glue {xs : List Str} (hne : xs ≠ []) (h : ∀ x ∈ xs, 46 ∉ x.cps.toList) : Txt.split (glue xs) dot = xs := by
  refine glue_inj (split_ne _ _) hne (by rw [dot_eq]; exact StrLaws.split_free _ 46) h ?_
  rw [glue, Txt.join, StrLaws.glued_eq_join, StrLaws.join_split]
theorem Fine.free {n : Nat} {xs : List Str} (h : Fine n xs) : ∀ x ∈ xs, 46 ∉ x.cps.toList := fun x hx q => by
  have := (h.2.2 x hx).2 46 q
  revert this
  decide
theorem glue_len : ∀ (xs : List Str) (n : Nat), (∀ x ∈ xs, x.length ≤ n) → (glue xs).length ≤ xs.length * (n + 1)
  | [], _, _ => by show 0 ≤ _; omega
  | [x], n, h => by rw [glue_one]; have := h x (.head _); simp; omega
  | x :: y :: xs, n, h => by
    have ih := glue_len (y :: xs) n fun z hz => h z (.tail _ hz)
    have hx := h x (.head _)
    rw [glue_cons, Str.length_append, Str.length_append]
    have : dot.length = 1 := by decide
    simp only [List.length_cons] at ih ⊢
    rw [Nat.add_mul (xs.length + 1)]
    omega
/-- the order of texts against a lone figure 5 -/
theorem lt_low {x : Str} {rs : List Str} (ha : ∀ c ∈ x.cps.toList, ok c = true) : decide ((glue (x :: rs)).cps.toList < (Str.ofString "5").cps.toList) = low x := by
  have e5 : (Str.ofString "5").cps.toList = [53] := by decide
  rw [e5]
  have hc : ∀ (c : Nat) (t : List Nat), ((c :: t) < [53]) ↔ c < 53 := by
    intro c t
    rw [List.cons_lt_cons_iff]
    constructor
    · rintro (q | ⟨_, q⟩)
      · exact q
      · exact absurd q (List.not_lt_nil _)
    · exact .inl
  cases e : x.cps.toList with
  | nil =>
    rw [low_nil e]
    refine decide_eq_true ?_
    cases rs with
    | nil => rw [glue_one, e]; exact List.nil_lt_cons _ _
    | cons y ys => rw [glue_cons_l, e, List.nil_append, hc]; decide
  | cons c cs =>
    rw [low_cons e]
    have hcl : (glue (x :: rs)).cps.toList = c :: (glue (x :: rs)).cps.toList.tail := by
      cases rs with
      | nil => rw [glue_one, e]; rfl
      | cons y ys => rw [glue_cons_l, e]; rfl
    rw [hcl]
    have := ha c (by rw [e]; exact .head _)
    simp [ok, isD] at this
    refine decide_eq_decide.mpr ?_
    rw [hc]
    omega
/-- a text of figures reads as its number -/
theorem int_good {x : Str} (h : num x ≠ -1) (hl : x.length ≤ 4300) : PySem.intText? x = some (num x) := by
  rcases num_cases x with e | ⟨e, ha, hn⟩
  · exact absurd e h
  · rw [e]
    refine intText_digits (fun c hc => ?_) hn hl
    have := List.all_eq_true.mp ha c hc
    simpa [isD] using this
theorem step_letter {p : Array Nat × Bool} {c : Nat} (h : c = 97 ∨ c = 98) : step 10 p c = none := by
  rcases h with rfl | rfl <;> rfl
theorem foldl_letter : ∀ (cs : List Nat) (p : Array Nat × Bool), (∀ c ∈ cs, ok c = true) → cs.all isD = false → cs.foldlM (step 10) p = none
  | [], _, _, h => by simp at h
  | c :: cs, (ds, b), hs, hm => by
    rw [List.foldlM_cons]
    have := hs c (.head _)
    by_cases hc : 48 ≤ c ∧ c ≤ 57
    · rw [step_digit hc]
      show cs.foldlM (step 10) (ds.push (c - 48), true) = none
      refine foldl_letter cs _ (fun d hd => hs d (.tail _ hd)) ?_
      rw [List.all_cons] at hm
      have : isD c = true := by simp [isD]; exact hc
      rw [this] at hm
      simpa using hm
    · simp [ok, isD] at this
      rw [step_letter (by omega)]
      rfl
theorem ok_ge {c : Nat} (h : ok c = true) : 48 ≤ c := by
  simp [ok, isD] at h
  omega
/-- a text that is no number does not -/
theorem int_none {x : Str} (h : num x = -1) (ha : ∀ c ∈ x.cps.toList, ok c = true) (hl : x.length ≤ 640) : (int_private% "readNumeral") 0 10 (numSeenOf x) = int_private% "Numeral.invalid" := by
  have e1 : numTextOf x = x.cps.toList := by
    refine if_pos ?_
    rw [← Array.all_toList, List.all_eq_true]
    intro c hc
    exact decide_eq_true (ok_lt (ha c hc))
  have e2 : numSeenOf x = x.cps.toList := by
    show (numTextOf x).takeWhile _ = _
    rw [e1]
    refine takeWhile_all fun c hc => ?_
    have := ok_ge (ha c hc)
    exact bne_iff_ne.mpr (by omega)
  have hd : digits? 10 (core x.cps.toList) = none := by
    cases e : x.cps.toList with
    | nil => rfl
    | cons c cs =>
      have hcs : ∀ d ∈ c :: cs, ok d = true := by rw [← e]; exact ha
      have h48 := ok_ge (hcs c (.head _))
      have es : sign ((c :: cs).dropWhile blank) = (false, c :: cs) := by rw [dropWhile_of (by omega)]; exact sign_of (by omega) (by omega)
      have ec : core (c :: cs) = c :: cs := by
        unfold core
        rw [es]
        show ((c :: cs).reverse.dropWhile blank).reverse = c :: cs
        cases er : (c :: cs).reverse with
        | nil => simp at er
        | cons d ds =>
          have hdm : d ∈ c :: cs := by rw [← List.mem_reverse, er]; exact .head _
          rw [dropWhile_of (by have := ok_ge (hcs d hdm); omega), ← er, List.reverse_reverse]
      rw [ec]
      unfold digits?
      rw [foldl_letter _ _ hcs]
      · rfl
      · cases q : (c :: cs).all isD with
        | false => rfl
        | true =>
          exfalso
          rw [num, e, q] at h
          simp at h
  rcases read0 x (by rw [e2]; exact Nat.le_trans (Nat.le_of_eq Array.length_toList) hl) with ⟨n, hn, _, _⟩ | ⟨_, hi | ⟨i, _, hne⟩⟩
  · exfalso
    unfold PySem.intText? at hn
    rw [e1, e2, hd] at hn
    simp at hn
  · exact hi
  · exfalso
    rw [e1, e2] at hne
    simp at hne
end Mine
end
-- P5
section
open PySem PySem.W PyProof.Rows PySem.Calls PySem.Spec NumText
set_option maxRecDepth 100000
namespace Mine
theorem sl_ext {x y : Str} (h : x.cps.toList = y.cps.toList) : x = y := Str.ext' (Array.ext' h)
theorem sl_app (x y : Str) : (x ++ y).cps.toList = x.cps.toList ++ y.cps.toList := by rw [Str.cps_append, Array.toList_append]
theorem sl_nil : (Str.ofString "").cps.toList = [] := by decide
theorem glue_cons' (x : Str) {zs : List Str} (h : zs ≠ []) : (glue (x :: zs)).cps.toList = x.cps.toList ++ 46 :: (glue zs).cps.toList := by
  cases zs with
  | nil => exact absurd rfl h
  | cons y ys => exact glue_cons_l x y ys
theorem glue_snoc : ∀ (xs : List Str) (y : Str), xs ≠ [] → (glue (xs ++ [y])).cps.toList = (glue xs).cps.toList ++ 46 :: y.cps.toList
  | [], _, h => absurd rfl h
  | [x], y, _ => by rw [List.singleton_append, glue_cons_l, glue_one, glue_one]
  | x :: z :: xs, y, _ => by
    have ih := glue_snoc (z :: xs) y (by simp)
    rw [List.cons_append, glue_cons' x (by simp), ih, glue_cons_l]
    simp
theorem glue_last : ∀ (xs : List Str) (p : Str), xs ≠ [] → (glue (xs.dropLast ++ [xs.getLastD (Str.ofString "") ++ p])).cps.toList = (glue xs).cps.toList ++ p.cps.toList
  | [], _, h => absurd rfl h
  | [x], p, _ => by
    show (glue [x ++ p]).cps.toList = _
    rw [glue_one, glue_one, sl_app]
  | x :: z :: xs, p, _ => by
    have ih := glue_last (z :: xs) p (by simp)
    have e : (x :: z :: xs).getLastD (Str.ofString "") = (z :: xs).getLastD (Str.ofString "") := by simp [List.getLastD]
    rw [List.dropLast_cons_of_ne_nil (by simp), e, List.cons_append, glue_cons' x (by simp), ih, glue_cons_l]
    simp
theorem glue_behind {xs : List Str} (p : Str) (h : xs ≠ []) : glue (behind xs p) = glue xs ++ p := by
  refine sl_ext ?_
  unfold behind
  split
  · rename_i e
    rw [glue_snoc xs _ h, sl_nil, sl_app, e]
    rfl
  · rw [glue_last xs p h, sl_app]
theorem mem_glue : ∀ (xs : List Str) (c : Nat), c ∈ (glue xs).cps.toList → c = 46 ∨ ∃ x ∈ xs, c ∈ x.cps.toList
  | [], c, h => by have : (glue []).cps.toList = [] := by decide
                   rw [this] at h; cases h
  | [x], c, h => by rw [glue_one] at h; exact .inr ⟨x, .head _, h⟩
  | x :: y :: xs, c, h => by
    rw [glue_cons_l] at h
    rcases List.mem_append.mp h with h | h
    · exact .inr ⟨x, .head _, h⟩
    · rcases List.mem_cons.mp h with h | h
      · exact .inl h
      · rcases mem_glue (y :: xs) c h with h | ⟨z, hz, h⟩
        · exact .inl h
        · exact .inr ⟨z, .tail _ hz, h⟩
/-- no text of parts is unknown -/
theorem glue_known {n : Nat} {xs : List Str} (h : Fine n xs) : glue xs ≠ "unknown" := fun q => by
  have hm : 117 ∈ (glue xs).cps.toList := by rw [q]; decide
  rcases mem_glue xs 117 hm with e | ⟨x, hx, hc⟩
  · cases e
  · have := (h.2.2 x hx).2 117 hc
    revert this
    decide
theorem glue_fine_len {n : Nat} {xs : List Str} (h : Fine n xs) (hn : n ≤ 400) : (glue xs).length ≤ 160400 :=
  Nat.le_trans (glue_len _ n fun y hy => (h.2.2 y hy).1) (Nat.le_trans (Nat.mul_le_mul (Nat.le_trans h.2.1 hn) (Nat.add_le_add_right hn 1)) (by decide))
theorem fine_cons {n : Nat} {xs : List Str} (h : Fine n xs) : xs = xs.headD (Str.ofString "") :: xs.tail := by
  cases xs with
  | nil => exact absurd rfl h.1
  | cons x xs => rfl
end Mine
end
-- P6
section
open PySem PySem.W PyProof.Rows PySem.Calls PySem.Spec NumText
set_option maxRecDepth 100000
namespace Mine
theorem Fine.mono {n k : Nat} {xs : List Str} (h : Fine n xs) (hk : n ≤ k) : Fine k xs := ⟨h.1, Nat.le_trans h.2.1 hk, fun x hx => ⟨Nat.le_trans (h.2.2 x hx).1 hk, (h.2.2 x hx).2⟩⟩
/-- a piece: a dot, or figures and letters -/
def Piece (p : Str) : Prop := p = Str.ofString "." ∨ (p.length ≤ 2 ∧ ∀ c ∈ p.cps.toList, ok c = true)
theorem piece_menu (i : Nat) : Piece (menuP.getD i (Str.ofString "")) := by
  have h5 : Piece (Str.ofString "5") := .inr ⟨by decide, by decide⟩
  have h7 : Piece (Str.ofString "7") := .inr ⟨by decide, by decide⟩
  have h0 : Piece (Str.ofString "0") := .inr ⟨by decide, by decide⟩
  have h10 : Piece (Str.ofString "10") := .inr ⟨by decide, by decide⟩
  have hd : Piece (Str.ofString ".") := .inl rfl
  have ha : Piece (Str.ofString "a") := .inr ⟨by decide, by decide⟩
  have h9 : Piece (Str.ofString "9") := .inr ⟨by decide, by decide⟩
  have he : Piece (Str.ofString "") := .inr ⟨by decide, by decide⟩
  rcases i with _ | _ | _ | _ | _ | _ | _ | _ | i
  · exact h5
  · exact h7
  · exact h0
  · exact h10
  · exact hd
  · exact ha
  · exact hd
  · exact h9
  · exact he
theorem piece_thing {x : Int} (h1 : kindOf x ≠ 1) (h2 : kindOf x ≠ 2) : Piece (thing x) := by
  rw [thing, if_neg h1, if_neg h2]
  exact piece_menu _
theorem build_thing {x : Int} (h1 : kindOf x = 1) : (thing x).length ≤ 3 ∧ ∀ c ∈ (thing x).cps.toList, ok c = true := by
  rw [thing, if_pos h1]
  generalize ((x.fdiv 8).fmod 4).toNat = i
  rcases i with _ | _ | _ | _ | i
  · exact ⟨by decide, by decide⟩
  · exact ⟨by decide, by decide⟩
  · exact ⟨by decide, by decide⟩
  · exact ⟨by decide, by decide⟩
  · exact ⟨by show (Str.ofString "").length ≤ 3; decide, by show ∀ c ∈ (Str.ofString "").cps.toList, ok c = true; decide⟩
theorem behind_fine {n : Nat} {xs : List Str} {p : Str} (h : Fine n xs) (hp : Piece p) : Fine (n + 2) (behind xs p) := by
  unfold behind
  by_cases e : p = Str.ofString "."
  · rw [if_pos e]
    refine ⟨by simp, by rw [List.length_append]; have := h.2.1; simp; omega, fun x hx => ?_⟩
    rcases List.mem_append.mp hx with hx | hx
    · exact ⟨Nat.le_trans (h.2.2 x hx).1 (by omega), (h.2.2 x hx).2⟩
    · rw [List.mem_singleton.mp hx]
      exact ⟨by show 0 ≤ _; omega, by decide⟩
  · rw [if_neg e]
    rcases hp with hp | hp
    · exact absurd hp e
    · refine ⟨by simp, by rw [List.length_append, List.length_dropLast]; have := h.2.1; simp; omega, fun x hx => ?_⟩
      rcases List.mem_append.mp hx with hx | hx
      · have hx := (List.dropLast_subset xs) hx
        exact ⟨Nat.le_trans (h.2.2 x hx).1 (by omega), (h.2.2 x hx).2⟩
      · rw [List.mem_singleton.mp hx, List.getLastD_eq_getLast?, List.getLast?_eq_some_getLast h.1]
        have hm := h.2.2 _ (List.getLast_mem h.1)
        refine ⟨by rw [Str.length_append]; show (xs.getLast h.1).length + _ ≤ _; omega, fun c hc => ?_⟩
        rw [sl_app] at hc
        rcases List.mem_append.mp hc with hc | hc
        · exact hm.2 c hc
        · exact hp.2 c hc
theorem renamed_fine {n : Nat} {s : Str} {rs : List Str} (h : Fine n rs) : Fine n (renamed s (rs.headD (Str.ofString "")) rs.tail).2 := by
  have hc := fine_cons h
  unfold renamed
  split
  · rw [← hc]; exact h
  · split
    · rw [← hc]; exact h
    · split
      · rw [← hc]; exact h
      · rename_i hlow
        split
        · rw [← hc]; exact h
        · rename_i hnum
          have hm : rs.headD (Str.ofString "") ∈ rs := by rw [hc]; exact .head _
          have hx := h.2.2 _ hm
          have h5 := low_num (by simpa using hlow) hx.2 hnum
          have hf := num_figs hnum 3 (by omega)
          refine ⟨by simp, ?_, fun x hx' => ?_⟩
          · have := h.2.1
            rw [hc] at this
            exact this
          · rcases List.mem_cons.mp hx' with q | q
            · rw [q]; exact ⟨Nat.le_trans hf.1 hx.1, hf.2⟩
            · exact h.2.2 x (by rw [hc]; exact .tail _ q)
theorem normal_fine {n : Nat} {xs : List Str} (h : Fine n xs) (hn : 3 ≤ n) : Fine n (normal xs) := by
  have ht : xs.take 3 ≠ [] := by
    cases xs with
    | nil => exact absurd rfl h.1
    | cons x xs => simp
  have hl : (xs.take 3).length ≤ 3 := by rw [List.length_take]; omega
  unfold normal
  split
  · exact ⟨ht, by omega, fun x hx => h.2.2 x (List.mem_of_mem_take hx)⟩
  · rename_i q
    refine ⟨by simpa using ht, by rw [List.length_map]; omega, fun y hy => ?_⟩
    obtain ⟨x, hx, rfl⟩ := List.mem_map.mp hy
    have hx := List.mem_of_mem_take hx
    have hne : num x ≠ -1 := fun z => q (List.any_eq_true.mpr ⟨x, hx, by rw [z]; rfl⟩)
    have h0 : 0 ≤ num x - (0 : Nat) := by rcases num_cases x with z | z <;> omega
    have hf := num_figs hne 0 h0
    rw [show num x - ((0 : Nat) : Int) = num x by omega] at hf
    exact ⟨Nat.le_trans hf.1 (h.2.2 x hx).1, hf.2⟩
theorem due_fine {n : Nat} {r : St} (x : Int) (hn : 3 ≤ n) (h1 : Fine n r.2.1) (h2 : Fine n r.2.2) : Fine (n + 2) (due r x).2.1 ∧ Fine (n + 2) (due r x).2.2 := by
  have m1 := h1.mono (Nat.le_add_right n 2)
  have m2 := h2.mono (Nat.le_add_right n 2)
  unfold due
  split
  · exact ⟨(renamed_fine h1).mono (by omega), m2⟩
  · split
    · rename_i e1
      refine ⟨m1, normal_fine ?_ (by omega)⟩
      have hb := build_thing e1
      split
      · refine ⟨by simp, by rw [List.length_append]; have := h2.2.1; simp; omega, fun y hy => ?_⟩
        rcases List.mem_append.mp hy with hy | hy
        · exact m2.2.2 y hy
        · rw [List.mem_singleton.mp hy]; exact ⟨by omega, hb.2⟩
      · rw [List.append_nil]; exact m2
    · rename_i e1
      split
      · exact ⟨m1, m2⟩
      · rename_i e2
        have hp := piece_thing e1 e2
        split
        · exact ⟨m1, m2⟩
        · split
          · exact ⟨behind_fine h1 hp, m2⟩
          · split
            · exact ⟨m1, behind_fine h2 hp⟩
            · split
              · exact ⟨m2, m1⟩
              · refine ⟨?_, m2⟩
                refine (behind_fine (n := 1) (xs := [Str.ofString ""]) ⟨by simp, by decide, fun y hy => by rw [List.mem_singleton.mp hy]; exact ⟨by decide, by decide⟩⟩ hp).mono (by omega)
/-- the first record, and the record behind the first deeds -/
def r0 : St := (Str.ofString "SunOS", [Str.ofString "5", Str.ofString "10"], [Str.ofString "07", Str.ofString "0", Str.ofString "10"])
def stAt (ns : List Int) (i : Nat) : St := (ns.take i).foldl due r0
theorem stAt_succ {ns : List Int} {i : Nat} {x : Int} (h : ns[i]? = some x) : stAt ns (i + 1) = due (stAt ns i) x := by
  unfold stAt
  rw [take_more' h, List.foldl_append]
  rfl
theorem r0_fine : Fine 3 r0.2.1 ∧ Fine 3 r0.2.2 := by
  refine ⟨⟨by decide, by decide, ?_⟩, ⟨by decide, by decide, ?_⟩⟩ <;> decide
theorem foldl_fine : ∀ (l : List Int) (n : Nat) (r : St), 3 ≤ n → Fine n r.2.1 → Fine n r.2.2 → Fine (n + 2 * l.length) (l.foldl due r).2.1 ∧ Fine (n + 2 * l.length) (l.foldl due r).2.2
  | [], n, r, _, h1, h2 => ⟨h1, h2⟩
  | x :: l, n, r, hn, h1, h2 => by
    have h := due_fine x hn h1 h2
    have := foldl_fine l (n + 2) (due r x) (by omega) h.1 h.2
    rw [List.foldl_cons, List.length_cons, show n + 2 * (l.length + 1) = n + 2 + 2 * l.length by omega]
    exact this
theorem stAt_fine {ns : List Int} (h : ns.length ≤ 32) (i : Nat) : Fine 100 (stAt ns i).2.1 ∧ Fine 100 (stAt ns i).2.2 := by
  have z := foldl_fine (ns.take i) 3 r0 (by decide) r0_fine.1 r0_fine.2
  have hl : (ns.take i).length ≤ 32 := by rw [List.length_take]; omega
  exact ⟨z.1.mono (by omega), z.2.mono (by omega)⟩
end Mine
end
-- C3
section
open PySem PySem.W PyProof.Rows PySem.Calls PySem.Spec
open Sem (wp)
set_option maxRecDepth 100000
namespace Mine
section
variable {M : Model} {A : Around} {E : Value → Shared → Prop} {s : Shared} {env : Env}
theorem wpC_execs_cons {st : Stmt} {rest : List Stmt} {Q : Flow → Shared → Prop}
    (h : wpC M A (exec st env) (fun f s' => match f with | .next => wpC M A (execs rest env) Q E s' | f => Q f s') E s) : wpC M A (execs (st :: rest) env) Q E s := by
  rw [execs_cons]
  refine wpC_bind (wpC_mono h (fun f s' h' => ?_) fun _ _ x => x)
  cases f <;> first | exact h' | exact wpC_pure h'
theorem wpC_execs_nil {Q : Flow → Shared → Prop} (h : Q .next s) : wpC M A (execs [] env) Q E s := .of (wpAny_execs_nil h)
theorem wpC_If {test : Expr} {body orelse : List Stmt} {pos : Pos} {Q : Flow → Shared → Prop}
    (h : wpAny M A (isTrue test env (eval test env)) (fun b s₂ => if b then wpC M A (execs body env) Q E s₂ else wpC M A (execs orelse env) Q E s₂) E s) : wpC M A (exec (.If test body orelse pos) env) Q E s := by
  rw [exec_If]
  refine wpC_next (wpAny_standAt (wpC_next (wpAny_mono h (fun b s₂ h₂ => ?_) fun _ _ x => x)))
  cases b <;> exact h₂
theorem wpC_Return {e : Expr} {pos : Pos} {Q : Flow → Shared → Prop} (h : wpC M A (eval e env) (fun v => Q (.ret v)) E s) : wpC M A (exec (.Return (some e) pos) env) Q E s := by
  rw [exec_Return_some]
  exact wpC_next (wpAny_standAt (wpC_bind (wpC_mono h (fun _ _ h' => wpC_pure h') fun _ _ x => x)))
theorem wpC_Assign {x : Str} {pos' pos : Pos} {value : Expr} {Q : Flow → Shared → Prop} (h : wpC M A (eval value env) (fun v s₁ => wpAny M A (storeName env x v) (fun _ => Q .next) E s₁) E s)
    (hs : swapsWith value (some (.Name x pos')) pos.line env = pure false := by rfl) : wpC M A (exec (.Assign [.Name x pos'] value pos) env) Q E s := by
  rw [exec_Assign_Name env x pos' value pos hs]
  exact wpC_next (wpAny_standAt (wpC_bind (wpC_mono h (fun _ _ h' => wpC_next (wpAny_standAt (wpC_next (wpAny_bindName (wpAny_mono h' (fun _ _ h'' => wpC_pure h'') fun _ _ x => x))))) fun _ _ x => x)))
theorem wpC_BinOp {l r : Expr} {op : Operator} {pos : Pos} {Q : Value → Shared → Prop}
    (h : wpAny M A (eval l env) (fun a s₁ => wpC M A (eval r env) (fun b s₂ => wpAny M A (binaryOp op a b) Q E s₂) E s₁) E s) : wpC M A (eval (.BinOp l op r pos) env) Q E s := by
  rw [eval_BinOp]
  exact wpC_next (wpAny_mono h (fun a s₁ h₁ => wpC_bind (wpC_holding (wpC_mono h₁ (fun b s₂ h₂ => wpC_next (wpAny_standAt (wpC_operate (.of h₂)))) fun _ _ x => x))) fun _ _ x => x)
theorem wpC_Compare1 {l r : Expr} {op : CmpOp} {pos : Pos} {Q : Value → Shared → Prop}
    (h : wpC M A (eval l env) (fun a s₁ => wpAny M A (eval r env) (fun b s₂ => wpAny M A (compareOp op a b) Q E s₂) E s₁) E s) (hm : behindInMarks op r = false := by with_unfolding_all rfl) : wpC M A (eval (.Compare l [op] [r] pos) env) Q E s := by
  rw [eval_Compare1, markedBehindIn_of_false hm]
  exact wpC_bind (wpC_mono h (fun a s₁ h₁ => wpC_bind (wpC_holding (.of (wpAny_mono h₁ (fun b s₂ h₂ => wpC_next (wpAny_standAt (wpC_operate (.of h₂)))) fun _ _ x => x)))) fun _ _ x => x)
theorem wpC_Tuple {elts : List Expr} {k : Nat} {pos : Pos} {Q : Value → Shared → Prop}
    (h : wpC M A (spliced (backTo pos (starEach elts env))) (fun vs s₁ => wpAny M A (newTuple vs) Q E s₁) E s) : wpC M A (eval (.Tuple elts k pos) env) Q E s := by
  show wpC M A (do standAt pos; newTuple (← spliced (backTo pos (starEach elts env)))) Q E s
  exact wpC_next (wpAny_standAt (wpC_bind (wpC_mono h (fun _ _ h' => .of h') fun _ _ x => x)))
theorem wpC_List {elts : List Expr} {pos : Pos} {Q : Value → Shared → Prop}
    (h : wpC M A (spliced (backTo pos (starEach elts env))) (fun vs s₁ => wpAny M A (newList vs) Q E s₁) E s) : wpC M A (eval (.List elts pos) env) Q E s := by
  show wpC M A (do standAt pos; newList (← spliced (backTo pos (starEach elts env)))) Q E s
  exact wpC_next (wpAny_standAt (wpC_bind (wpC_mono h (fun _ _ h' => .of h') fun _ _ x => x)))
theorem wpC_spliced {e : Expr} {rest : List Expr} {pos : Pos} {Q : List Value → Shared → Prop}
    (h : wpC M A (eval e env) (fun v s₁ => wpC M A (spliced (backTo pos (starEach rest env))) (fun vs s₂ => Q (v :: vs) s₂) E s₁) E s)
    (he : starEach (e :: rest) env = (false, eval e env) :: starEach rest env := by rfl) : wpC M A (spliced (backTo pos (starEach (e :: rest) env))) Q E s := by
  rw [he]
  show wpC M A (spliced ((false, eval e env) :: backTo pos (starEach rest env))) Q E s
  rw [spliced]
  refine wpC_bind (wpC_mono h (fun v s₁ h₁ => ?_) fun _ _ x => x)
  simp only [Bool.false_eq_true, if_false]
  exact wpC_next (wpAny_pure (wpC_bind (wpC_holding (wpC_mono h₁ (fun vs s₂ h₂ => wpC_pure h₂) fun _ _ x => x))))
theorem wpC_keep {α : Type} {vs : List Value} {m : Sem α} {Q : α → Shared → Prop} (h : wpC M A m Q E s) : wpC M A (m.keep vs) Q E s := ⟨fun Γ p hΓ c => by rw [Sem.wp_keep]; exact h.run Γ p hΓ c⟩
/-- a call of a def or a lambda, its arguments plain -/
theorem callC {pos : Pos} {a : Addr} {e : Expr} {rest : List Expr} {Q : Value → Shared → Prop}
    (h : wpAny M A (spliced (backTo pos (starEach (e :: rest) env))) (fun vs s₁ => (∃ o fd, s₁.heap.get? a = some o ∧ o.data = .func fd) ∧ wpC M A (call (.ref a) vs) Q E s₁) E s)
    (he : starEach (e :: rest) env = (false, eval e env) :: starEach rest env := by rfl) (hplain : (backTo pos (starEach rest env)).any (·.1) = false := by rfl) :
    wpC M A (callWith pos (.ref a) [] (backTo pos (starEach (e :: rest) env)) []) Q E s := by
  unfold callWith
  have hp : (backTo pos (starEach (e :: rest) env)).any (·.1) = false := by rw [he]; show (false || (backTo pos (starEach rest env)).any (·.1)) = false; rw [hplain]; rfl
  have h' : wpAny M A (evalArgs (.ref a) true (backTo pos (starEach (e :: rest) env)) []) (fun x s₁ => (∃ o fd, s₁.heap.get? a = some o ∧ o.data = .func fd) ∧ wpC M A (call (.ref a) ([] ++ x.pos) x.kw) Q E s₁) E s := by
    rw [he] at h ⊢
    exact evalArgs_plain h
  refine wpC_next (wpAny_holding (wpAny_mono h' (fun x s₁ h₁ => wpC_next (wpAny_standAt ?_)) fun _ _ x => x))
  obtain ⟨⟨o, fd, ho, hd⟩, hc⟩ := h₁
  have tail : ∀ {t : Sem Value}, wpC M A t Q E s₁ → wpC M A (t >>= fun r => holding [r] point >>= fun _ => pure r) Q E s₁ :=
    fun ht => wpC_bind (wpC_mono ht (fun r s₂ hr => wpC_next (wpAny_holding (wpAny_point (wpC_pure hr)))) fun _ _ x => x)
  have hk : Looks M s₁.heap (keeperOf (.ref a)) Keeper.frame := by
    refine (Looks.ld (part := none) ho).andThen ?_
    rw [hd]
    exact .now
  simp only [hp, List.any_nil, Bool.or_false]
  refine wpC_next (hk.here ?_)
  dsimp only
  have mk : wpC M A (callMarked plainCall (.ref a) ([] ++ x.pos) x.kw) Q E s₁ := by unfold callMarked; exact wpC_keep hc
  split
  · exact tail hc
  · exact tail mk
theorem wpC_CallName {id : Str} {p pos : Pos} {args : List Expr} {Q : Value → Shared → Prop}
    (h : wpAny M A (eval (.Name id p) env) (fun f s₁ => wpC M A (callWith pos f [] (backTo pos (starEach args env)) []) Q E s₁) E s) : wpC M A (eval (.Call (.Name id p) args [] pos) env) Q E s := by
  show wpC M A (do callWith pos (← eval (.Name id p) env) [] (backTo pos (starEach args env)) (backToKw pos (keywordEach [] env))) Q E s
  exact wpC_next h
/-- a call of a class of the machine's own, its arguments plain -/
theorem callTypeC {pos : Pos} {T : String} {e : Expr} {rest : List Expr} {Q : Value → Shared → Prop}
    (h : wpAny M A (spliced (backTo pos (starEach (e :: rest) env))) (fun vs s₁ => wpC M A (call (.type T) vs) Q E s₁) E s)
    (he : starEach (e :: rest) env = (false, eval e env) :: starEach rest env := by rfl) (hplain : (backTo pos (starEach rest env)).any (·.1) = false := by rfl) :
    wpC M A (callWith pos (.type T) [] (backTo pos (starEach (e :: rest) env)) []) Q E s := by
  unfold callWith
  have hp : (backTo pos (starEach (e :: rest) env)).any (·.1) = false := by rw [he]; show (false || (backTo pos (starEach rest env)).any (·.1)) = false; rw [hplain]; rfl
  have h' : wpAny M A (evalArgs (.type T) true (backTo pos (starEach (e :: rest) env)) []) (fun x s₁ => wpC M A (call (.type T) ([] ++ x.pos) x.kw) Q E s₁) E s := by
    rw [he] at h ⊢
    exact evalArgs_plain h
  refine wpC_next (wpAny_holding (wpAny_mono h' (fun x s₁ h₁ => wpC_next (wpAny_standAt ?_)) fun _ _ x => x))
  simp only [hp, List.any_nil, Bool.or_false]
  refine wpC_next (wpAny_pure ?_)
  exact wpC_bind (wpC_mono h₁ (fun r s₂ hr => wpC_next (wpAny_holding (wpAny_point (wpC_pure hr)))) fun _ _ x => x)
/-- try .. except .. else -/
theorem wpC_Try {body orelse : List Stmt} {h₀ : ExceptHandler} {hs : List ExceptHandler} {pos : Pos} {Q : Flow → Shared → Prop}
    (h : wpC M A (execs body env) (fun f s₁ => match f with | .next => wpC M A (execs orelse env) Q E s₁ | f => Q f s₁)
      (fun e s₁ => wpAny M A (leaving env e) (fun _ s₃ => wpC M A (handleBy e env (h₀ :: hs)) Q E s₃) E s₁) s) :
    wpC M A (exec (.Try body (h₀ :: hs) orelse [] pos) env) Q E s := by
  rw [arm_exec_Try]
  refine wpC_next (wpAny_standAt ?_)
  unfold tryStmt
  simp only [List.isEmpty_nil, if_true, List.isEmpty_cons, Bool.false_and, Bool.false_eq_true, if_false]
  refine wpC_bind (wpC_attempt (wpC_mono h (fun f s₁ h₁ => ?_) fun e s₁ h₁ => ?_))
  · cases f <;> first | exact h₁ | exact wpC_pure h₁
  · have := wpC_next (M := M) (A := A) h₁
    unfold leaving at this
    rw [bind_assoc] at this
    exact this
end
end Mine
end
-- C4
section
open PySem PySem.W PyProof.Rows PySem.Calls PySem.Spec
open Sem (wp)
set_option maxRecDepth 100000
namespace Mine
section
variable {prog : Program} {w : World} {A : Around} {R : Result → Shared → Prop} {s : Shared}
theorem codeC_func {body : List Stmt} {env : Env}
    (h : wpC (model prog w) (A.deeper env) (execs body env) (fun f s' => R (.ok (.ret (match f with | .ret v => v | _ => .none))) s') (fun _ _ => False) s) :
    codeC (model prog w) A (.func body env) R s := by
  refine codeC_of_tree ?_
  show wpC _ (A.deeper env) (do point; match ← (execs body env).onRaise (leaving env) with | .ret v => ret v | _ => ret .none) _ _ s
  refine wpC_next (wpAny_point (wpC_bind (wpC_onRaise (wpC_mono h (fun f s' h' => ?_) fun _ _ h' => h'.elim))))
  cases f <;> exact wpC_pure h'
theorem codeC_expr {e : Expr} {env : Env} (h : wpC (model prog w) (A.deeper env) (eval e env) (fun v s' => R (.ok (.ret v)) s') (fun _ _ => False) s) : codeC (model prog w) A (.expr e env) R s := by
  refine codeC_of_tree ?_
  show wpC _ (A.deeper env) (do point; ret (← (eval e env).onRaise (leaving env))) _ _ s
  exact wpC_next (wpAny_point (wpC_bind (wpC_onRaise (wpC_mono h (fun v s' h' => wpC_pure h') fun _ _ h' => h'.elim))))
/-- into a function object -/
theorem codeC_callFun {a : Addr} {args : Args} {o : Obj} {fd : FuncData} (hroom : A.depth < recursionLimit) (ho : s.heap.get? a = some o)
    (hd' : o.data = .func fd) (hco : fd.scope.isCoroutine = false) (hgen : fd.scope.isGenerator = false) (hcd : s.heap.CodeRec fd.code fd.qualname)
    (h : wpAny (model prog w) A.in1 (bindArgs fd args) (fun binds s₁ =>
      wpAny (model prog w) A.in1 (newFunctionEnv fd.scope fd.globals fd.closure binds (fd.qualname ++ ".<locals>.") (some a) fd.code none fd.builtins)
        (fun env s₂ => s₂.heap.NoLimit ∧ codeC (model prog w) A (match fd.body with | .stmts b => .func b env | .expr e => .expr e env) R s₂) (fun e s' => R (.error e) s') s₁) (fun e s' => R (.error e) s') s) :
    codeC (model prog w) A (.call (.ref a) args) R s := by
  refine codeC_of_tree ?_
  show wpC _ A.in1 (callAny (.ref a) args) _ _ s
  simp only [callAny]
  refine wpC_next (wpAny_load ho ?_)
  obtain ⟨c, oc, vs, tq, hc, hoc, hdc, hq⟩ := hcd
  simp only [hd', callFunction, hco, hgen, hc]
  rw [hc] at h
  refine wpC_next (m := field (.ref c) 1) (wpAny_field hoc hdc hq (wpC_next (wpAny_pure ?_)))
  refine wpC_next (wpAny_mono h (fun binds s₁ h₁ => wpC_next (wpAny_mono h₁ (fun env s₂ h₂ => wpC_next (wpAny_enterFrame h₂.1 hroom
    (wpC_pure (And.intro ?_ h₂.2)))) fun _ _ h' => h')) fun _ _ h' => h')
  cases fd.body <;> rfl
end

/-- the same contract where the claim's caller is known -/
def SpecC (w : World) (g : Heap) (f : Value) (vs : List Value) (k : Nat) (h : Heap) (R : Heap → Value → Prop) : Prop :=
  ∀ (A : Around) (gn : Array GenState) (dr : Drawn) (tk : Nat) (os : OsState) (Q E : Value → Shared → Prop), A.handled = none → A.depth + k < recursionLimit → A.units + 100 * k < cLine → Fs g A h → g.StaysIn h → g.objs.size ≤ h.objs.size →
    (∀ r h' tk', Kp h h' → g.StaysIn h' → R h' r → Q r ⟨h', gn, dr, tk', os⟩) → wpC (model PySem.Challenge.rw_mr0134_01.row.prog w) A (call f vs) Q E ⟨h, gn, dr, tk, os⟩
theorem Spec.c {w : World} {g : Heap} {f : Value} {vs : List Value} {k : Nat} {h : Heap} {R : Heap → Value → Prop} (x : Spec w g f vs k h R) : SpecC w g f vs k h R :=
  fun A gn dr tk os Q E a b c d e f g => .of (x A gn dr tk os Q E a b c d e f g)
theorem SpecC.mono {w : World} {g : Heap} {f : Value} {vs : List Value} {k k' : Nat} {h : Heap} {R : Heap → Value → Prop} (x : SpecC w g f vs k h R) (hk : k ≤ k') : SpecC w g f vs k' h R :=
  fun A gn dr tk os Q E a b c d e f g => x A gn dr tk os Q E a (by omega) (by omega) d e f g

/-- into a function object, of the program's own or new -/
theorem enterC {w : World} {g h : Heap} {p : Program} {loose : List Str} {mean : ExcName → Option Value} {mg mb : Str → Option Value} {fd : FuncData} {o : Obj} {f : Addr}
    {vs : List Value} {binds : List (Str × Value)} {k : Nat} {R : Heap → Value → Prop} {D : Heap → Prop} (dD : D h) (sD : ∀ h h', Up h h' → D h → D h') (T : Top p loose mean mg mb g)
    (ho : g.StaysIn h → h.get? f = some o) (hdt : o.data = .func fd) (hcd : g.StaysIn h → h.CodeRec fd.code fd.qualname) (hgl : fd.globals = mainGlobals) (hcl : fd.closure = []) (hbu : fd.builtins = builtinsNs)
    (hbind : ∀ gn dr tk os, g.StaysIn h → BindsTo ⟨h, gn, dr, tk, os⟩ fd ⟨vs, []⟩ binds) (hloc : ∀ y ∈ binds, fd.scope.names.lookup y.1 = some .local)
    (hco : fd.scope.isCoroutine = false) (hgen : fd.scope.isGenerator = false) (hk : fd.scope.kind = .function) (hcell : ∀ x ∈ fd.scope.names, x.2 ≠ .cell)
    (hb : ∀ (A : Around) (L : Addr) (h₁ : Heap) (gn : Array GenState) (dr : Drawn) (tk : Nat) (os : OsState) (Q : Value → Shared → Prop), In g A h L h₁ (fun y => binds.reverse.lookup y) D → (∃ outer, A.frames = some (envOf fd.qualname fd.scope L f fd.code :: outer)) → A.depth + k < recursionLimit → A.units + 100 * k < cLine →
      (∀ r h' tk', Kp h h' → g.StaysIn h' → R h' r → Q r ⟨h', gn, dr, tk', os⟩) →
      match fd.body with
      | .stmts body => wpC (model PySem.Challenge.rw_mr0134_01.row.prog w) A (execs body (envOf fd.qualname fd.scope L f fd.code)) (fun fl s' => Q (match fl with | .ret v => v | _ => .none) s') (fun _ _ => False) ⟨h₁, gn, dr, tk, os⟩
      | .expr body => wpC (model PySem.Challenge.rw_mr0134_01.row.prog w) A (eval body (envOf fd.qualname fd.scope L f fd.code)) Q (fun _ _ => False) ⟨h₁, gn, dr, tk, os⟩) :
    SpecC w g (.ref f) vs (k + 1) h R := by
  intro A gn dr tk os Q E hh hd hu hfs hst hsz hret
  refine wpC_call (codeC_callFun (fd := fd) (Nat.lt_of_le_of_lt (Nat.le_add_right _ _) hd) (ho hst) hdt hco hgen (hcd hst) ?_)
  refine hbind _ _ _ _ hst _ _ _ _ ?_
  rw [hgl, hcl, hbu]
  refine wpAny_newFunctionEnv hcell hloc (fun h₁ hns hsb => ⟨(T.nolimit.keeps hst).fresh _ hsb, ?_⟩) hk
  have hk₁ : ∀ b o, h.get? b = some o → h₁.get? b = some o := fun b o e => hsb.extBut b o (Nat.ne_of_lt (Heap.lt_size e)) (Heap.get?_push_of_some _ e)
  obtain ⟨l, hl, ff⟩ := hfs
  have I : In g (A.deeper (envOf fd.qualname fd.scope h.objs.size f fd.code)) h h.objs.size h₁ (fun y => binds.reverse.lookup y) D := by
    refine ⟨⟨hns, fun b o e => hk₁ b o (hst b o e), hsz⟩, Kp.of_keeps hk₁, Nat.le_refl _, ⟨_, Around.frames_deeper hl, ?_⟩, hh, sD _ _ (Kp.of_keeps hk₁).up dD, sD⟩
    exact Heap.FunFrames.cons (by show fd.scope.kind ≠ .module; rw [hk]; decide) rfl hns (Heap.get?_none_of_le hsz) (ff.of_keeps fun b o e _ => ⟨o, hk₁ b o e, rfl⟩)
  have z := hb (A.deeper (envOf fd.qualname fd.scope h.objs.size f fd.code)) h.objs.size h₁ gn dr (tk + binds.length) os Q I ⟨l, Around.frames_deeper hl⟩ (by show A.depth + 1 + k < _; omega) (by show A.units + 3 + 100 * k < _; omega) hret
  revert z
  cases fd.body with
  | stmts body => exact fun z => codeC_func z
  | expr body => exact fun z => codeC_expr z

section
variable {w : World} {g h₀ h : Heap} {A : Around} {L : Addr} {m : Str → Option Value} {D : Heap → Prop} {E : Value → Shared → Prop} {gn : Array GenState} {dr : Drawn} {tk : Nat} {os : OsState} {q : Str} {sc : Scope} {a : Addr} {cd : Value} {mg mb : Str → Option Value}
theorem In.useC (I : In g A h₀ L h m D) {f : Value} {vs : List Value} {k : Nat} {R : Heap → Value → Prop} {Q : Value → Shared → Prop} (S : SpecC w g f vs k h R) (sR : ∀ r h h', Up h h' → R h r → R h' r) (hd : A.depth + k < recursionLimit) (hu : A.units + 100 * k < cLine)
    (hret : ∀ r h' tk', In g A h₀ L h' m (fun h => R h r ∧ D h) → Kp h h' → Q r ⟨h', gn, dr, tk', os⟩) : wpC (model PySem.Challenge.rw_mr0134_01.row.prog w) A (call f vs) Q E ⟨h, gn, dr, tk, os⟩ :=
  S A gn dr tk os Q E I.hh hd hu I.fs I.fr.keep I.le fun r h' tk' k st hR => hret r h' tk' ((I.kp k st).also hR (sR r)) k

/-- a new exception leaves its first frame: all else stays, its slots apart -/
theorem leaving_first {base : Heap} {M : Model} {s : Shared} {env : Env} {outer : List Env} {L e : Addr} {oe : Obj} {vs : Array Value} {Q : Unit → Shared → Prop}
    (hfr : A.frames = some (env :: outer)) (hl : s.heap.FunFrames base (env :: outer)) (hf : env.frame = some L)
    (he : s.heap.get? e = some oe) (hd : oe.data = .fields vs) (h1 : vs[1]? = some .none)
    (h : ∀ h' oe' vs' T oT ts, (∀ b o, b ≠ e → s.heap.get? b = some o → ∃ sl, h'.get? b = some { o with slots := sl }) → (∀ b o, b ≠ e → b ∉ (env :: outer).filterMap (·.frame) → s.heap.get? b = some o → h'.get? b = some o) →
      h'.get? e = some oe' → oe'.cls = oe.cls → oe'.data = .fields vs' → vs'[1]? = some (.ref T) → s.heap.get? T = none → T ≠ e → h'.get? T = some oT → oT.data = .fields ts → 3 < ts.size → Q () { s with heap := h' }) : wpAny M A (leaving env (.ref e)) Q E s := by
  have hsz : 1 < vs.size := (Array.getElem?_eq_some_iff.mp h1).1
  have hene : e ∉ (env :: outer).filterMap (·.frame) := fun hm => by
    obtain ⟨_, o, ho, hnf⟩ := hl.mem hm
    rw [he] at ho; injection ho with ho; subst ho; exact hnf vs hd
  unfold leaving noteFrame
  simp only [hf]
  refine wpAny_bind (wpAny_bind (wpAny_field he hd h1 ?_))
  rw [if_neg (by decide)]
  refine wpAny_bind (wpAny_frameOf_fun hfr hl hf fun h₁ hs₁ => ?_)
  refine wpAny_bind (wpAny_entryPlaceOf fun pl hpl => ?_)
  unfold EntryCells.newEntry newFields
  refine wpAny_bind (wpAny_newObj_type ?_ (hpl.sizeOk5 _ _ _ _ _))
  have he₁ : h₁.get? e = some oe := (hs₁.2.1 e hene).trans he
  generalize hob : ({ cls := .type "traceback", dict := none, data := .fields _ } : Obj) = ob
  have he₂ := Heap.get?_push_of_some (h := h₁) ob he₁
  refine wpAny_setField he₂ hd hsz ?_
  have hTe : h₁.objs.size ≠ e := Nat.ne_of_gt (Heap.lt_size he₁)
  have hd₃ := Obj.data_mapFields hd (·.setIfInBounds 1 (Value.ref h₁.objs.size))
  have he₃ := Heap.get?_update_self (Obj.mapFields (·.setIfInBounds 1 (Value.ref h₁.objs.size))) he₂ (Obj.isFreed_of_fields hd₃)
  have hnf : ob.isFreed = false := by rw [← hob]; rfl
  have hT₃ := (Heap.get?_update_other (h₁.push ob) (Obj.mapFields (·.setIfInBounds 1 (Value.ref h₁.objs.size))) (Ne.symm hTe)).trans (Heap.get?_push_size h₁ hnf)
  unfold setFlight
  refine wpAny_bind (wpAny_field he₃ hd₃ (x := .ref h₁.objs.size) (by simp [hsz]) ?_)
  rw [if_pos (show (Value.ref h₁.objs.size != Value.none) = true from by simp)]
  obtain ⟨ts, hts, htz⟩ : ∃ ts, ob.data = .fields ts ∧ 3 < ts.size := ⟨_, by rw [← hob], by simp only [List.size_toArray, List.length_append, List.length_cons, List.length_nil] <;> omega⟩
  refine wpAny_setField hT₃ hts htz ?_
  have hd₄ := Obj.data_mapFields hts (·.setIfInBounds 3 ((none : Option Addr).elim Value.none fun f => rawInt f))
  refine h _ _ _ h₁.objs.size _ _ (fun b o hbe hb => ?_) (fun b o hbe hbf hb => ?_) ?_ (Obj.cls_mapFields _ _) hd₃ (by simp [hsz]) (Heap.get?_none_of_le (by rw [hs₁.1]; exact Nat.le_refl _)) hTe (Heap.get?_update_self _ hT₃ (Obj.isFreed_of_fields hd₄)) hd₄ (by simpa using htz)
  · obtain ⟨sl, e₁⟩ := hs₁.2.2 b o hb
    have hbT : h₁.objs.size ≠ b := Nat.ne_of_gt (Heap.lt_size e₁)
    exact ⟨sl, by rw [Heap.get?_update_other _ _ hbT, Heap.get?_update_other _ _ (Ne.symm hbe)]; exact Heap.get?_push_of_some _ e₁⟩
  · have e₁ := (hs₁.2.1 b hbf).trans hb
    have hbT : h₁.objs.size ≠ b := Nat.ne_of_gt (Heap.lt_size e₁)
    rw [Heap.get?_update_other _ _ hbT, Heap.get?_update_other _ _ (Ne.symm hbe)]; exact Heap.get?_push_of_some _ e₁
  · rw [Heap.get?_update_other _ _ hTe]; exact he₃
end
end Mine
end
-- C5
section
open PySem PySem.W PyProof.Rows PySem.Calls PySem.Spec
set_option maxRecDepth 100000
namespace Mine
theorem vt_sub : isSubtype (.type ((Manifest.find? "ValueError").elim "type" fun x => x.metatype)) (.type "tuple") = pure false := by rw [isSubtype_type]; kernel_rfl
theorem vb_sub : isSubtype (.type "ValueError") (.type "BaseException") = pure true := by rw [isSubtype_type]; kernel_rfl
theorem vv_sub : isSubtype (.type "ValueError") (.type "ValueError") = pure true := by rw [isSubtype_type]; kernel_rfl
section
variable {w : World} {g h₀ h : Heap} {A : Around} {L : Addr} {m : Str → Option Value} {D : Heap → Prop} {E : Value → Shared → Prop} {gn : Array GenState} {dr : Drawn} {tk : Nat} {os : OsState} {q : Str} {sc : Scope} {a : Addr} {cd : Value} {mg mb : Str → Option Value}
/-- one record, not the entry's, turns; of all else the slots alone -/
theorem In.rec1 (I : In g A h₀ L h m D) {h' : Heap} {e : Addr} {o : Obj} {fs : Array Value} (ho : h.get? e = some o) (hd : o.data = .fields fs) (hn : h₀.get? e = none) (k : ∀ b o, b ≠ e → h.get? b = some o → ∃ sl, h'.get? b = some { o with slots := sl }) (st : g.StaysIn h') : In g A h₀ L h' m D := by
  obtain ⟨oL, es, ep, hL, hdL, r⟩ := I.fr.ns
  have hLe : L ≠ e := fun q => by subst q; rw [ho] at hL; cases hL; rw [hd] at hdL; cases hdL
  obtain ⟨sl, eL⟩ := k L oL hLe hL
  have U : Up h h' := fun b o' vs n e' d => k b o' (fun q => by subst q; rw [ho] at e'; cases e'; rw [hd] at d; cases d) e'
  refine ⟨⟨⟨_, es, ep, eL, hdL, r⟩, st, I.fr.above⟩, fun b o' eb => ?_, I.above, ?_, I.hh, I.st _ _ U I.data, I.st⟩
  · obtain ⟨sl, e₁⟩ := I.keep b o' eb
    obtain ⟨sl', e₂⟩ := k b _ (fun q => by rw [q, hn] at eb; cases eb) e₁
    exact ⟨sl', e₂⟩
  · obtain ⟨l, el, f⟩ := I.fs
    refine ⟨l, el, f.of_keeps fun b o' eb n => ?_⟩
    obtain ⟨sl, e₁⟩ := k b o' (fun q => by subst q; rw [ho] at eb; cases eb; exact n _ hd) eb
    exact ⟨_, e₁, rfl⟩
/-- a ValueError met by its own clause -/
theorem In.caught (B : Bs w g mg mb) (I : In g A h₀ L h m D) {e : Addr} {oe : Obj} {t : Value} {Q : Flow → Shared → Prop} {b₀ : Stmt} {suite : List Stmt} {pe pos : Pos} (hfr : ∃ outer, A.frames = some (envOf q sc L a cd :: outer)) (he : h.get? e = some oe) (hc : oe.cls = .type "ValueError")
    (hde : oe.data = .fields #[t, .none, .none, .none, .bool false, .none]) (hn : h₀.get? e = none) (hg : g.get? e = none) (hk : sc.kind = .function) (hv : (envOf q sc L a cd).kindOf (Str.ofString "ValueError") = some .globalImplicit) (hb : nsIn (hd.heap_39 w.params) mainGlobals (Str.ofString "ValueError") = some none)
    (hs : ∀ h', In g A h₀ L h' m D → wpAny (model PySem.Challenge.rw_mr0134_01.row.prog w) (A.mark (some (.ref e))) (execs (b₀ :: suite) (envOf q sc L a cd)) Q (fun _ _ => False) ⟨h', gn, dr, tk, os⟩) :
    wpAny (model PySem.Challenge.rw_mr0134_01.row.prog w) A (leaving (envOf q sc L a cd) (.ref e)) (fun _ s₃ => wpC (model PySem.Challenge.rw_mr0134_01.row.prog w) A (handleBy (.ref e) (envOf q sc L a cd) [.ExceptHandler (some (.Name (Str.ofString "ValueError") pe)) none (b₀ :: suite) pos]) Q E s₃) E ⟨h, gn, dr, tk, os⟩ := by
  obtain ⟨outer, hfr⟩ := hfr
  obtain ⟨l, hl, ff⟩ := I.fs
  rw [hfr] at hl
  cases hl
  refine leaving_first (s := ⟨h, gn, dr, tk, os⟩) hfr ff rfl he hde rfl fun h₂ oe' vs' T oT ts k₂ x₂ e₂ c₂ d₂ v₂ n₂ ne₂ t₂ dt₂ sz₂ => ?_
  have st₂ : g.StaysIn h₂ := fun b o eb => x₂ b o (fun q => by rw [q, hg] at eb; cases eb) (fun q => by rw [(ff.mem q).1] at eb; cases eb) (I.stays b o eb)
  have I₂ := I.rec1 he hde hn k₂ st₂
  refine .of (wpAny_handleBy_builtin (X := "ValueError") (T := "ValueError") (b := true) vb_sub vt_sub vv_sub ?_)
  have hvb : mb (Str.ofString "ValueError") = some (.type "ValueError") := (B.blt _ (by decide)).trans (by kernel_rfl)
  refine ld_builtin_at (s := ⟨h₂, gn, dr, tk, os⟩) I₂.fr B.g (mg_none_of B.x B.g hb) B.b hvb ⟨rfl, ⟨oe', e₂, c₂.trans hc⟩, ?_⟩ hk hv
  rw [if_pos rfl]
  refine wpAny_setFlight_none (s := ⟨h₂, gn, dr, tk, os⟩) e₂ d₂ v₂ t₂ dt₂ sz₂ (wpAny_mono (hs _ ?_) (fun _ _ x => x) fun _ _ x => x.elim)
  have hT : g.get? T = none := I.gnew n₂
  refine I₂.rec1 t₂ dt₂ (I.new n₂) (fun b o hb eb => ⟨o.slots, (Heap.get?_update_other _ _ (Ne.symm hb)).trans eb⟩) fun b o eb => ?_
  exact (Heap.get?_update_other _ _ (fun q => by rw [← q, hT] at eb; cases eb)).trans (st₂ b o eb)
end
end Mine
namespace Mine
theorem enterD {w : World} {g h : Heap} {p : Program} {loose : List Str} {mean : ExcName → Option Value} {mg mb : Str → Option Value} {name qual : Str} {params : Arguments} {body : List Stmt} {scope : Scope} {dV kV doc pm cdv ct oc : Value} {an od : Option Addr} {osl : Array (Option Value)} {f : Addr}
    {vs : List Value} {binds : List (Str × Value)} {k : Nat} {R : Heap → Value → Prop} {D : Heap → Prop} (dD : D h) (sD : ∀ h h', Up h h' → D h → D h') (X : (hd.heap_39 w.params).In g) (T : Top p loose mean mg mb g)
    (ho : (hd.heap_39 w.params).lookup f = some ⟨oc, od, .func (fnOf name qual params body scope dV kV doc pm an cdv ct), osl⟩) (hcd : codeIn (hd.heap_39 w.params) cdv qual = true)
    (hbind : ∀ gn dr tk os, g.StaysIn h → BindsTo ⟨h, gn, dr, tk, os⟩ (fnOf name qual params body scope dV kV doc pm an cdv ct) ⟨vs, []⟩ binds) (hloc : ∀ y ∈ binds, scope.names.lookup y.1 = some .local)
    (hco : scope.isCoroutine = false) (hgen : scope.isGenerator = false) (hk : scope.kind = .function) (hcell : ∀ x ∈ scope.names, x.2 ≠ .cell)
    (hb : ∀ (A : Around) (L : Addr) (h₁ : Heap) (gn : Array GenState) (dr : Drawn) (tk : Nat) (os : OsState) (Q : Value → Shared → Prop), In g A h L h₁ (fun y => binds.reverse.lookup y) D → (∃ outer, A.frames = some (envOf qual scope L f cdv :: outer)) → A.depth + k < recursionLimit → A.units + 100 * k < cLine →
      (∀ r h' tk', Kp h h' → g.StaysIn h' → R h' r → Q r ⟨h', gn, dr, tk', os⟩) →
      wpC (model PySem.Challenge.rw_mr0134_01.row.prog w) A (execs body (envOf qual scope L f cdv)) (fun fl s' => Q (match fl with | .ret v => v | _ => .none) s') (fun _ _ => False) ⟨h₁, gn, dr, tk, os⟩) :
    SpecC w g (.ref f) vs (k + 1) h R :=
  enterC (fd := fnOf name qual params body scope dV kV doc pm an cdv ct) dD sD T (fun st => X.keeps st _ _ ho) rfl (fun st => codeRec_of (X.keeps st) hcd) rfl rfl rfl hbind hloc hco hgen hk hcell hb
end Mine
end
-- C6
section
open PySem PySem.W PyProof.Rows PySem.Calls PySem.Spec
set_option maxRecDepth 100000
namespace Mine
section
variable {w : World} {g h₀ h : Heap} {A : Around} {L : Addr} {m : Str → Option Value} {D : Heap → Prop} {E : Value → Shared → Prop} {gn : Array GenState} {dr : Drawn} {tk : Nat} {os : OsState} {prog : Program} {Q : Value → Shared → Prop} {q : Str} {sc : Scope} {a : Addr} {cd : Value} {mg mb : Str → Option Value}
theorem In.splitG (I : In g A h₀ L h m D) {x y : Str} {t u : Tok} (hy : (y.length == 0) = false) (hsz : x.length + 2 ≤ sizeLine)
    (hQ : ∀ h' d vs tk', In g A h₀ L h' m (fun h => Sq "list" d vs h ∧ D h) → StrsAre vs (Txt.split x y) → h₀.get? d = none → g.get? d = none → Q (.ref d) ⟨h', gn, dr, tk', os⟩) :
    wpAny (model prog w) A (call (.builtin "str.split") [.str x t, .str y u]) Q E ⟨h, gn, dr, tk, os⟩ := by
  refine splitN1 (s := ⟨h, gn, dr, tk, os⟩) I.fr (full_news (L := L)) hy (fun l h' k e F N => ?_) hsz
  have hd : h.get? h.objs.size = none := Heap.get?_none_of_le (Nat.le_refl _)
  have J := I.more F N hd
  exact hQ h' _ _ k J.1 (e ▸ strsAre_values l) J.2 (I.gnew hd)
theorem list_up {h h' : Heap} {l : Addr} {vs : Array Value} (U : Up h h') (x : h.IsList l vs) : h'.IsList l vs := by
  obtain ⟨o, e, hc, n, hd⟩ := x
  obtain ⟨sl, e'⟩ := U l o _ _ e hd
  exact ⟨_, e', hc, n, hd⟩
theorem In.setAt (I : In g A h₀ L h m D) {l : Addr} {vs : List Value} {k : Nat} {t : Tok} {v : Value} {Q : Unit → Shared → Prop} (hl : Sq "list" l vs h) (hn : h₀.get? l = none) (hg : g.get? l = none) (hk : k < vs.length) (hs : k < 1000)
    (hQ : ∀ h', In g A h₀ L h' m (fun h => h.IsList l (vs.toArray.setIfInBounds k v)) → Q () ⟨h', gn, dr, tk, os⟩) :
    wpAny (model prog w) A (setItem (.ref l) (.int (k : Int) t) v) Q E ⟨h, gn, dr, tk, os⟩ := by
  refine wpAny_setItem_list (s := ⟨h, gn, dr, tk, os⟩) hl.lst (by omega) (by omega) (by rw [List.size_toArray]; omega) fun h' hi hs => hQ h' ?_
  have hlL := hl.neNs I.fr.ns
  have F : Fr g L h' m := ⟨I.fr.ns.sameBut hs (Ne.symm hlL), fun b o e => (hs.2 b (fun q => by rw [q, hg] at e; cases e)).trans (I.fr.keep b o e), I.fr.above⟩
  refine I.turn F [l] (fun a ha => ?_) (fun b o _ hb e => ⟨o.slots, (hs.2 b (fun q => hb (by rw [q]; exact .head _))).trans e⟩) hi fun _ _ U x => list_up U x
  rw [List.mem_singleton.mp ha]
  obtain ⟨o, e, _, n, hd⟩ := hi
  exact ⟨hn, o, e, _, n, hd⟩
/-- int over a text that is no number, under its own clause -/
theorem In.intBad (I : In g A h₀ L h m D) (B : Bs w g mg mb) {x : Str} {t : Tok} {Qv : Value → Shared → Prop} {Q : Flow → Shared → Prop} {b₀ : Stmt} {suite : List Stmt} {pe pos : Pos} (hfr : ∃ outer, A.frames = some (envOf q sc L a cd :: outer)) (hx : num x = -1) (ha : ∀ c ∈ x.cps.toList, ok c = true) (hl : x.length ≤ 640)
    (hk : sc.kind = .function) (hv : (envOf q sc L a cd).kindOf (Str.ofString "ValueError") = some .globalImplicit) (hb : nsIn (hd.heap_39 w.params) mainGlobals (Str.ofString "ValueError") = some none)
    (hs : ∀ h' tk' e, In g A h₀ L h' m D → wpAny (model PySem.Challenge.rw_mr0134_01.row.prog w) (A.mark (some (.ref e))) (execs (b₀ :: suite) (envOf q sc L a cd)) Q (fun _ _ => False) ⟨h', gn, dr, tk', os⟩) :
    wpC (model PySem.Challenge.rw_mr0134_01.row.prog w) A (call (.type "int") [.str x t]) Qv (fun e s₁ => wpAny (model PySem.Challenge.rw_mr0134_01.row.prog w) A (leaving (envOf q sc L a cd) e) (fun _ s₃ => wpC (model PySem.Challenge.rw_mr0134_01.row.prog w) A (handleBy e (envOf q sc L a cd) [.ExceptHandler (some (.Name (Str.ofString "ValueError") pe)) none (b₀ :: suite) pos]) Q E s₃) E s₁) ⟨h, gn, dr, tk, os⟩ := by
  refine int_bad hl (fun c hc => ok_lt (ha c hc)) (int_none hx ha hl) I.hh fun h' tk' e NE => ?_
  obtain ⟨ob, t, he, hc, hdt⟩ := NE.there
  exact (I.kp (.of_keeps NE.keeps) fun b o e => NE.keeps b o (I.stays b o e)).caught B hfr he hc hdt (I.new NE.new) (I.gnew NE.new) hk hv hb fun h'' I'' => hs h'' tk' e I''
set_option exponentiation.threshold 2000 in
theorem log_small {n : Int} {k : Nat} (h0 : 0 ≤ n) (h : n < 10 ^ k) (hk : k ≤ 400) : n.natAbs.log2 < 1920 := by
  have h1 : n.natAbs < 10 ^ k := by exact_mod_cast (show (n.natAbs : Int) < 10 ^ k by rw [Int.natAbs_of_nonneg h0]; exact h)
  have h2 : (10 : Nat) ^ k ≤ 10 ^ 400 := Nat.pow_le_pow_right (by decide) hk
  have h3 : (10 : Nat) ^ 400 < 2 ^ 1920 := by decide +kernel
  by_cases q : n.natAbs = 0
  · rw [q]; decide
  · exact (Nat.log2_lt q).mpr (by omega)
theorem num_lt (x : Str) : num x < 10 ^ x.length := by
  have hp : (0 : Int) < 10 ^ x.length := Int.pow_pos (by decide)
  rcases num_cases x with e | ⟨e, ha, _⟩
  · omega
  · have := digitsVal_lt ha
    rw [show x.cps.toList.length = x.length from Array.length_toList] at this
    rw [e]
    exact_mod_cast this
end
end Mine
end
-- C7
section
open PySem PySem.W PyProof.Rows PySem.Calls PySem.Spec
set_option maxRecDepth 100000
namespace Mine
section
variable {M : Model} {A : Around} {E : Value → Shared → Prop} {s : Shared} {env : Env}
theorem wpC_For {target iter : Expr} {body : List Stmt} {pos : Pos} {Q : Flow → Shared → Prop}
    (h : wpAny M A (eval iter env) (fun x s₁ => wpAny M A (pyIter x) (fun it s₂ => codeC M A (.forLoop target it body [] env) (fun r s' => match r with | .ok f => Q f s' | .error _ => False) s₂) E s₁) E s)
    (hs : ∀ x, foldedSetIterable iter env x = pure x := by intro _; rfl) : wpC M A (exec (.For target iter body [] pos) env) Q E s := by
  rw [exec_For]
  refine wpC_next (wpAny_standAt (wpC_next (wpAny_mono h (fun x s₁ h₁ => wpC_next (wpAny_of_eq (hs x) (wpC_next (wpAny_standAt (wpC_next (wpAny_holding (wpAny_mono h₁ (fun it s₂ h₂ => ?_) fun _ _ h' => h'))))))) fun _ _ h' => h')))
  unfold runOwn
  refine wpC_onRaise (wpC_run (codeC_mono h₂ fun r s' hr => ?_))
  cases r with
  | ok f => exact hr
  | error e => exact hr.elim
theorem is_other' {x y : Addr} {ox oy : Obj} {Q : Value → Shared → Prop} (hxy : x ≠ y) (hx : s.heap.get? x = some ox) (hy : s.heap.get? y = some oy) (hnt : oy.cls ≠ .type "tuple")
    (h : Q (.bool false) s) : wpAny M A (compareOp .Is (.ref x) (.ref y)) Q E s := by
  show wpAny M A (do return .bool (← isSame (.ref x) (.ref y))) Q E s
  refine wpAny_bind ?_
  show wpAny M A (if (x == y) = true then pure true else _) _ E s
  rw [if_neg (by simpa using hxy)]
  refine wpAny_bind (wpAny_load hx (wpAny_bind (wpAny_load hy ?_)))
  split
  · rename_i _ h1 _ _; exact absurd h1 hnt
  · exact wpAny_pure (wpAny_pure h)
end
section
variable {w : World} {g h₀ h : Heap} {A : Around} {L : Addr} {m : Str → Option Value} {D : Heap → Prop} {E : Value → Shared → Prop} {gn : Array GenState} {dr : Drawn} {tk : Nat} {os : OsState} {prog : Program} {l : Addr} {vs : List Value}
theorem In.iterCall (I : In g A h₀ L h m D) {Q : Value → Shared → Prop} (hl : Sq "list" l vs h)
    (hQ : ∀ h' it, In g A h₀ L h' m D → h'.IsListIter it l 0 → h₀.get? it = none → g.get? it = none → Q (.ref it) ⟨h', gn, dr, tk, os⟩) : wpAny (model prog w) A (call (.builtin "iter") [.ref l]) Q E ⟨h, gn, dr, tk, os⟩ := by
  refine call_function_entry (by decide +kernel) (by decide +kernel) kdk_entry_iter (kdk_args_iter _) ?_
  unfold Builtin.«iter»
  refine wpAny_bind (m := someArgs "iter" 1 2 _) (wpAny_of_eq (a := [Value.ref l]) (by first | rfl | kernel_rfl!) ?_)
  show wpAny _ _ (pyIter (.ref l) >>= _) _ _ _
  have e : h.get? h.objs.size = none := Heap.get?_none_of_le (Nat.le_refl _)
  refine wpAny_bind (wpAny_pyIter_list hl.lst ?_)
  exact wpAny_pure ⟨_, rfl, hQ _ _ (I.push _) ⟨_, Heap.get?_push_size _ rfl, rfl, rfl⟩ (I.new e) (I.gnew e)⟩
end
end Mine
end
-- C8
section
open PySem PySem.W PyProof.Rows PySem.Calls PySem.Spec
set_option maxRecDepth 100000
namespace Mine
/-- the heap at the law's start without its table of codes -/
abbrev gh (h : Heap) : Heap := ghostOf h [(101, 99)]
/-- the same with the table as the lambda leaves it -/
abbrev gh2 (h : Heap) (ps : Array Value) : Heap := h.update 99 fun _ => tabObj ps
section
variable {w : World} {h₁ : Heap} {p : Program} {loose : List Str} {mean : ExcName → Option Value} {mg mb : Str → Option Value}
theorem tabsAt (X : (hd.heap_39 w.params).In h₁) (hc : codeHdIn (hd.heap_39 w.params) 101 99 = true) (h99 : h₁.get? 99 = some (tabObj #[])) : TabsAt [(101, 99)] h₁ := fun q hq => by
  rw [List.mem_singleton.mp hq]
  exact ⟨codeHd_of_K X hc, h99⟩
theorem gh_bs (hT : TabsAt [(101, 99)] h₁) (X : (hd.heap_39 w.params).In h₁) (hK : noTabs (hd.heap_39 w.params) = true) (T : Top p loose mean mg mb h₁) : Bs w (gh h₁) mg mb := ⟨ghost_K hT X hK, _, _, _, ghost_top hT T⟩
theorem gh_stays (ps : Array Value) : (gh h₁).StaysIn (gh2 h₁ ps) := fun b o e => by
  have hne : b ≠ 99 := fun q => by
    subst q
    have z : (gh h₁).get? 99 = none := hideAll_none [99] (by simp)
    rw [z] at e; cases e
  rw [Heap.get?_update_other _ _ (Ne.symm hne)]
  exact of_hideAll _ e
theorem Bs.keeps {g g' : Heap} (B : Bs w g mg mb) (st : g.StaysIn g') : Bs w g' mg mb := ⟨B.x.keeps st, let ⟨p, l, m, T⟩ := B.t; ⟨p, l, m, T.keeps st⟩⟩
/-- into the law -/
theorem enterL {gn : Array GenState} {dr : Drawn} {tk : Nat} {os : OsState} {name qual : Str} {params : Arguments} {body : List Stmt} {scope : Scope} {dV kV doc pm cdv ct oc : Value} {an od : Option Addr} {osl : Array (Option Value)} {f : Addr}
    {vs : List Value} {binds : List (Str × Value)} {D : Heap → Prop} {Q E : Value → Shared → Prop} (dD : D h₁) (sD : ∀ h h', Up h h' → D h → D h') (X : (hd.heap_39 w.params).In h₁) (T : Top p loose mean mg mb h₁)
    (ho : (hd.heap_39 w.params).lookup f = some ⟨oc, od, .func (fnOf name qual params body scope dV kV doc pm an cdv ct), osl⟩) (hcd : codeIn (hd.heap_39 w.params) cdv qual = true)
    (hbind : BindsTo ⟨h₁, gn, dr, tk, os⟩ (fnOf name qual params body scope dV kV doc pm an cdv ct) ⟨vs, []⟩ binds) (hloc : ∀ y ∈ binds, scope.names.lookup y.1 = some .local)
    (hco : scope.isCoroutine = false) (hgen : scope.isGenerator = false) (hk : scope.kind = .function) (hcell : ∀ x ∈ scope.names, x.2 ≠ .cell)
    (hb : ∀ (A : Around) (L : Addr) (h₂ : Heap) (tk' : Nat), A.depth = 302 → A.units = 7 → A.frames = some [envOf qual scope L f cdv] → h₁.objs.size ≤ L → In h₁ A h₁ L h₂ (fun y => binds.reverse.lookup y) D →
      wpC (model PySem.Challenge.rw_mr0134_01.row.prog w) A (execs body (envOf qual scope L f cdv)) (fun fl s' => Q (match fl with | .ret v => v | _ => .none) s') (fun _ _ => False) ⟨h₂, gn, dr, tk', os⟩) :
    wpC (model PySem.Challenge.rw_mr0134_01.row.prog w) callerA (call (.ref f) vs) Q E ⟨h₁, gn, dr, tk, os⟩ := by
  refine wpC_call (codeC_callFun (fd := fnOf name qual params body scope dV kV doc pm an cdv ct) (by decide) (X _ _ ho) rfl hco hgen (codeRec_of X hcd) ?_)
  refine hbind _ _ _ _ ?_
  refine wpAny_newFunctionEnv hcell hloc (fun h₂ hns hsb => ⟨T.nolimit.fresh _ hsb, ?_⟩) hk
  have hk₁ : ∀ b o, h₁.get? b = some o → h₂.get? b = some o := fun b o e => hsb.extBut b o (Nat.ne_of_lt (Heap.lt_size e)) (Heap.get?_push_of_some _ e)
  have st : h₁.StaysIn h₂ := hk₁
  have hsz : h₁.objs.size ≤ h₁.objs.size := Nat.le_refl _
  refine codeC_func (hb (callerA.deeper (envOf qual scope h₁.objs.size f cdv)) h₁.objs.size h₂ _ rfl rfl rfl (Nat.le_refl _) ⟨⟨hns, st, hsz⟩, .of_keeps st, hsz, ⟨_, Around.frames_deeper rfl, ?_⟩, rfl, sD _ _ (Kp.of_keeps hk₁).up dD, sD⟩)
  exact Heap.FunFrames.cons (by show scope.kind ≠ .module; rw [hk]; decide) rfl hns (Heap.get?_none_of_le hsz) trivial
end
section
variable {w : World} {g h₀ h : Heap} {A : Around} {L : Addr} {m : Str → Option Value} {D : Heap → Prop} {E : Value → Shared → Prop} {gn : Array GenState} {dr : Drawn} {tk : Nat} {os : OsState} {prog : Program} {value slice : Expr} {Q : Value → Shared → Prop} {l sl : Addr} {vs : List Value} {t : Tok}
theorem In.cutL (I : In g A h₀ L h m D) {vl vu : Value} {lo hi : Option Int} (hl : h.IsList l vs.toArray) (hsl : h.IsSliceOf sl vl vu .none) (pl : IsPart vl lo) (pu : IsPart vu hi) (hsz : vs.length ≤ sizeLine)
    (hQ : ∀ h' d, In g A h₀ L h' m (fun h => Sq "list" d (slicePick vs.toArray lo hi none).toList h ∧ D h) → h₀.get? d = none → Kp h h' → Q (.ref d) ⟨h', gn, dr, tk, os⟩)
    (hs : subscripted slice false (.ref l) (.ref sl) = operate [.ref sl, .ref l] (getItem (.ref l) (.ref sl)) := by with_unfolding_all rfl) :
    wpAny (model prog w) A (subscriptTail value slice (.ref l) (.ref sl)) Q E ⟨h, gn, dr, tk, os⟩ :=
  tail_any (s := ⟨h, gn, dr, tk, os⟩) hl.typeIs slot_list_getitem.lookup (wpAny_getItem_list_slice hl hsl pl pu .none (by intro q; cases q) (hQ _ _ ((I.push _).also ⟨_, _, Heap.get?_push_size _ rfl, rfl, rfl, rfl⟩ fun _ _ => Sq.up) (I.new (Heap.get?_none_of_le (Nat.le_refl _))) (Kp.of_keeps fun _ _ e => Heap.get?_push_of_some _ e)) (by rw [List.size_toArray]; exact hsz)) hs
theorem In.cutToL (I : In g A h₀ L h m D) {n : Nat} (hl : h.IsList l vs.toArray) (hsl : h.IsSliceOf sl .none (.int (n : Int) t) .none) (hsz : vs.length ≤ sizeLine)
    (hQ : ∀ h' d, In g A h₀ L h' m (fun h => Sq "list" d (vs.take n) h ∧ D h) → h₀.get? d = none → Kp h h' → Q (.ref d) ⟨h', gn, dr, tk, os⟩)
    (hs : subscripted slice false (.ref l) (.ref sl) = operate [.ref sl, .ref l] (getItem (.ref l) (.ref sl)) := by with_unfolding_all rfl) :
    wpAny (model prog w) A (subscriptTail value slice (.ref l) (.ref sl)) Q E ⟨h, gn, dr, tk, os⟩ :=
  I.cutL hl hsl .none (.int _ _) hsz (fun h' d I' n' K => hQ h' d (by rw [slicePick_upto'] at I'; exact I') n' K) hs
end
section
variable {w : World} {h₁ h : Heap} {A : Around} {L : Addr} {m mg mb : Str → Option Value} {D : Heap → Prop} {E : Value → Shared → Prop} {gn : Array GenState} {dr : Drawn} {tk : Nat} {os : OsState} {p : Program} {loose : List Str} {mean : ExcName → Option Value} {q : Str} {sc : Scope} {a : Addr} {params : Arguments} {body : Expr} {scope : Scope} {pos : Pos} {Q : Value → Shared → Prop}
theorem In.lambda (hT : TabsAt [(101, 99)] h₁) (T : Top p loose mean mg mb h₁) (hL : h₁.objs.size ≤ L) (hfr : A.frames = some [envOf q sc L a (.ref 101)]) (I : In h₁ A h₁ L h m D)
    (hdef : defaultsOf params (envOf q sc L a (.ref 101)) = ([], [])) (hcl : closureFor scope (envOf q sc L a (.ref 101)) = pure [])
    (hQ : ∀ f c' ctv h' tk' ps pm, In (gh2 h₁ ps) A (gh2 h₁ ps) L h' m D → h'.get? f = some (kla_obj (Str.ofString "<lambda>") ((envOf q sc L a (.ref 101)).qual ++ "<lambda>") params body scope [] pm c' ctv) → h'.CodeRec (.ref c') ((envOf q sc L a (.ref 101)).qual ++ "<lambda>") → Q (.ref f) ⟨h', gn, dr, tk', os⟩) :
    wpAny (model PySem.Challenge.rw_mr0134_01.row.prog w) A (eval (.Lambda params body scope pos) (envOf q sc L a (.ref 101))) Q E ⟨h, gn, dr, tk, os⟩ := by
  have h991 : h₁.get? 99 = some (tabObj #[]) := (hT _ (.head _)).2
  have h99 : h.get? 99 = some (tabObj #[]) := I.stays _ _ h991
  refine kla_eval hdef ?_
  have T' := T
  have hgs : h.Ns mainGlobals mg := T'.g.keeps I.stays
  obtain ⟨bm, ob, b1, b2, b3, b4, b5, b6⟩ := T'.bmain
  have hgP : mainGlobals ≠ 99 := by decide
  have hbP : bm ≠ 99 := fun z => by
    have e := I.stays _ _ b3
    rw [z, h99] at e; cases e; cases b4
  have hbG : bm ≠ mainGlobals := fun z => by
    obtain ⟨o, es, ep, e, hd, _⟩ := T'.g
    rw [z, e] at b3; cases b3; rw [hd] at b6; cases b6
  have C : CodeHd h 101 99 := (hT _ (.head _)).1.keeps I.stays
  refine kla_makeFunction (s := ⟨h, gn, dr, tk, os⟩) (mg := mg) (clos := []) hcl rfl hgs rfl C h99 trivial rfl hgP ⟨bm, ob, b1, b2, hbG, hbP, I.stays _ _ b3, b4, b5, b6⟩ fun c' ctv h' tk' hx hge hlt hrec htb => ?_
  dsimp only at hx hge htb
  have kx : ∀ b o, b ≠ 99 → h.get? b = some o → (h'.push (kla_obj (Str.ofString "<lambda>") ((envOf q sc L a (.ref 101)).qual ++ "<lambda>") params body scope [] ((mg "__name__").getD .none) c' ctv)).get? b = some o := fun b o hb e => Heap.get?_push_of_some _ (hx b o hb e)
  have h9' := Heap.get?_push_of_some (h := h') (kla_obj (Str.ofString "<lambda>") ((envOf q sc L a (.ref 101)).qual ++ "<lambda>") params body scope [] ((mg "__name__").getD .none) c' ctv) htb
  have hLne : L ≠ 99 := fun z => Nat.lt_irrefl 99 (Nat.lt_of_lt_of_le (show 99 < h₁.objs.size from Heap.lt_size h991) (z ▸ hL))
  obtain ⟨cc, oc, vs, t, e2, hoc, hdc, hv⟩ := hrec
  refine hQ h'.objs.size c' ctv _ tk' (#[] ++ #[rawInt pos.line, rawInt pos.col, .ref c']) ((mg "__name__").getD .none) ?_ (Heap.get?_push_size _ rfl) ⟨cc, oc, vs, t, e2, Heap.get?_push_of_some _ hoc, hdc, hv⟩
  have hsz : (gh2 h₁ (#[] ++ #[rawInt pos.line, rawInt pos.col, .ref c'])).objs.size = h₁.objs.size := Heap.size_after_update _ _ _
  have g9 : (gh2 h₁ (#[] ++ #[rawInt pos.line, rawInt pos.col, .ref c'])).get? 99 = some (tabObj (#[] ++ #[rawInt pos.line, rawInt pos.col, .ref c'])) := Heap.get?_update_self _ h991 rfl
  have st : (gh2 h₁ (#[] ++ #[rawInt pos.line, rawInt pos.col, .ref c'])).StaysIn (h'.push (kla_obj (Str.ofString "<lambda>") ((envOf q sc L a (.ref 101)).qual ++ "<lambda>") params body scope [] ((mg "__name__").getD .none) c' ctv)) := fun b o e => by
    by_cases z : b = 99
    · subst z
      rw [g9] at e
      cases e
      exact h9'
    · have e' : h₁.get? b = some o := by
        rw [Heap.get?_update_other _ _ (Ne.symm z)] at e
        exact e
      exact kx b o z (I.stays b o e')
  have ns' := (I.fr.ns.extBut hx hLne).push (kla_obj (Str.ofString "<lambda>") ((envOf q sc L a (.ref 101)).qual ++ "<lambda>") params body scope [] ((mg "__name__").getD .none) c' ctv)
  have U : Up h (h'.push (kla_obj (Str.ofString "<lambda>") ((envOf q sc L a (.ref 101)).qual ++ "<lambda>") params body scope [] ((mg "__name__").getD .none) c' ctv)) := fun b o vs n e d => ⟨o.slots, kx b o (fun z => by subst z; rw [h99] at e; cases e; cases d) e⟩
  obtain ⟨l, hl, ff⟩ := I.fs
  rw [hfr] at hl
  cases hl
  refine ⟨⟨ns', st, by rw [hsz]; exact hL⟩, .of_keeps st, by rw [hsz]; exact hL, ⟨_, hfr, ?_⟩, I.hh, I.st _ _ U I.data, I.st⟩
  exact Heap.FunFrames.cons ff.1 rfl ns' (Heap.get?_none_of_le (by rw [hsz]; exact hL)) trivial
end
end Mine
end
-- M1
section
open PySem PySem.W PyProof.Rows PySem.Calls PySem.Spec
set_option maxRecDepth 100000
namespace Mine
theorem slot_map_init : Slot "map" "__init__" "object.__init__" :=
  .of (owner := "object") (n := "__init__") (by rw [typeLookup_type, builtinLookup_eq_fast]; kernel_rfl) (by decide +kernel) (by decide +kernel) (by decide +kernel)
    (by first | exact .inl (by decide +kernel) | exact .inr (by decide +kernel)) (by rw [isSubtype_type]; kernel_rfl)
theorem slot_map_next : Slot "map" "__next__" "map.__next__" :=
  .of (owner := "map") (n := "__next__") (by rw [typeLookup_type, builtinLookup_eq_fast]; kernel_rfl) (by decide +kernel) (by decide +kernel) (by decide +kernel)
    (by first | exact .inl (by decide +kernel) | exact .inr (by decide +kernel)) (by rw [isSubtype_type]; kernel_rfl)
theorem slot_map_iter : Slot "map" "__iter__" "map.__iter__" :=
  .of (owner := "map") (n := "__iter__") (by rw [typeLookup_type, builtinLookup_eq_fast]; kernel_rfl) (by decide +kernel) (by decide +kernel) (by decide +kernel)
    (by first | exact .inl (by decide +kernel) | exact .inr (by decide +kernel)) (by rw [isSubtype_type]; kernel_rfl)
theorem entry_map_next : entryFor table "map.__next__" = some Builtin.«map.__next__» := entryFor_of_tree (by kernel_rfl)
theorem entry_map_new : entryFor table "map.__new__" = some Builtin.«map.__new__» := entryFor_of_tree (by kernel_rfl)
theorem entry_map_iter : entryFor table "map.__iter__" = some Builtin.«dict_keyiterator.__iter__» :=
  entryFor_alias (id' := "dict_keyiterator.__iter__") (by kernel_rfl) (by first | rfl | decide +kernel | (unfold String.splitOn; simp +decide [String.splitOnAux])) (by decide +kernel) (by kernel_rfl)
theorem args_map_next (a : Value) : argsOk "map.__next__" ⟨[a], []⟩ := by unfold argsOk; kernel_rfl
theorem args_map_iter (a : Value) : argsOk "map.__iter__" ⟨[a], []⟩ := by unfold argsOk; kernel_rfl
theorem mro_map : mroOf (.type "map") = pure [.type "map", .type "object"] := by rw [mroOf_type]; kernel_rfl
theorem lookup_map_new : typeLookup (.type "map") "__new__" = pure (some (.builtin "map.__new__")) := by rw [typeLookup_type, builtinLookup_eq_fast]; kernel_rfl
theorem called_map : TypeCalled "map" "map.__new__" "object.__init__" :=
  ⟨by decide +kernel, by decide +kernel, ⟨_, _, mro_map⟩, madeBy_type mro_map lookup_map_new (by decide +kernel), by decide +kernel, by rw [isSubtype_type]; kernel_rfl, slot_map_init⟩
theorem typeCall_map_2 (a b : Value) : checkTypeCall "map" ⟨[a, b], []⟩ = pure () := by kernel_rfl
theorem newCall_map_2 (a b : Value) : checkBuiltinCall "map.__new__" ⟨[.type "map", a, b], []⟩ = pure () := by kernel_rfl
theorem sub_map : isSubtype (.type "map") (.type "map") = pure true := by rw [isSubtype_type]; kernel_rfl
theorem map_no_len : typeLookup (.type "map") (Str.ofString "__len__") = pure none := by rw [typeLookup_type, builtinLookup_eq_fast]; kernel_rfl
theorem map_no_hint : typeLookup (.type "map") (Str.ofString "__length_hint__") = pure none := by rw [typeLookup_type, builtinLookup_eq_fast]; kernel_rfl
/-- a map over one iterator -/
abbrev IsMap (h : Heap) (m T : Addr) (f : Value) : Prop := h.get? m = some { cls := .type "map", data := .fields #[.ref T, f] }
abbrev IsOne (h : Heap) (T : Addr) (a : Value) : Prop := h.get? T = some { cls := .type "tuple", data := .seq #[a] }
section
variable {prog : Program} {w : World} {A : Around} {E : Value → Shared → Prop} {s : Shared}
theorem pyIter_map {m T : Addr} {f : Value} {Q : Value → Shared → Prop} (hz : IsMap s.heap m T f) (h : Q (.ref m) s) : wpAny (model prog w) A (pyIter (.ref m)) Q E s := by
  have hT : s.TypeIs (.ref m) "map" := ⟨_, hz, rfl⟩
  refine wpAny_pyIter_slot hT slot_map_iter (wpAny_call_entry slot_map_iter hT entry_map_iter ?_ (args_map_iter _))
  show wpAny _ _ (ret (.ref m)) _ _ s
  exact wpAny_pure ⟨_, rfl, "map", _, hT, slot_map_next.lookup, h⟩
abbrev mapH1 (h : Heap) (l : Addr) : Heap := h.push { cls := .type "list_iterator", data := .fields #[.ref l, .int 0 0] }
abbrev mapH2 (h : Heap) (l : Addr) : Heap := (mapH1 h l).push { cls := .type "tuple", data := .seq #[.ref h.objs.size] }
abbrev mapH3 (h : Heap) (l : Addr) (f : Value) : Heap := (mapH2 h l).push { cls := .type "map", data := .fields #[.ref (mapH1 h l).objs.size, f] }
theorem meets_map_list (f : Value) (l : Addr) (xs : Array Value) :
    Meets (Builtin.«map.__new__» ⟨[.type "map", f, .ref l], []⟩) (fun _ R s => s.heap.IsList l xs ∧ R (.ok (.ret (.ref (mapH2 s.heap l).objs.size))) { s with heap := mapH3 s.heap l f }) :=
  .of_wp fun prog w A R s h => by
    obtain ⟨hp, g, d, tk, os⟩ := s; obtain ⟨hl1, h⟩ := h
    have hsub := sub_map
    have hL1 : Heap.IsList (Shared.heap ⟨hp, g, d, tk, os⟩) l xs := hl1
    wp_walk using wpAny_pyIter_list hL1
    exact ⟨_, rfl, h⟩
theorem meets_map_map (f : Value) (m T : Addr) (g : Value) :
    Meets (Builtin.«map.__new__» ⟨[.type "map", f, .ref m], []⟩) (fun _ R s => IsMap s.heap m T g ∧ R (.ok (.ret (.ref (s.heap.objs.size + 1)))) { s with heap := (s.heap.push { cls := .type "tuple", data := .seq #[.ref m] }).push { cls := .type "map", data := .fields #[.ref s.heap.objs.size, f] } }) :=
  .of_wp fun prog w A R s h => by
    obtain ⟨hp, g, d, tk, os⟩ := s; obtain ⟨hl1, h⟩ := h
    have hsub := sub_map
    have hL1 : IsMap (Shared.heap ⟨hp, g, d, tk, os⟩) m T _ := hl1
    wp_walk using pyIter_map hL1
    rw [Heap.size_push]
    exact ⟨_, rfl, h⟩
end
end Mine
end
-- M2
section
open PySem PySem.W PyProof.Rows PySem.Calls PySem.Spec
set_option maxRecDepth 100000
namespace Mine
section
variable {prog : Program} {w : World} {A : Around} {E : Value → Shared → Prop} {s : Shared}
theorem special_C {self : Value} {T : String} {name : Str} {id : String} {b : Builtin} {Q : Option Value → Shared → Prop} (hT : s.TypeIs self T) (h : Slot T name id) (hb : entryFor table id = some b) (ha : argsOk id ⟨[self], []⟩)
    (hc : wpC (model prog w) A.in1 (b ⟨[self], []⟩) (fun fin s' => ∃ v, fin = .done (.ret v) ∧ Q (some v) s') E s) : wpC (model prog w) A (callSpecial? self name) Q E s := by
  simp only [callSpecial?]
  refine wpC_next (wpAny_specialOf hT h.lookup ?_)
  simp only [h.bind]
  refine wpC_holding (wpC_next (wpAny_pure (wpC_bind (wpC_mono (Q := fun v s' => Q (some v) s') ?_ (fun v s' h' => wpC_pure h') fun _ _ h' => h'))))
  refine wpC_call (codeC_call_builtin h.plain hb (h.check _ _ _ _ _ _ _ _ hT ha (wpC_mono hc (fun fin s' h' => ?_) fun _ _ h' => h')))
  obtain ⟨v, rfl, hv⟩ := h'
  exact hv
theorem nextOf_C {it : Addr} {T : String} {id : String} {b : Builtin} {Q : Value → Shared → Prop} (hT : s.TypeIs (.ref it) T) (h : Slot T "__next__" id) (hb : entryFor table id = some b) (ha : argsOk id ⟨[.ref it], []⟩)
    (hc : wpC (model prog w) A.in1 (b ⟨[.ref it], []⟩) (fun fin s' => ∃ v, fin = .done (.ret v) ∧ Q v s') E s) : wpC (model prog w) A (Builtin.SmallTypes.nextOf (.ref it)) Q E s := by
  unfold Builtin.SmallTypes.nextOf
  refine wpC_bind (special_C hT h hb ha (wpC_mono hc (fun fin s' h' => ?_) fun _ _ h' => h'))
  obtain ⟨v, rfl, hv⟩ := h'
  exact ⟨v, rfl, wpC_pure hv⟩
theorem map_body {m T : Addr} {f a : Value} {Q : Value → Shared → Prop} (hm : IsMap s.heap m T f) (hT : IsOne s.heap T a)
    (hn : wpC (model prog w) A (Builtin.SmallTypes.nextOf a) (fun x s₁ => IsMap s₁.heap m T f ∧ wpC (model prog w) A (call f [x]) Q E s₁) E s) :
    wpC (model prog w) A (Builtin.«map.__next__» ⟨[.ref m], []⟩) (fun fin s' => ∃ v, fin = .done (.ret v) ∧ Q v s') E s := by
  show wpC _ _ (field (.ref m) 0 >>= _) _ _ _
  refine wpC_next (wpAny_field hm rfl (x := .ref T) rfl ?_)
  refine wpC_next (wpAny_seqItems hT rfl ?_)
  simp only [← Array.forIn_toList, List.forIn_cons, List.forIn_nil]
  refine wpC_bind ?_
  refine wpC_bind (wpC_bind (wpC_holding (wpC_mono hn (fun x s₁ h₁ => ?_) fun _ _ x => x)))
  refine wpC_pure (wpC_pure ?_)
  refine wpC_next (wpAny_field h₁.1 rfl (x := f) rfl ?_)
  refine wpC_bind (wpC_holding (wpC_mono h₁.2 (fun r s₂ h₂ => ?_) fun _ _ x => x))
  exact wpC_next (wpAny_letGo (wpC_pure ⟨r, rfl, h₂⟩))
end
end Mine
end
-- M3
section
open PySem PySem.W PyProof.Rows PySem.Calls PySem.Spec
set_option maxRecDepth 100000
namespace Mine
theorem sub_vs : isSubtype (.type "ValueError") (.type "StopIteration") = pure false := by rw [isSubtype_type]; kernel_rfl
/-- two maps, the one over the other, over a list -/
structure Maps (h : Heap) (m2 T2 m1 T1 it l : Addr) (vs : List Value) (i : Nat) : Prop where
  a : IsMap h m2 T2 (.type "str")
  b : IsOne h T2 (.ref m1)
  c : IsMap h m1 T1 (.type "int")
  d : IsOne h T1 (.ref it)
  e : h.IsListIter it l i
  f : h.IsList l vs.toArray
variable {m2 T2 m1 T1 it l : Addr} {vs : List Value} {i : Nat}
/-- all stays but the iterator and one list -/
def Ex (it S : Addr) (h h' : Heap) : Prop := ∀ b o, b ≠ it → b ≠ S → h.get? b = some o → h'.get? b = some o
theorem ne_map {h : Heap} {m T : Addr} {f : Value} (x : IsMap h m T f) {j : Nat} (y : h.IsListIter it l j) : m ≠ it := fun q => by
  subst q
  obtain ⟨o, e, c, _⟩ := y
  rw [x] at e; cases e; injection c with c; exact absurd c (by decide)
theorem ne_one {h : Heap} {T : Addr} {f : Value} (x : IsOne h T f) {j : Nat} (y : h.IsListIter it l j) : T ≠ it := fun q => by
  subst q
  obtain ⟨o, e, c, _⟩ := y
  rw [x] at e; cases e; injection c with c; exact absurd c (by decide)
theorem ne_lst {h : Heap} {vs : Array Value} (x : h.IsList l vs) {j : Nat} (y : h.IsListIter it l j) : l ≠ it := fun q => by
  subst q
  obtain ⟨o, e, c, _⟩ := y
  obtain ⟨o', e', c', _⟩ := x
  rw [e] at e'; cases e'; rw [c] at c'; injection c' with c'; exact absurd c' (by decide)
theorem Maps.next {h h' : Heap} (M : Maps h m2 T2 m1 T1 it l vs i) {j : Nat} (y : h'.IsListIter it l j) (S : Heap.SameBut it h h') : Maps h' m2 T2 m1 T1 it l vs j :=
  ⟨S.extBut _ _ (ne_map M.a M.e) M.a, S.extBut _ _ (ne_one M.b M.e) M.b, S.extBut _ _ (ne_map M.c M.e) M.c, S.extBut _ _ (ne_one M.d M.e) M.d, y, M.f.extBut S.extBut (ne_lst M.f M.e)⟩
theorem Maps.on {h h' : Heap} {S : Addr} {o : Obj} {us : Array Value} {c : Nat} (M : Maps h m2 T2 m1 T1 it l vs i) (hS : h.get? S = some o) (hc : o.cls = .type "list") (hl : S ≠ l) (k : Heap.SameBut S h h') : Maps h' m2 T2 m1 T1 it l vs i := by
  have n1 : ∀ {m T : Addr} {f : Value}, IsMap h m T f → m ≠ S := fun x q => by subst q; rw [x] at hS; cases hS; injection hc with hc; exact absurd hc (by decide)
  have n2 : ∀ {T : Addr} {f : Value}, IsOne h T f → T ≠ S := fun x q => by subst q; rw [x] at hS; cases hS; injection hc with hc; exact absurd hc (by decide)
  have n3 : it ≠ S := fun q => by
    subst q
    obtain ⟨o', e, c, _⟩ := M.e
    rw [hS] at e; cases e; rw [hc] at c; injection c with c; exact absurd c (by decide)
  exact ⟨k.extBut _ _ (n1 M.a) M.a, k.extBut _ _ (n2 M.b) M.b, k.extBut _ _ (n1 M.c) M.c, k.extBut _ _ (n2 M.d) M.d, M.e.extBut k.extBut n3, M.f.extBut k.extBut (Ne.symm hl)⟩
section
variable {prog : Program} {w : World} {A : Around} {E : Value → Shared → Prop} {s : Shared}
theorem draw {Q : Option Value → Shared → Prop} (M : Maps s.heap m2 T2 m1 T1 it l vs i) (hh : A.handled = none)
    (hend : vs[i]? = none → ∀ h', Heap.ExtBut it s.heap h' → Q none { s with heap := h' })
    (hitem : ∀ v, vs[i]? = some v → ∃ x t, v = .str x t ∧ x.length ≤ 400 ∧ (∀ c ∈ x.cps.toList, ok c = true) ∧
      (num x ≠ -1 → ∀ h' t' tk, Heap.SameBut it s.heap h' → Maps h' m2 T2 m1 T1 it l vs (i + 1) → Q (some (.str (figs (num x)) t')) { s with heap := h', toks := tk }) ∧
      (num x = -1 → ∀ h' tk e ob tt, Heap.ExtBut it s.heap h' → s.heap.get? e = none → h'.get? e = some ob → ob.cls = .type "ValueError" → ob.data = .fields #[tt, .none, .none, .none, .bool false, .none] → E (.ref e) { s with heap := h', toks := tk })) :
    wpC (model prog w) A (pyNext (.ref m2)) Q E s := by
  unfold pyNext
  have key : wpC (model prog w) A (callSpecial? (.ref m2) "__next__") (fun r s' => ∃ v, r = some v ∧ Q (some v) s')
      (fun e s' => (∃ a, e = .ref a ∧ s'.TypeIs e "StopIteration" ∧ Q none s') ∨ ∃ a, e = .ref a ∧ s'.TypeIs e "ValueError" ∧ E e s') s := by
    refine special_C ⟨_, M.a, rfl⟩ slot_map_next entry_map_next (args_map_next _) ?_
    refine wpC_mono (map_body (Q := fun v s' => Q (some v) s') M.a M.b ?_) (fun fin s' h' => ?_) fun _ _ x => x
    · refine nextOf_C ⟨_, M.c, rfl⟩ slot_map_next entry_map_next (args_map_next _) ?_
      refine wpC_mono (map_body (Q := fun v s' => IsMap s'.heap m2 T2 (.type "str") ∧ wpC (model prog w) A.in1 (call (.type "str") [v]) (fun v s' => Q (some v) s') _ s') M.c M.d ?_) (fun fin s' h' => h') fun _ _ x => x
      cases hv : vs[i]? with
      | none =>
        refine .of (wpAny_nextOf_list_end hh M.e M.f (by simpa using hv) fun h' e k ⟨o, ho, hc⟩ => .inl ⟨e, rfl, ⟨o, ho, hc⟩, hend hv h' k⟩)
      | some v =>
        obtain ⟨x, t, rfl, hl, ha, good, bad⟩ := hitem v hv
        refine .of (wpAny_nextOf_list_item M.e M.f (by simpa using hv) fun h' hit' k => ?_)
        have M' := M.next hit' k
        refine ⟨M'.c, ?_⟩
        by_cases q : num x = -1
        · refine int_bad (s := { s with heap := h' }) (by omega) (fun c hc => ok_lt (ha c hc)) (int_none q ha (by omega)) hh fun h'' tk e NE => ?_
          obtain ⟨ob, t, he, hc, hdt⟩ := NE.there
          refine .inr ⟨e, rfl, ⟨ob, he, hc⟩, bad q h'' tk e ob t (fun b o n eb => NE.keeps b o (k.extBut b o n eb)) ?_ he hc hdt⟩
          cases z : s.heap.get? e with
          | none => rfl
          | some o =>
            exfalso
            have hne : e ≠ it := fun q => by
              subst q
              obtain ⟨o', e', _⟩ := hit'
              have := NE.new
              rw [e'] at this; cases this
            have := k.extBut e o hne z
            rw [NE.new] at this
            cases this
        · refine .of (KIN.call_text (int_good q (by omega)) (by omega) ⟨M'.a, ?_⟩)
          have hnn : 0 ≤ num x := by rcases num_cases x with z | ⟨z, _⟩ <;> omega
          refine .of (PySem.P.str_of_int (log_small (k := x.length) hnn (num_lt x) (by omega)) ?_)
          exact good q h' _ _ k M'
    · obtain ⟨v, rfl, hv⟩ := h'
      exact ⟨v, rfl, v, rfl, hv⟩
  refine wpC_bind (wpC_attempt (wpC_mono key (fun r s' h' => ?_) fun e s' h' => ?_))
  · obtain ⟨v, rfl, hq⟩ := h'
    exact wpC_pure hq
  · rcases h' with ⟨a, rfl, ht, hq⟩ | ⟨a, rfl, ht, hq⟩
    · exact wpC_next (wpAny_isInstance (T := "StopIteration") (b := true) ht isSubtype_stop (wpC_pure hq))
    · exact wpC_next (wpAny_isInstance (T := "ValueError") (b := false) ht sub_vs (.of (wpAny_throw hq)))
end
end Mine
end
-- M4
section
open PySem PySem.W PyProof.Rows PySem.Calls PySem.Spec
set_option maxRecDepth 100000
namespace Mine
variable {m2 T2 m1 T1 it l S : Addr} {vs : List Value} {xs : List Str}
theorem Ex.refl (h : Heap) : Ex it S h h := fun _ _ _ _ e => e
theorem Ex.trans {h h' h'' : Heap} (x : Ex it S h h') (y : Ex it S h' h'') : Ex it S h h'' := fun b o n1 n2 e => y b o n1 n2 (x b o n1 n2 e)
theorem ex_it {h h' : Heap} (x : Heap.ExtBut it h h') : Ex it S h h' := fun b o n1 _ e => x b o n1 e
theorem ex_S {h h' : Heap} (x : Heap.SameBut S h h') : Ex it S h h' := fun b o _ n2 e => x.extBut b o n2 e
abbrev lst (us : List Value) (c : Nat) : Obj := { cls := .type "list", dict := none, data := .seq us.toArray c, slots := #[] }
theorem Maps.neS {h : Heap} {i : Nat} {us : List Value} {c : Nat} (M : Maps h m2 T2 m1 T1 it l vs i) (hS : h.get? S = some (lst us c)) : it ≠ S := fun q => by
  subst q
  obtain ⟨o, e, c', _⟩ := M.e
  rw [hS] at e; cases e; injection c' with c'; exact absurd c' (by decide)
section
variable {prog : Program} {w : World} {A : Around} {R : Result → Shared → Prop}
theorem extend_run (hx : StrsAre vs xs) (hok : ∀ x ∈ xs, x.length ≤ 400 ∧ ∀ c ∈ x.cps.toList, ok c = true) (hlen : xs.length ≤ 900) (hSl : S ≠ l) (hh : A.handled = none) :
    ∀ (n i : Nat) (s : Shared) (us : List Value) (c : Nat), n + i = vs.length → Maps s.heap m2 T2 m1 T1 it l vs i → s.heap.get? S = some (lst us c) → StrsAre us ((xs.take i).map fun x => figs (num x)) → (∀ x ∈ xs.take i, num x ≠ -1) →
    ((∀ x ∈ xs, num x ≠ -1) → ∀ h' tk us' c', Ex it S s.heap h' → h'.get? S = some (lst us' c') → StrsAre us' (xs.map fun x => figs (num x)) → R (.ok (.ret .none)) { s with heap := h', toks := tk }) →
    ((∃ x ∈ xs, num x = -1) → ∀ h' tk e ob tt, Ex it S s.heap h' → s.heap.get? e = none → h'.get? e = some ob → ob.cls = .type "ValueError" → ob.data = .fields #[tt, .none, .none, .none, .bool false, .none] → R (.error (.ref e)) { s with heap := h', toks := tk }) →
    codeC (model prog w) A (.builtin "list.extend.loop" ⟨[.ref S, .ref m2, .none], []⟩) R s := by
  have hvl := strs_len hx
  intro n
  induction n with
  | zero =>
    intro i s us c hi M hS hu hp hdone hfail
    refine codeC_builtin F.entry_extend_loop ?_
    rw [Around.under_plainId F.plain_extend_loop _]
    show wpC _ A.in1 (pyNext (.ref m2) >>= _) _ _ s
    have hxi : xs.take i = xs := List.take_of_length_le (by omega)
    refine wpC_bind (draw M hh (fun _ h' k => ?_) fun v hv => absurd hv (by rw [List.getElem?_eq_none (by omega)]; simp))
    have hS' : h'.get? S = some (lst us c) := k S _ (Ne.symm (M.neS hS)) hS
    rw [hxi] at hu hp
    exact wpC_pure (hdone hp h' s.toks us c (ex_it k) hS' hu)
  | succ n ih =>
    intro i s us c hi M hS hu hp hdone hfail
    refine codeC_builtin F.entry_extend_loop ?_
    rw [Around.under_plainId F.plain_extend_loop _]
    show wpC _ A.in1 (pyNext (.ref m2) >>= _) _ _ s
    have hlt : i < vs.length := by omega
    refine wpC_bind (draw M hh (fun hv => absurd hv (by rw [List.getElem?_eq_getElem hlt]; simp)) fun v hv => ?_)
    obtain ⟨x, t, hxi, rfl⟩ := strs_get hx hv
    have hxm : x ∈ xs := List.mem_of_getElem? hxi
    refine ⟨x, t, rfl, (hok x hxm).1, (hok x hxm).2, fun q h' t' tk k M' => ?_, fun q h' tk e ob tt k hn he hc hd => hfail ⟨x, hxm, q⟩ h' tk e ob tt (ex_it k) hn he hc hd⟩
    have hS' : h'.get? S = some (lst us c) := (k.2 S (Ne.symm (M.neS hS))).trans hS
    have hul : us.length = i := by rw [strs_len hu, List.length_map, List.length_take]; omega
    show wpC _ A.in1 (updateSeq S (·.push (.str (figs (num x)) t')) >>= _) _ _ _
    refine wpC_next (wpAny_updateSeq hS' rfl (wpC_pure ⟨plainId_quiet F.plain_extend_loop _, ?_⟩) (by show us.toArray.size ≤ _; rw [List.size_toArray, sizeLine_eq]; omega) (by show (us.toArray.push _).size ≤ sizeLine + 1; rw [Array.size_push, List.size_toArray, sizeLine_eq]; omega))
    have hS₂ := Heap.get?_update_self (Obj.mapSeq (·.push (.str (figs (num x)) t'))) hS' rfl
    obtain ⟨c₂, hS₃⟩ : ∃ c₂, (h'.update S (Obj.mapSeq (·.push (.str (figs (num x)) t')))).get? S = some (lst (us ++ [.str (figs (num x)) t']) c₂) := ⟨_, by rw [hS₂]; simp [Obj.mapSeq, lst]; rfl⟩
    have kS : Heap.SameBut S h' (h'.update S (Obj.mapSeq (·.push (.str (figs (num x)) t')))) := Heap.SameBut.update ..
    have M₂ := M'.on (us := #[]) (c := 0) hS' rfl hSl kS
    refine ih (i + 1) _ _ c₂ (by omega) M₂ hS₃ ?_ ?_ (fun ha h₃ tk₃ us₃ c₃ k₃ => hdone ha h₃ tk₃ us₃ c₃ (((ex_it k.extBut).trans (ex_S kS)).trans k₃)) fun hb h₃ tk₃ e ob tt k₃ hn => hfail hb h₃ tk₃ e ob tt (((ex_it k.extBut).trans (ex_S kS)).trans k₃) ?_
    · rw [take_more' hxi, List.map_append]
      exact strs_app hu (.cons _ _ .nil)
    · intro y hy
      rw [take_more' hxi] at hy
      rcases List.mem_append.mp hy with hy | hy
      · exact hp y hy
      · rw [List.mem_singleton.mp hy]; exact q
    · cases z : s.heap.get? e with
      | none => rfl
      | some o =>
        exfalso
        by_cases q1 : e = it
        · subst q1
          obtain ⟨o', e', _⟩ := M₂.e
          rw [hn] at e'; cases e'
        · by_cases q2 : e = S
          · subst q2
            rw [hn] at hS₃; cases hS₃
          · have := (ex_S kS : Ex it S _ _) e o q1 q2 (k.extBut e o q1 z)
            rw [hn] at this; cases this
theorem special_C1 {s : Shared} {E : Value → Shared → Prop} {self x : Value} {T : String} {name : Str} {id : String} {b : Builtin} {Q : Option Value → Shared → Prop} (hT : s.TypeIs self T) (h : Slot T name id) (hb : entryFor table id = some b) (ha : argsOk id ⟨[self, x], []⟩)
    (hc : wpC (model prog w) A.in1 (b ⟨[self, x], []⟩) (fun fin s' => match fin with | .done f => wants (fun v s₁ => Q (some v) s₁) E (.ok f) s' | .again c' => c'.quiet = true ∧ codeC (model prog w) A c' (wants (fun v s₁ => Q (some v) s₁) E) s') E s) : wpC (model prog w) A (callSpecial? self name [x]) Q E s := by
  simp only [callSpecial?]
  refine wpC_next (wpAny_specialOf hT h.lookup ?_)
  simp only [h.bind]
  refine wpC_holding (wpC_next (wpAny_pure (wpC_bind (wpC_mono (Q := fun v s' => Q (some v) s') ?_ (fun v s' h' => wpC_pure h') fun _ _ h' => h'))))
  exact wpC_call (codeC_call_builtin h.plain hb (h.check _ _ _ _ _ _ _ _ hT ha (wpC_mono hc (fun fin s' h' => h') fun _ _ h' => h')))
end
end Mine
end
-- M5
section
open PySem PySem.W PyProof.Rows PySem.Calls PySem.Spec
set_option maxRecDepth 100000
namespace Mine
variable {m2 T2 m1 T1 it l S : Addr} {vs : List Value} {xs : List Str}
section
variable {prog : Program} {w : World} {A : Around} {R : Result → Shared → Prop} {s : Shared}
theorem init_run (hx : StrsAre vs xs) (hok : ∀ x ∈ xs, x.length ≤ 400 ∧ ∀ c ∈ x.cps.toList, ok c = true) (hlen : xs.length ≤ 900) (hSl : S ≠ l) (hh : A.handled = none) (M : Maps s.heap m2 T2 m1 T1 it l vs 0) (hS : s.heap.get? S = some (lst [] 0))
    (hdone : (∀ x ∈ xs, num x ≠ -1) → ∀ h' tk us' c', Ex it S s.heap h' → h'.get? S = some (lst us' c') → StrsAre us' (xs.map fun x => figs (num x)) → R (.ok (.ret .none)) { s with heap := h', toks := tk })
    (hfail : (∃ x ∈ xs, num x = -1) → ∀ h' tk e ob tt, Ex it S s.heap h' → s.heap.get? e = none → h'.get? e = some ob → ob.cls = .type "ValueError" → ob.data = .fields #[tt, .none, .none, .none, .bool false, .none] → R (.error (.ref e)) { s with heap := h', toks := tk }) :
    wpC (model prog w) A.in1 (Builtin.«list.__init__» ⟨[.ref S, .ref m2], []⟩)
      (fun fin s' => match fin with | .done f => R (.ok f) s' | .again c' => c'.quiet = true ∧ codeC (model prog w) A c' R s') (fun e s' => R (.error e) s') s := by
  show wpC _ A.in1 (do let old ← Builtin.List.listItems (.ref S); Builtin.List.listUpdate (.ref S) (fun _ => #[]); letGo old.toList.reverse; Builtin.List.listExtendWith (.ref S) (.ref m2) .none) _ _ s
  refine wpC_bind ?_
  unfold Builtin.List.listItems
  refine wpC_next (wpAny_seqItems hS rfl (wpC_pure ?_))
  show wpC _ A.in1 (updateSeq S (fun _ => #[]) >>= fun _ => letGo (#[] : Array Value).toList.reverse >>= fun _ => Builtin.List.listExtendWith (.ref S) (.ref m2) .none) _ _ s
  refine wpC_next (wpAny_updateSeq hS rfl ?_)
  have hS₁ := Heap.get?_update_self (Obj.mapSeq (fun _ => (#[] : Array Value))) hS rfl
  have k₁ : Heap.SameBut S s.heap (s.heap.update S (Obj.mapSeq (fun _ => (#[] : Array Value)))) := Heap.SameBut.update ..
  have M₁ := M.on (us := #[]) (c := 0) hS rfl hSl k₁
  generalize hH : s.heap.update S (Obj.mapSeq (fun _ => (#[] : Array Value))) = H at hS₁ k₁ M₁ ⊢
  refine wpC_next (wpAny_letGo ?_)
  unfold Builtin.List.listExtendWith
  have hT : Shared.TypeIs { s with heap := H } (.ref m2) "map" := ⟨_, M₁.a, rfl⟩
  refine wpC_next (wpAny_typeOf hT ?_)
  have hne : S ≠ m2 := fun q => by
    subst q
    have e := M₁.a
    rw [IsMap, hS₁] at e
    have e := congrArg Obj.cls (Option.some.inj e)
    injection e with e
    exact absurd e (by decide)
  have h1 : Builtin.List.listSameRef (.ref S) (.ref m2) = false := by simp [Builtin.List.listSameRef, hne]
  have h2 : (Value.type "map" == Value.type "list") = false := by decide
  have h3 : (Value.type "map" == Value.type "tuple") = false := by decide
  simp only [h1, h2, h3, Bool.or_false, Bool.false_eq_true, if_false]
  refine wpC_next (pyIter_map (s := { s with heap := H }) M₁.a ?_)
  refine wpC_bind (wpC_holding ?_)
  unfold Builtin.List.listLengthHint
  refine wpC_next (wpAny_specialOf hT map_no_len ?_)
  show wpC _ A.in1 (specialOf (Value.ref m2) (Str.ofString "__length_hint__") >>= _) _ _ _
  refine wpC_next (wpAny_specialOf hT map_no_hint ?_)
  refine wpC_pure ?_
  show wpC _ A.in1 (rule "list.extend.makes-room" >>= fun _ => Builtin.List.listTouch (.ref S) >>= fun _ =>
    again (.builtin "list.extend.loop" ⟨[.ref S, .ref m2, .none], []⟩)) _ _ _
  refine wpC_next (wpAny_rule ?_)
  refine wpC_bind ?_
  show wpC _ A.in1 (updateSeq S (·.push .none) >>= fun _ => updateSeq S (·.pop)) _ _ _
  refine wpC_next (wpAny_updateSeq hS₁ rfl ?_)
  have hS₂ := Heap.get?_update_self (Obj.mapSeq (·.push Value.none)) hS₁ rfl
  have k₂ : Heap.SameBut S H (H.update S (Obj.mapSeq (·.push Value.none))) := Heap.SameBut.update ..
  have M₂ := M₁.on (us := #[]) (c := 0) hS₁ rfl hSl k₂
  generalize hH2 : H.update S (Obj.mapSeq (·.push Value.none)) = H₂ at hS₂ k₂ M₂ ⊢
  refine .of (wpAny_updateSeq (hz := by seq_fits) hS₂ rfl ?_)
  have hS₃ := Heap.get?_update_self (Obj.mapSeq (·.pop)) hS₂ rfl
  have k₃ : Heap.SameBut S H₂ (H₂.update S (Obj.mapSeq (·.pop))) := Heap.SameBut.update ..
  have M₃ := M₂.on (us := #[]) (c := 0) hS₂ rfl hSl k₃
  generalize hH3 : H₂.update S (Obj.mapSeq (·.pop)) = H₃ at hS₃ k₃ M₃ ⊢
  have K : Ex it S s.heap H₃ := ((ex_S k₁).trans (ex_S k₂)).trans (ex_S k₃)
  obtain ⟨c₃, hS₄⟩ : ∃ c₃, H₃.get? S = some (lst [] c₃) := ⟨_, hS₃⟩
  refine wpC_pure ⟨plainId_quiet F.plain_extend_loop _, extend_run hx hok hlen hSl hh vs.length 0 { s with heap := H₃ } [] c₃ (by omega) M₃ hS₄ .nil (by simp) (fun ha h' tk us' c' k => hdone ha h' tk us' c' (K.trans k)) fun hb h' tk e ob tt k hn => hfail hb h' tk e ob tt (K.trans k) ?_⟩
  cases z : s.heap.get? e with
  | none => rfl
  | some o =>
    exfalso
    by_cases q1 : e = it
    · subst q1
      obtain ⟨o', e', _⟩ := M₃.e
      rw [show H₃.get? e = none from hn] at e'; cases e'
    · by_cases q2 : e = S
      · subst q2
        rw [show H₃.get? e = none from hn] at hS₄; cases hS₄
      · have := K e o q1 q2 z
        rw [show H₃.get? e = none from hn] at this; cases this
/-- list over two maps -/
theorem list_maps {E : Value → Shared → Prop} {Q : Value → Shared → Prop} (hx : StrsAre vs xs) (hok : ∀ x ∈ xs, x.length ≤ 400 ∧ ∀ c ∈ x.cps.toList, ok c = true) (hlen : xs.length ≤ 900) (hh : A.handled = none) (M : Maps s.heap m2 T2 m1 T1 it l vs 0)
    (hdone : (∀ x ∈ xs, num x ≠ -1) → ∀ h' tk d us', Heap.ExtBut it s.heap h' → s.heap.get? d = none → Sq "list" d us' h' → StrsAre us' (xs.map fun x => figs (num x)) → Q (.ref d) { s with heap := h', toks := tk })
    (hfail : (∃ x ∈ xs, num x = -1) → ∀ h' tk e ob tt, Heap.ExtBut it s.heap h' → s.heap.get? e = none → h'.get? e = some ob → ob.cls = .type "ValueError" → ob.data = .fields #[tt, .none, .none, .none, .bool false, .none] → E (.ref e) { s with heap := h', toks := tk }) :
    wpC (model prog w) A (call (.type "list") [.ref m2]) Q E s := by
  have ft := F.called_list
  obtain ⟨c, tl, hmro⟩ := ft.mro
  have hmade := ft.made
  have h1 := ft.notType
  have h2 := ft.canCreate
  have hct := F.typeCall_list_1 (.ref m2)
  refine wpC_call (codeC_of_tree ?_)
  show wpC _ _ (callAny (.type "list") _) _ _ _
  refine wpC_pure ⟨Code.quiet_builtin _ (by decide +kernel), codeC_builtin F.entry_type_call ?_⟩
  rw [Around.under_plain (weight_type_call_type "list" [.ref m2] []) (units_type_call_type "list" [.ref m2] [])]
  unfold Builtin.«type.__call__»
  dsimp only
  rw [if_neg (by rw [h1]; decide), if_neg (by rw [h2]; decide), hct, pure_bind, hmro, pure_bind, if_neg (by simp), hmade, pure_bind]
  dsimp only
  rw [pure_bind]
  have hSz : s.heap.get? s.heap.objs.size = none := Heap.get?_none_of_le (Nat.le_refl _)
  refine wpC_next (wpAny_holding (wpAny_call (code_list_new _ ?_)))
  have hS : (s.heap.push { cls := .type "list", data := .seq #[] }).get? s.heap.objs.size = some (lst [] 0) := Heap.get?_push_size _ rfl
  have kp : ∀ b o, s.heap.get? b = some o → (s.heap.push { cls := .type "list", data := .seq #[] }).get? b = some o := fun b o e => Heap.get?_push_of_some _ e
  have M' : Maps (s.heap.push { cls := .type "list", data := .seq #[] }) m2 T2 m1 T1 it l vs 0 := ⟨kp _ _ M.a, kp _ _ M.b, kp _ _ M.c, kp _ _ M.d, let ⟨o, e, r⟩ := M.e; ⟨o, kp _ _ e, r⟩, let ⟨o, e, r⟩ := M.f; ⟨o, kp _ _ e, r⟩⟩
  have hSl : s.heap.objs.size ≠ l := fun q => by
    obtain ⟨o, e, _⟩ := M.f
    rw [← q, hSz] at e; cases e
  generalize hH : s.heap.push { cls := .type "list", data := .seq #[] } = H at hS kp M' ⊢
  have hT : Shared.TypeIs { s with heap := H } (.ref s.heap.objs.size) "list" := ⟨_, hS, rfl⟩
  refine wpC_next (wpAny_isInstance (T := "list") (b := true) hT sub_list_self ?_)
  rw [if_neg (by decide)]
  have back : ∀ h', Ex it s.heap.objs.size H h' → Heap.ExtBut it s.heap h' := fun h' k b o n e => k b o n (fun q => by rw [q, hSz] at e; cases e) (kp b o e)
  refine wpC_bind (wpC_holding (special_C1 (s := { s with heap := H }) hT F.slot_list_init F.entry_list_init (F.args_list_init_2 _ _) ?_))
  refine init_run (s := { s with heap := H }) (S := s.heap.objs.size) hx hok hlen hSl hh M' hS (fun ha h' tk us' c' k hs hu => ?_) fun hb h' tk e ob tt k hn he hc hd => ?_
  · show wpC _ _ (if (Value.none != Value.none) = true then _ else _) _ _ _
    rw [if_neg (by decide)]
    exact wpC_pure (hdone ha h' tk _ us' (back h' k) hSz ⟨_, c', hs, rfl, rfl, rfl⟩ hu)
  · refine hfail hb h' tk e ob tt (back h' k) ?_ he hc hd
    cases z : s.heap.get? e with
    | none => rfl
    | some o => exfalso; have := kp e o z; rw [show H.get? e = none from hn] at this; cases this
end
end Mine
end
section
open PySem PySem.W PyProof.Rows PySem.Calls PySem.Spec
set_option maxRecDepth 100000
namespace Mine
local macro_rules | `(tactic| walk_at "sq") => `(tactic| ((rename In _ _ _ _ _ _ _ => I9); first | exact (In.data I9).1 | exact (In.data I9).2.1 | exact (In.data I9).2.2.1 | exact (In.data I9).2.2.2.1 | exact (In.data I9).2.2.2.2.1 | exact (In.data I9).2.2.2.2.2.1 | exact (In.data I9) | exact (In.data I9).2 | exact (In.data I9).2.2 | exact (In.data I9).2.2.2 | exact (In.data I9).2.2.2.2 | exact (In.data I9).2.2.2.2.2))
local macro_rules | `(tactic| walk_at "st0") => `(tactic| (first
  | ((with_reducible show wpAny _ _ (execs (_ :: _) _) _ _ _); refine wpAny_execs_cons ?_)
  | ((with_reducible show wpAny _ _ (execs [] _) _ _ _); refine wpAny_execs_nil ?_)
  | ((with_reducible show wpAny _ _ (exec (Stmt.Return (some _) _) _) _ _ _); refine wpAny_Return_some ?_)
  | ((with_reducible show wpAny _ _ (exec (Stmt.If _ _ _ _) _) _ _ _); refine wpAny_If ?_)
  | ((with_reducible show wpAny _ _ (exec (Stmt.Assign [Expr.Name _ _] _ _) _) _ _ _); refine wpAny_Assign_Name ?_)
  | ((with_reducible show wpAny _ _ (exec (Stmt.Assign [Expr.Tuple _ _ _] (Expr.Tuple _ _ _) _) _) _ _ _); refine Assign_swap2 ?_)
  | ((with_reducible show wpAny _ _ (exec (Stmt.Assign [Expr.Tuple _ _ _] _ _) _) _ _ _); refine Assign_Tuple ?_)
  | ((with_reducible show wpAny _ _ (exec (Stmt.For _ _ _ _ _) _) _ _ _); refine wpAny_For ?_)
  | ((with_reducible show wpAny _ _ (exec (Stmt.While _ _ _ _) _) _ _ _); refine wpAny_While ?_)
  | ((with_reducible show wpAny _ _ (eval (Expr.IfExp _ _ _ _) _) _ _ _); refine wpAny_IfExp ?_)
  | ((with_reducible show wpAny _ _ (eval (Expr.Constant (Const.str _) _ _) _) _ _ _); refine wpAny_Constant_str ?_)
  | ((with_reducible show wpAny _ _ (eval (Expr.Constant (Const.int _) _ _) _) _ _ _); refine wpAny_Constant_int ?_)
  | ((with_reducible show wpAny _ _ (eval (Expr.BinOp _ _ _ _) _) _ _ _); refine wpAny_BinOp ?_)
  | ((with_reducible show wpAny _ _ (eval (Expr.UnaryOp _ _ _) _) _ _ _); refine wpAny_UnaryOp ?_)
  | ((with_reducible show wpAny _ _ (eval (Expr.Compare _ [_] [_] _) _) _ _ _); refine wpAny_Compare1 ?_)
  | ((with_reducible show wpAny _ _ (isTrue (Expr.Compare _ [_] [_] _) _ _) _ _ _); refine wpAny_isTrue_Compare1 ?_)
  | ((with_reducible show wpAny _ _ (truthy (Value.bool _)) _ _ _); refine wpAny_truthy_bool ?_)
  | ((with_reducible show wpAny _ _ (eval (Expr.Name _ _) _) _ _ _); first | refine In.loc (by assumption) (by first | rfl | assumption | (dsimp only; rw [if_neg (by decide)]; assumption)) ?_ | refine In.glob (by assumption) (by assumption) (by k_is) ?_ | refine In.blt (by assumption) (by assumption) (by k_is) (by kernel_rfl) ?_ | refine In.locE (by assumption) (by rfl) (by first | rfl | assumption) ?_ | refine In.globE (by assumption) (by assumption) (by rfl) (by k_is) ?_)
  | ((with_reducible show wpAny _ _ (bindName _ _ _) _ _ _); refine wpAny_bindName ?_)
  | ((with_reducible show wpAny _ _ (assign (Expr.Name _ _) _ _) _ _ _); refine assign_Name ?_)
  | ((with_reducible show wpAny _ _ (storeName _ _ _) _ _ _); (rename In _ _ _ _ _ _ _ => I0); (first | refine In.store I0 (by rfl) (by rfl) ?_ | refine In.storeE I0 (by rfl) (by rfl) (by rfl) ?_); clear I0; intro h' tk' I' S')
  | ((with_reducible show wpAny _ _ (unpackItems (Value.ref _) _ _) _ _ _); (rename In _ _ _ _ _ _ _ => I0); refine In.unpack I0 (by walk_at "sq") (by rfl) ?_; clear I0; intro h' I' K'; (try refine ⟨_, _, rfl, ?_⟩))
  | ((with_reducible show wpAny _ _ (assign (Expr.Tuple _ _ _) _ (Value.ref _)) _ _ _); (rename In _ _ _ _ _ _ _ => I0); refine In.assignTup I0 (by walk_at "sq") (by rfl) (by rfl) ?_; clear I0; intro h' I' K')
  | ((with_reducible show wpAny _ _ (assignInOrder _ _) _ _ _); first | refine wpAny_assignInOrder_none ?_ | refine wpAny_assignInOrder_more ?_)
  | ((with_reducible show wpAny _ _ (compareOp CmpOp.Eq (Value.str _ _) (Value.str _ _)) _ _ _); refine eq_str ?_)
  | ((with_reducible show wpAny _ _ (compareOp CmpOp.NotEq (Value.str _ _) (Value.str _ _)) _ _ _); refine ne_str ?_)
  | ((with_reducible show wpAny _ _ (compareOp CmpOp.NotIn (Value.str _ _) (Value.str _ _)) _ _ _); refine notIn_str ?_)
  | ((with_reducible show wpAny _ _ (compareOp CmpOp.Eq (Value.int _ _) (Value.int _ _)) _ _ _); refine eq_int ?_)
  | ((with_reducible show wpAny _ _ (compareOp CmpOp.NotEq (Value.int _ _) (Value.int _ _)) _ _ _); refine ne_int ?_)
  | ((with_reducible show wpAny _ _ (compareOp CmpOp.Gt (Value.int _ _) (Value.int _ _)) _ _ _); refine gt_int ?_)
  | ((with_reducible show wpAny _ _ (binaryOp Operator.Mod (Value.int _ _) (Value.int _ _)) _ _ _); refine mod_int (by decide) ?_)
  | ((with_reducible show wpAny _ _ (binaryOp Operator.FloorDiv (Value.int _ _) (Value.int _ _)) _ _ _); refine floordiv_int (by decide) ?_)
  | ((with_reducible show wpAny _ _ (binaryOp Operator.Add (Value.int _ _) (Value.int _ _)) _ _ _); refine add_int ?_)
  | ((with_reducible show wpAny _ _ (binaryOp Operator.Mult (Value.int _ _) (Value.int _ _)) _ _ _); refine mul_int ?_ (IntMulOk.of_right (by decide)))
  | ((with_reducible show wpAny _ _ (eval (Expr.Call (Expr.Attribute _ _ _) _ _ _) _) _ _ _); refine MethodCall_ ?_)
  | ((with_reducible show wpAny _ _ (getMethod (Value.str _ _) (Str.ofString "index") _) _ _ _); refine GM.index ?_)
  | ((with_reducible show wpAny _ _ (getMethod (Value.str _ _) (Str.ofString "split") _) _ _ _); refine GM.split ?_)
  | ((with_reducible show wpAny _ _ (getMethod (Value.str _ _) (Str.ofString "join") _) _ _ _); refine GM.join ?_)
  | ((with_reducible show wpAny _ _ (callWith _ (Value.builtin _) _ (backTo _ (starEach (_ :: _) _)) _) _ _ _); refine callWith_method1 ?_)
  | ((with_reducible show wpAny _ _ (binaryOp Operator.Sub (Value.int _ _) (Value.int _ _)) _ _ _); refine sub_int ?_)
  | ((with_reducible show wpAny _ _ (unaryOp UnaryOp.USub (Value.int _ _)) _ _ _); refine neg_int ?_)
  | ((with_reducible show wpAny _ _ (eval (Expr.List _ _) _) _ _ _); refine List_ ?_)
  | ((with_reducible show wpAny _ _ (eval (Expr.Tuple _ _ _) _) _ _ _); refine Tuple_ ?_)
  | ((with_reducible show wpAny _ _ (spliced (backTo _ (starEach [] _))) _ _ _); refine spliced_none ?_)
  | ((with_reducible show wpAny _ _ (spliced (backTo _ (starEach (_ :: _) _))) _ _ _); refine spliced_more ?_)
  | ((with_reducible show wpAny _ _ (newList _) _ _ _); (rename In _ _ _ _ _ _ _ => I0); refine In.list I0 (by first | decide | size_fits) ?_; clear I0; intro h' d' I' n' K')
  | ((with_reducible show wpAny _ _ (newTuple _) _ _ _); (rename In _ _ _ _ _ _ _ => I0); refine In.tuple I0 (by first | decide | size_fits) ?_; clear I0; intro h' d' I' n' K')
  | ((with_reducible show wpAny _ _ (isTrue (Expr.BoolOp BoolOp.Or [] _) _ _) _ _ _); refine isTrue_or_nil ?_)
  | ((with_reducible show wpAny _ _ (isTrue (Expr.BoolOp BoolOp.Or (_ :: _) _) _ _) _ _ _); refine isTrue_or ?_)
  | ((with_reducible show wpAny _ _ (eval (Expr.Call (Expr.Name _ _) _ [] _) _) _ _ _); refine wpAny_Call_NameR ?_)
  | ((with_reducible show wpAny _ _ (callWith _ (Value.ref _) [] (backTo _ (starEach (_ :: _) _)) []) _ _ _); refine callWith_K (Bs.x (by assumption)) (by k_is) ?_)
  | ((with_reducible show Frag.In _ _ ∧ _); refine ⟨Frag.In.keeps (Bs.x (by assumption)) (In.stays (by assumption)), ?_⟩)
  | ((with_reducible show wpAny _ _ (eval (Expr.Slice _ _ none _) _) _ _ _); refine In.slc (by assumption) ?_)
  | ((with_reducible show wpAny _ _ (evalPart none _) _ _ _); refine wpAny_evalPart_none ?_)
  | ((with_reducible show wpAny _ _ (evalPart (some _) _) _ _ _); refine wpAny_evalPart_some ?_)
  | ((with_reducible show ∃ tk', _ = Shared.mk _ _ _ tk' _ ∧ _); refine ⟨_, rfl, ?_⟩; (rename In _ _ _ _ _ _ _ => I0); clear I0; intro h' sl' I' K' hsl' heq'; clear heq')
  | ((with_reducible show wpAny _ _ (eval (Expr.Subscript _ _ _) _) _ _ _); refine Subscript_ ?_)))
local macro_rules | `(tactic| walk_at "st") => `(tactic| (walk_at "st0"; (try dsimp only)))
theorem fillG : (hd.heap_39 = hd.heap_39) ∧ PySem.Challenge.rw_mr0134_01 = PySem.Challenge.rw_mr0134_01 := by
  k_fill
  exact ⟨rfl, rfl⟩
-- G1
section
variable {w : World} {g h : Heap} {mg mb : Str → Option Value}
set_option maxHeartbeats 1000000 in
theorem spec_blank (B : Bs w g mg mb) (x : Str) (t : Tok) : Spec w g (.ref 36) [.str x t] 2 h (fun _ r => ∃ t', r = .str (if x = "unknown" then "" else x) t') := by
  have ⟨_, _, _, T⟩ := B.t
  refine enter (binds := [(Str.ofString "val", .str x t)]) (D := fun _ => True) trivial st_true B.x T (by k_is) (by k_is) (fun _ _ _ _ _ => BindsTo.of_eq rfl) (locs rfl) rfl rfl rfl (by decide) ?_
  intro A L h₁ gn dr tk os Q E I hd hu hret
  repeat walk_at "st"
  by_cases e : x = "unknown"
  · rw [if_pos (by rw [e]; decide)]
    repeat walk_at "st"
    exact hret _ _ _ I.keep I.stays ⟨_, by rw [if_pos e]⟩
  · rw [if_neg (by simpa using e)]
    repeat walk_at "st"
    exact hret _ _ _ I.keep I.stays ⟨_, by rw [if_neg e]⟩

theorem pack2 {d : Addr} {a : Int} {x y : Str} {t t' : Tok} (s : Sq "tuple" d [.int a t, .str x t'] h) (e : y = x) : ∃ d' t1 t2, Value.ref d = .ref d' ∧ Sq "tuple" d' [.int a t1, .str y t2] h := ⟨d, t, t', rfl, e ▸ s⟩
set_option maxHeartbeats 2000000 in
theorem spec_deed (B : Bs w g mg mb) (x : Int) (t : Tok) : Spec w g (.ref 52) [.int x t] 2 h (fun h' r => ∃ d t1 t2, r = .ref d ∧ Sq "tuple" d [.int (kindOf x) t1, .str (thing x) t2] h') := by
  have ⟨_, _, _, T⟩ := B.t
  refine enter (binds := [(Str.ofString "x", .int x t)]) (D := fun _ => True) trivial st_true B.x T (by k_is) (by k_is) (fun _ _ _ _ _ => BindsTo.of_eq rfl) (locs rfl) rfl rfl rfl (by decide) ?_
  intro A L h₁ gn dr tk os Q E I hd hu hret
  repeat walk_at "st"
  have b8 := fmod_lt x (n := 8) (by decide)
  have c4 := fmod_lt (x.fdiv 8) (n := 4) (by decide)
  have c8 := fmod_lt (x.fdiv 8) (n := 8) (by decide)
  by_cases e : kindOf x = 1
  · rw [if_pos (by show (kindOf x == 1) = true; rw [e]; decide)]
    repeat walk_at "st"
    obtain ⟨t', ht⟩ := strs_at (ys := menuB) (.cons _ _ (.cons _ _ (.cons _ _ (.cons _ _ .nil)))) (i := ((x.fdiv 8).fmod 4).toNat) (by show _ < 4; omega) (Str.ofString "")
    refine item_at (by walk_at "sq") c4.1 (by omega) ht ?_
    repeat walk_at "st"
    rename In _ _ _ _ _ _ _ => J
    exact hret _ _ _ J.keep J.stays (pack2 J.data.1 (by rw [thing, if_pos e]))
  · rw [if_neg (by show ¬(kindOf x == 1) = true; simpa using e)]
    repeat walk_at "st"
    by_cases e2 : kindOf x = 2
    · rw [if_pos (by show (kindOf x == 2) = true; rw [e2]; decide)]
      repeat walk_at "st"
      obtain ⟨t', ht⟩ := strs_at (ys := menuS) (.cons _ _ (.cons _ _ (.cons _ _ (.cons _ _ (.cons _ _ (.cons _ _ (.cons _ _ (.cons _ _ .nil)))))))) (i := ((x.fdiv 8).fmod 8).toNat) (by show _ < 8; omega) (Str.ofString "")
      refine item_at (by walk_at "sq") c8.1 (by omega) ht ?_
      repeat walk_at "st"
      rename In _ _ _ _ _ _ _ => J
      exact hret _ _ _ J.keep J.stays (pack2 J.data.1 (by rw [thing, if_neg e, if_pos e2]))
    · rw [if_neg (by show ¬(kindOf x == 2) = true; simpa using e2)]
      repeat walk_at "st"
      obtain ⟨t', ht⟩ := strs_at (ys := menuP) (.cons _ _ (.cons _ _ (.cons _ _ (.cons _ _ (.cons _ _ (.cons _ _ (.cons _ _ (.cons _ _ .nil)))))))) (i := ((x.fdiv 8).fmod 8).toNat) (by show _ < 8; omega) (Str.ofString "")
      refine item_at (by walk_at "sq") c8.1 (by omega) ht ?_
      repeat walk_at "st"
      rename In _ _ _ _ _ _ _ => J
      exact hret _ _ _ J.keep J.stays (pack2 J.data.1 (by rw [thing, if_neg e, if_neg e2]))
end
-- G2
section
variable {w : World} {g h : Heap} {mg mb : Str → Option Value}
open NumText
theorem take_more {cs : List Nat} {i c : Nat} (h : cs[i]? = some c) : cs.take (i + 1) = cs.take i ++ [c] := by simp [List.take_add_one, h]
set_option maxHeartbeats 2000000 in
theorem spec_number (B : Bs w g mg mb) (x : Str) (t : Tok) (hx : Asc x) : Spec w g (.ref 64) [.str x t] 2 h (fun _ r => ∃ t', r = .int (num x) t') := by
  have ⟨_, _, _, T⟩ := B.t
  refine enter (binds := [(Str.ofString "part", .str x t)]) (D := fun _ => True) trivial st_true B.x T (by k_is) (by k_is) (fun _ _ _ _ _ => BindsTo.of_eq rfl) (locs rfl) rfl rfl rfl (by decide) ?_
  intro A L h₁ gn dr tk os Q E I hd hu hret
  repeat walk_at "st"
  rename In _ _ _ _ _ _ _ => J
  refine J.iterText hx fun h₂ it I₂ hit hn hg => ?_
  clear J
  refine forText (P := fun i m D => D = (fun _ => True) ∧ (x.cps.toList.take i).all isD = true ∧ (∃ t', m (Str.ofString "number") = some (.int (digitsVal (x.cps.toList.take i) : Nat) t')) ∧ m (Str.ofString "part") = some (.str x t)) hn hg rfl rfl ?turn ?done x.cps.size 0 _ _ _ _ (by omega) I₂ hit ⟨rfl, by simp, ⟨tk, rfl⟩, rfl⟩
  case turn =>
    rintro i c m D h₃ tk₃ tk' hc ⟨rfl, hall, ⟨tn, hnum⟩, hpart⟩ I₃ hit₃
    clear I₂
    have hc' : x.cps.toList[i]? = some c := by simpa using hc
    have hcm : c < 128 := hx c (List.mem_of_getElem? hc')
    repeat walk_at "st"
    cases hD : isD c with
    | false =>
      rw [if_pos (by have := in_ten c hcm; rw [hD] at this; show (!!(Builtin.Str.occurrences ten _ 0 ten.length 1).isEmpty) = true; rw [this]; rfl)]
      repeat walk_at "st"
      have : num x = -1 := by
        rw [num, if_neg]
        intro q
        rw [Bool.and_eq_true, List.all_eq_true] at q
        have := q.1 c (List.mem_of_getElem? hc')
        rw [hD] at this
        cases this
      exact hret _ _ _ I₃.keep I₃.stays ⟨_, by rw [this]⟩
    | true =>
      rw [if_neg (by have := in_ten c hcm; rw [hD] at this; show ¬(!!(Builtin.Str.occurrences ten _ 0 ten.length 1).isEmpty) = true; rw [this]; decide)]
      have hdig : 48 ≤ c ∧ c ≤ 57 := by simpa [isD] using hD
      repeat walk_at "st"
      have hf : Txt.find (Str.ofString "0123456789") ⟨#[c]⟩ = (c : Int) - 48 := find_ten c hcm hdig
      refine index_or I₃.hh (fun q => by rw [hf] at q; omega) fun _ _ => ?_
      rw [hf]
      have n3 := I₃.fr.ns
      repeat walk_at "st"
      rename In _ _ _ _ _ _ _ => J
      rename Heap.SameBut L h₃ _ => S
      obtain ⟨o', fs', e', d'⟩ := striter_rec hit₃
      have e9 : ((digitsVal (x.cps.toList.take (i + 1)) : Nat) : Int) = (digitsVal (x.cps.toList.take i) : Nat) * 10 + ((c : Int) - 48) := by
        rw [take_more hc', digitsVal_snoc]
        omega
      exact ⟨_, _, _, _, rfl, J, hit₃.extBut S.extBut (rec_ne e' d' n3), rfl, by rw [take_more hc', List.all_append, hall]; simpa using hD, ⟨_, by rw [e9]; rfl⟩, hpart⟩
  case done =>
    rintro h₃ tk₃ m D I₃ ⟨rfl, hall, ⟨tn, hnum⟩, hpart⟩
    clear I₂
    rw [show x.cps.toList.take x.cps.size = x.cps.toList from by rw [← Array.length_toList, List.take_length]] at hall hnum
    repeat walk_at "st"
    by_cases e : x.cps.toList = []
    · have e2 : x = Str.ofString "" := Str.ext' (Array.ext' (by rw [e]; rfl))
      rw [if_neg (by rw [e2]; decide)]
      repeat walk_at "st"
      have : num x = -1 := by rw [num, e]; rfl
      exact hret _ _ _ I₃.keep I₃.stays ⟨_, by rw [this]⟩
    · rw [if_pos (by
        rw [bne_iff_ne]
        intro q
        rw [q] at e
        exact e rfl)]
      repeat walk_at "st"
      have : num x = (digitsVal x.cps.toList : Int) := by
        rw [num, if_pos]
        rw [hall]
        simpa using e
      exact hret _ _ _ I₃.keep I₃.stays ⟨_, by rw [this]⟩
end
-- G3
section
variable {w : World} {g h : Heap} {mg mb : Str → Option Value}
theorem item_fig {prog : Program} {A : Around} {E : Value → Shared → Prop} {gn : Array GenState} {dr : Drawn} {tk : Nat} {os : OsState} {value slice : Expr} {Q : Value → Shared → Prop} {k : Nat} {t u : Tok} (hk : k < 10) (hQ : ∀ t' tk', Q (.str ⟨#[48 + k]⟩ t') ⟨h, gn, dr, tk', os⟩)
    (hs : subscripted slice false (.str (Str.ofString "0123456789") t) (.int (k : Int) u) = operate [.str (Str.ofString "0123456789") t, .int (k : Int) u] (getItem (.str (Str.ofString "0123456789") t) (.int (k : Int) u)) := by with_unfolding_all rfl)
    (ht : ∀ r, letTemporaryGo value (.str (Str.ofString "0123456789") t) r = pure () := by intro _; with_unfolding_all rfl) :
    wpAny (model prog w) A (subscriptTail value slice (.str (Str.ofString "0123456789") t) (.int (k : Int) u)) Q E ⟨h, gn, dr, tk, os⟩ := by
  have hl : (Str.ofString "0123456789").length = 10 := by decide
  refine item_str (fitsSsize_of (N := 9223372036854775808) (by omega) (by omega) (Int.le_refl _)) (by omega) (by omega) (fun _ => ?_) hs ht
  have e := item_ten k hk
  unfold ten at e
  rw [e]
  exact hQ _ _
set_option maxHeartbeats 2000000 in
theorem spec_figures (B : Bs w g mg mb) (n : Nat) (t : Tok) (hs : (figs n).length ≤ 1000) : Spec w g (.ref 71) [.int n t] 2 h (fun _ r => ∃ t', r = .str (figs n) t') := by
  have ⟨_, _, _, T⟩ := B.t
  refine enter (binds := [(Str.ofString "number", .int n t)]) (D := fun _ => True) trivial st_true B.x T (by k_is) (by k_is) (fun _ _ _ _ _ => BindsTo.of_eq rfl) (locs rfl) rfl rfl rfl (by decide) ?_
  intro A L h₁ gn dr tk os Q E I hd hu hret
  repeat walk_at "st"
  rename In _ _ _ _ _ _ _ => J
  refine whileBy (D := fun _ => True) (P := fun k m => ∃ (tn tt : Tok) (told : Str), m (Str.ofString "number") = some (.int (k : Nat) tn) ∧ m (Str.ofString "told") = some (.str told tt) ∧ figs k ++ told = figs n) ?turn n _ _ _ ⟨t, tk, Str.ofString "", rfl, rfl, Str.append_empty _⟩ J
  clear J
  rintro k m h₃ tk₃ ⟨tn, tt, told, hnum, htold, heq⟩ I₃
  have hlen : (figs k).length + told.length ≤ 1000 := by rw [← Str.length_append, heq]; exact hs
  repeat walk_at "st"
  by_cases hk : 9 < k
  · rw [if_pos (decide_eq_true (by omega))]
    repeat walk_at "st"
    have e1 : (k : Int).fmod 10 = ((k % 10 : Nat) : Int) := by rw [Int.fmod_eq_emod_of_nonneg _ (by decide)]; omega
    rw [e1]
    refine item_fig (Nat.mod_lt _ (by decide)) fun t' tk' => ?_
    repeat walk_at "st"
    refine add_str (fun t₂ tk₂ => ?_) (by rw [sizeLine_eq]; show 1 + told.length ≤ _; omega)
    repeat walk_at "st"
    rename In _ _ _ _ _ _ _ => J
    have e2 : (k : Int).fdiv 10 = ((k / 10 : Nat) : Int) := by rw [Int.fdiv_eq_ediv_of_nonneg _ (by decide)]; omega
    rw [e2] at J
    exact ⟨k / 10, _, _, _, by omega, rfl, J, _, _, _, rfl, rfl, by rw [← Str.append_assoc, ← figs_more hk, heq]⟩
  · rw [if_neg (by rw [decide_eq_true_eq]; omega)]
    repeat walk_at "st"
    refine item_fig (by omega) fun t' tk' => ?_
    repeat walk_at "st"
    refine add_str (fun t₂ tk₂ => ?_) (by rw [sizeLine_eq]; show 1 + told.length ≤ _; omega)
    exact hret _ _ _ I₃.keep I₃.stays ⟨_, by rw [← heq, figs_one (by omega)]⟩
end
-- G4
section
variable {w : World} {g h : Heap} {mg mb : Str → Option Value}
set_option maxHeartbeats 2000000 in
theorem spec_behind (B : Bs w g mg mb) (d : Addr) (vs : List Value) (xs : List Str) (p : Str) (t : Tok) (hq : Sq "list" d vs h) (hx : StrsAre vs xs) (hne : xs ≠ []) (hl : xs.length ≤ 1000) (hs : ∀ x ∈ xs, x.length ≤ 1000) (hp : p.length ≤ 10) :
    Spec w g (.ref 90) [.ref d, .str p t] 2 h (fun h' r => TL r (behind xs p) h') := by
  have ⟨_, _, _, T⟩ := B.t
  have hvl : vs.length ≤ 1000 := by rw [strs_len hx]; exact hl
  refine enter (binds := [(Str.ofString "parts", .ref d), (Str.ofString "piece", .str p t)]) (D := fun h => Sq "list" d vs h) hq (fun _ _ => Sq.up) B.x T (by k_is) (by k_is) (fun _ _ _ _ _ => BindsTo.of_eq rfl) (locs rfl) rfl rfl rfl (by decide) ?_
  intro A L h₁ gn dr tk os Q E I hd hu hret
  repeat walk_at "st"
  by_cases e : p = Str.ofString "."
  · rw [if_pos (by rw [e]; decide)]
    repeat walk_at "st"
    rename In _ _ _ _ _ _ _ => J
    refine J.cat J.data.2 J.data.1 (by rw [sizeLine_eq]; show vs.length + 1 ≤ _; omega) fun h₂ d₂ J₂ n₂ => ?_
    refine hret _ _ _ J₂.keep J₂.stays ⟨_, _, rfl, ?_, J₂.data.1⟩
    rw [behind, if_pos e]
    exact strs_app hx (.cons _ _ .nil)
  · rw [if_neg (by simpa using e)]
    repeat walk_at "st"
    rename In _ _ _ _ _ _ _ => J
    refine J.cutLast J.data (by assumption) (by rw [sizeLine_eq]; omega) fun h₂ d₂ J₂ n₂ _ => ?_
    clear J
    repeat walk_at "st"
    obtain ⟨t', ht⟩ := strs_last hx hne (Str.ofString "")
    refine item_last J₂.data.2 ht ?_
    repeat walk_at "st"
    have hm : (xs.getLastD (Str.ofString "")).length ≤ 1000 := by
      rw [List.getLastD_eq_getLast?, List.getLast?_eq_some_getLast hne]
      exact hs _ (List.getLast_mem hne)
    refine add_str (fun t₂ tk₂ => ?_) (by rw [sizeLine_eq]; omega)
    repeat walk_at "st"
    rename In _ _ _ _ _ _ _ => J
    refine J.cat J.data.2.1 J.data.1 (by rw [sizeLine_eq, List.length_dropLast]; show vs.length - 1 + 1 ≤ _; omega) fun h₃ d₃ J₃ n₃ => ?_
    refine hret _ _ _ J₃.keep J₃.stays ⟨_, _, rfl, ?_, J₃.data.1⟩
    rw [behind, if_neg e]
    exact strs_app (strs_dropLast hx) (.cons _ _ .nil)
end
-- G5
section
variable {w : World} {g h : Heap} {mg mb : Str → Option Value}
theorem pack3 {d l1 l2 : Addr} {v1 : List Value} {x y : Str} {t : Tok} {ys : List Str} (s : Sq "tuple" d [.str x t, .ref l1, .ref l2] h) (hs : StrsAre v1 ys) (e : y = x) (q : Sq "list" l1 v1 h) :
    ∃ d' t' l1' v1', Value.ref d = .ref d' ∧ Sq "tuple" d' [.str y t', .ref l1', .ref l2] h ∧ StrsAre v1' ys ∧ Sq "list" l1' v1' h := ⟨d, t, l1, v1, rfl, e ▸ s, hs, q⟩
set_option maxHeartbeats 4000000 in
theorem spec_renamed (B : Bs w g mg mb) (s : Str) (t : Tok) (l1 l2 : Addr) (v1 : List Value) (x : Str) (rs : List Str) (hq : Sq "list" l1 v1 h) (hx : StrsAre v1 (x :: rs)) (ha : Asc x) (hl : rs.length ≤ 1000) (hs : x.length ≤ 500)
    (hp : low x = false → num x ≠ -1 → 3 ≤ num x) (hf : low x = false → num x ≠ -1 → (figs (num x - 3)).length ≤ 1000) :
    Spec w g (.ref 78) [.str s t, .ref l1, .ref l2] 4 h (fun h' r => ∃ d t' l1' v1', r = .ref d ∧ Sq "tuple" d [.str (renamed s x rs).1 t', .ref l1', .ref l2] h' ∧ StrsAre v1' (renamed s x rs).2 ∧ Sq "list" l1' v1' h') := by
  have ⟨_, _, _, T⟩ := B.t
  have hvl : v1.length ≤ 1001 := by rw [strs_len hx]; show rs.length + 1 ≤ _; omega
  refine enter (binds := [(Str.ofString "system", .str s t), (Str.ofString "release", .ref l1), (Str.ofString "version", .ref l2)]) (D := fun h => Sq "list" l1 v1 h) hq (fun _ _ => Sq.up) B.x T (by k_is) (by k_is) (fun _ _ _ _ _ => BindsTo.of_eq rfl) (locs rfl) rfl rfl rfl (by decide) ?_
  intro A L h₁ gn dr tk os Q E I hd hu hret
  repeat walk_at "st"
  refine in_list_strs (Sq.lst (by walk_at "sq")) (.cons _ _ (.cons _ _ .nil)) ?_
  repeat walk_at "st"
  by_cases e1 : isWin s = true
  · rw [if_pos e1]
    repeat walk_at "st"
    rename In _ _ _ _ _ _ _ => J
    exact hret _ _ _ J.keep J.stays (pack3 J.data.1 (v1 := v1) (by rw [renamed, if_pos e1]; exact hx) (by rw [renamed, if_pos e1]) J.data.2.2)
  · rw [if_neg e1]
    repeat walk_at "st"
    by_cases e2 : (s != Str.ofString "SunOS") = true
    · rw [if_pos e2]
      repeat walk_at "st"
      rw [if_pos rfl]
      repeat walk_at "st"
      rename In _ _ _ _ _ _ _ => J
      exact hret _ _ _ J.keep J.stays (pack3 J.data.1 (v1 := v1) (by rw [renamed, if_neg e1, if_pos e2]; exact hx) (by rw [renamed, if_neg e1, if_pos e2]) J.data.2.2)
    · rw [if_neg e2]
      repeat walk_at "st"
      obtain ⟨tx, hx0⟩ : ∃ tx, v1[0]? = some (.str x tx) := strs_at hx (i := 0) (by simp) (Str.ofString "")
      refine item_at (by walk_at "sq") (by decide) (by decide) hx0 ?_
      repeat walk_at "st"
      refine cut_text (by assumption) (by show x.length ≤ _; rw [sizeLine_eq]; omega) fun t₂ tk₂ => ?_
      repeat walk_at "st"
      refine in_list_strs (Sq.lst (by walk_at "sq")) (.cons _ _ (.cons _ _ (.cons _ _ (.cons _ _ (.cons _ _ (.cons _ _ .nil)))))) ?_
      repeat walk_at "st"
      by_cases e3 : low x = true
      · rw [if_pos e3]
        repeat walk_at "st"
        rw [if_pos rfl]
        repeat walk_at "st"
        rename In _ _ _ _ _ _ _ => J
        exact hret _ _ _ J.keep J.stays (pack3 J.data.1 (v1 := v1) (by rw [renamed, if_neg e1, if_neg e2, if_pos e3]; exact hx) (by rw [renamed, if_neg e1, if_neg e2, if_pos e3]) J.data.2.2.2)
      · rw [if_neg e3]
        repeat walk_at "st"
        rw [if_neg (by decide)]
        repeat walk_at "st"
        refine item_at (by walk_at "sq") (by decide) (by decide) hx0 ?_
        repeat walk_at "st"
        rename In _ _ _ _ _ _ _ => J
        refine J.use (spec_number B x tx ha) (fun _ _ _ _ q => q) (by omega) (by omega) fun r h₅ tk₅ J₅ K₅ => ?_
        clear J
        obtain ⟨tn, rfl⟩ := J₅.data.1
        repeat walk_at "st"
        by_cases e4 : num x = -1
        · rw [if_pos (by rw [e4]; decide)]
          repeat walk_at "st"
          rename In _ _ _ _ _ _ _ => J
          exact hret _ _ _ J.keep J.stays (pack3 J.data.1 (v1 := v1) (by rw [renamed, if_neg e1, if_neg e2, if_neg e3, if_pos e4]; exact hx) (by rw [renamed, if_neg e1, if_neg e2, if_neg e3, if_pos e4]) J.data.2.2.2.2)
        · rw [if_neg (by simpa using e4)]
          have h3 := hp (by simpa using e3) e4
          obtain ⟨k, hk⟩ : ∃ k : Nat, num x - 3 = (k : Int) := ⟨(num x - 3).toNat, by omega⟩
          have hfk := hf (by simpa using e3) e4
          rw [hk] at hfk
          repeat walk_at "st"
          rename In _ _ _ _ _ _ _ => J
          rw [hk]
          refine J.use (spec_figures B k _ hfk) (fun _ _ _ _ q => q) (by omega) (by omega) fun r h₆ tk₆ J₆ K₆ => ?_
          clear J
          obtain ⟨tf, rfl⟩ := J₆.data.1
          repeat walk_at "st"
          rename In _ _ _ _ _ _ _ => J
          refine J.cutFrom (n := 1) (by walk_at "sq") (by assumption) (by rw [sizeLine_eq]; omega) fun h₇ d₇ J₇ n₇ _ => ?_
          clear J
          refine J₇.cat (by walk_at "sq") (by walk_at "sq") (by rw [sizeLine_eq, List.length_drop]; show 1 + _ ≤ _; omega) fun h₈ d₈ J₈ n₈ => ?_
          clear J₇
          repeat walk_at "st"
          rename In _ _ _ _ _ _ _ => J
          exact hret _ _ _ J.keep J.stays (pack3 J.data.1 (by rw [renamed, if_neg e1, if_neg e2, if_neg e3, if_neg e4, hk]; exact .cons _ tf (strs_drop hx 1)) (by rw [renamed, if_neg e1, if_neg e2, if_neg e3, if_neg e4]) J.data.2.1)
end
-- G6
section
variable {w : World} {g h : Heap} {mg mb : Str → Option Value}
theorem ints_app {vs us : List Value} {ys zs : List Int} (h : IntsAre vs ys) (k : IntsAre us zs) : IntsAre (vs ++ us) (ys ++ zs) := by
  induction h with
  | nil => exact k
  | cons y t _ ih => exact .cons y t ih
theorem ints_len {vs : List Value} {ys : List Int} (h : IntsAre vs ys) : vs.length = ys.length := by
  induction h with
  | nil => rfl
  | cons y t _ ih => simp [ih]
theorem ints_take {vs : List Value} {ys : List Int} (h : IntsAre vs ys) : ∀ n, IntsAre (vs.take n) (ys.take n) := by
  induction h with
  | nil => intro n; simp; exact .nil
  | cons y t _ ih =>
    intro n
    cases n with
    | zero => exact .nil
    | succ n => exact .cons y t (ih n)
theorem ints_at {vs : List Value} {ys : List Int} (h : IntsAre vs ys) : ∀ {i : Nat} {v : Value}, vs[i]? = some v → ∃ n t, ys[i]? = some n ∧ v = .int n t := by
  induction h with
  | nil => intro i v e; cases i <;> cases e
  | cons y t _ ih =>
    intro i v e
    cases i with
    | zero => cases e; exact ⟨y, t, rfl, rfl⟩
    | succ i => exact ih (by simpa using e)
set_option maxHeartbeats 4000000 in
theorem spec_normal (B : Bs w g mg mb) (l : Addr) (vs : List Value) (xs : List Str) (hq : Sq "list" l vs h) (hx : StrsAre vs xs) (ha : ∀ x ∈ xs, Asc x) (hl : xs.length ≤ 900) (hf : ∀ x ∈ xs, num x ≠ -1 → (figs (num x)).length ≤ 1000) :
    Spec w g (.ref 83) [.ref l] 4 h (fun h' r => TL r (normal xs) h') := by
  have ⟨_, _, _, T⟩ := B.t
  have hvl : vs.length ≤ 900 := by rw [strs_len hx]; exact hl
  refine enter (binds := [(Str.ofString "parts", .ref l)]) (D := fun h => Sq "list" l vs h) hq (fun _ _ => Sq.up) B.x T (by k_is) (by k_is) (fun _ _ _ _ _ => BindsTo.of_eq rfl) (locs rfl) rfl rfl rfl (by decide) ?_
  intro A L h₁ gn dr tk os Q E I hd hu hret
  refine wpAny_execs_cons ?_
  refine I.acomp (by rfl) (by decide) (by decide) rfl (by decide) (by rfl) (by rfl) ?_
  repeat walk_at "st"
  refine ⟨_, _, _, _, _, "list", vs, fun acc i us h => IntsAre us ((xs.take i).map num), rfl, rfl, I, .inl rfl, fun _ x => x, by omega, ⟨fun _ _ _ _ _ _ x => x, fun _ _ => .nil, ?turn⟩, ?rest⟩
  case turn =>
    intro acc Lc i y us m h₂ tk₂ hn hy J
    obtain ⟨x, t, hx', rfl⟩ := strs_get hx hy
    clear I
    refine assign_Name (J.storeE (by rfl) (by rfl) (by rfl) fun h₃ tk₃ J₃ S₃ => ?_)
    clear J
    repeat walk_at "st"
    refine J₃.use (spec_number B x t (ha x (List.mem_of_getElem? hx'))) (fun _ _ _ _ q => q) (by omega) (by omega) fun r h₅ tk₅ J₅ K₅ => ?_
    obtain ⟨tn, rfl⟩ := J₅.data.1
    refine ⟨h₅, tk₅, _, rfl, J₅.but (fun _ x => x.2) J₃.st, ?_, (kb_same S₃).trans K₅.kb⟩
    rw [take_more' hx', List.map_append]
    exact ints_app J₅.data.2.2.1 (.cons _ _ .nil)
  case rest =>
    intro acc h₂ tk₂ us hlen J hP hn
    clear I
    rw [strs_len hx, List.take_length] at hP
    repeat walk_at "st"
    refine in_list_ints (Sq.lst (by walk_at "sq")) hP ?_
    repeat walk_at "st"
    by_cases e : (xs.any fun x => num x == -1) = true
    · rw [if_pos (by rw [List.any_map]; exact e)]
      repeat walk_at "st"
      rename In _ _ _ _ _ _ _ => J
      refine J.cutTo (n := 3) J.data.2 (by assumption) (by rw [sizeLine_eq]; omega) fun h₃ d₃ J₃ n₃ _ => ?_
      exact hret _ _ _ J₃.keep J₃.stays ⟨_, _, rfl, by rw [normal, if_pos e]; exact strs_take hx 3, J₃.data.1⟩
    · rw [if_neg (by rw [List.any_map]; exact e)]
      repeat walk_at "st"
      rename In _ _ _ _ _ _ _ => J
      refine J.lcomp (by decide) (by decide) rfl (by decide) ?_
      repeat walk_at "st"
      rename In _ _ _ _ _ _ _ => J
      have hul : us.length ≤ 900 := by omega
      refine J.cutTo (n := 3) J.data.1 (by assumption) (by rw [sizeLine_eq]; omega) fun h₃ d₃ J₃ n₃ _ => ?_
      clear J
      have hz := ints_take hP 3
      refine ⟨_, _, _, _, _, "list", us.take 3, fun acc i us h => StrsAre us ((((xs.map num).take 3).take i).map figs), rfl, rfl, J₃, .inl rfl, fun _ x => x.1, by rw [List.length_take]; omega, ⟨fun _ _ _ _ _ _ x => x, fun _ _ => .nil, ?turn2⟩, ?rest2⟩
      case turn2 =>
        intro acc Lc i y us m h₄ tk₄ hn hy J
        obtain ⟨n, t, hn', rfl⟩ := ints_at hz hy
        clear J₃
        have hm : n ∈ xs.map num := List.mem_of_mem_take (List.mem_of_getElem? hn')
        obtain ⟨x, hxm, rfl⟩ := List.mem_map.mp hm
        have hne : num x ≠ -1 := fun q => e (List.any_eq_true.mpr ⟨x, hxm, by rw [q]; rfl⟩)
        obtain ⟨k, hk⟩ : ∃ k : Nat, num x = (k : Int) := by
          unfold num at hne ⊢
          split
          · exact ⟨_, rfl⟩
          · rename_i q; rw [if_neg q] at hne; exact absurd rfl hne
        refine assign_Name (J.storeE (by rfl) (by rfl) (by rfl) fun h₅ tk₅ J₅ S₅ => ?_)
        clear J
        have hfk := hf x hxm hne
        rw [hk] at hfk hn' J₅
        repeat walk_at "st"
        refine J₅.use (spec_figures B k _ hfk) (fun _ _ _ _ q => q) (by omega) (by omega) fun r h₆ tk₆ J₆ K₆ => ?_
        obtain ⟨tf, rfl⟩ := J₆.data.1
        refine ⟨h₆, tk₆, _, rfl, J₆.but (fun _ x => x.2) J₅.st, ?_, (kb_same S₅).trans K₆.kb⟩
        rw [take_more' hn', List.map_append]
        exact strs_app J₆.data.2.2.1 (.cons _ _ .nil)
      case rest2 =>
        intro acc h₄ tk₄ us' hlen' J hP' hn' _
        refine hret _ _ _ J.keep J.stays ⟨_, _, rfl, ?_, J.data.1⟩
        rw [ints_len hz, List.take_length] at hP'
        rw [normal, if_neg e, ← List.map_take, List.map_map] at *
        exact hP'
end
-- G7
section
variable {w : World} {g h : Heap} {mg mb : Str → Option Value}
/-- a record kept as lists of parts -/
def DR (d : Addr) (r : St) (h : Heap) : Prop := ∃ t l1 l2 v1 v2, Sq "tuple" d [.str r.1 t, .ref l1, .ref l2] h ∧ StrsAre v1 r.2.1 ∧ Sq "list" l1 v1 h ∧ StrsAre v2 r.2.2 ∧ Sq "list" l2 v2 h
theorem DR.up {d : Addr} {r : St} {h h' : Heap} (U : Up h h') (x : DR d r h) : DR d r h' := let ⟨t, l1, l2, v1, v2, a, b, c, d, e⟩ := x; ⟨t, l1, l2, v1, v2, a.up U, b, c.up U, d, e.up U⟩
theorem packD {d : Addr} {r : St} {s : Str} {t : Tok} {l1 l2 : Addr} {v1 v2 : List Value} {x y : List Str} (a : Sq "tuple" d [.str s t, .ref l1, .ref l2] h) (b : StrsAre v1 x) (c : Sq "list" l1 v1 h) (b' : StrsAre v2 y) (c' : Sq "list" l2 v2 h) (e : r = (s, x, y)) :
    ∃ d', Value.ref d = .ref d' ∧ DR d' r h := by
  subst e
  exact ⟨d, rfl, t, l1, l2, v1, v2, a, b, c, b', c'⟩
theorem strs_head {vs : List Value} {xs : List Str} (h : StrsAre vs xs) (hn : xs ≠ []) : StrsAre vs (xs.headD (Str.ofString "") :: xs.tail) := by
  cases h with
  | nil => exact absurd rfl hn
  | cons y t r => exact .cons y t r
theorem thing_len (x : Int) : (thing x).length ≤ 10 := by
  have hB : ∀ i, (menuB.getD i (Str.ofString "")).length ≤ 10 := fun i => by
    rcases i with _ | _ | _ | _ | i <;> first | decide | (show (Str.ofString "").length ≤ 10; decide)
  have hS : ∀ i, (menuS.getD i (Str.ofString "")).length ≤ 10 := fun i => by
    rcases i with _ | _ | _ | _ | _ | _ | _ | _ | i <;> first | decide | (show (Str.ofString "").length ≤ 10; decide)
  have hP : ∀ i, (menuP.getD i (Str.ofString "")).length ≤ 10 := fun i => by
    rcases i with _ | _ | _ | _ | _ | _ | _ | _ | i <;> first | decide | (show (Str.ofString "").length ≤ 10; decide)
  unfold thing
  split
  · exact hB _
  · split
    · exact hS _
    · exact hP _
set_option maxHeartbeats 8000000 in
theorem spec_due (B : Bs w g mg mb) (d : Addr) (r : St) (x : Int) (t : Tok) (hd : DR d r h) (n : Nat) (hn : n ≤ 400) (h1 : Fine n r.2.1) (h2 : Fine n r.2.2) (hb : kindOf x = 1 → Asc (thing x) ∧ (num (thing x) ≠ -1 → (figs (num (thing x))).length ≤ 1000)) :
    Spec w g (.ref 97) [.ref d, .int x t] 6 h (fun h' v => ∃ d', v = .ref d' ∧ DR d' (due r x) h') := by
  have ⟨_, _, _, T⟩ := B.t
  obtain ⟨s, rs, vs⟩ := r
  obtain ⟨t0, l1, l2, v1, v2, q0, s1, q1, s2, q2⟩ := hd
  have hl1 : v1.length ≤ 400 := by rw [strs_len s1]; exact Nat.le_trans h1.2.1 hn
  have hl2 : v2.length ≤ 400 := by rw [strs_len s2]; exact Nat.le_trans h2.2.1 hn
  have hth := thing_len x
  refine enter (binds := [(Str.ofString "record", .ref d), (Str.ofString "x", .int x t)]) (D := fun h => Sq "tuple" d [.str s t0, .ref l1, .ref l2] h ∧ Sq "list" l1 v1 h ∧ Sq "list" l2 v2 h) ⟨q0, q1, q2⟩ (fun _ _ U x => ⟨x.1.up U, x.2.1.up U, x.2.2.up U⟩) B.x T (by k_is) (by k_is) (fun _ _ _ _ _ => BindsTo.of_eq rfl) (locs rfl) rfl rfl rfl (by decide) ?_
  intro A L h₁ gn dr tk os Q E I hd hu hret
  repeat walk_at "st"
  rename In _ _ _ _ _ _ _ => J
  refine J.use (spec_deed B x t) (fun r _ _ U q => let ⟨d, t1, t2, e, q⟩ := q; ⟨d, t1, t2, e, q.up U⟩) (by omega) (by omega) fun r h₅ tk₅ J₅ K₅ => ?_
  clear J
  obtain ⟨dd, t1, t2, rfl, qd⟩ := id J₅.data.1
  have J : In g A h L h₅ _ (fun h => Sq "tuple" dd [.int (kindOf x) t1, .str (thing x) t2] h ∧ Sq "tuple" d [.str s t0, .ref l1, .ref l2] h ∧ Sq "list" l1 v1 h ∧ Sq "list" l2 v2 h) := ⟨J₅.fr, J₅.keep, J₅.above, J₅.fs, J₅.hh, ⟨qd, J₅.data.2⟩, fun _ _ U x => ⟨x.1.up U, x.2.1.up U, x.2.2.1.up U, x.2.2.2.up U⟩⟩
  clear J₅
  repeat walk_at "st"
  by_cases e0 : kindOf x = 0
  · rw [if_pos (by rw [e0]; decide)]
    repeat walk_at "st"
    rename In _ _ _ _ _ _ _ => J
    have hm : rs.headD (Str.ofString "") ∈ rs := by
      cases rs with
      | nil => exact absurd rfl h1.1
      | cons y ys => exact .head _
    have hy := h1.2.2 _ hm
    refine J.use (spec_renamed B s t0 l1 l2 v1 (rs.headD (Str.ofString "")) rs.tail (by walk_at "sq") (strs_head s1 h1.1) (h1.asc hm) (by rw [List.length_tail]; have := h1.2.1; simp only at this; omega) (by omega) (fun a b => by have := low_num a hy.2 b; omega) ?_) (fun r _ _ U q => let ⟨d, t1, l, v, e, a, b, c⟩ := q; ⟨d, t1, l, v, e, a.up U, b, c.up U⟩) (by omega) (by omega) fun r h₆ tk₆ J₆ K₆ => ?_
    · intro hlow hne
      have h5 := low_num hlow hy.2 hne
      have := (num_figs hne 3 (by omega)).1
      exact Nat.le_trans this (by omega)
    · obtain ⟨d', t', l1', v1', rfl, a, b, c⟩ := id J₆.data.1
      exact hret _ _ _ J₆.keep J₆.stays (packD a b c s2 (by have := J₆.data.2; exact this.2.2.2) (by rw [due, if_pos e0]))
  · rw [if_neg (by simpa using e0)]
    repeat walk_at "st"
    by_cases e1 : kindOf x = 1
    · rw [if_pos (by rw [e1]; decide)]
      repeat walk_at "st"
      have hN : ∀ (us : List Str), us.length ≤ 1 → (∀ u ∈ us, u = thing x) → (∀ y ∈ vs ++ us, Asc y) ∧ (vs ++ us).length ≤ 900 ∧ ∀ y ∈ vs ++ us, num y ≠ -1 → (figs (num y)).length ≤ 1000 := by
        intro us hul hus
        refine ⟨fun y hy => ?_, ?_, fun y hy hne => ?_⟩
        · rcases List.mem_append.mp hy with hy | hy
          · exact h2.asc hy
          · rw [hus y hy]; exact (hb e1).1
        · rw [List.length_append]; have := h2.2.1; simp only at this; omega
        · rcases List.mem_append.mp hy with hy | hy
          · have h0 : 0 ≤ num y - (0 : Nat) := by rcases num_cases y with q | q <;> omega
            have := (num_figs hne 0 h0).1
            have hyl := (h2.2.2 y hy).1
            rw [show num y - ((0 : Nat) : Int) = num y by omega] at this
            omega
          · rw [hus y hy] at hne ⊢; exact (hb e1).2 hne
      by_cases eb : (thing x != Str.ofString "") = true
      · rw [if_pos eb]
        repeat walk_at "st"
        rename In _ _ _ _ _ _ _ => J
        refine J.cat J.data.2.2.2.2 J.data.1 (by rw [sizeLine_eq]; show v2.length + 1 ≤ _; omega) fun h₆ d₆ J₆ n₆ => ?_
        clear J
        repeat walk_at "st"
        have z := hN [thing x] (by simp) (by simp)
        refine J₆.use (spec_normal B _ _ (vs ++ [thing x]) J₆.data.1 (strs_app s2 (.cons _ _ .nil)) z.1 z.2.1 z.2.2) (fun r _ _ U q => q.up U) (by omega) (by omega) fun r h₇ tk₇ J₇ K₇ => ?_
        clear J₆
        obtain ⟨d', v', rfl, sv, qv⟩ := id J₇.data.1
        repeat walk_at "st"
        rename In _ _ _ _ _ _ _ => J
        obtain ⟨d₃, v₃, e₃, sv, qv⟩ := id J.data.2.1
        cases e₃
        exact hret _ _ _ J.keep J.stays (packD J.data.1 s1 J.data.2.2.2.2.2.2.1 sv qv (by rw [due, if_neg e0, if_pos e1, if_pos eb]))
      · rw [if_neg eb]
        repeat walk_at "st"
        rename In _ _ _ _ _ _ _ => J
        refine J.cat J.data.2.2.2.2 J.data.1 (by rw [sizeLine_eq]; show v2.length + 0 ≤ _; omega) fun h₆ d₆ J₆ n₆ => ?_
        clear J
        repeat walk_at "st"
        have z := hN [] (by simp) (by simp)
        refine J₆.use (spec_normal B _ _ (vs ++ []) J₆.data.1 (strs_app s2 .nil) z.1 z.2.1 z.2.2) (fun r _ _ U q => q.up U) (by omega) (by omega) fun r h₇ tk₇ J₇ K₇ => ?_
        clear J₆
        obtain ⟨d', v', rfl, sv, qv⟩ := id J₇.data.1
        repeat walk_at "st"
        rename In _ _ _ _ _ _ _ => J
        obtain ⟨d₃, v₃, e₃, sv, qv⟩ := id J.data.2.1
        cases e₃
        exact hret _ _ _ J.keep J.stays (packD J.data.1 s1 J.data.2.2.2.2.2.2.1 sv qv (by rw [due, if_neg e0, if_pos e1, if_neg eb]))
    · rw [if_neg (by simpa using e1)]
      repeat walk_at "st"
      by_cases e2 : kindOf x = 2
      · rw [if_pos (by rw [e2]; decide)]
        repeat walk_at "st"
        rename In _ _ _ _ _ _ _ => J
        exact hret _ _ _ J.keep J.stays (packD J.data.1 s1 J.data.2.2.2.1 s2 J.data.2.2.2.2 (by rw [due, if_neg e0, if_neg e1, if_pos e2]))
      · rw [if_neg (by simpa using e2)]
        repeat walk_at "st"
        by_cases e3 : kindOf x = 3
        · rw [if_pos (by rw [e3]; decide)]
          repeat walk_at "st"
          by_cases eu : (s == Str.ofString "unknown") = true
          · rw [if_pos eu]
            repeat walk_at "st"
            rename In _ _ _ _ _ _ _ => J
            exact hret _ _ _ J.keep J.stays (packD J.data.1 s1 J.data.2.2.2.1 s2 J.data.2.2.2.2 (by rw [due, if_neg e0, if_neg e1, if_neg e2, if_pos e3, if_pos eu]))
          · rw [if_neg eu]
            repeat walk_at "st"
            rename In _ _ _ _ _ _ _ => J
            exact hret _ _ _ J.keep J.stays (packD J.data.1 s1 J.data.2.2.2.1 s2 J.data.2.2.2.2 (by rw [due, if_neg e0, if_neg e1, if_neg e2, if_pos e3, if_neg eu]))
        · rw [if_neg (by simpa using e3)]
          repeat walk_at "st"
          by_cases e4 : kindOf x = 4
          · rw [if_pos (by rw [e4]; decide)]
            repeat walk_at "st"
            rename In _ _ _ _ _ _ _ => J
            refine J.use (spec_behind B l1 v1 rs (thing x) _ J.data.2.2.1 s1 h1.1 (Nat.le_trans h1.2.1 (by omega)) (fun y hy => Nat.le_trans (h1.2.2 y hy).1 (by omega)) hth) (fun r _ _ U q => q.up U) (by omega) (by omega) fun r h₆ tk₆ J₆ K₆ => ?_
            clear J
            obtain ⟨d', v', rfl, sv, qv⟩ := id J₆.data.1
            repeat walk_at "st"
            rename In _ _ _ _ _ _ _ => J
            obtain ⟨d₃, v₃, e₃, sv, qv⟩ := id J.data.2.1
            cases e₃
            exact hret _ _ _ J.keep J.stays (packD J.data.1 sv qv s2 J.data.2.2.2.2.2 (by rw [due, if_neg e0, if_neg e1, if_neg e2, if_neg e3, if_pos e4]))
          · rw [if_neg (by simpa using e4)]
            repeat walk_at "st"
            by_cases e5 : kindOf x = 5
            · rw [if_pos (by rw [e5]; decide)]
              repeat walk_at "st"
              rename In _ _ _ _ _ _ _ => J
              refine J.use (spec_behind B l2 v2 vs (thing x) _ J.data.2.2.2 s2 h2.1 (Nat.le_trans h2.2.1 (by omega)) (fun y hy => Nat.le_trans (h2.2.2 y hy).1 (by omega)) hth) (fun r _ _ U q => q.up U) (by omega) (by omega) fun r h₆ tk₆ J₆ K₆ => ?_
              clear J
              obtain ⟨d', v', rfl, sv, qv⟩ := id J₆.data.1
              repeat walk_at "st"
              rename In _ _ _ _ _ _ _ => J
              obtain ⟨d₃, v₃, e₃, sv, qv⟩ := id J.data.2.1
              cases e₃
              exact hret _ _ _ J.keep J.stays (packD J.data.1 s1 J.data.2.2.2.2.1 sv qv (by rw [due, if_neg e0, if_neg e1, if_neg e2, if_neg e3, if_neg e4, if_pos e5]))
            · rw [if_neg (by simpa using e5)]
              repeat walk_at "st"
              by_cases e6 : kindOf x = 6
              · rw [if_pos (by rw [e6]; decide)]
                repeat walk_at "st"
                rename In _ _ _ _ _ _ _ => J
                exact hret _ _ _ J.keep J.stays (packD J.data.1 s2 J.data.2.2.2.2 s1 J.data.2.2.2.1 (by rw [due, if_neg e0, if_neg e1, if_neg e2, if_neg e3, if_neg e4, if_neg e5, if_pos e6]))
              · rw [if_neg (by simpa using e6)]
                repeat walk_at "st"
                rename In _ _ _ _ _ _ _ => J
                refine J.use (spec_behind B _ _ [Str.ofString ""] (thing x) _ J.data.1 (.cons _ _ .nil) (by simp) (by decide) (fun y hy => by rw [List.mem_singleton.mp hy]; decide) hth) (fun r _ _ U q => q.up U) (by omega) (by omega) fun r h₆ tk₆ J₆ K₆ => ?_
                clear J
                obtain ⟨d', v', rfl, sv, qv⟩ := id J₆.data.1
                repeat walk_at "st"
                rename In _ _ _ _ _ _ _ => J
                obtain ⟨d₃, v₃, e₃, sv, qv⟩ := id J.data.2.1
                cases e₃
                exact hret _ _ _ J.keep J.stays (packD J.data.1 sv qv s2 J.data.2.2.2.2.2.2 (by rw [due, if_neg e0, if_neg e1, if_neg e2, if_neg e3, if_neg e4, if_neg e5, if_neg e6]))
end
-- G8
section
variable {w : World} {g h : Heap} {mg mb : Str → Option Value}
theorem pack4 {d : Addr} {x x' z : Str} {y y' : List Str} {t t1 t2 : Tok} (s : Sq "tuple" d [.str x t, .str (glue y) t1, .str z t2] h) (e : x' = x) (e' : y' = y) :
    ∃ d' t' t1', Value.ref d = .ref d' ∧ Sq "tuple" d' [.str x' t', .str (glue y') t1', .str z t2] h := ⟨d, t, t1, rfl, by rw [e, e']; exact s⟩
set_option maxHeartbeats 8000000 in
theorem spec_alias (B : Bs w g mg mb) (s x : Str) (rs : List Str) (t t1 t2 : Tok) (ver : Str) (n : Nat) (hn : n ≤ 400) (hF : Fine n (x :: rs)) :
    SpecC w g (.ref 29) [.str s t, .str (glue (x :: rs)) t1, .str ver t2] 4 h (fun h' r => ∃ d t' t1', r = .ref d ∧ Sq "tuple" d [.str (renamed s x rs).1 t', .str (glue (renamed s x rs).2) t1', .str ver t2] h') := by
  have ⟨_, _, _, T⟩ := B.t
  have hxf := hF.2.2 x (.head _)
  have hgl : (glue (x :: rs)).length ≤ 400 * 401 := Nat.le_trans (glue_len _ n fun y hy => (hF.2.2 y hy).1) (Nat.mul_le_mul (Nat.le_trans hF.2.1 hn) (by omega))
  refine enterD (binds := [(Str.ofString "system", .str s t), (Str.ofString "release", .str (glue (x :: rs)) t1), (Str.ofString "version", .str ver t2)]) (D := fun h => True) trivial st_true B.x T (by k_is) (by k_is) (fun _ _ _ _ _ => BindsTo.of_eq rfl) (locs rfl) rfl rfl rfl (by decide) ?_
  intro A L h₁ gn dr tk os Q I hfr hd hu hret
  refine wpC_execs_cons (wpC_If ?_)
  repeat walk_at "st"
  by_cases e1 : (s == Str.ofString "SunOS") = true
  · rw [if_pos e1]
    have es : s = Str.ofString "SunOS" := by simpa using e1
    have e0 : ¬isWin s = true := by rw [es]; decide
    have e3 : ¬(s != Str.ofString "SunOS") = true := by rw [es]; decide
    refine wpC_execs_cons (wpC_If ?_)
    repeat walk_at "st"
    refine lt_str ?_
    repeat walk_at "st"
    rw [lt_low hxf.2]
    by_cases e2 : low x = true
    · rw [if_pos e2]
      refine wpC.of ?_
      repeat walk_at "st"
      rename In _ _ _ _ _ _ _ => J
      exact hret _ _ _ J.keep J.stays (pack4 J.data.1 (by rw [renamed, if_neg e0, if_neg e3, if_pos e2]) (by rw [renamed, if_neg e0, if_neg e3, if_pos e2]))
    · rw [if_neg e2]
      refine wpC_execs_nil ?_
      dsimp only
      refine wpC_execs_cons (wpC.of ?_)
      repeat walk_at "st"
      refine I.splitG (by decide) (by rw [sizeLine_eq]; omega) fun h₂ d₂ vs₂ tk₂ I₂ hs₂ n₂ g₂ => ?_
      rw [split_glue (by simp) hF.free] at hs₂
      clear I
      repeat walk_at "st"
      rename In _ _ _ _ _ _ _ => J
      refine wpC_execs_cons (wpC_mono (Q := fun f s' => f = Flow.next ∧ ∃ h' tk' m' D' t', s' = ⟨h', gn, dr, tk', os⟩ ∧ In g A h L h' m' D' ∧ m' (Str.ofString "release") = some (.str (glue (renamed s x rs).2) t') ∧ m' (Str.ofString "version") = some (.str ver t2)) (E := fun _ _ => False) ?main ?fin (fun _ _ x => x))
      case fin =>
        clear J
        rintro f s' ⟨rfl, h', tk', m', D', t', rfl, J, hr, hv⟩
        dsimp only
        refine wpC_execs_cons (wpC.of ?_)
        repeat walk_at "st"
        refine lt_str ?_
        repeat walk_at "st"
        split
        · repeat walk_at "st"
          refine wpC_execs_nil ?_
          dsimp only
          refine wpC.of ?_
          repeat walk_at "st"
          rename In _ _ _ _ _ _ _ => J
          exact hret _ _ _ J.keep J.stays (pack4 J.data.1 (by rw [renamed, if_neg e0, if_neg e3, if_neg e2]; split <;> rfl) rfl)
        · repeat walk_at "st"
          refine wpC_execs_nil ?_
          dsimp only
          refine wpC.of ?_
          repeat walk_at "st"
          rename In _ _ _ _ _ _ _ => J
          exact hret _ _ _ J.keep J.stays (pack4 J.data.1 (by rw [renamed, if_neg e0, if_neg e3, if_neg e2]; split <;> rfl) rfl)
      case main =>
        have hvl : vs₂.length = rs.length + 1 := by rw [strs_len hs₂]; rfl
        have hrl : rs.length + 1 ≤ n := hF.2.1
        refine wpC_If (isTrue_plain ?_)
        repeat walk_at "st"
        refine wpAny_truthy_list (Sq.lst (by walk_at "sq")) (by rw [List.size_toArray, hvl]; omega) ?_
        rw [if_pos (by cases vs₂ with
          | nil => simp at hvl
          | cons a b => rfl)]
        refine wpC_execs_cons (wpC_Try ?_)
        refine wpC_execs_cons (wpC_Assign (wpC_CallName ?_))
        refine In.blt (v := .type "int") J B (by k_is) (by kernel_rfl) ?_
        refine callTypeC ?_
        repeat walk_at "st"
        obtain ⟨tx, hx0⟩ : ∃ tx, vs₂[0]? = some (.str x tx) := strs_at hs₂ (i := 0) (by simp) (Str.ofString "")
        refine item_at (by walk_at "sq") (by decide) (by decide) hx0 ?_
        repeat walk_at "st"
        by_cases e4 : num x = -1
        · refine J.intBad B hfr e4 hxf.2 (by omega) rfl rfl (by k_is) fun h₃ tk₃ e J₃ => ?_
          refine wpAny_execs_cons (wpAny_Pass (wpAny_execs_nil ?_))
          dsimp only
          refine wpC_execs_nil ⟨rfl, _, _, _, _, t1, rfl, J₃, ?_, rfl⟩
          rw [renamed, if_neg e0, if_neg e3, if_neg e2, if_pos e4]
          rfl
        · refine wpC.of (KIN.call_text (int_good e4 (by omega)) (by omega) ?_)
          have h5 := low_num (by simpa using e2) hxf.2 e4
          repeat walk_at "st"
          refine wpC_execs_nil ?_
          dsimp only
          refine wpC.of ?_
          repeat walk_at "st"
          rename In _ _ _ _ _ _ _ => J
          refine wpAny_Assign_Subscript ?_
          refine wpAny_Call_NameR ?_
          refine In.blt (v := .type "str") J B (by k_is) (by kernel_rfl) ?_
          refine PyProof.Rows.callWith_type1 ?_
          repeat walk_at "st"
          have hnl := num_lt x
          refine PySem.P.str_of_int (log_small (k := x.length) (by omega) (by omega) (by omega)) ?_
          repeat walk_at "st"
          refine J.setAt (k := 0) (by walk_at "sq") n₂ g₂ (by omega) (by decide) fun h₅ J₅ => ?_
          clear J
          repeat walk_at "st"
          have hsA : ∀ tz, StrsAre (vs₂.toArray.setIfInBounds 0 (Value.str (Str.ofString (toString (num x - 3))) tz)).toList (figs (num x - 3) :: rs) := fun tz => by
            cases hs₂ with
            | cons y t r => exact .cons _ _ r
          have hfl := (num_figs e4 3 (by omega)).1
          have hsum : ((figs (num x - 3) :: rs).map (·.length)).sum ≤ (rs.length + 1) * 400 := by
            have key : ∀ (ys : List Str), (∀ y ∈ ys, y.length ≤ 400) → (ys.map (·.length)).sum ≤ ys.length * 400 := by
              intro ys
              induction ys with
              | nil => intro _; simp
              | cons y ys ih => intro hy; have := ih fun z hz => hy z (.tail _ hz); have := hy y (.head _); simp only [List.map_cons, List.sum_cons, List.length_cons]; omega
            refine key (figs (num x - 3) :: rs) fun y hy => ?_
            rcases List.mem_cons.mp hy with q | hy
            · rw [q]; exact Nat.le_trans hfl (by omega)
            · exact Nat.le_trans (hF.2.2 y (.tail _ hy)).1 hn
          refine join_listC (s := ⟨h₅, gn, dr, _, os⟩) J₅.data (hsA _) (by decide) (by simp only [List.length_cons] at hsum ⊢; omega) fun t' k => ?_
          repeat walk_at "st"
          rename In _ _ _ _ _ _ _ => J
          refine wpC_execs_nil ⟨rfl, _, _, _, _, t', rfl, J, ?_, rfl⟩
          rw [renamed, if_neg e0, if_neg e3, if_neg e2, if_neg e4]
          rfl
  · rw [if_neg e1]
    have es : (s != Str.ofString "SunOS") = true := by simpa using e1
    refine wpC_execs_cons (wpC_If ?_)
    repeat walk_at "st"
    rename In _ _ _ _ _ _ _ => J
    refine in_tuple_strs (ys := [Str.ofString "win32", Str.ofString "win16"]) (Sq.tup J.data.1) (.cons _ _ (.cons _ _ .nil)) ?_
    repeat walk_at "st"
    by_cases e2 : isWin s = true
    · rw [if_pos e2]
      refine wpC.of ?_
      repeat walk_at "st"
      refine wpC_execs_nil ?_
      dsimp only
      refine wpC.of ?_
      repeat walk_at "st"
      rename In _ _ _ _ _ _ _ => J
      exact hret _ _ _ J.keep J.stays (pack4 J.data.1 (by rw [renamed, if_pos e2]) (by rw [renamed, if_pos e2]))
    · rw [if_neg e2]
      refine wpC_execs_nil ?_
      dsimp only
      refine wpC_execs_nil ?_
      dsimp only
      refine wpC.of ?_
      repeat walk_at "st"
      rename In _ _ _ _ _ _ _ => J
      exact hret _ _ _ J.keep J.stays (pack4 J.data.1 (by rw [renamed, if_neg e2, if_pos es]) (by rw [renamed, if_neg e2, if_pos es]))
end
-- G9
section
variable {w : World} {g h : Heap} {mg mb : Str → Option Value}
theorem In.mapList {h₀ h : Heap} {A : Around} {L : Addr} {m : Str → Option Value} {D : Heap → Prop} {E : Value → Shared → Prop} {gn : Array GenState} {dr : Drawn} {tk : Nat} {os : OsState} {prog : Program} {Q : Value → Shared → Prop} {l : Addr} {vs : List Value} (I : In g A h₀ L h m D) (hl : Sq "list" l vs h)
    (hQ : ∀ h' m1 T1 it, In g A h₀ L h' m D → IsMap h' m1 T1 (.type "int") → IsOne h' T1 (.ref it) → h'.IsListIter it l 0 → h.get? it = none → Q (.ref m1) ⟨h', gn, dr, tk, os⟩) :
    wpAny (model prog w) A (call (.type "map") [.type "int", .ref l]) Q E ⟨h, gn, dr, tk, os⟩ := by
  refine callType_new (s := ⟨h, gn, dr, tk, os⟩) called_map (by decide) (typeCall_map_2 _ _) (newCall_map_2 _ _) (fun obj => F.args_object_init_3 obj _ _) entry_map_new (meets_map_list _ l vs.toArray) ⟨hl.lst, ?_⟩
  have g3 : (mapH3 h l (.type "int")).get? (mapH2 h l).objs.size = some _ := Heap.get?_push_size _ rfl
  have g2 : (mapH3 h l (.type "int")).get? (mapH1 h l).objs.size = some _ := Heap.get?_push_of_some _ (Heap.get?_push_size _ rfl)
  have g1 : (mapH3 h l (.type "int")).get? h.objs.size = some _ := Heap.get?_push_of_some _ (Heap.get?_push_of_some _ (Heap.get?_push_size _ rfl))
  exact ⟨⟨_, g3, rfl⟩, hQ _ _ _ _ (((I.push _).push _).push _) g3 g2 ⟨_, g1, rfl, rfl⟩ (Heap.get?_none_of_le (Nat.le_refl _))⟩
theorem In.mapMap {h₀ h : Heap} {A : Around} {L : Addr} {m : Str → Option Value} {D : Heap → Prop} {E : Value → Shared → Prop} {gn : Array GenState} {dr : Drawn} {tk : Nat} {os : OsState} {prog : Program} {Q : Value → Shared → Prop} {l m1 T1 it : Addr} {vs : List Value} (I : In g A h₀ L h m D) (hl : Sq "list" l vs h)
    (hm : IsMap h m1 T1 (.type "int")) (hT : IsOne h T1 (.ref it)) (hi : h.IsListIter it l 0)
    (hQ : ∀ h' m2 T2, In g A h₀ L h' m D → Maps h' m2 T2 m1 T1 it l vs 0 → Q (.ref m2) ⟨h', gn, dr, tk, os⟩) :
    wpAny (model prog w) A (call (.type "map") [.type "str", .ref m1]) Q E ⟨h, gn, dr, tk, os⟩ := by
  refine callType_new (s := ⟨h, gn, dr, tk, os⟩) called_map (by decide) (typeCall_map_2 _ _) (newCall_map_2 _ _) (fun obj => F.args_object_init_3 obj _ _) entry_map_new (meets_map_map _ m1 T1 (.type "int")) ⟨hm, ?_⟩
  have e1 : (h.push { cls := .type "tuple", data := .seq #[.ref m1] }).objs.size = h.objs.size + 1 := Heap.size_push _ _
  have g2 : ((h.push { cls := .type "tuple", data := .seq #[.ref m1] }).push { cls := .type "map", data := .fields #[.ref h.objs.size, .type "str"] }).get? (h.objs.size + 1) = some _ := e1 ▸ Heap.get?_push_size _ rfl
  have g1 : ((h.push { cls := .type "tuple", data := .seq #[.ref m1] }).push { cls := .type "map", data := .fields #[.ref h.objs.size, .type "str"] }).get? h.objs.size = some _ := Heap.get?_push_of_some _ (Heap.get?_push_size _ rfl)
  have kp : ∀ b o, h.get? b = some o → ((h.push { cls := .type "tuple", data := .seq #[.ref m1] }).push { cls := .type "map", data := .fields #[.ref h.objs.size, .type "str"] }).get? b = some o := fun b o e => Heap.get?_push_of_some _ (Heap.get?_push_of_some _ e)
  exact ⟨⟨_, g2, rfl⟩, hQ _ _ _ ((I.push _).push _) ⟨g2, g1, kp _ _ hm, kp _ _ hT, let ⟨o, e, r⟩ := hi; ⟨o, kp _ _ e, r⟩, let ⟨o, e, r⟩ := hl.lst; ⟨o, kp _ _ e, r⟩⟩⟩
def told (xs : List Str) : List Str := if (xs.any fun x => num x == -1) = true then xs else xs.map fun x => figs (num x)
theorem told_take (xs : List Str) : (told xs).take 3 = normal xs := by
  unfold told normal
  split
  · rfl
  · rw [List.map_take]
set_option maxHeartbeats 8000000 in
theorem spec_norm (B : Bs w g mg mb) (ws : List Str) (b : Str) (t t1 : Tok) (n : Nat) (hn : n ≤ 400) (hF : Fine n ws) (hbl : b.length ≤ 10) (hbo : ∀ c ∈ b.cps.toList, ok c = true) :
    SpecC w g (.ref 22) [.str (glue ws) t, .str b t1] 4 h (fun h' r => ∃ t', r = .str (glue (normal (ws ++ if (b != Str.ofString "") = true then [b] else []))) t') := by
  have ⟨_, _, _, T⟩ := B.t
  have hgl : (glue ws).length ≤ 400 * 401 := Nat.le_trans (glue_len _ n fun y hy => (hF.2.2 y hy).1) (Nat.mul_le_mul (Nat.le_trans hF.2.1 hn) (by omega))
  refine enterD (binds := [(Str.ofString "version", .str (glue ws) t), (Str.ofString "build", .str b t1)]) (D := fun h => True) trivial st_true B.x T (by k_is) (by k_is) (fun gn dr tk os st => binds_K (s := ⟨h, gn, dr, tk, os⟩) (B.x.keeps st) rfl (by k_is) rfl rfl rfl) (locs rfl) rfl rfl rfl (by decide) ?_
  intro A L h₁ gn dr tk os Q I hfr hd hu hret
  refine wpC_execs_cons (wpC.of ?_)
  repeat walk_at "st"
  refine I.splitG (by decide) (by rw [sizeLine_eq]; omega) fun h₂ d₂ vs₂ tk₂ I₂ hs₂ n₂ g₂ => ?_
  rw [split_glue hF.1 hF.free] at hs₂
  clear I
  repeat walk_at "st"
  rename In _ _ _ _ _ _ _ => J
  have hvl : vs₂.length ≤ 400 := by rw [strs_len hs₂]; exact Nat.le_trans hF.2.1 hn
  refine wpC_execs_cons (wpC_mono (Q := fun f s' => f = Flow.next ∧ ∃ h' tk' us, s' = ⟨h', gn, dr, tk', os⟩ ∧ In g A h L h' (fun y => if y = Str.ofString "l" then some (.ref d₂) else List.lookup y [(Str.ofString "version", Value.str (glue ws) t), (Str.ofString "build", .str b t1)].reverse) (fun h => Sq "list" d₂ us h) ∧ StrsAre us (ws ++ if (b != Str.ofString "") = true then [b] else [])) (E := fun _ _ => False) ?main ?fin (fun _ _ x => x))
  case main =>
    refine wpC.of (wpAny_If (isTrue_plain ?_))
    repeat walk_at "st"
    refine PySem.P.truthy_str (by omega) ?_
    have hbe : ((b.length : Int) != 0) = (b != Str.ofString "") := by
      have e0 : (Str.ofString "").length = 0 := by decide
      by_cases q : b = Str.ofString ""
      · subst q; decide
      · have : b.length ≠ 0 := fun z => q (Str.ext' (Array.ext' (by
          have z' : b.cps.size = 0 := z
          rw [Array.toList_eq_nil_iff.mpr (Array.eq_empty_of_size_eq_zero z')]
          decide)))
        rw [bne_iff_ne.mpr (by omega), bne_iff_ne.mpr q]
    rw [hbe]
    by_cases eb : (b != Str.ofString "") = true
    · rw [if_pos eb]
      refine wpAny_execs_cons (wpAny_Expr ?_)
      refine MethodCall_ ?_
      repeat walk_at "st"
      obtain ⟨o, no, ho, hc, hdat, hdi⟩ := J.data.1
      refine getMethod_list_append ho hc hdi ?_
      repeat walk_at "st"
      refine J.append (D' := fun h => Sq "list" d₂ (vs₂ ++ [Value.str b t1]) h) J.data.1 n₂ g₂ (by rw [sizeLine_eq]; omega) (fun _ _ q => q) (fun _ _ U q => q.up U) fun h₃ J₃ S₃ => ?_
      refine wpAny_execs_nil ⟨rfl, h₃, _, _, rfl, J₃, ?_⟩
      rw [if_pos eb]
      exact strs_app hs₂ (.cons _ _ .nil)
    · rw [if_neg eb]
      refine wpAny_execs_nil ⟨rfl, _, _, vs₂, rfl, J.but (fun _ x => x.1) (fun _ _ U x => x.up U), ?_⟩
      rw [if_neg eb, List.append_nil]
      exact hs₂
  case fin =>
    clear J
    rintro f s' ⟨rfl, h₃, tk₃, us, rfl, J, hus⟩
    dsimp only
    generalize hxs : (ws ++ if (b != Str.ofString "") = true then [b] else []) = xs at hus hret
    have hok : xs.length ≤ 401 ∧ ∀ x ∈ xs, x.length ≤ 400 ∧ ∀ c ∈ x.cps.toList, ok c = true := by
      have hw : ws.length ≤ 400 := Nat.le_trans hF.2.1 hn
      rw [← hxs]
      split
      · refine ⟨by rw [List.length_append]; show _ + 1 ≤ _; omega, fun x hx => ?_⟩
        rcases List.mem_append.mp hx with hx | hx
        · exact ⟨Nat.le_trans (hF.2.2 x hx).1 hn, (hF.2.2 x hx).2⟩
        · rw [List.mem_singleton.mp hx]; exact ⟨by omega, hbo⟩
      · rw [List.append_nil]
        exact ⟨by omega, fun x hx => ⟨Nat.le_trans (hF.2.2 x hx).1 hn, (hF.2.2 x hx).2⟩⟩
    refine wpC_execs_cons (wpC_mono (Q := fun f s' => f = Flow.next ∧ ∃ h' tk' m' D' d us, s' = ⟨h', gn, dr, tk', os⟩ ∧ In g A h L h' m' D' ∧ (∀ h, D' h → Sq "list" d us h) ∧ StrsAre us (told xs) ∧ m' (Str.ofString "strings") = some (.ref d)) (E := fun _ _ => False) ?tri ?fin2 (fun _ _ x => x))
    case tri =>
      refine wpC_Try ?_
      refine wpC_execs_cons (wpC_Assign (wpC_CallName ?_))
      refine In.blt (v := .type "list") J B (by k_is) (by kernel_rfl) ?_
      refine callTypeC ?_
      refine spliced_more ?_
      refine wpAny_Call_NameR ?_
      refine In.blt (v := .type "map") J B (by k_is) (by kernel_rfl) ?_
      refine PyProof.Rows.callWith_type1 ?_
      refine spliced_more ?_
      refine In.blt (v := .type "str") J B (by k_is) (by kernel_rfl) ?_
      refine spliced_more ?_
      refine wpAny_Call_NameR ?_
      refine In.blt (v := .type "map") J B (by k_is) (by kernel_rfl) ?_
      refine PyProof.Rows.callWith_type1 ?_
      refine spliced_more ?_
      refine In.blt (v := .type "int") J B (by k_is) (by kernel_rfl) ?_
      repeat walk_at "st"
      refine J.mapList J.data fun h₄ m1 T1 it J₄ a1 a2 a3 n4 => ?_
      repeat walk_at "st"
      refine J₄.mapMap J₄.data a1 a2 a3 fun h₅ m2 T2 J₅ MM => ?_
      repeat walk_at "st"
      have hi₀ : h.get? it = none := J.new n4
      have hig : g.get? it = none := J.gnew n4
      obtain ⟨oi, ei, ci, di⟩ := id MM.e
      refine list_maps hus hok.2 (by omega) J₅.hh MM (fun ha h' tk' d us' k nd q hs => ?_) fun hb h' tk' e ob tt k ne he hc hd => ?_
      · have J₆ := ((J₅.iter ei di hi₀ hig k).also q fun _ _ U => Sq.up U)
        refine J₆.store (by rfl) (by rfl) fun h₇ tk₇ J₇ S₇ => ?_
        dsimp only
        refine wpC_execs_nil ?_
        dsimp only
        refine wpC_execs_nil ⟨rfl, h₇, tk₇, _, _, d, us', rfl, J₇, fun _ x => x.1, ?_, rfl⟩
        rw [told, if_neg]
        · exact hs
        · intro q
          obtain ⟨x, hx, e⟩ := List.any_eq_true.mp q
          exact ha x hx (by simpa using e)
      · have J₆ := J₅.iter ei di hi₀ hig k
        refine J₆.caught B hfr he hc hd (J₅.new ne) (J₅.gnew ne) rfl rfl (by k_is) fun h₇ J₇ => ?_
        refine wpAny_execs_cons (wpAny_Assign_Name (ld (s := ⟨h₇, gn, dr, _, os⟩) J₇.fr (v := .ref d₂) rfl ?_))
        refine wpAny_storeName_local rfl J₇.fr.ns (fun h₈ hn₈ hs₈ => ?_) (by rfl)
        have J₈ := J₇.set hn₈ hs₈
        refine wpAny_execs_nil ⟨rfl, h₈, _, _, _, d₂, us, rfl, J₈, fun _ x => x, ?_, rfl⟩
        obtain ⟨x, hx, e⟩ := hb
        rw [told, if_pos (List.any_eq_true.mpr ⟨x, hx, by rw [e]; rfl⟩)]
        exact hus
    case fin2 =>
      clear J
      rintro f s' ⟨rfl, h', tk', m', D', d, us', rfl, J, hD, hs, hm⟩
      dsimp only
      refine wpC.of ?_
      repeat walk_at "st"
      rename In _ _ _ _ _ _ _ => J
      have htl : us'.length ≤ 401 := by
        rw [strs_len hs, told]
        split
        · exact hok.1
        · rw [List.length_map]; exact hok.1
      refine J.cutTo (n := 3) (hD _ J.data) (by assumption) (by rw [sizeLine_eq]; omega) fun h₃ d₃ J₃ n₃ _ => ?_
      clear J
      repeat walk_at "st"
      have hsum : (((told xs).take 3).map (·.length)).sum ≤ 3 * 401 := by
        have key : ∀ (ys : List Str), (∀ y ∈ ys, y.length ≤ 401) → (ys.map (·.length)).sum ≤ ys.length * 401 := by
          intro ys
          induction ys with
          | nil => intro _; simp
          | cons y ys ih => intro hy; have := ih fun z hz => hy z (.tail _ hz); have := hy y (.head _); simp only [List.map_cons, List.sum_cons, List.length_cons]; omega
        refine Nat.le_trans (key _ fun y hy => ?_) (Nat.mul_le_mul_right _ (by rw [List.length_take]; omega))
        have hy := List.mem_of_mem_take hy
        rw [told] at hy
        split at hy
        · exact Nat.le_trans (hok.2 y hy).1 (by omega)
        · rename_i q
          obtain ⟨x, hx, rfl⟩ := List.mem_map.mp hy
          have hne : num x ≠ -1 := fun z => q (List.any_eq_true.mpr ⟨x, hx, by rw [z]; rfl⟩)
          have h0 : 0 ≤ num x - (0 : Nat) := by rcases num_cases x with z | z <;> omega
          have hf := (num_figs hne 0 h0).1
          have hxl := (hok.2 x hx).1
          rw [show num x - ((0 : Nat) : Int) = num x by omega] at hf
          omega
      refine join_at J₃.data.1 (strs_take hs 3) (by decide) (by rw [List.length_take]; omega) fun t' k => ?_
      repeat walk_at "st"
      rename In _ _ _ _ _ _ _ => J
      exact hret _ _ _ J.keep J.stays ⟨t', by rw [told_take]⟩
end
-- G10
section
variable {w : World} {g h : Heap} {mg mb : Str → Option Value}
/-- a record of texts -/
def TR (d : Addr) (r : St) (h : Heap) : Prop := ∃ t t1 t2, Sq "tuple" d [.str r.1 t, .str (glue r.2.1) t1, .str (glue r.2.2) t2] h
theorem TR.up {d : Addr} {r : St} {h h' : Heap} (U : Up h h') (x : TR d r h) : TR d r h' := let ⟨t, t1, t2, a⟩ := x; ⟨t, t1, t2, a.up U⟩
theorem packT {d : Addr} {r : St} {s a b : Str} {t t1 t2 : Tok} (q : Sq "tuple" d [.str s t, .str a t1, .str b t2] h) (e : r.1 = s) (e1 : glue r.2.1 = a) (e2 : glue r.2.2 = b) : ∃ d', Value.ref d = .ref d' ∧ TR d' r h := by
  subst e e1 e2
  exact ⟨d, rfl, t, t1, t2, q⟩
theorem thing_build {x : Int} (h : kindOf x = 1) : ∀ c ∈ (thing x).cps.toList, ok c = true := by
  have hB : ∀ i, ∀ c ∈ (menuB.getD i (Str.ofString "")).cps.toList, ok c = true := fun i => by
    rcases i with _ | _ | _ | _ | i <;> first | decide | (show ∀ c ∈ (Str.ofString "").cps.toList, ok c = true; decide)
  rw [thing, if_pos h]
  exact hB _
set_option maxHeartbeats 8000000 in
theorem spec_done (B : Bs w g mg mb) (d : Addr) (r : St) (x : Int) (t : Tok) (hd : TR d r h) (n : Nat) (hn : n ≤ 400) (h1 : Fine n r.2.1) (h2 : Fine n r.2.2) :
    SpecC w g (.ref 57) [.ref d, .int x t] 6 h (fun h' v => ∃ d', v = .ref d' ∧ TR d' (due r x) h') := by
  have ⟨_, _, _, T⟩ := B.t
  obtain ⟨s, rs, vs⟩ := r
  obtain ⟨t0, t1, t2, q0⟩ := hd
  have hg1 : (glue rs).length ≤ 160400 := glue_fine_len h1 hn
  have hg2 : (glue vs).length ≤ 160400 := glue_fine_len h2 hn
  have hth := thing_len x
  refine enterD (binds := [(Str.ofString "record", .ref d), (Str.ofString "x", .int x t)]) (D := fun h => Sq "tuple" d [.str s t0, .str (glue rs) t1, .str (glue vs) t2] h) q0 (fun _ _ U x => x.up U) B.x T (by k_is) (by k_is) (fun _ _ _ _ _ => BindsTo.of_eq rfl) (locs rfl) rfl rfl rfl (by decide) ?_
  intro A L h₁ gn dr tk os Q I hfr hd hu hret
  refine wpC_execs_cons (wpC.of ?_)
  repeat walk_at "st"
  refine wpC_execs_cons (wpC.of ?_)
  repeat walk_at "st"
  rename In _ _ _ _ _ _ _ => J
  refine J.use (spec_deed B x t) (fun r _ _ U q => let ⟨d, t1, t2, e, q⟩ := q; ⟨d, t1, t2, e, q.up U⟩) (by omega) (by omega) fun r h₅ tk₅ J₅ K₅ => ?_
  clear J
  obtain ⟨dd, tt1, tt2, rfl, qd⟩ := id J₅.data.1
  have J : In g A h L h₅ _ (fun h => Sq "tuple" dd [.int (kindOf x) tt1, .str (thing x) tt2] h ∧ Sq "tuple" d [.str s t0, .str (glue rs) t1, .str (glue vs) t2] h) := ⟨J₅.fr, J₅.keep, J₅.above, J₅.fs, J₅.hh, ⟨qd, J₅.data.2⟩, fun _ _ U x => ⟨x.1.up U, x.2.up U⟩⟩
  clear J₅
  repeat walk_at "st"
  refine wpC_execs_cons (wpC_If ?_)
  repeat walk_at "st"
  rename In _ _ _ _ _ _ _ => J
  by_cases e0 : kindOf x = 0
  · rw [if_pos (by rw [e0]; decide)]
    refine wpC_execs_cons (wpC_Return (wpC_CallName ?_))
    refine In.glob J B (by k_is) ?_
    refine callC ?_
    repeat walk_at "st"
    refine ⟨⟨_, _, B.x.keeps J.stays _ _ (by k_is), rfl⟩, ?_⟩
    have hc := fine_cons h1
    have hF : Fine n (rs.headD (Str.ofString "") :: rs.tail) := hc ▸ h1
    have S := fun h => spec_alias (h := h) B s (rs.headD (Str.ofString "")) rs.tail t0 t1 t2 (glue vs) n hn hF
    rw [← hc] at S
    refine J.useC (S _) (fun _ _ _ U q => let ⟨d, a, b, e, q⟩ := q; ⟨d, a, b, e, q.up U⟩) (by omega) (by omega) fun r h₆ tk₆ J₆ K₆ => ?_
    obtain ⟨d₆, t₆, t₇, rfl, q₆⟩ := id J₆.data.1
    exact hret _ _ _ J₆.keep J₆.stays (packT q₆ (by rw [due, if_pos e0]) (by rw [due, if_pos e0]) (by rw [due, if_pos e0]))
  · rw [if_neg (by simpa using e0)]
    refine wpC_execs_nil ?_
    dsimp only
    refine wpC_execs_cons (wpC_If ?_)
    repeat walk_at "st"
    by_cases e1 : kindOf x = 1
    · rw [if_pos (by rw [e1]; decide)]
      refine wpC_execs_cons (wpC_Return (wpC_Tuple ?_))
      refine wpC_spliced (wpC.of ?_)
      repeat walk_at "st"
      refine wpC_spliced (wpC.of ?_)
      repeat walk_at "st"
      refine wpC_spliced (wpC_CallName ?_)
      refine In.glob J B (by k_is) ?_
      refine callC ?_
      repeat walk_at "st"
      refine ⟨⟨_, _, B.x.keeps J.stays _ _ (by k_is), rfl⟩, ?_⟩
      refine J.useC (spec_norm B vs (thing x) _ _ n hn h2 hth (thing_build e1)) (fun _ _ _ _ q => q) (by omega) (by omega) fun r h₆ tk₆ J₆ K₆ => ?_
      clear J
      obtain ⟨t3, rfl⟩ := J₆.data.1
      refine wpC.of ?_
      repeat walk_at "st"
      rename In _ _ _ _ _ _ _ => J
      exact hret _ _ _ J.keep J.stays (packT J.data.1 (by rw [due, if_neg e0, if_pos e1]) (by rw [due, if_neg e0, if_pos e1]) (by rw [due, if_neg e0, if_pos e1]))
    · rw [if_neg (by simpa using e1)]
      refine wpC_execs_nil ?_
      dsimp only
      refine wpC.of ?_
      repeat walk_at "st"
      by_cases e2 : kindOf x = 2
      · rw [if_pos (by rw [e2]; decide)]
        repeat walk_at "st"
        rename In _ _ _ _ _ _ _ => J
        exact hret _ _ _ J.keep J.stays (packT J.data.1 (by rw [due, if_neg e0, if_neg e1, if_pos e2]) (by rw [due, if_neg e0, if_neg e1, if_pos e2]) (by rw [due, if_neg e0, if_neg e1, if_pos e2]))
      · rw [if_neg (by simpa using e2)]
        repeat walk_at "st"
        by_cases e3 : kindOf x = 3
        · rw [if_pos (by rw [e3]; decide)]
          repeat walk_at "st"
          refine In.blt (v := .type "tuple") J B (by k_is) (by kernel_rfl) ?_
          refine PyProof.Rows.callWith_type1 ?_
          refine spliced_more ?_
          refine J.lcomp (by decide) (by decide) rfl (by decide) ?_
          repeat walk_at "st"
          have hsv : StrsAre [Value.str s t0, .str (glue rs) t1, .str (glue vs) t2] [s, glue rs, glue vs] := .cons _ _ (.cons _ _ (.cons _ _ .nil))
          refine ⟨_, _, _, _, _, "tuple", [.str s t0, .str (glue rs) t1, .str (glue vs) t2], fun acc i us h => StrsAre us (([s, glue rs, glue vs].take i).map fun (y : Str) => if y = "unknown" then "" else y), rfl, rfl, J, .inr rfl, fun _ x => x.2, (show 3 ≤ 1000 by decide), ⟨fun _ _ _ _ _ _ x => x, fun _ _ => .nil, ?turn⟩, ?rest⟩
          case turn =>
            intro acc Lc i y us m h₂ tk₂ hn hy J₂
            obtain ⟨z, tz, hz, rfl⟩ := strs_get hsv hy
            clear J
            refine assign_Name (J₂.storeE (by rfl) (by rfl) (by rfl) fun h₃ tk₃ J₃ S₃ => ?_)
            clear J₂
            repeat walk_at "st"
            refine J₃.use (spec_blank B z tz) (fun _ _ _ _ q => q) (by omega) (by omega) fun r h₅ tk₅ J₅ K₅ => ?_
            obtain ⟨tn, rfl⟩ := J₅.data.1
            refine ⟨h₅, tk₅, _, rfl, J₅.but (fun _ x => x.2) J₃.st, ?_, (kb_same S₃).trans K₅.kb⟩
            rw [take_more' hz, List.map_append]
            exact strs_app J₅.data.2.2.1 (.cons _ _ .nil)
          case rest =>
            intro acc h₂ tk₂ us hlen J₂ hP hn₂ _
            clear J
            repeat walk_at "st"
            refine J₂.tupleOf J₂.data.1 (by rw [hlen, sizeLine_eq]; show 3 ≤ _; decide) fun h₃ d₃ J₃ => ?_
            have hP' : StrsAre us [if s = "unknown" then "" else s, if glue rs = "unknown" then "" else glue rs, if glue vs = "unknown" then "" else glue vs] := hP
            rw [if_neg (glue_known h1), if_neg (glue_known h2)] at hP'
            cases hP' with
            | cons _ ta hP' =>
              cases hP' with
              | cons _ tb hP' =>
                cases hP' with
                | cons _ tc hP' =>
                  cases hP'
                  refine hret _ _ _ J₃.keep J₃.stays (packT J₃.data.1 ?_ (by rw [due, if_neg e0, if_neg e1, if_neg e2, if_pos e3]) (by rw [due, if_neg e0, if_neg e1, if_neg e2, if_pos e3]))
                  rw [due, if_neg e0, if_neg e1, if_neg e2, if_pos e3]
                  by_cases q : s = "unknown"
                  · rw [if_pos q, if_pos (show (s == Str.ofString "unknown") = true by rw [q]; decide)]
                  · rw [if_neg q, if_neg (show ¬(s == Str.ofString "unknown") = true by simpa using q)]
        · rw [if_neg (by simpa using e3)]
          repeat walk_at "st"
          by_cases e4 : kindOf x = 4
          · rw [if_pos (by rw [e4]; decide)]
            repeat walk_at "st"
            refine add_str (fun t₂ tk₂ => ?_) (by rw [sizeLine_eq]; omega)
            repeat walk_at "st"
            rename In _ _ _ _ _ _ _ => J
            exact hret _ _ _ J.keep J.stays (packT J.data.1 (by rw [due, if_neg e0, if_neg e1, if_neg e2, if_neg e3, if_pos e4]) (by rw [due, if_neg e0, if_neg e1, if_neg e2, if_neg e3, if_pos e4]; exact glue_behind _ h1.1) (by rw [due, if_neg e0, if_neg e1, if_neg e2, if_neg e3, if_pos e4]))
          · rw [if_neg (by simpa using e4)]
            repeat walk_at "st"
            by_cases e5 : kindOf x = 5
            · rw [if_pos (by rw [e5]; decide)]
              repeat walk_at "st"
              refine add_str (fun t₂ tk₂ => ?_) (by rw [sizeLine_eq]; omega)
              repeat walk_at "st"
              rename In _ _ _ _ _ _ _ => J
              exact hret _ _ _ J.keep J.stays (packT J.data.1 (by rw [due, if_neg e0, if_neg e1, if_neg e2, if_neg e3, if_neg e4, if_pos e5]) (by rw [due, if_neg e0, if_neg e1, if_neg e2, if_neg e3, if_neg e4, if_pos e5]) (by rw [due, if_neg e0, if_neg e1, if_neg e2, if_neg e3, if_neg e4, if_pos e5]; exact glue_behind _ h2.1))
            · rw [if_neg (by simpa using e5)]
              repeat walk_at "st"
              by_cases e6 : kindOf x = 6
              · rw [if_pos (by rw [e6]; decide)]
                repeat walk_at "st"
                rename In _ _ _ _ _ _ _ => J
                exact hret _ _ _ J.keep J.stays (packT J.data.1 (by rw [due, if_neg e0, if_neg e1, if_neg e2, if_neg e3, if_neg e4, if_neg e5, if_pos e6]) (by rw [due, if_neg e0, if_neg e1, if_neg e2, if_neg e3, if_neg e4, if_neg e5, if_pos e6]) (by rw [due, if_neg e0, if_neg e1, if_neg e2, if_neg e3, if_neg e4, if_neg e5, if_pos e6]))
              · rw [if_neg (by simpa using e6)]
                repeat walk_at "st"
                rename In _ _ _ _ _ _ _ => J
                exact hret _ _ _ J.keep J.stays (packT J.data.1 (by rw [due, if_neg e0, if_neg e1, if_neg e2, if_neg e3, if_neg e4, if_neg e5, if_neg e6]) (by rw [due, if_neg e0, if_neg e1, if_neg e2, if_neg e3, if_neg e4, if_neg e5, if_neg e6]; rw [glue_behind _ (by simp), glue_one]; exact sl_ext (by rw [sl_app, sl_nil]; rfl)) (by rw [due, if_neg e0, if_neg e1, if_neg e2, if_neg e3, if_neg e4, if_neg e5, if_neg e6]))
end
-- G11
section
variable {w : World} {g h : Heap} {mg mb : Str → Option Value}
set_option maxHeartbeats 8000000 in
/-- a fold, from a first value on, by a function whose contract is known -/
theorem spec_reduce (B : Bs w g mg mb) (f l d0 : Addr) (vs : List Value) (k : Nat) (P : Nat → Value → Heap → Prop) (sP : ∀ i v h h', Up h h' → P i v h → P i v h') (hl : Sq "list" l vs h) (h0 : P 0 (.ref d0) h) (hne : d0 ≠ 37) (od : Obj) (hod : h.get? d0 = some od)
    (of : Obj) (fd : FuncData) (hof : h.get? f = some of) (hfd : of.data = .func fd)
    (step : ∀ i y v h', Kp h h' → vs[i]? = some y → P i v h' → SpecC w g (.ref f) [v, y] k h' (fun h'' r => P (i + 1) r h'')) :
    SpecC w g (.ref 45) [.ref f, .ref l, .ref d0] (k + 1) h (fun h' r => P vs.length r h') := by
  have ⟨_, _, _, T⟩ := B.t
  refine enterD (binds := [(Str.ofString "function", .ref f), (Str.ofString "sequence", .ref l), (Str.ofString "initial", .ref d0)]) (D := fun h => Sq "list" l vs h ∧ P 0 (.ref d0) h) ⟨hl, h0⟩ (fun _ _ U x => ⟨x.1.up U, sP _ _ _ _ U x.2⟩) B.x T (by k_is) (by k_is) (fun gn dr tk os st => binds_K (s := ⟨h, gn, dr, tk, os⟩) (B.x.keeps st) rfl (by k_is) rfl rfl rfl) (locs rfl) rfl rfl rfl (by decide) ?_
  intro A L h₁ gn dr tk os Q I hfr hd hu hret
  refine wpC_execs_cons (wpC.of ?_)
  refine wpAny_Assign_Name (wpAny_Call_NameR ?_)
  refine In.blt (v := .builtin "iter") I B (by k_is) (by kernel_rfl) ?_
  refine callWith_method1 ?_
  repeat walk_at "st"
  refine I.iterCall I.data.1 fun h₂ it I₂ hit ni gi => ?_
  clear I
  refine I₂.store (by rfl) (by rfl) fun h₃ tk₃ I₃ S₃ => ?_
  obtain ⟨oi, fi, ei, di⟩ := lstiter_rec hit
  have hit₃ : h₃.IsListIter it l 0 := hit.extBut S₃.extBut (rec_ne ei di I₂.fr.ns)
  clear I₂
  refine wpC_execs_cons (wpC.of ?_)
  repeat walk_at "st"
  obtain ⟨sl, eod⟩ := I₃.keep d0 od hod
  refine is_other' hne eod (B.x.keeps I₃.stays _ _ (by k_is)) (by decide) ?_
  repeat walk_at "st"
  rw [if_neg (by decide)]
  refine wpAny_execs_cons (wpAny_Assign_Name (In.loc I₃ (v := .ref d0) rfl ?_))
  refine I₃.store (by rfl) (by rfl) fun h₄ tk₄ I₄ S₄ => ?_
  obtain ⟨oi₃, fi₃, ei₃, di₃⟩ := lstiter_rec hit₃
  have hit₄ : h₄.IsListIter it l 0 := hit₃.extBut S₄.extBut (rec_ne ei₃ di₃ I₃.fr.ns)
  clear I₃
  dsimp only
  refine wpAny_execs_nil ?_
  dsimp only
  refine wpC_execs_cons (wpC_For ?_)
  repeat walk_at "st"
  refine wpAny_pyIter_listiter (s := ⟨h₄, gn, dr, _, os⟩) hit₄ ?_
  refine forListC (l := l) (vs := vs) (P := fun i m D => ∃ v, D = (fun h => Sq "list" l vs h ∧ P i v h) ∧ m (Str.ofString "value") = some v ∧ m (Str.ofString "function") = some (.ref f)) ni gi ?_ rfl rfl ?turn ?done vs.length 0 _ _ _ _ (by omega) I₄ hit₄ ⟨_, rfl, rfl, rfl⟩
  · rintro i m D ⟨v, rfl, _, _⟩ h x
    exact x.1
  case turn =>
    rintro i y m D h₅ tk₅ hy ⟨v, rfl, hv, hf⟩ I₅ hit₅
    clear I₄
    refine wpC_execs_cons (wpC_Assign (wpC_CallName ?_))
    refine In.loc I₅ (v := .ref f) (by (try dsimp only); rw [if_neg (by decide)]; exact hf) ?_
    refine callC ?_
    refine spliced_more (In.loc I₅ (v := v) (by (try dsimp only); rw [if_neg (by decide)]; exact hv) ?_)
    refine spliced_more (In.loc I₅ (v := y) rfl ?_)
    refine spliced_none ?_
    obtain ⟨slf, eof⟩ := I₅.keep f of hof
    refine ⟨⟨_, fd, eof, hfd⟩, ?_⟩
    refine I₅.useC (step i y v h₅ I₅.keep hy I₅.data.2) (fun r h h' U q => sP _ _ _ _ U q) (by omega) (by omega) fun r h₆ tk₆ I₆ K₆ => ?_
    refine I₆.store (by rfl) (by rfl) fun h₇ tk₇ I₇ S₇ => ?_
    obtain ⟨o5, fs5, e5, d5⟩ := lstiter_rec hit₅
    have hit₆ : h₆.IsListIter it l (i + 1) := by
      obtain ⟨o, e, c, d⟩ := hit₅
      obtain ⟨sl, e'⟩ := K₆ it o e
      exact ⟨_, e', c, d⟩
    obtain ⟨o6, fs6, e6, d6⟩ := lstiter_rec hit₆
    have hit₇ : h₇.IsListIter it l (i + 1) := hit₆.extBut S₇.extBut (rec_ne e6 d6 I₆.fr.ns)
    dsimp only
    refine wpC_execs_nil ?_
    refine ⟨h₇, tk₇, _, _, rfl, I₇.but (D' := fun h => Sq "list" l vs h ∧ P (i + 1) r h) (fun _ x => ⟨x.2.1, x.1⟩) (fun _ _ U x => ⟨x.1.up U, sP _ _ _ _ U x.2⟩), hit₇, r, rfl, rfl, ?_⟩
    (try dsimp only)
    rw [if_neg (by decide), if_neg (by decide)]
    exact hf
  case done =>
    rintro h₅ tk₅ m D I₅ ⟨v, rfl, hv, hf⟩
    dsimp only
    refine wpC.of ?_
    refine wpAny_execs_cons (wpAny_Return_some (In.loc I₅ hv ?_))
    exact hret _ _ _ I₅.keep I₅.stays I₅.data.2
end
-- G12
section
/-- a list of records -/
noncomputable def RL (P : Addr → St → Heap → Prop) : List Value → List St → Heap → Prop
  | [], [], _ => True
  | u :: us, r :: rs, h => (∃ d, u = .ref d ∧ P d r h) ∧ RL P us rs h
  | _, _, _ => False
variable {P : Addr → St → Heap → Prop}
theorem RL.imp {h h' : Heap} (k : ∀ d r, P d r h → P d r h') : ∀ {us : List Value} {rs : List St}, RL P us rs h → RL P us rs h'
  | [], [], _ => trivial
  | _ :: _, _ :: _, x => ⟨let ⟨d, e, p⟩ := x.1; ⟨d, e, k d _ p⟩, RL.imp k x.2⟩
theorem RL.len {h : Heap} : ∀ {us : List Value} {rs : List St}, RL P us rs h → us.length = rs.length
  | [], [], _ => rfl
  | _ :: _, _ :: _, x => by simp [RL.len x.2]
theorem RL.app {h : Heap} {d : Addr} {r : St} (p : P d r h) : ∀ {us : List Value} {rs : List St}, RL P us rs h → RL P (us ++ [.ref d]) (rs ++ [r]) h
  | [], [], _ => ⟨⟨d, rfl, p⟩, trivial⟩
  | _ :: _, _ :: _, x => ⟨x.1, RL.app p x.2⟩
theorem RL.at {h : Heap} : ∀ {us : List Value} {rs : List St}, RL P us rs h → ∀ {i : Nat} {r : St}, rs[i]? = some r → ∃ d, us[i]? = some (.ref d) ∧ P d r h
  | [], [], _, i, _, e => by cases i <;> cases e
  | _ :: _, _ :: _, x, 0, _, e => by
    cases e
    obtain ⟨d, rfl, p⟩ := x.1
    exact ⟨d, rfl, p⟩
  | _ :: _, _ :: _, x, i + 1, _, e => by
    obtain ⟨d, e', p⟩ := RL.at x.2 (i := i) (by simpa using e)
    exact ⟨d, by simpa using e', p⟩
theorem RL.last {h : Heap} {us : List Value} {rs : List St} (x : RL P us rs h) {r : St} (e : rs.getLast? = some r) : ∃ d, us.getLast? = some (.ref d) ∧ P d r h := by
  rw [List.getLast?_eq_getElem?] at e ⊢
  rw [x.len]
  exact x.at e
/-- the records up to a place -/
def recs (ns : List Int) (i : Nat) : List St := (List.range (i + 1)).map (stAt ns)
theorem recs_succ (ns : List Int) (i : Nat) : recs ns (i + 1) = recs ns i ++ [stAt ns (i + 1)] := by
  unfold recs
  rw [List.range_succ, List.map_append]
  rfl
theorem recs_last (ns : List Int) (i : Nat) : (recs ns i).getLast? = some (stAt ns i) := by
  unfold recs
  rw [List.range_succ, List.map_append]
  simp
theorem recs_at {ns : List Int} {i j : Nat} (h : j ≤ i) : (recs ns i)[j]? = some (stAt ns j) := by
  unfold recs
  rw [List.getElem?_map, List.getElem?_range (by omega)]
  rfl
theorem recs_len (ns : List Int) (i : Nat) : (recs ns i).length = i + 1 := by simp [recs]
theorem recs_zero (ns : List Int) : recs ns 0 = [r0] := rfl
/-- a record as data -/
def datR (r : St) : PyData := .tuple [.str r.1, .str (glue r.2.1), .str (glue r.2.2)]
theorem TR.reads {d : Addr} {r : St} {h : Heap} (x : TR d r h) : Reads h (.ref d) (datR r) [] := by
  obtain ⟨t, t1, t2, o, n, e, hc, hd, _⟩ := x
  refine .tuple e hc hd ?_
  exact .cons (as := []) (.str _ _) (.cons (as := []) (.str _ _) (.cons (as := []) (.str _ _) .nil))
theorem RL.reads {h : Heap} : ∀ {us : List Value} {rs : List St}, RL TR us rs h → ReadsAll h us (rs.map datR) []
  | [], [], _ => .nil
  | _ :: _, _ :: _, x => by
    obtain ⟨d, rfl, p⟩ := x.1
    exact .cons (as := []) p.reads (RL.reads x.2)
theorem list_reads {h : Heap} {d : Addr} {us : List Value} {rs : List St} (q : Sq "list" d us h) (x : RL TR us rs h) : Reads h (.ref d) (.list (rs.map datR)) [d] := by
  obtain ⟨o, n, e, hc, hd, _⟩ := q
  exact .list e hc hd (by simpa using x.reads)
theorem sysOk (r : St) (x : Int) (h : PyData.strOk r.1 = true) : PyData.strOk (due r x).1 = true := by
  have hS : ∀ i, PyData.strOk (menuS.getD i (Str.ofString "")) = true := fun i => by
    rcases i with _ | _ | _ | _ | _ | _ | _ | _ | i <;> first | decide +kernel | (show PyData.strOk (Str.ofString "") = true; decide +kernel)
  unfold due
  split
  · unfold renamed
    split
    · show PyData.strOk (Str.ofString "Windows") = true
      decide +kernel
    · split
      · exact h
      · split
        · exact h
        · split <;> (show PyData.strOk (Str.ofString "Solaris") = true; decide +kernel)
  · rename_i e0
    split
    · exact h
    · rename_i e1
      split
      · rename_i e2
        show PyData.strOk (thing x) = true
        rw [thing, if_neg e1, if_pos e2]
        exact hS _
      · split
        · show PyData.strOk (if _ then _ else _) = true
          split
          · decide +kernel
          · exact h
        · split
          · exact h
          · split
            · exact h
            · split <;> exact h
theorem sys_stAt (ns : List Int) (i : Nat) : PyData.strOk (stAt ns i).1 = true := by
  unfold stAt
  have key : ∀ (l : List Int) (r : St), PyData.strOk r.1 = true → PyData.strOk (l.foldl due r).1 = true := by
    intro l
    induction l with
    | nil => intro r h; exact h
    | cons x l ih => intro r h; exact ih _ (sysOk r x h)
  exact key _ r0 (by decide +kernel)
theorem glueOk {n : Nat} {xs : List Str} (h : Fine n xs) : PyData.strOk (glue xs) = true := by
  unfold PyData.strOk
  rw [← Array.all_toList, List.all_eq_true]
  intro c hc
  rcases mem_glue xs c hc with e | ⟨x, hx, hcx⟩
  · rw [e]; decide
  · have := ok_lt ((h.2.2 x hx).2 c hcx)
    exact decide_eq_true (by omega)
theorem dat_lay {ns : List Int} (h : ns.length ≤ 32) (i : Nat) : (datR (stAt ns i)).canLay0 = true := by
  have hf := stAt_fine h i
  simp [datR, PyData.canLay0, PyData.canLayAll0, sys_stAt, glueOk hf.1, glueOk hf.2]
theorem layAll {ns : List Int} (h : ns.length ≤ 32) : ∀ (l : List Nat), PyData.canLayAll0 ((l.map (stAt ns)).map datR) = true
  | [] => rfl
  | i :: l => by
    show (PyData.canLay0 _ && PyData.canLayAll0 _) = true
    rw [dat_lay h i, layAll h l]
    rfl
theorem recs_lay {ns : List Int} (h : ns.length ≤ 32) (i : Nat) : (PyData.list ((recs ns i).map datR)).canLay0 = true := layAll h _
theorem depthAll_le : ∀ (l : List St), PyData.depthAll (l.map datR) ≤ 1
  | [] => Nat.zero_le _
  | r :: l => by
    have := depthAll_le l
    have e : PyData.depth (datR r) = 1 := rfl
    show max (PyData.depth (datR r)) (PyData.depthAll (l.map datR)) ≤ 1
    rw [e]
    omega
end
-- G12b
section
variable {w : World} {g h₀ h : Heap} {A : Around} {L : Addr} {m : Str → Option Value} {D : Heap → Prop} {E : Value → Shared → Prop} {gn : Array GenState} {dr : Drawn} {tk : Nat} {os : OsState} {prog : Program}
/-- a new list, new in the heap of now -/
theorem In.listN (I : In g A h₀ L h m D) {M : Model} {vs : List Value} {Q : Value → Shared → Prop} (hsz : vs.length ≤ sizeLine)
    (hQ : ∀ h' d, In g A h₀ L h' m (fun h => Sq "list" d vs h ∧ D h) → h.get? d = none → Kp h h' → Q (.ref d) ⟨h', gn, dr, tk, os⟩) : wpAny M A (newList vs) Q E ⟨h, gn, dr, tk, os⟩ :=
  wpAny_newObj_type (hQ _ _ ((I.push _).also ⟨_, _, Heap.get?_push_size _ rfl, rfl, rfl, rfl⟩ fun _ _ => Sq.up) (Heap.get?_none_of_le (Nat.le_refl _)) (Kp.of_keeps fun _ _ e => Heap.get?_push_of_some _ e)) (by show vs.toArray.size ≤ sizeLine; rw [List.size_toArray]; exact hsz)
theorem Sq.inj {c c' : String} {d : Addr} {us vs : List Value} (x : Sq c d us h) (y : Sq c' d vs h) : us = vs := by
  obtain ⟨o, n, e, _, hd, _⟩ := x
  obtain ⟨o', n', e', _, hd', _⟩ := y
  rw [e] at e'
  cases e'
  rw [hd] at hd'
  injection hd' with h1 _
  simpa using congrArg Array.toList h1
theorem Sq.apart {d e : Addr} {us vs : List Value} (x : Sq "list" d us h) (y : Sq "list" e vs h) (hn : us ≠ vs) : d ≠ e := fun q => by
  subst q
  exact hn (x.inj y)
theorem DR.upB {d dd a : Addr} {r : St} {ws : List Value} {h' : Heap} (hdd : Sq "list" dd (.ref a :: ws) h) (U : UpB dd h h') (x : DR d r h) : DR d r h' := by
  obtain ⟨t, l1, l2, v1, v2, q0, s1, q1, s2, q2⟩ := x
  have n1 : v1 ≠ .ref a :: ws := fun z => by
    subst z
    cases s1
  have n2 : v2 ≠ .ref a :: ws := fun z => by
    subst z
    cases s2
  exact ⟨t, l1, l2, v1, v2, q0.upB U (q0.ne hdd (by decide)), s1, q1.upB U (q1.apart hdd n1), s2, q2.upB U (q2.apart hdd n2)⟩
theorem TR.upB {d dd : Addr} {r : St} {ws : List Value} {h' : Heap} (hdd : Sq "list" dd ws h) (U : UpB dd h h') (x : TR d r h) : TR d r h' := by
  obtain ⟨t, t1, t2, q⟩ := x
  exact ⟨t, t1, t2, q.upB U (q.ne hdd (by decide))⟩
theorem In.sum (I : In g A h₀ L h m D) {l : Addr} {vs : List Value} {ns : List Int} {Q : Value → Shared → Prop} (hl : Sq "list" l vs h) (hi : IntsAre vs ns)
    (hQ : ∀ h' t' tk', In g A h₀ L h' m D → Q (.int ns.sum t') ⟨h', gn, dr, tk', os⟩) : wpAny (model prog w) A (call (.builtin "sum") [.ref l]) Q E ⟨h, gn, dr, tk, os⟩ :=
  LSm.sum_ints (s := ⟨h, gn, dr, tk, os⟩) I.fr (full_news (L := L)) I.hh hl.lst hi fun h' tk' t' F N => hQ h' t' tk' (I.news F N fun _ hp => hp).1
theorem dr0 {d l1 l2 : Addr} {t a1 a2 b1 b2 b3 : Tok} (q : Sq "tuple" d [.str (Str.ofString "SunOS") t, .ref l1, .ref l2] h) (q1 : Sq "list" l1 [.str (Str.ofString "5") a1, .str (Str.ofString "10") a2] h) (q2 : Sq "list" l2 [.str (Str.ofString "07") b1, .str (Str.ofString "0") b2, .str (Str.ofString "10") b3] h) : DR d r0 h :=
  ⟨t, l1, l2, _, _, q, .cons _ _ (.cons _ _ .nil), q1, .cons _ _ (.cons _ _ (.cons _ _ .nil)), q2⟩
end
-- G14
section
variable {w : World} {g : Heap} {mg mb : Str → Option Value}
/-- what is left of the law's body behind its first n statements -/
def Rest (w : World) (n : Nat) (rest : List Stmt) (q : Str) (sc : Scope) : Prop :=
  ∃ (name : Str) (params : Arguments) (body : List Stmt) (dV kV doc pm ct oc : Value) (an od : Option Addr) (osl : Array (Option Value)), (hd.heap_39 w.params).lookup 102 = some ⟨oc, od, .func (fnOf name q params body sc dV kV doc pm an (.ref 101) ct), osl⟩ ∧ body.drop n = rest
theorem pinned {a b : Obj} (h1 : (hd.heap_39 w.params).lookup 102 = some a) (h2 : (hd.heap_39 w.params).lookup 102 = some b) : a = b := Option.some.inj (h1.symm.trans h2)
set_option maxHeartbeats 8000000 in
theorem law_t6 (B : Bs w g mg mb) {A : Around} {L : Addr} {h : Heap} {m : Str → Option Value} {gn : Array GenState} {dr : Drawn} {tk : Nat} {os : OsState} {rest : List Stmt} {q : Str} {sc : Scope} (R : Rest w 6 rest q sc) (hdep : A.depth = 302) (huni : A.units = 7) {NS kn : List Int} {us ks wT : List Value} {d₄ d₃ dT : Addr} (hUI : IntsAre us NS) (hKI : IntsAre ks kn) (hNl : NS.length ≤ 32)
    (J : In g A g L h m (fun h => (Sq "list" dT wT h ∧ RL TR wT (recs NS us.length) h) ∧ Sq "list" d₄ us h ∧ Sq "list" d₃ ks h)) (hm1 : m (Str.ofString "told") = some (.ref dT)) (hm2 : m (Str.ofString "numbers") = some (.ref d₄)) (hm3 : m (Str.ofString "drawn") = some (.ref d₃))
    {Q : Flow → Shared → Prop} (hret : ∀ h' tk', g.StaysIn h' → Q (.ret (.bool true)) ⟨h', gn, dr, tk', os⟩) :
    wpC (model PySem.Challenge.rw_mr0134_01.row.prog w) A (execs rest (envOf q sc L 102 (.ref 101))) Q (fun _ _ => False) ⟨h, gn, dr, tk, os⟩ := by
  obtain ⟨name, params, body, dV, kV, doc, pm, ct, oc, an, od, osl, hl, rfl⟩ := R
  have e := pinned hl (by k_is)
  cases e
  clear hl
  dsimp only [List.drop]
  have hul := ints_len hUI
  refine wpC_execs_cons (wpC.of ?_)
  repeat walk_at "st"
  refine In.blt (v := .builtin "sum") J B (by k_is) (by kernel_rfl) ?_
  repeat walk_at "st"
  refine J.sum J.data.2.2 hKI fun h₂ t₂ tk₂ J₂ => ?_
  clear J
  repeat walk_at "st"
  refine In.blt (v := .builtin "len") J₂ B (by k_is) (by kernel_rfl) ?_
  repeat walk_at "st"
  refine len_list J₂.data.2.1.lst (by rw [List.size_toArray]; omega) ?_
  repeat walk_at "st"
  rw [List.size_toArray]
  refine mod_int (by omega) ?_
  have hc0 : 0 ≤ kn.sum.fmod ((us.length : Int) + 1) := Int.fmod_nonneg_of_pos _ (by omega)
  have hc1 : kn.sum.fmod ((us.length : Int) + 1) < (us.length : Int) + 1 := Int.fmod_lt_of_pos _ (by omega)
  obtain ⟨c, hc⟩ := Int.eq_ofNat_of_zero_le hc0
  rw [hc] at hc1 ⊢
  have hcl : c ≤ us.length := by omega
  repeat walk_at "st"
  rename In _ _ _ _ _ _ _ => J
  refine wpC_execs_cons (wpC_Return (wpC_Compare1 (wpC_CallName ?_)))
  refine In.glob J B (by k_is) ?_
  refine callC ?_
  repeat walk_at "st"
  rename In _ _ _ _ _ _ _ => J₃
  refine J₃.cutFrom (n := c) J₃.data.2.1 (by assumption) (by rw [sizeLine_eq]; omega) fun h₄ d₅ J₄ _ _ => ?_
  clear J₃
  repeat walk_at "st"
  obtain ⟨dc, hdc, tc⟩ := J₄.data.2.1.2.at (recs_at hcl)
  refine item_at J₄.data.2.1.1 (by omega) (by omega) (by simpa using hdc) ?_
  repeat walk_at "st"
  refine ⟨⟨_, _, B.x.keeps J₄.stays _ _ (by k_is), rfl⟩, ?_⟩
  have hne : dc ≠ 37 := fun q => by
    subst q
    obtain ⟨_, _, _, o, n, e, hc, _⟩ := tc
    rw [B.x.keeps J₄.stays _ _ (by k_is)] at e
    cases e
    injection hc with hc
    exact absurd hc (by decide)
  obtain ⟨oc, eoc⟩ : ∃ o, h₄.get? dc = some o := let ⟨_, _, _, o, n, e, _⟩ := tc; ⟨o, e⟩
  refine J₄.useC (spec_reduce B 57 d₅ dc (us.drop c) 6 (fun i v h => ∃ d, v = .ref d ∧ TR d (stAt NS (c + i)) h) (fun i v h h' U x => let ⟨d, e, p⟩ := x; ⟨d, e, p.up U⟩) J₄.data.1 ⟨dc, rfl, tc⟩ hne oc eoc _ _ (B.x.keeps J₄.stays _ _ (by k_is)) rfl ?step) (fun v h h' U x => let ⟨d, e, p⟩ := x; ⟨d, e, p.up U⟩) (by rw [hdep]; decide) (by rw [huni]; decide) fun r h₅ tk₅ J₅ K₅ => ?_
  case step =>
    rintro i y v h' K hy ⟨d, rfl, td⟩
    rw [List.getElem?_drop] at hy
    obtain ⟨x, tx, hx, rfl⟩ := ints_at hUI hy
    have hfi := stAt_fine hNl (c + i)
    have S := spec_done B d (stAt NS (c + i)) x tx td 100 (by decide) hfi.1 hfi.2
    rw [← stAt_succ hx] at S
    exact S
  clear J₄
  obtain ⟨dz, rfl, tz⟩ := id J₅.data.1
  repeat walk_at "st"
  obtain ⟨dl, hdl, tl⟩ := J₅.data.2.2.1.2.last (recs_last NS us.length)
  refine item_last J₅.data.2.2.1.1 hdl ?_
  rw [List.length_drop, show c + (us.length - c) = us.length by omega] at tz
  have hlay := dat_lay hNl us.length
  refine PySem.SeqAt.compareEq_reads tz.reads tl.reads hlay hlay (by rw [huni]; show 7 + min 1 1 < _; decide) ?_
  rw [PySem.SeqAt.eqv_refl _ hlay]
  exact hret _ _ J₅.stays
end
-- G15
section
variable {w : World} {g : Heap} {mg mb : Str → Option Value}
theorem fine_sum {n : Nat} {xs : List Str} (h : Fine n xs) (hn : n ≤ 400) : (xs.map (·.length)).sum + xs.length * 64 ≤ 16777216 := by
  have key : ∀ (ys : List Str), (∀ y ∈ ys, y.length ≤ 400) → (ys.map (·.length)).sum ≤ ys.length * 400 := by
    intro ys
    induction ys with
    | nil => intro _; simp
    | cons y ys ih => intro hy; have := ih fun z hz => hy z (.tail _ hz); have := hy y (.head _); simp only [List.map_cons, List.sum_cons, List.length_cons]; omega
  have h1 := key xs fun y hy => Nat.le_trans (h.2.2 y hy).1 hn
  have h2 := h.2.1
  omega
/-- a record of texts, other than a list -/
def TN (a d : Addr) (r : St) (h : Heap) : Prop := TR d r h ∧ d ≠ a
theorem RL.map {P P' : Addr → St → Heap → Prop} {h h' : Heap} (k : ∀ d r, P d r h → P' d r h') : ∀ {us : List Value} {rs : List St}, RL P us rs h → RL P' us rs h'
  | [], [], _ => trivial
  | _ :: _, _ :: _, x => ⟨let ⟨d, e, p⟩ := x.1; ⟨d, e, k d _ p⟩, RL.map k x.2⟩
set_option maxHeartbeats 8000000 in
theorem law_t5 (B : Bs w g mg mb) {A : Around} {L : Addr} {h : Heap} {m : Str → Option Value} {gn : Array GenState} {dr : Drawn} {tk : Nat} {os : OsState} {rest : List Stmt} {q : Str} {sc : Scope} (R : Rest w 5 rest q sc) (hdep : A.depth = 302) (huni : A.units = 7) {NS kn : List Int} {us ks wT wD : List Value} {d₄ d₃ dT dd : Addr} (hUI : IntsAre us NS) (hKI : IntsAre ks kn) (hNl : NS.length ≤ 32)
    (J : In g A g L h m (fun h => (Sq "list" dd wD h ∧ RL DR wD (recs NS us.length) h) ∧ (Sq "list" dT wT h ∧ RL TR wT (recs NS us.length) h) ∧ Sq "list" d₄ us h ∧ Sq "list" d₃ ks h)) (hm0 : m (Str.ofString "due") = some (.ref dd)) (hm1 : m (Str.ofString "told") = some (.ref dT)) (hm2 : m (Str.ofString "numbers") = some (.ref d₄)) (hm3 : m (Str.ofString "drawn") = some (.ref d₃))
    {Q : Flow → Shared → Prop} (hret : ∀ h' tk', g.StaysIn h' → Q (.ret (.bool true)) ⟨h', gn, dr, tk', os⟩) :
    wpC (model PySem.Challenge.rw_mr0134_01.row.prog w) A (execs rest (envOf q sc L 102 (.ref 101))) Q (fun _ _ => False) ⟨h, gn, dr, tk, os⟩ := by
  have R6 : Rest w 6 rest.tail q sc := by
    obtain ⟨name, params, body, dV, kV, doc, pm, ct, oc, an, od, osl, hl, rfl⟩ := R
    exact ⟨name, params, body, dV, kV, doc, pm, ct, oc, an, od, osl, hl, List.tail_drop.symm⟩
  obtain ⟨name, params, body, dV, kV, doc, pm, ct, oc, an, od, osl, hl, rfl⟩ := R
  have e := pinned hl (by k_is)
  cases e
  clear hl
  dsimp only [List.drop] at R6 ⊢
  dsimp only [List.tail] at R6
  have hul := ints_len hUI
  refine wpC_execs_cons (wpC_If ?_)
  repeat walk_at "st"
  refine J.lcomp (by decide) (by decide) rfl (by decide) ?_
  repeat walk_at "st"
  have hwl : wD.length = us.length + 1 := by rw [J.data.1.2.len, recs_len]
  refine ⟨_, _, _, _, _, "list", wD, fun acc i xs h => RL (TN acc) xs ((recs NS us.length).take i) h, rfl, rfl, J, .inl rfl, fun _ x => x.1.1, by omega, ⟨?_, fun _ _ => trivial, ?turn⟩, ?rest⟩
  · intro acc i xs h₁ h₂ U x
    exact x.imp fun d r p => ⟨let ⟨t, t1, t2, q⟩ := p.1; ⟨t, t1, t2, q.upB U p.2⟩, p.2⟩
  case turn =>
    intro acc Lc i y xs m₂ h₂ tk₂ hn hy J₂
    have hi : i < us.length + 1 := by
      rcases Nat.lt_or_ge i wD.length with z | z
      · omega
      · rw [List.getElem?_eq_none z] at hy; cases hy
    obtain ⟨d, hd, x⟩ := J₂.data.2.2.1.2.at (recs_at (show i ≤ us.length by omega))
    rw [hy] at hd
    cases hd
    clear J
    obtain ⟨t, l1, l2, v1, v2, q0, s1, q1, s2, q2⟩ := x
    refine J₂.assignTup q0 (by rfl) (by rfl) fun h₃ J₃ K₃ => ?_
    refine wpAny_assignInOrder_more (assign_Name (J₃.storeE (by rfl) (by rfl) (by rfl) fun h₄ tk₄ J₄ S₄ => ?_))
    refine wpAny_assignInOrder_more (assign_Name (J₄.storeE (by rfl) (by rfl) (by rfl) fun h₅ tk₅ J₅ S₅ => ?_))
    refine wpAny_assignInOrder_more (assign_Name (J₅.storeE (by rfl) (by rfl) (by rfl) fun h₆ tk₆ J₆ S₆ => ?_))
    refine wpAny_assignInOrder_none ?_
    have U₆ : Up h₂ h₆ := K₃.up.trans (((kb_same S₄).up J₃.fr.ns).trans (((kb_same S₅).up J₄.fr.ns).trans ((kb_same S₆).up J₅.fr.ns)))
    have KB₆ : KB Lc h₂ h₆ := K₃.kb.trans ((kb_same S₄).trans ((kb_same S₅).trans (kb_same S₆)))
    have hf := stAt_fine hNl i
    clear J₂ J₃ J₄ J₅
    repeat walk_at "st"
    refine join_at (q1.up U₆) s1 (by decide) (fine_sum hf.1 (by decide)) fun t₇ tk₇ => ?_
    repeat walk_at "st"
    refine join_at (q2.up U₆) s2 (by decide) (fine_sum hf.2 (by decide)) fun t₈ tk₈ => ?_
    refine spliced_none ?_
    refine J₆.tuple (show 3 ≤ sizeLine by decide) fun h₉ dn J₉ _ K₉ => ?_
    refine ⟨h₉, _, _, rfl, J₉.but (fun _ x => x.2) J₆.st, ?_, KB₆.trans K₉.kb⟩
    rw [take_more' (recs_at (show i ≤ us.length by omega))]
    exact RL.app ⟨⟨_, _, _, J₉.data.1⟩, J₉.data.1.ne J₉.data.2.1 (by decide)⟩ J₉.data.2.2.1
  case rest =>
    intro acc h₂ tk₂ xs hlen J₂ hP hn₂ _
    clear J
    rw [List.take_of_length_le (by rw [recs_len]; omega)] at hP
    have hlay := recs_lay hNl us.length
    have hdp : PyData.depth (PyData.list ((recs NS us.length).map datR)) ≤ 2 := by
      have := depthAll_le (recs NS us.length)
      show PyData.depthAll _ + 1 ≤ 2
      omega
    have hcl : (100 : Nat) < cLine := by decide
    refine PySem.SeqAt.compareNe_reads (s := ⟨h₂, gn, dr, tk₂, os⟩) (list_reads J₂.data.2.2.1.1 J₂.data.2.2.1.2) (list_reads J₂.data.1 (hP.map fun _ _ p => p.1)) hlay hlay (by rw [huni, Nat.min_self]; omega) ?_
    rw [PySem.SeqAt.eqv_refl _ hlay]
    repeat walk_at "st"
    rw [if_neg (by decide)]
    refine wpC_execs_nil ?_
    exact law_t6 B R6 hdep huni hUI hKI hNl (J₂.but (fun _ x => x.2.2) fun _ _ U x => ⟨⟨x.1.1.up U, x.1.2.imp fun _ _ p => p.up U⟩, x.2.1.up U, x.2.2.up U⟩) hm1 hm2 hm3 hret
end
-- G16
section
variable {w : World} {g : Heap} {mg mb : Str → Option Value}
theorem thing_due {x : Int} (h : kindOf x = 1) : Asc (thing x) ∧ (num (thing x) ≠ -1 → (figs (num (thing x))).length ≤ 1000) := by
  have hb := build_thing h
  refine ⟨fun c hc => ok_lt (hb.2 c hc), fun hne => ?_⟩
  have h0 : 0 ≤ num (thing x) - (0 : Nat) := by rcases num_cases (thing x) with z | z <;> omega
  have hf := num_figs hne 0 h0
  rw [show num (thing x) - ((0 : Nat) : Int) = num (thing x) by omega] at hf
  omega
set_option maxHeartbeats 8000000 in
theorem law_t4 (B : Bs w g mg mb) {A : Around} {L : Addr} {h : Heap} {m : Str → Option Value} {gn : Array GenState} {dr : Drawn} {tk : Nat} {os : OsState} {rest : List Stmt} {q : Str} {sc : Scope} (R : Rest w 4 rest q sc) (hdep : A.depth = 302) (huni : A.units = 7) {NS kn : List Int} {us ks wT : List Value} {d₄ d₃ dT dd dt0 : Addr} (hUI : IntsAre us NS) (hKI : IntsAre ks kn) (hNl : NS.length ≤ 32)
    (hdg : g.get? dd = none) (hddT : dT ≠ dd) (hdd4 : d₄ ≠ dd) (hdd3 : d₃ ≠ dd)
    (J : In g A g L h m (fun h => (Sq "list" dd [.ref dt0] h ∧ RL DR [.ref dt0] (recs NS 0) h) ∧ (Sq "list" dT wT h ∧ RL TR wT (recs NS us.length) h) ∧ Sq "list" d₄ us h ∧ Sq "list" d₃ ks h)) (hm0 : m (Str.ofString "due") = some (.ref dd)) (hm1 : m (Str.ofString "told") = some (.ref dT)) (hm2 : m (Str.ofString "numbers") = some (.ref d₄)) (hm3 : m (Str.ofString "drawn") = some (.ref d₃))
    {Q : Flow → Shared → Prop} (hret : ∀ h' tk', g.StaysIn h' → Q (.ret (.bool true)) ⟨h', gn, dr, tk', os⟩) :
    wpC (model PySem.Challenge.rw_mr0134_01.row.prog w) A (execs rest (envOf q sc L 102 (.ref 101))) Q (fun _ _ => False) ⟨h, gn, dr, tk, os⟩ := by
  have R5 : Rest w 5 rest.tail q sc := by
    obtain ⟨name, params, body, dV, kV, doc, pm, ct, oc, an, od, osl, hl, rfl⟩ := R
    exact ⟨name, params, body, dV, kV, doc, pm, ct, oc, an, od, osl, hl, List.tail_drop.symm⟩
  obtain ⟨name, params, body, dV, kV, doc, pm, ct, oc, an, od, osl, hl, rfl⟩ := R
  have e := pinned hl (by k_is)
  cases e
  clear hl
  dsimp only [List.drop] at R5 ⊢
  dsimp only [List.tail] at R5
  have hul := ints_len hUI
  refine wpC_execs_cons (wpC.of (wpAny_For ?_))
  repeat walk_at "st"
  refine J.iterList J.data.2.2.1 fun h₂ it J₂ hit hn hg => ?_
  clear J
  refine forList (l := d₄) (vs := us) (P := fun i m D => ∃ a ws, D = (fun h => (Sq "list" dd (.ref a :: ws) h ∧ RL DR (.ref a :: ws) (recs NS i) h) ∧ (Sq "list" dT wT h ∧ RL TR wT (recs NS us.length) h) ∧ Sq "list" d₄ us h ∧ Sq "list" d₃ ks h) ∧ m (Str.ofString "due") = some (.ref dd) ∧ m (Str.ofString "told") = some (.ref dT) ∧ m (Str.ofString "numbers") = some (.ref d₄) ∧ m (Str.ofString "drawn") = some (.ref d₃)) hn hg ?_ rfl rfl ?turn ?done us.length 0 _ _ _ _ (by omega) J₂ hit ⟨dt0, [], rfl, hm0, hm1, hm2, hm3⟩
  · rintro i m D ⟨a, ws, rfl, _⟩ h x
    exact x.2.2.1
  case turn =>
    rintro i y m D h₅ tk₅ hy ⟨a, ws, rfl, hm0, hm1, hm2, hm3⟩ J hit₅
    clear J₂
    obtain ⟨x, tx, hx, rfl⟩ := ints_at hUI hy
    have hii : i < NS.length := by
      rcases Nat.lt_or_ge i NS.length with z | z
      · exact z
      · rw [List.getElem?_eq_none z] at hx; cases hx
    have hwl : ws.length + 1 = i + 1 := by rw [← recs_len NS i, ← J.data.1.2.len]; rfl
    refine wpAny_execs_cons (wpAny_Expr ?_)
    refine MethodCall_ ?_
    repeat walk_at "st"
    obtain ⟨o, no, ho, hc, hdat, hdi⟩ := id J.data.1.1
    refine getMethod_list_append ho hc hdi ?_
    repeat walk_at "st"
    obtain ⟨dl, hdl, tl⟩ := J.data.1.2.last (recs_last NS i)
    refine item_last J.data.1.1 hdl ?_
    repeat walk_at "st"
    have hfi := stAt_fine hNl i
    refine J.use (spec_due B dl (stAt NS i) x tx tl 100 (by decide) hfi.1 hfi.2 thing_due) (fun _ _ _ U z => let ⟨d, e, t, l1, l2, v1, v2, q0, s1, q1, s2, q2⟩ := z; ⟨d, e, t, l1, l2, v1, v2, q0.up U, s1, q1.up U, s2, q2.up U⟩) (by rw [hdep]; decide) (by rw [huni]; decide) fun r h₆ tk₆ J₆ K₆ => ?_
    clear J
    obtain ⟨dn, rfl, dn'⟩ := id J₆.data.1
    repeat walk_at "st"
    refine J₆.append (D' := fun h => (Sq "list" dd (.ref a :: (ws ++ [.ref dn])) h ∧ RL DR (.ref a :: (ws ++ [.ref dn])) (recs NS (i + 1)) h) ∧ (Sq "list" dT wT h ∧ RL TR wT (recs NS us.length) h) ∧ Sq "list" d₄ us h ∧ Sq "list" d₃ ks h) J₆.data.2.1.1 hdg hdg (by rw [sizeLine_eq]; show ws.length + 1 ≤ _; omega) (fun h₇ S q => ?_) (fun _ _ U x => ⟨⟨x.1.1.up U, x.1.2.imp fun _ _ p => p.up U⟩, ⟨x.2.1.1.up U, x.2.1.2.imp fun _ _ p => p.up U⟩, x.2.2.1.up U, x.2.2.2.up U⟩) fun h₇ J₇ S₇ => ?_
    · have U := upb_same S
      have hq := J₆.data.2.1.1
      refine ⟨⟨q, ?_⟩, ⟨J₆.data.2.2.1.1.upB U hddT, J₆.data.2.2.1.2.imp fun _ _ p => p.upB hq U⟩, J₆.data.2.2.2.1.upB U hdd4, J₆.data.2.2.2.2.upB U hdd3⟩
      rw [recs_succ, stAt_succ hx]
      exact RL.app (us := .ref a :: ws) (dn'.upB hq U) (J₆.data.2.1.2.imp fun _ _ p => p.upB hq U)
    · have hit₆ : h₆.IsListIter it d₄ (i + 1) := by
        obtain ⟨o, e, c, d⟩ := hit₅
        obtain ⟨sl, e'⟩ := K₆ it o e
        exact ⟨_, e', c, d⟩
      have hit₇ : h₇.IsListIter it d₄ (i + 1) := hit₆.extBut S₇.extBut (fun z => by
        obtain ⟨o, e, c, d⟩ := hit₆
        obtain ⟨o', n', e', c', d', _⟩ := J₆.data.2.1.1
        rw [z] at e
        rw [e] at e'
        cases e'
        rw [d] at d'
        cases d')
      refine wpAny_execs_nil ?_
      refine ⟨h₇, _, _, _, rfl, J₇, hit₇, a, ws ++ [.ref dn], rfl, ?_, ?_, ?_, ?_⟩ <;> ((try dsimp only); rw [if_neg (by decide)]; assumption)
  case done =>
    rintro h₅ tk₅ m D J ⟨a, ws, rfl, hm0, hm1, hm2, hm3⟩
    clear J₂
    dsimp only
    exact law_t5 B R5 hdep huni hUI hKI hNl J hm0 hm1 hm2 hm3 hret
end
-- G17
section
variable {w : World} {g : Heap} {mg mb : Str → Option Value}
set_option maxHeartbeats 8000000 in
theorem law_t3 (B : Bs w g mg mb) {A : Around} {L : Addr} {h : Heap} {m : Str → Option Value} {gn : Array GenState} {dr : Drawn} {tk : Nat} {os : OsState} {rest : List Stmt} {q : Str} {sc : Scope} (R : Rest w 3 rest q sc) (hdep : A.depth = 302) (huni : A.units = 7) {NS kn : List Int} {us ks wT : List Value} {d₄ d₃ dT : Addr} (hUI : IntsAre us NS) (hKI : IntsAre ks kn) (hNl : NS.length ≤ 32)
    (J : In g A g L h m (fun h => (Sq "list" dT wT h ∧ RL TR wT (recs NS us.length) h) ∧ Sq "list" d₄ us h ∧ Sq "list" d₃ ks h)) (hm1 : m (Str.ofString "told") = some (.ref dT)) (hm2 : m (Str.ofString "numbers") = some (.ref d₄)) (hm3 : m (Str.ofString "drawn") = some (.ref d₃))
    {Q : Flow → Shared → Prop} (hret : ∀ h' tk', g.StaysIn h' → Q (.ret (.bool true)) ⟨h', gn, dr, tk', os⟩) :
    wpC (model PySem.Challenge.rw_mr0134_01.row.prog w) A (execs rest (envOf q sc L 102 (.ref 101))) Q (fun _ _ => False) ⟨h, gn, dr, tk, os⟩ := by
  have R4 : Rest w 4 rest.tail q sc := by
    obtain ⟨name, params, body, dV, kV, doc, pm, ct, oc, an, od, osl, hl, rfl⟩ := R
    exact ⟨name, params, body, dV, kV, doc, pm, ct, oc, an, od, osl, hl, List.tail_drop.symm⟩
  obtain ⟨name, params, body, dV, kV, doc, pm, ct, oc, an, od, osl, hl, rfl⟩ := R
  have e := pinned hl (by k_is)
  cases e
  clear hl
  dsimp only [List.drop] at R4 ⊢
  dsimp only [List.tail] at R4
  refine wpC_execs_cons (wpC.of ?_)
  refine wpAny_Assign_Name ?_
  refine List_ ?_
  refine spliced_more ?_
  refine Tuple_ ?_
  refine spliced_more ?_
  refine wpAny_Constant_str ?_
  dsimp only
  refine spliced_more ?_
  refine List_ ?_
  refine spliced_more ?_
  refine wpAny_Constant_str ?_
  dsimp only
  refine spliced_more ?_
  refine wpAny_Constant_str ?_
  dsimp only
  refine spliced_none ?_
  refine J.list (show 2 ≤ sizeLine by decide) fun h₁₁ l1 J₁₁ _ _ => ?_
  refine spliced_more ?_
  refine List_ ?_
  refine spliced_more ?_
  refine wpAny_Constant_str ?_
  dsimp only
  refine spliced_more ?_
  refine wpAny_Constant_str ?_
  dsimp only
  refine spliced_more ?_
  refine wpAny_Constant_str ?_
  dsimp only
  refine spliced_none ?_
  refine J₁₁.list (show 3 ≤ sizeLine by decide) fun h₁₂ l2 J₁₂ _ _ => ?_
  refine spliced_none ?_
  refine J₁₂.tuple (show 3 ≤ sizeLine by decide) fun h₁₃ dt0 J₁₃ _ _ => ?_
  refine spliced_none ?_
  refine J₁₃.listN (show 1 ≤ sizeLine by decide) fun h₁₄ dd J₁₄ nd _ => ?_
  have hdd1 : g.get? dd = none := J₁₃.new nd
  have hddT : dT ≠ dd := fun q => by
    obtain ⟨o, n, e, _⟩ := J₁₃.data.2.2.2.1.1
    rw [q, nd] at e; cases e
  have hdd4 : d₄ ≠ dd := fun q => by
    obtain ⟨o, n, e, _⟩ := J₁₃.data.2.2.2.2.1
    rw [q, nd] at e; cases e
  have hdd3 : d₃ ≠ dd := fun q => by
    obtain ⟨o, n, e, _⟩ := J₁₃.data.2.2.2.2.2
    rw [q, nd] at e; cases e
  have hR0 : RL DR [.ref dt0] (recs NS 0) h₁₄ := by
    show RL DR [.ref dt0] [r0] h₁₄
    exact ⟨⟨dt0, rfl, dr0 J₁₄.data.2.1 J₁₄.data.2.2.2.1 J₁₄.data.2.2.1⟩, trivial⟩
  have J₁₅ : In g A g L h₁₄ _ (fun h => (Sq "list" dd [.ref dt0] h ∧ RL DR [.ref dt0] (recs NS 0) h) ∧ (Sq "list" dT wT h ∧ RL TR wT (recs NS us.length) h) ∧ Sq "list" d₄ us h ∧ Sq "list" d₃ ks h) := ⟨J₁₄.fr, J₁₄.keep, J₁₄.above, J₁₄.fs, J₁₄.hh, ⟨⟨J₁₄.data.1, hR0⟩, J₁₄.data.2.2.2.2⟩, fun _ _ U x => ⟨⟨x.1.1.up U, x.1.2.imp fun _ _ p => p.up U⟩, ⟨x.2.1.1.up U, x.2.1.2.imp fun _ _ p => p.up U⟩, x.2.2.1.up U, x.2.2.2.up U⟩⟩
  clear J J₁₁ J₁₂ J₁₃ J₁₄
  refine J₁₅.store (by rfl) (by rfl) fun h₁₆ tk₁₆ J₁₆ _ => ?_
  clear J₁₅
  refine law_t4 B R4 hdep huni hUI hKI hNl hdd1 hddT hdd4 hdd3 J₁₆ rfl ?_ ?_ ?_ hret <;> ((try dsimp only); rw [if_neg (by decide)]; assumption)
end
-- G13
section
variable {w : World} {h₁ : Heap} {p : Program} {loose : List Str} {mean : ExcName → Option Value} {mg mb : Str → Option Value}
def tailNs : List Int := [25, 17, 0, 6, 2, 0, 2, 0, 10, 0, 47, 2, 0, 58, 3, 9]
theorem pickNs {A : Around} {L : Addr} {h : Heap} {m : Str → Option Value} {D1 D2 : Heap → Prop} {d₄ d₃ : Addr} {vs ws : List Value} {ns : List Int} (J : In h₁ A h₁ L h m (fun h => Sq "list" d₄ (vs.take 16 ++ ws) h ∧ D1 h ∧ Sq "list" d₃ (vs.take 16) h ∧ D2 h)) (hI : IntsAre vs ns) (hw : IntsAre ws tailNs) :
    ∃ us, IntsAre us (ns.take 16 ++ tailNs) ∧ In h₁ A h₁ L h m (fun h => Sq "list" d₄ us h ∧ Sq "list" d₃ (vs.take 16) h) :=
  ⟨_, ints_app (ints_take hI 16) hw, J.but (fun _ x => ⟨x.1, x.2.2.1⟩) (fun _ _ U x => ⟨x.1.up U, x.2.up U⟩)⟩
theorem tr0 {d : Addr} {t t1 t2 : Tok} {h : Heap} (q : Sq "tuple" d [.str (Str.ofString "SunOS") t, .str (Str.ofString "5.10") t1, .str (Str.ofString "07.0.10") t2] h) : TR d r0 h := by
  have e1 : Str.ofString "5.10" = glue r0.2.1 := by decide +kernel
  have e2 : Str.ofString "07.0.10" = glue r0.2.2 := by decide +kernel
  rw [e1, e2] at q
  exact ⟨t, t1, t2, q⟩
/-- what the law leaves -/
def Left1 (h₁ h' : Heap) : Prop := ∃ ps, (gh2 h₁ ps).StaysIn h'
set_option maxHeartbeats 16000000 in
theorem law_walk {gn : Array GenState} {dr : Drawn} {tk : Nat} {os : OsState} (X : (hd.heap_39 w.params).In h₁) (T : Top p loose mean mg mb h₁) (h99 : h₁.get? 99 = some (tabObj #[])) (l : Addr) (vs : List Value) (ns : List Int) (hl : h₁.IsList l vs.toArray) (hI : IntsAre vs ns) (hlen : ns.length ≤ 63)
    {Q E : Value → Shared → Prop} (hret : ∀ h' tk', Left1 h₁ h' → Q (.bool true) ⟨h', gn, dr, tk', os⟩) :
    wpC (model PySem.Challenge.rw_mr0134_01.row.prog w) callerA (call (.ref 102) [.ref l]) Q E ⟨h₁, gn, dr, tk, os⟩ := by
  have hT := tabsAt X (by kernel_rfl) h99
  have B : Bs w h₁ mg mb := ⟨X, _, _, _, T⟩
  have BG := gh_bs hT X (by kernel_rfl) T
  have hvl := ints_len hI
  refine enterL (binds := [(Str.ofString "script", .ref l)]) (D := fun h => h.IsList l vs.toArray) hl (fun _ _ U x => list_up U x) X T (by k_is) (by k_is) (BindsTo.of_eq rfl) (locs rfl) rfl rfl rfl (by decide) ?_
  intro A L h₂ tk₂ hdep huni hfr hLs I
  refine wpC_execs_cons (wpC.of ?_)
  repeat walk_at "st"
  rename In _ _ _ _ _ _ _ => J
  refine J.cutToL (n := 16) J.data (by assumption) (by rw [sizeLine_eq]; omega) fun h₃ d₃ J₃ n₃ K₃ => ?_
  clear J
  repeat walk_at "st"
  refine wpC_execs_cons (wpC.of ?_)
  repeat walk_at "st"
  rename In _ _ _ _ _ _ _ => J
  refine J.cat J.data.2.1 J.data.1 (by rw [sizeLine_eq, List.length_take]; show _ + 16 ≤ _; omega) fun h₄ d₄ J₄ n₄ => ?_
  clear J
  repeat walk_at "st"
  rename In _ _ _ _ _ _ _ => J
  obtain ⟨us, hUI, J'⟩ := pickNs J hI (.cons _ _ (.cons _ _ (.cons _ _ (.cons _ _ (.cons _ _ (.cons _ _ (.cons _ _ (.cons _ _ (.cons _ _ (.cons _ _ (.cons _ _ (.cons _ _ (.cons _ _ (.cons _ _ (.cons _ _ (.cons _ _ .nil))))))))))))))))
  generalize hNS : ns.take 16 ++ tailNs = NS at hUI
  have hNl : NS.length ≤ 32 := by rw [← hNS, List.length_append, List.length_take]; show _ + 16 ≤ _; omega
  have hul := ints_len hUI
  clear J
  refine wpC_execs_cons (wpC_Assign (wpC_CallName ?_))
  refine In.glob J' B (by k_is) ?_
  refine callC ?_
  refine spliced_more ?_
  refine J'.lambda hT T hLs hfr (by rfl) (by rfl) fun f c' ctv h₅ tk₅ ps pm J₅ hf hcr => ?_
  clear J'
  have B2 := BG.keeps (gh_stays ps)
  clear BG
  refine spliced_more (In.loc J₅ (v := .ref d₄) rfl ?_)
  refine spliced_more (List_ (spliced_more (Tuple_ ?_)))
  refine spliced_more (wpAny_Constant_str (spliced_more (wpAny_Constant_str (spliced_more (wpAny_Constant_str (spliced_none ?_))))))
  refine J₅.tuple (show 3 ≤ sizeLine by decide) fun h₆ dt J₆ nt K₆ => ?_
  refine spliced_none ?_
  refine J₆.list (show 1 ≤ sizeLine by decide) fun h₇ dl J₇ nl K₇ => ?_
  refine spliced_none ?_
  have K57 : Kp h₅ h₇ := K₆.trans K₇
  clear J₅ J₆
  refine ⟨⟨_, _, B2.x.keeps J₇.stays _ _ (by k_is), rfl⟩, ?_⟩
  have hdl : dl ≠ 37 := fun q => by
    subst q
    rw [B2.x _ _ (by k_is)] at nl
    cases nl
  obtain ⟨odl, ndl, hodl, cdl, ddl, _⟩ := id J₇.data.1
  obtain ⟨slf, hf7⟩ := K57 f _ hf
  have hcr7 : ∀ h', Kp h₅ h' → h'.CodeRec (.ref c') _ := fun h' K => by
    obtain ⟨cc, oc, vv, t, e2, hoc, hdc, hv⟩ := hcr
    obtain ⟨sl, e⟩ := K cc oc hoc
    exact ⟨cc, _, vv, t, e2, e, hdc, hv⟩
  have hP0 : RL TR [.ref dt] (recs NS 0) h₇ := by
    show RL TR [.ref dt] [r0] h₇
    exact ⟨⟨dt, rfl, tr0 J₇.data.2.1⟩, trivial⟩
  refine J₇.useC (spec_reduce B2 f d₄ dl us 8 (fun i v h => ∃ d ws, v = .ref d ∧ Sq "list" d ws h ∧ RL TR ws (recs NS i) h) (fun i v h h' U x => let ⟨d, ws, e, q, r⟩ := x; ⟨d, ws, e, q.up U, r.imp fun _ _ p => p.up U⟩) J₇.data.2.2.1 ⟨dl, _, rfl, J₇.data.1, hP0⟩ hdl odl hodl _ _ hf7 rfl ?step) (fun v h h' U x => let ⟨d, ws, e, q, r⟩ := x; ⟨d, ws, e, q.up U, r.imp fun _ _ p => p.up U⟩) (by rw [hdep]; decide) (by rw [huni]; decide) fun r h₈ tk₈ J₈ K₈ => ?_
  case step =>
    rintro i y v h' K hy ⟨d, ws, rfl, q, rl⟩
    obtain ⟨x, tx, hx, rfl⟩ := ints_at hUI hy
    have hwl : ws.length = i + 1 := by rw [rl.len, recs_len]
    have hii : i < NS.length := by
      rcases Nat.lt_or_ge i NS.length with z | z
      · exact z
      · rw [List.getElem?_eq_none z] at hx; cases hx
    have ⟨_, _, _, T2⟩ := B2.t
    clear J₇
    obtain ⟨slf', hf'⟩ := K f _ hf7
    refine enterC (fd := kla_fn _ _ _ _ _ [] _ _ _) (binds := [(Str.ofString "records", .ref d), (Str.ofString "x", .int x tx)]) (D := fun h => Sq "list" d ws h ∧ RL TR ws (recs NS i) h) ⟨q, rl⟩ (fun _ _ U x => ⟨x.1.up U, x.2.imp fun _ _ p => p.up U⟩) T2 (fun _ => hf') rfl (fun _ => hcr7 h' (K57.trans K)) rfl rfl rfl (fun _ _ _ _ _ => BindsTo.of_eq rfl) (locs rfl) rfl rfl rfl (by dsimp only; decide) ?_
    intro A₂ L₂ h₂' gn₂ dr₂ tk₂' os₂ Q₂ I hfr₂ hd₂ hu₂ hret₂
    dsimp only
    refine wpC_BinOp (In.loc I (v := .ref d) rfl ?_)
    refine wpC_List (wpC_spliced (wpC_CallName (In.glob I B2 (by k_is) ?_)))
    refine callC ?_
    refine spliced_more ?_
    repeat walk_at "st"
    obtain ⟨dr', hdr, tr⟩ := I.data.2.last (recs_last NS i)
    refine item_last I.data.1 hdr ?_
    repeat walk_at "st"
    refine ⟨⟨_, _, B2.x.keeps I.stays _ _ (by k_is), rfl⟩, ?_⟩
    have hfi := stAt_fine hNl i
    refine I.useC (spec_done B2 dr' (stAt NS i) x tx tr 100 (by decide) hfi.1 hfi.2) (fun _ _ _ U z => let ⟨d, e, p⟩ := z; ⟨d, e, p.up U⟩) (by omega) (by omega) fun r h₆' tk₆' I₆ K₆' => ?_
    clear I
    obtain ⟨dn, rfl, trn⟩ := id I₆.data.1
    refine wpC.of (spliced_none ?_)
    refine I₆.list (show 1 ≤ sizeLine by decide) fun h₇' dn' I₇ _ K₇' => ?_
    refine I₇.cat I₇.data.2.2.1 I₇.data.1 (by rw [sizeLine_eq, hwl]; show _ + 1 ≤ _; omega) fun h₈' d₈ I₈ _ => ?_
    refine hret₂ _ _ _ I₈.keep I₈.stays ⟨d₈, _, rfl, I₈.data.1, ?_⟩
    rw [recs_succ, stAt_succ hx]
    obtain ⟨dz, ez, trz⟩ := I₈.data.2.2.1
    cases ez
    exact RL.app trz I₈.data.2.2.2.2
  clear J₇
  obtain ⟨dT, wT, rfl, qT, rT⟩ := id J₈.data.1
  have J₉ : In (gh2 h₁ ps) A (gh2 h₁ ps) L h₈ _ (fun h => (Sq "list" dT wT h ∧ RL TR wT (recs NS us.length) h) ∧ Sq "list" d₄ us h ∧ Sq "list" d₃ (vs.take 16) h) := ⟨J₈.fr, J₈.keep, J₈.above, J₈.fs, J₈.hh, ⟨⟨qT, rT⟩, J₈.data.2.2.2⟩, fun _ _ U x => ⟨⟨x.1.1.up U, x.1.2.imp fun _ _ p => p.up U⟩, x.2.1.up U, x.2.2.up U⟩⟩
  clear J₈ qT rT
  refine J₉.store (by rfl) (by rfl) fun h₁₀ tk₁₀ J₁₀ _ => ?_
  clear J₉
  dsimp only
  have hR : Rest w 3 _ _ _ := ⟨_, _, _, _, _, _, _, _, _, _, _, _, by k_is, rfl⟩
  exact law_t3 B2 hR hdep huni hUI (ints_take hI 16) hNl J₁₀ rfl rfl rfl fun h' tk' st => hret h' tk' ⟨ps, st⟩
end
-- G18
theorem d_is : ((defOf hd.view_39 PySem.Challenge.rw_mr0134_01.row.name).map fun p => p.1.name) = some (Str.ofString "law") := by kernel_rfl
theorem d_p : PySem.Challenge.rw_mr0134_01.row.prog.theDef PySem.Challenge.rw_mr0134_01.row.name = (defOf hd.view_39 PySem.Challenge.rw_mr0134_01.row.name).map fun p => (p.1.params, p.1.body, p.1.scope) := by kernel_rfl
theorem d_k : ((defOf hd.view_39 PySem.Challenge.rw_mr0134_01.row.name).map fun p => kwWritten? p.1.params.kwonlyargs p.1.params.kw_defaults) = (defOf hd.view_39 PySem.Challenge.rw_mr0134_01.row.name).map fun p => some p.2 := by kernel_rfl
set_option maxHeartbeats 8000000 in
theorem fin0 : PySem.Challenge.rw_mr0134_01.Holds := by
  obtain ⟨⟨d, kwd⟩, hdef⟩ : ∃ p, defOf hd.view_39 PySem.Challenge.rw_mr0134_01.row.name = some p := by
    have := d_is
    cases q : defOf hd.view_39 PySem.Challenge.rw_mr0134_01.row.name with
    | none => rw [q] at this; cases this
    | some p => exact ⟨p, rfl⟩
  have hn := d_is
  have hp := d_p
  have hk := d_k
  rw [hdef] at hn hp hk
  refine top_C hdef hp (Option.some.inj hk) ?_
  have hn : d.name = Str.ofString "law" := Option.some.inj hn
  intro w s₀ s₁ mg mb G Y fa o pm cd doc dV kV ho hdt hcd hD hmg hg args vals as hpre hlay hrd hwl hlo
  have KX := km_in_of Y
  have hT8 := km_tabs_of Y
  refine Ground.open G ?_
  intro T B D TE TW
  wrow_args hpre hlay hrd hwl hlo
  rename IntsAre _ _ => hI
  rename Heap.IsList _ _ _ => hL
  rename ¬ _ => hc
  have h102 : fa = 102 := by
    have e := mg_of (n := Str.ofString "law") (v := .ref 102) KX T.g (by k_is)
    rw [hn] at hmg
    rw [e] at hmg
    cases hmg
    rfl
  subst h102
  clear ho hdt hcd hD hmg B D TE TW
  obtain ⟨h₁, gn, dr, tk, os⟩ := s₁
  have hg : gn = #[] := hg
  have hT9 : h₁.get? 99 = some (tabObj #[]) := hT8 99 (.head _)
  have hTab := tabsAt (h₁ := h₁) KX (by kernel_rfl) hT9
  refine law_walk (h₁ := h₁) KX T hT9 _ _ _ hL hI (by omega) fun h' tk' Z => ?_
  obtain ⟨ps, st⟩ := Z
  have g9 : (gh2 h₁ ps).get? 99 = some (tabObj ps) := Heap.get?_update_self _ hT9 rfl
  have keep : ∀ b o, b ≠ 99 → h₁.get? b = some o → h'.get? b = some o := fun b o hb e => st b o ((Heap.get?_update_other _ _ (Ne.symm hb)).trans e)
  refine ⟨.inl ⟨.bool true, .bool true, [], rfl, fun _ => rfl, .bool _, ?_, fun _ => ⟨List.nodup_nil, fun _ h => nomatch h⟩⟩, ⟨fun b o e => ?_, fun b o e => ?_⟩, rfl, .of_eq hg⟩
  · first | rfl | wrow_post
  · by_cases hb : b = 99
    · subst hb
      have e' : h₁.get? 99 = some o := e
      rw [hT9] at e'
      cases e'
      exact .inr (.inl ⟨((hTab _ (.head _)).1.tab (hTab _ (.head _)).2).isCodeTable, rfl, #[], ps, rfl, by rw [Array.empty_append]; exact st _ _ g9⟩)
    · exact .inl (keep b o hb e)
  · by_cases hb : b = 99
    · subst hb
      exact ⟨_, st _ _ g9⟩
    · exact ⟨o, keep b o hb e⟩
end Mine
end
theorem PySem.Challenge.cw_mr0134_01_holds : PySem.Challenge.rw_mr0134_01.Holds :=
  Mine.fin0

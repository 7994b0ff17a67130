import PyProof.Rows.All
import Wide.All
import OpenK.AllK
import Wide.FinOn
import Lean
import PySem.Challenge.RW_co0001_01
open PySem PySem.W PySem.Calls PyProof.Rows Builtin
set_option Elab.async false
set_option maxRecDepth 100000
set_option linter.unusedVariables false
namespace Mine
set_option maxHeartbeats 8000000 in
open_top hd for PySem.Challenge.rw_co0001_01
/-- all but the named objects stand -/
def Ext (S : List Addr) (h h' : Heap) : Prop := ∀ b o, b ∉ S → h.get? b = some o → h'.get? b = some o
theorem Ext.refl {S : List Addr} {h : Heap} : Ext S h h := fun _ _ _ e => e
theorem Ext.trans {S : List Addr} {h h' h'' : Heap} (a : Ext S h h') (b : Ext S h' h'') : Ext S h h'' := fun c o n e => b c o n (a c o n e)
theorem Ext.weak {S T : List Addr} {h h' : Heap} (a : Ext S h h') (hs : ∀ x ∈ S, x ∈ T) : Ext T h h' := fun b o n e => a b o (fun q => n (hs b q)) e
theorem Ext.stays {h h' : Heap} (a : Ext [] h h') : h.StaysIn h' := fun b o e => a b o List.not_mem_nil e
theorem Ext.of_stays {S : List Addr} {h h' : Heap} (a : h.StaysIn h') : Ext S h h' := fun b o _ e => a b o e
theorem Ext.size {S : List Addr} {h h' : Heap} (_ : Ext S h h') : True := trivial
theorem Ext.one {a b : Addr} {h h' : Heap} {o : Obj} (x : Ext [a] h h') (n : b ≠ a) (e : h.get? b = some o) : h'.get? b = some o := x b o (by simpa using n) e

/-- the ledger and the frame behind a step that touches nothing of them -/
theorem fr_ext {g h h' : Heap} {L : Addr} {m : Str → Option Value} {S : List Addr} (F : Fr g L h m) (E : Ext S h h') (hL : L ∉ S) (hS : ∀ a ∈ S, g.get? a = none) : Fr g L h' m := by
  obtain ⟨oL, es, ep, hoL, r⟩ := F.ns
  refine ⟨⟨oL, es, ep, E _ _ hL hoL, r⟩, fun b o e => E b o (fun q => ?_) (F.keep b o e), F.above⟩
  rw [hS b q] at e; cases e
theorem news_ext {g h h' : Heap} {L : Addr} {news : List (Addr × Obj)} {S : List Addr} (N : News g L h news) (E : Ext S h h') (hd : ∀ q ∈ news, q.1 ∉ S) : News g L h' news :=
  fun q hq => ⟨E _ _ (hd q hq) (N q hq).1, (N q hq).2⟩
theorem fr0 {g h h' : Heap} {L : Addr} {m : Str → Option Value} (F : Fr g L h m) (E : Ext [] h h') : Fr g L h' m := fr_ext F E List.not_mem_nil (fun _ q => absurd q List.not_mem_nil)
theorem news0 {g h h' : Heap} {L : Addr} {news : List (Addr × Obj)} (N : News g L h news) (E : Ext [] h h') : News g L h' news := news_ext N E fun _ _ => List.not_mem_nil
theorem updF_mem {d : Addr} {o : Obj} {l : List (Addr × Obj)} {f : Obj → List (Addr × Obj)} (U : UpdF d o l f) : (d, o) ∈ l := by
  obtain ⟨pre, post, rfl, -, -, -⟩ := U.split
  exact List.mem_append_right _ (.head _)
theorem use1 {g h h' : Heap} {L d : Addr} {m : Str → Option Value} {news : List (Addr × Obj)} {o o' : Obj} {f : Obj → List (Addr × Obj)} (F : Fr g L h m) (N : News g L h news) (U : UpdF d o news f) (E : Ext [d] h h') (e : h'.get? d = some o') :
    Fr g L h' m ∧ News g L h' (f o') := by
  have z := N _ (updF_mem U)
  obtain ⟨pre, post, rfl, hf, a, b⟩ := U.split
  refine ⟨fr_ext F E (by simpa using Ne.symm z.2.1) (fun x q => by rw [List.mem_singleton.mp q]; exact z.2.2), fun q hq => ?_⟩
  rw [hf] at hq
  rcases List.mem_append.mp hq with hq | hq
  · have y := N q (List.mem_append_left _ hq)
    exact ⟨E.one (a q hq) y.1, y.2⟩
  · rcases List.mem_cons.mp hq with rfl | hq
    · exact ⟨e, z.2⟩
    · have y := N q (List.mem_append_right _ (.tail _ hq))
      exact ⟨E.one (b q hq) y.1, y.2⟩

section
variable {w : World} {g : Heap} {A : Around} {s : Shared} {R : Result → Shared → Prop} {K : Frag} {prog : Program} {p : Program} {loose : List Str} {mean : ExcName → Option Value} {mg mb : Str → Option Value}
  {name qual : Str} {params : Arguments} {body : List Stmt} {scope : Scope} {cl : List (Str × Addr)} {dV kV doc pm cdv ct oc : Value} {an od : Option Addr} {osl : Array (Option Value)} {f : Addr} {args : Args} {binds : List (Str × Value)}

theorem base_of (T : Top p loose mean mg mb g) (X : K.In g) (SG : g.StaysIn s.heap) (S : List (Addr × Obj)) (hS : ∀ q ∈ S, s.heap.get? q.1 = some q.2 ∧ g.get? q.1 = none) :
    g.StaysIn (hideAll s.heap (S.map (·.1))) ∧ (∀ b o, b ∉ S.map (·.1) → s.heap.get? b = some o → (hideAll s.heap (S.map (·.1))).get? b = some o) ∧
    (∀ h', (hideAll s.heap (S.map (·.1))).StaysIn h' → Ext (S.map (·.1)) s.heap h') ∧ K.In (hideAll s.heap (S.map (·.1))) ∧ Top p loose mean mg mb (hideAll s.heap (S.map (·.1))) := by
  have st : g.StaysIn (hideAll s.heap (S.map (·.1))) := fun b o e => hideAll_get _ (SG b o e) fun q => by
    obtain ⟨x, hx, rfl⟩ := List.mem_map.mp q
    rw [(hS x hx).2] at e; cases e
  exact ⟨st, fun b o n e => hideAll_get _ e n, fun h' k b o n e => k b o (hideAll_get _ e n), X.keeps st, T.keeps st⟩

theorem call_h (X : K.In g) (T : Top p loose mean mg mb g) (SG : g.StaysIn s.heap) (S : List (Addr × Obj)) (hS : ∀ q ∈ S, s.heap.get? q.1 = some q.2 ∧ g.get? q.1 = none)
    (ho : K.lookup f = some ⟨oc, od, .func (fnX name qual params body scope cl dV kV doc pm an cdv ct), osl⟩) (hcd : codeIn K cdv qual = true) (hroom : A.depth < recursionLimit)
    (hbind : BindsTo s (fnX name qual params body scope cl dV kV doc pm an cdv ct) args binds) (hloc : ∀ y ∈ binds, scope.names.lookup y.1 = some .local)
    (h : ∀ g' L' h₁, g.StaysIn g' → (∀ b o, b ∉ S.map (·.1) → s.heap.get? b = some o → g'.get? b = some o) → (∀ h', g'.StaysIn h' → Ext (S.map (·.1)) s.heap h') →
      Fr g' L' h₁ (fun y => binds.reverse.lookup y) → News g' L' h₁ S → K.In g' → Top p loose mean mg mb g' → (∀ q ∈ S, q.1 < L') →
      wpAny (model prog w) (A.deeper (envX qual scope L' f cdv cl)) (execs body (envX qual scope L' f cdv cl))
        (fun fl s' => R (.ok (.ret (match fl with | .ret v => v | _ => .none))) s') (fun _ _ => False)
        { s with heap := h₁, toks := s.toks + binds.length })
    (hcell : ∀ x ∈ scope.names, x.2 ≠ .cell) (hco : scope.isCoroutine = false := by rfl) (hgen : scope.isGenerator = false := by rfl) (hk : scope.kind = .function := by rfl) : codeAny (model prog w) A (.call (.ref f) args) R s := by
  obtain ⟨st, a1, a2, X', T'⟩ := base_of T X SG S hS
  refine codeAny_call_def (fd := fnX name qual params body scope cl dV kV doc pm an cdv ct) (body := body) (binds := binds) hroom (SG _ _ (X _ _ ho)) rfl (T.nolimit.keeps SG) (codeRec_of (X.keeps SG) hcd) rfl hbind hcell hloc (fun h₁ hns hk₁ => ?_) hco hgen hk
  refine wpAny_mono (h _ s.heap.objs.size h₁ st a1 a2 ⟨hns, fun b o e => hk₁ b o (of_hideAll _ e), Nat.le_of_eq (hideAll_size _ _)⟩ (fun q hq => ⟨hk₁ _ _ (hS q hq).1, Nat.ne_of_lt (Heap.lt_size (hS q hq).1), hideAll_none _ (List.mem_map_of_mem hq)⟩) X' T' (fun q hq => Heap.lt_size (hS q hq).1)) (fun _ _ x => x) (fun _ _ x => x.elim)

/-- the same, where the body is known as the activation's own (a zero-argument super) -/
theorem call_hs {cc : Addr} (X : K.In g) (T : Top p loose mean mg mb g) (SG : g.StaysIn s.heap) (S : List (Addr × Obj)) (hS : ∀ q ∈ S, s.heap.get? q.1 = some q.2 ∧ g.get? q.1 = none)
    (ho : K.lookup f = some ⟨oc, od, .func (ksFn name qual params body scope dV kV doc pm an cdv ct cc), osl⟩) (hcd : codeIn K cdv qual = true) (hroom : A.depth < recursionLimit)
    (hbind : BindsTo s (ksFn name qual params body scope dV kV doc pm an cdv ct cc) args binds) (hloc : ∀ y ∈ binds, scope.names.lookup y.1 = some .local)
    (h : ∀ g' L' h₁, g.StaysIn g' → (∀ b o, b ∉ S.map (·.1) → s.heap.get? b = some o → g'.get? b = some o) → (∀ h', g'.StaysIn h' → Ext (S.map (·.1)) s.heap h') →
      Fr g' L' h₁ (fun y => binds.reverse.lookup y) → News g' L' h₁ S → K.In g' → Top p loose mean mg mb g' → (∀ q ∈ S, q.1 < L') →
      _root_.PySem.wpAt (model prog w) (A.deeper (ksEnv qual scope L' f cdv cc)) (.func body (ksEnv qual scope L' f cdv cc)) (execs body (ksEnv qual scope L' f cdv cc))
        (fun fl s' => R (.ok (.ret (match fl with | .ret v => v | _ => .none))) s') (fun _ _ => False)
        { s with heap := h₁, toks := s.toks + binds.length })
    (hcell : ∀ x ∈ scope.names, x.2 ≠ .cell) (hco : scope.isCoroutine = false := by rfl) (hgen : scope.isGenerator = false := by rfl) (hk : scope.kind = .function := by rfl) : codeAny (model prog w) A (.call (.ref f) args) R s := by
  obtain ⟨st, a1, a2, X', T'⟩ := base_of T X SG S hS
  refine ks_codeAny_call_defAt (fd := ksFn name qual params body scope dV kV doc pm an cdv ct cc) (body := body) (binds := binds) hroom (SG _ _ (X _ _ ho)) rfl (T.nolimit.keeps SG) (codeRec_of (X.keeps SG) hcd) rfl hbind hcell hloc (fun h₁ hns hk₁ => ?_) hco hgen hk
  exact ks_wpAt_mono (h _ s.heap.objs.size h₁ st a1 a2 ⟨hns, fun b o e => hk₁ b o (of_hideAll _ e), Nat.le_of_eq (hideAll_size _ _)⟩ (fun q hq => ⟨hk₁ _ _ (hS q hq).1, Nat.ne_of_lt (Heap.lt_size (hS q hq).1), hideAll_none _ (List.mem_map_of_mem hq)⟩) X' T' (fun q hq => Heap.lt_size (hS q hq).1)) (fun _ _ x => x) (fun _ _ x => x.elim)
end
inductive V where
  | none
  | int (i : Int)
  | str (x : Str)
  deriving DecidableEq
def VIs : V → Value → Prop
  | .none, v => v = .none
  | .int i, v => ∃ t, v = .int i t
  | .str x, v => ∃ t, v = .str x t
abbrev DD := List (Str × V)
inductive Ents : List DictEntry → DD → Prop
  | nil : Ents [] []
  | cons {e : DictEntry} {x : Str} {t : Tok} {u : V} {es : List DictEntry} {D : DD} : e.key = .str x t → VIs u e.val → Ents es D → Ents (e :: es) ((x, u) :: D)
def lk (k : Str) : DD → Option V
  | [] => none
  | (x, u) :: D => if x = k then some u else lk k D
def put (k : Str) (u : V) : DD → DD
  | [] => [(k, u)]
  | (x, v) :: D => if x = k then (x, u) :: D else (x, v) :: put k u D
def era (k : Str) : DD → DD
  | [] => []
  | (x, v) :: D => if x = k then D else (x, v) :: era k D
theorem Ents.len {es : List DictEntry} {D : DD} (h : Ents es D) : es.length = D.length := by
  induction h with
  | nil => rfl
  | cons _ _ _ ih => simp [ih]
theorem Ents.exact {es : List DictEntry} {D : DD} (h : Ents es D) : (es.toArray.all fun e => isExactStrKey e.key) = true := by
  have : (es.all fun e => isExactStrKey e.key) = true := by
    induction h with
    | nil => rfl
    | cons hk _ _ ih => rw [List.all_cons, hk, ih]; rfl
  simpa using this
theorem isStr_str {x k : Str} {t : Tok} : (Value.str x t).isStr k = decide (x = k) := by
  show (x == k) = _
  by_cases h : x = k
  · subst h; simp
  · simp [h]
/-- where a key stands, or that it does not -/
theorem Ents.at {es : List DictEntry} {D : DD} (h : Ents es D) (k : Str) :
    (lk k D = none ∧ es.findIdx? (fun e => e.key.isStr k) = none ∧ (∀ u, put k u D = D ++ [(k, u)]) ∧ era k D = D) ∨
    (∃ i e u, lk k D = some u ∧ es.findIdx? (fun e => e.key.isStr k) = some i ∧ es[i]? = some e ∧ i < es.length ∧ VIs u e.val ∧
      (∀ v u', VIs u' v → Ents (es.modify i fun e => { e with val := v }) (put k u' D)) ∧ Ents (es.eraseIdx i) (era k D)) := by
  induction h with
  | nil => exact .inl ⟨rfl, rfl, fun _ => rfl, rfl⟩
  | @cons e x t u es D hk hv hr ih =>
    by_cases hx : x = k
    · refine .inr ⟨0, e, u, by simp [lk, hx], ?_, rfl, by simp, hv, fun v u' hv' => ?_, ?_⟩
      · rw [List.findIdx?_cons, hk, isStr_str]; simp [hx]
      · simp only [put, hx, if_true]
        exact Ents.cons (e := { e with val := v }) (t := t) (by simpa [hx] using hk) hv' hr
      · simp only [era, hx, if_true]; exact hr
    · have e0 : e.key.isStr k = false := by rw [hk, isStr_str]; simp [hx]
      rcases ih with ⟨a, b, c, d⟩ | ⟨i, e', u', a, b, c, d, f, g, j⟩
      · refine .inl ⟨by simp [lk, hx, a], ?_, fun u => by simp [put, hx, c], by simp [era, hx, d]⟩
        rw [List.findIdx?_cons, e0, b]; rfl
      · refine .inr ⟨i + 1, e', u', by simp [lk, hx, a], ?_, by simpa using c, by simpa using d, f, fun v u'' hv' => ?_, ?_⟩
        · rw [List.findIdx?_cons, e0, b]; rfl
        · simp only [put, hx, if_false, List.modify_succ_cons]
          exact Ents.cons hk hv (g v u'' hv')
        · simp only [era, hx, if_false, List.eraseIdx_cons_succ]
          exact Ents.cons hk hv j
theorem Ents.snoc {es : List DictEntry} {D : DD} (h : Ents es D) {k : Str} {u : V} {v : Value} {t : Tok} {hs : Int} (hv : VIs u v) : Ents (es ++ [⟨hs, .str k t, v⟩]) (D ++ [(k, u)]) := by
  induction h with
  | nil => exact .cons rfl hv .nil
  | cons hk hv' _ ih => exact .cons hk hv' ih
theorem put_len (k : Str) (u : V) : ∀ D : DD, (put k u D).length ≤ D.length + 1
  | [] => by simp [put]
  | (x, v) :: D => by
    unfold put
    split
    · simp
    · simpa using put_len k u D

/-- a dict object that bears D -/
structure IsD (o : Obj) (D : DD) (es : List DictEntry) (ep : Nat) : Prop where
  data : o.data = .dict es.toArray ep
  ents : Ents es D
  small : D.length ≤ 1000
/-- the same object with other entries -/
def withEs (o : Obj) (es : List DictEntry) (ep : Nat) : Obj := { o with data := .dict es.toArray ep }

section
variable {prog : Program} {w : World} {A : Around} {E : Value → Shared → Prop} {s : Shared} {d : Addr} {o : Obj} {D : DD} {es : List DictEntry} {ep : Nat} {k : Str} {tk : Tok}

theorem find_D {hsh : Int} {Q : Option Nat → Shared → Prop} (ho : s.heap.get? d = some o) (I : IsD o D es ep) (h : Q (es.findIdx? fun e => e.key.isStr k) s) : wpAny (model prog w) A (dictFind d (.str k tk) hsh) Q E s :=
  KTD.kt_dictFind_strs ho I.data I.ents.exact (by simpa using h)

theorem get_D {Q : Option Value → Shared → Prop} (ho : s.heap.get? d = some o) (I : IsD o D es ep)
    (h1 : ∀ u v tk', lk k D = some u → VIs u v → Q (some v) { s with toks := tk' }) (h2 : ∀ tk', lk k D = none → Q none { s with toks := tk' }) : wpAny (model prog w) A (dictGet d (.str k tk)) Q E s := by
  unfold dictGet
  refine wpAny_holding (wpAny_bind (wpAny_pyHash_str (wpAny_bind (find_D (s := { s with toks := s.toks + 1 }) ho I ?_))))
  rcases I.ents.at k with ⟨a, b, -, -⟩ | ⟨i, e, u, a, b, c, -, f, -, -⟩
  · rw [b]; exact wpAny_pure (h2 _ a)
  · rw [b]
    refine wpAny_bind (wpAny_dictEntries (s := { s with toks := s.toks + 1 }) ho I.data (wpAny_pure ?_))
    have : (es.toArray[i]?).map (·.val) = some e.val := by simp [c]
    rw [this]
    exact h1 u _ _ a f

/-- the heap behind a change of the one dict object -/
def Changed (d : Addr) (h h' : Heap) (o : Obj) (D : DD) : Prop := Heap.SameBut d h h' ∧ ∃ es ep, h'.get? d = some (withEs o es ep) ∧ IsD (withEs o es ep) D es ep

theorem mapDict_eq {f : Array DictEntry → Array DictEntry} {es' : List DictEntry} (I : o.data = .dict es.toArray ep) (hf : f es.toArray = es'.toArray) : Obj.mapDict f o = withEs o es' ep := by
  obtain ⟨c, dd, dt, sl⟩ := o
  dsimp only at I; subst I
  show (⟨c, dd, .dict (f es.toArray) ep, sl⟩ : Obj) = _
  rw [hf]; rfl
theorem mapDictKeys_eq {f : Array DictEntry → Array DictEntry} {es' : List DictEntry} (I : o.data = .dict es.toArray ep) (hf : f es.toArray = es'.toArray) : Obj.mapDictKeys f o = withEs o es' (ep + 1) := by
  obtain ⟨c, dd, dt, sl⟩ := o
  dsimp only at I; subst I
  show (⟨c, dd, .dict (f es.toArray) (ep + 1), sl⟩ : Obj) = _
  rw [hf]; rfl
theorem upd_D {part : Option Value} {f : Array DictEntry → Array DictEntry} {es' : List DictEntry} {D' : DD} {Q : Unit → Shared → Prop} (ho : s.heap.get? d = some o) (I : IsD o D es ep) (hf : f es.toArray = es'.toArray) (hE : Ents es' D') (hl : D'.length ≤ 1000) (hes : es'.length ≤ es.length)
    (h : ∀ h', Changed d s.heap h' o D' → Q () { s with heap := h' }) : wpAny (model prog w) A (updateDict d f part) Q E s := by
  refine wpAny_updateDict ho I.data (h _ ⟨Heap.SameBut.update .., es', ep, ?_, rfl, hE, hl⟩) ?_
  · have e := mapDict_eq (f := f) I.data hf
    have : (s.heap.update d (Obj.mapDict f)).get? d = some (Obj.mapDict f o) := by first | exact Heap.get?_update_self _ ho (by rw [e]; rfl) | exact Heap.get?_update_self _ ho _
    rw [this, e]
  · rw [hf]; simpa using hes
theorem updK_D {part : Option Value} {f : Array DictEntry → Array DictEntry} {es' : List DictEntry} {D' : DD} {Q : Unit → Shared → Prop} (ho : s.heap.get? d = some o) (I : IsD o D es ep) (hf : f es.toArray = es'.toArray) (hE : Ents es' D') (hl : D'.length ≤ 1000)
    (h : ∀ h', Changed d s.heap h' o D' → Q () { s with heap := h' }) : wpAny (model prog w) A (updateDictKeys d f part) Q E s := by
  have e := mapDictKeys_eq (f := f) I.data hf
  have hz : es'.length ≤ 1000 := by rw [hE.len]; exact hl
  unfold updateDictKeys
  refine wpAny_bind (wpAny_loadPart ho ?_)
  rw [I.data]
  dsimp only
  have g : (s.heap.update d (Obj.mapDictKeys f)).get? d = some (withEs o es' (ep + 1)) := by
    have : (s.heap.update d (Obj.mapDictKeys f)).get? d = some (Obj.mapDictKeys f o) := by first | exact Heap.get?_update_self _ ho (by rw [e]; rfl) | exact Heap.get?_update_self _ ho _
    rw [this, e]
  refine wpAny_bind (wpAny_updatePart ho (wpAny_lookBehind (s := { s with heap := s.heap.update d (Obj.mapDictKeys f) }) g ?_ (h _ ⟨Heap.SameBut.update .., es', ep + 1, g, rfl, hE, hl⟩)))
  exact pastItsLine_dict (by rw [List.size_toArray, sizeLine_eq]; omega)

theorem set_D {u : V} {v : Value} {Q : Unit → Shared → Prop} (ho : s.heap.get? d = some o) (I : IsD o D es ep) (hv : VIs u v) (hl : (put k u D).length ≤ 1000)
    (h : ∀ h' tk', Changed d s.heap h' o (put k u D) → Q () { s with heap := h', toks := tk' }) : wpAny (model prog w) A (dictSet d (.str k tk) v) Q E s := by
  unfold dictSet dictSetHashed
  refine wpAny_holding (wpAny_bind (wpAny_pyHash_str (wpAny_holding (wpAny_bind (find_D (s := { s with toks := s.toks + 1 }) ho I ?_)))))
  rcases I.ents.at k with ⟨a, b, c, -⟩ | ⟨i, e, u0, a, b, c, hi, f, g, -⟩
  · rw [b]
    refine wpAny_bind (wpAny_rule (updK_D (s := { s with toks := s.toks + 1 }) (es' := es ++ [⟨hashStr w k, .str k tk, v⟩]) ho I (by simp) (c u ▸ I.ents.snoc hv) hl fun h' hc => h h' _ hc))
  · rw [b]
    refine wpAny_bind (wpAny_rule (wpAny_bind (upd_D (s := { s with toks := s.toks + 1 }) ho I (by simp) (g v u hv) hl (by simp) fun h' hc => wpAny_point (h h' _ hc))))

theorem setdefault_D {u : V} {v : Value} {Q : Value → Shared → Prop} (ho : s.heap.get? d = some o) (I : IsD o D es ep) (hv : VIs u v) (hl : (put k u D).length ≤ 1000)
    (h1 : ∀ u' v' tk', lk k D = some u' → VIs u' v' → Q v' { s with toks := tk' }) (h2 : ∀ h' tk', lk k D = none → Changed d s.heap h' o (put k u D) → Q v { s with heap := h', toks := tk' }) : wpAny (model prog w) A (dictSetDefault d (.str k tk) v) Q E s := by
  unfold dictSetDefault
  refine wpAny_holding (wpAny_bind (wpAny_pyHash_str (wpAny_bind (find_D (s := { s with toks := s.toks + 1 }) ho I ?_))))
  rcases I.ents.at k with ⟨a, b, c, -⟩ | ⟨i, e, u0, a, b, c, hi, f, g, -⟩
  · rw [b]
    refine wpAny_bind (wpAny_rule (wpAny_bind (updK_D (s := { s with toks := s.toks + 1 }) (es' := es ++ [⟨hashStr w k, .str k tk, v⟩]) ho I (by simp) (c u ▸ I.ents.snoc hv) hl fun h' hc => wpAny_pure (h2 h' _ a hc))))
  · rw [b]
    refine wpAny_bind (wpAny_dictEntries (s := { s with toks := s.toks + 1 }) ho I.data ?_)
    have : es.toArray[i]? = some e := by simp [c]
    rw [this]
    exact wpAny_bind (wpAny_rule (wpAny_pure (h1 u0 _ _ a f)))

theorem era_len (k : Str) : ∀ D : DD, (era k D).length ≤ D.length
  | [] => Nat.le_refl _
  | (x, v) :: D => by
    unfold era
    split
    · simp
    · simpa using era_len k D
theorem takeOut_D {Q : Option DictEntry → Shared → Prop} (ho : s.heap.get? d = some o) (I : IsD o D es ep)
    (h1 : ∀ u e h' tk', lk k D = some u → VIs u e.val → (∃ t, e.key = .str k t) → Changed d s.heap h' o (era k D) → Q (some e) { s with heap := h', toks := tk' }) (h2 : ∀ tk', lk k D = none → Q none { s with toks := tk' }) : wpAny (model prog w) A (Builtin.Dict.takeOut d (.str k tk)) Q E s := by
  unfold Builtin.Dict.takeOut
  refine wpAny_holding (wpAny_bind (wpAny_pyHash_str (wpAny_bind (find_D (s := { s with toks := s.toks + 1 }) ho I ?_))))
  rcases I.ents.at k with ⟨a, b, -, -⟩ | ⟨i, e, u0, a, b, c, hi, f, -, g⟩
  · rw [b]; exact wpAny_pure (h2 _ a)
  · rw [b]
    refine wpAny_bind (wpAny_dictEntries (s := { s with toks := s.toks + 1 }) ho I.data ?_)
    have : es.toArray[i]? = some e := by simp [c]
    rw [this]
    refine wpAny_bind (updK_D (s := { s with toks := s.toks + 1 }) (es' := es.eraseIdx i) ho I ?_ g (Nat.le_trans (era_len ..) I.small) fun h' hc => wpAny_pure (h1 u0 e h' _ a f ?_ hc))
    · simp [Array.eraseIdxIfInBounds, hi]
    · have hk : e.key.isStr k = true := by
        have := List.findIdx?_eq_some_iff_getElem.mp b
        obtain ⟨hlt, hp, -⟩ := this
        have e2 : es[i] = e := by
          have := List.getElem?_eq_getElem hlt
          rw [c] at this; exact (Option.some.inj this).symm
        rw [e2] at hp; exact hp
      obtain ⟨t, ht⟩ := KTD.kt_isStr hk
      exact ⟨t, ht⟩
end
abbrev boundO (kind id : String) (x : Addr) : Obj := { cls := .type kind, data := .fields #[.builtin id, .ref x] }
namespace MF
theorem slot_md : Slot "method_descriptor" "__get__" "method_descriptor.__get__" :=
  .of (owner := "method_descriptor") (n := "__get__") (by rw [typeLookup_type, builtinLookup_eq_fast]; kernel_rfl) (by decide +kernel) (by decide +kernel) (by decide +kernel)
    (by first | exact .inl (by decide +kernel) | exact .inr (by decide +kernel)) (by rw [isSubtype_type]; kernel_rfl)
theorem entry_md : entryFor table "method_descriptor.__get__" = some Builtin.«method_descriptor.__get__» := entryFor_of_tree (by kernel_rfl)
theorem args_md (a b c : Value) : argsOk "method_descriptor.__get__" ⟨[a, b, c], []⟩ := by unfold argsOk; kernel_rfl
theorem slot_wd : Slot "wrapper_descriptor" "__get__" "wrapper_descriptor.__get__" :=
  .of (owner := "wrapper_descriptor") (n := "__get__") (by rw [typeLookup_type, builtinLookup_eq_fast]; kernel_rfl) (by decide +kernel) (by decide +kernel) (by decide +kernel)
    (by first | exact .inl (by decide +kernel) | exact .inr (by decide +kernel)) (by rw [isSubtype_type]; kernel_rfl)
theorem entry_wd : entryFor table "wrapper_descriptor.__get__" = some Builtin.«wrapper_descriptor.__get__» := entryFor_of_tree (by kernel_rfl)
theorem args_wd (a b c : Value) : argsOk "wrapper_descriptor.__get__" ⟨[a, b, c], []⟩ := by unfold argsOk; kernel_rfl
theorem ty_contains : typeOf (.builtin "dict.__contains__") = pure (.type "method_descriptor") := by show builtinType _ = _; rw [builtinType_eq_fast]; kernel_rfl
theorem ty_getitem : typeOf (.builtin "dict.__getitem__") = pure (.type "method_descriptor") := by show builtinType _ = _; rw [builtinType_eq_fast]; kernel_rfl
theorem ty_get : typeOf (.builtin "dict.get") = pure (.type "method_descriptor") := by show builtinType _ = _; rw [builtinType_eq_fast]; kernel_rfl
theorem ty_setdefault : typeOf (.builtin "dict.setdefault") = pure (.type "method_descriptor") := by show builtinType _ = _; rw [builtinType_eq_fast]; kernel_rfl
theorem ty_pop : typeOf (.builtin "dict.pop") = pure (.type "method_descriptor") := by show builtinType _ = _; rw [builtinType_eq_fast]; kernel_rfl
theorem ty_setitem : typeOf (.builtin "dict.__setitem__") = pure (.type "wrapper_descriptor") := by show builtinType _ = _; rw [builtinType_eq_fast]; kernel_rfl
theorem ty_init : typeOf (.builtin "dict.__init__") = pure (.type "wrapper_descriptor") := by show builtinType _ = _; rw [builtinType_eq_fast]; kernel_rfl
end MF
section
variable {prog : Program} {w : World} {A : Around} {E : Value → Shared → Prop} {x C : Addr} {h : Heap} {g : Array GenState} {d : Drawn} {t : Nat} {os : OsState}
theorem md_get {R : Result → Shared → Prop} {id : String} (hty : typeOf (.builtin id) = pure (.type "method_descriptor")) (hd : Manifest.toldItsClass.contains id = false) (hc : (id.cutAt '.').dropLast = ["dict"]) (hi : Looks (model prog w) h (isInstance (.ref x) (.type "dict")) true)
    (hq : R (.ok (.ret (.ref h.objs.size))) ⟨h.push (boundO "builtin_function_or_method" id x), g, d, t, os⟩) :
    codeAny (model prog w) A (.call (.builtin "method_descriptor.__get__") ⟨[.builtin id, .ref x, .ref C], []⟩) R ⟨h, g, d, t, os⟩ := by
  refine codeAny_call_builtin MF.slot_md.plain MF.entry_md (MF.slot_md.check _ _ _ _ _ _ _ _ hty (MF.args_md _ _ _) ?_)
  have hi' : Looks (model prog w) h (isInstance (.ref x) (.type (".".intercalate (id.cutAt '.').dropLast))) true := by rw [hc]; exact hi
  unfold Builtin.«method_descriptor.__get__»
  k_delta "getArgs"
  repeat lk
  simp only [hd]
  repeat lk
  exact hq
theorem wd_get {R : Result → Shared → Prop} {id : String} (hty : typeOf (.builtin id) = pure (.type "wrapper_descriptor")) (hc : (id.cutAt '.').dropLast = ["dict"]) (hi : Looks (model prog w) h (isInstance (.ref x) (.type "dict")) true)
    (hq : R (.ok (.ret (.ref h.objs.size))) ⟨h.push (boundO "method-wrapper" id x), g, d, t, os⟩) :
    codeAny (model prog w) A (.call (.builtin "wrapper_descriptor.__get__") ⟨[.builtin id, .ref x, .ref C], []⟩) R ⟨h, g, d, t, os⟩ := by
  refine codeAny_call_builtin MF.slot_wd.plain MF.entry_wd (MF.slot_wd.check _ _ _ _ _ _ _ _ hty (MF.args_wd _ _ _) ?_)
  have hi' : Looks (model prog w) h (isInstance (.ref x) (.type (".".intercalate (id.cutAt '.').dropLast))) true := by rw [hc]; exact hi
  unfold Builtin.«wrapper_descriptor.__get__»
  k_delta "getArgs"
  repeat lk
  exact hq
/-- the attribute of a bound super that a built-in descriptor answers -/
theorem sup_ga {D so : Addr} {l₀ l : List Value} {K : Frag} {name : Str} {tk : Tok} {Q : Fin → Shared → Prop} {id T gid kind : String}
    (hso : h.get? so = some { cls := .type "super", dict := none, data := .fields #[.ref D, .ref x, .ref C], slots := #[] }) (hno : Looks (model prog w) h (opaqueClassAbove (.ref C)) none)
    (hC : Looks (model prog w) h (mroOf (.ref C)) l₀) (hl : (l₀.dropWhile (· != .ref D)).drop 1 = l) (X : K.In h)
    (hf : alongIn K name l = some (some (.builtin id))) (hxC : x ≠ C) (hn : (name == ("__class__" : Str)) = false)
    (hty : typeOf (.builtin id) = pure (.type T)) (hlk : typeLookup (.type T) "__get__" = pure (some (.builtin gid)))
    (hget : ∀ (R : Result → Shared → Prop), R (.ok (.ret (.ref h.objs.size))) ⟨h.push (boundO kind id x), g, d, t, os⟩ → codeAny (model prog w) A (.call (.builtin gid) ⟨[.builtin id, .ref x, .ref C], []⟩) R ⟨h, g, d, t, os⟩)
    (hq : Q (.done (.ret (.ref h.objs.size))) ⟨h.push (boundO kind id x), g, d, t, os⟩) :
    wpAny (model prog w) A (Builtin.«super.__getattribute__» ⟨[.ref so, .str name tk], []⟩) Q E ⟨h, g, d, t, os⟩ := by
  have hne : (Value.ref x == Value.ref C) = false := by simp [hxC]
  have hdt : ({ cls := .type "super", dict := none, data := .fields #[.ref D, .ref x, .ref C], slots := #[] } : Obj).data = .fields #[.ref D, .ref x, .ref C] := rfl
  have f0 : (#[.ref D, .ref x, .ref C] : Array Value)[0]? = some (.ref D) := rfl
  have f1 : (#[.ref D, .ref x, .ref C] : Array Value)[1]? = some (.ref x) := rfl
  have f2 : (#[.ref D, .ref x, .ref C] : Array Value)[2]? = some (.ref C) := rfl
  unfold Builtin.«super.__getattribute__»
  repeat (first
    | (with_reducible refine wpAny_field hso hdt f0 ?_) | (with_reducible refine wpAny_field hso hdt f1 ?_) | (with_reducible refine wpAny_field hso hdt f2 ?_)
    | (with_reducible refine ks_wpAny_notOpaque hno ?_)
    | (with_reducible refine Looks.at hC ?_; rw [hl])
    | (refine ks_forIn_along X (fun _ _ => rfl) rfl ?_ hf)
    | (with_reducible refine wpAny_of_eq hty ?_) | (with_reducible refine wpAny_of_eq hlk ?_)
    | (with_reducible refine wpAny_call (hget _ ?_))
    | (with_reducible refine ⟨_, rfl, ?_⟩)
    | (simp only [hn, hne, Bool.or_false, Bool.false_eq_true, if_false])
    | wp_step
    | dsimp only)
  all_goals first | exact hq | trace_state
end
/-- a dict method's descriptor and what binds it -/
structure BM (id kind T gid : String) : Prop where
  ty : typeOf (.builtin id) = pure (.type T)
  lk : typeLookup (.type T) "__get__" = pure (some (.builtin gid))
  get : ∀ (prog : Program) (w : World) (A : Around) (x C : Addr) (h : Heap) (g : Array GenState) (d : Drawn) (t : Nat) (os : OsState) (R : Result → Shared → Prop), Looks (model prog w) h (isInstance (.ref x) (.type "dict")) true →
    R (.ok (.ret (.ref h.objs.size))) ⟨h.push (boundO kind id x), g, d, t, os⟩ → codeAny (model prog w) A (.call (.builtin gid) ⟨[.builtin id, .ref x, .ref C], []⟩) R ⟨h, g, d, t, os⟩
abbrev BMm (id : String) : Prop := BM id "builtin_function_or_method" "method_descriptor" "method_descriptor.__get__"
abbrev BMs (id : String) : Prop := BM id "method-wrapper" "wrapper_descriptor" "wrapper_descriptor.__get__"
theorem bmm {id : String} (hty : typeOf (.builtin id) = pure (.type "method_descriptor")) (hd : Manifest.toldItsClass.contains id = false) (hc : (id.cutAt '.').dropLast = ["dict"]) : BMm id :=
  ⟨hty, MF.slot_md.lookup, fun _ _ _ _ _ _ _ _ _ _ _ hi hq => md_get hty hd hc hi hq⟩
theorem bms {id : String} (hty : typeOf (.builtin id) = pure (.type "wrapper_descriptor")) (hc : (id.cutAt '.').dropLast = ["dict"]) : BMs id :=
  ⟨hty, MF.slot_wd.lookup, fun _ _ _ _ _ _ _ _ _ _ _ hi hq => wd_get hty hc hi hq⟩
theorem bm_contains : BMm "dict.__contains__" := bmm MF.ty_contains (by decide +kernel) (by decide +kernel)
theorem bm_getitem : BMm "dict.__getitem__" := bmm MF.ty_getitem (by decide +kernel) (by decide +kernel)
theorem bm_get : BMm "dict.get" := bmm MF.ty_get (by decide +kernel) (by decide +kernel)
theorem bm_setdefault : BMm "dict.setdefault" := bmm MF.ty_setdefault (by decide +kernel) (by decide +kernel)
theorem bm_pop : BMm "dict.pop" := bmm MF.ty_pop (by decide +kernel) (by decide +kernel)
theorem bm_setitem : BMs "dict.__setitem__" := bms MF.ty_setitem (by decide +kernel)
theorem bm_init : BMs "dict.__init__" := bms MF.ty_init (by decide +kernel)

section
variable {prog : Program} {w : World} {A : Around} {E : Value → Shared → Prop} {s : Shared} {h₀ : Heap} {L : Addr} {m : Str → Option Value} {news : List (Addr × Obj)} {K : Frag} {x C D so b : Addr} {ox : Obj} {odx : Option Obj} {id kind T gid : String}

theorem sup_gm {h : Heap} {g : Array GenState} {d : Drawn} {t : Nat} {os : OsState} {l₀ l : List Value} {name : Str} {pl : Sem Bool} {Q : Value × List Value → Shared → Prop} (B : BM id kind T gid)
    (hso : h.get? so = some { cls := .type "super", dict := none, data := .fields #[.ref D, .ref x, .ref C], slots := #[] }) (hno : Looks (model prog w) h (opaqueClassAbove (.ref C)) none)
    (hC : Looks (model prog w) h (mroOf (.ref C)) l₀) (hl : (l₀.dropWhile (· != .ref D)).drop 1 = l) (X : K.In h) (hi : Looks (model prog w) h (isInstance (.ref x) (.type "dict")) true)
    (hf : alongIn K name l = some (some (.builtin id))) (hxC : x ≠ C) (hn : (name == ("__class__" : Str)) = false)
    (hq : Q (.ref h.objs.size, []) ⟨h.push (boundO kind id x), g, d, t + 1, os⟩) :
    wpAny (model prog w) A (getMethod (.ref so) name pl) Q E ⟨h, g, d, t, os⟩ := by
  have hlk := F.ks_slot_super_ga.lookup
  have hcan := F.ks_canon_super_ga
  have hT : ∀ t', (⟨h, g, d, t', os⟩ : Shared).TypeIs (.ref so) "super" := fun _ => ⟨_, hso, rfl⟩
  unfold getMethod
  refine wpAny_bind (wpAny_specialOf (hT _) hlk ?_)
  show wpAny _ _ (if (Manifest.canonical "super.__getattribute__" != "object.__getattribute__") = true then _ else _) _ _ _
  rw [if_pos hcan]
  unfold getAttr getAttrBy
  refine wpAny_bind (wpAny_bind (wpAny_mkText (wpAny_holding (wpAny_bind (wpAny_typeOf (hT _) (wpAny_bind (wpAny_of_eq hlk ?_)))))))
  show wpAny _ _ (getAttrByItsOwn (.ref so) (.str name t) (.type "super") (.builtin "super.__getattribute__") true false) _ _ _
  unfold getAttrByItsOwn hookBefore callGetattribute boundAndCalled
  refine wpAny_bind (wpAny_of_eq (show (if onTheHeap (.type "super") then typeLookup (.type "super") "__getattr__" else pure none) = pure none from rfl) ?_)
  refine wpAny_bind (wpAny_attempt (wpAny_holding ?_))
  show wpAny _ _ (bindSpecial (.builtin "super.__getattribute__") (.ref so) >>= _) _ _ _
  refine wpAny_bind (wpAny_of_eq (F.ks_slot_super_ga.bind _) ?_)
  refine wpAny_mono (Q := fun v s' => v = .ref h.objs.size ∧ s' = ⟨h.push (boundO kind id x), g, d, t + 1, os⟩) (E := fun _ _ => False)
    (wpAny_call_entry F.ks_slot_super_ga (hT _) F.ks_entry_super_ga (sup_ga hso hno hC hl X hf hxC hn B.ty B.lk (fun R hR => B.get _ _ _ _ _ _ _ _ _ _ R hi hR) ⟨_, rfl, rfl, rfl⟩) (F.ks_gaArgs_super _ _)) (fun v s' hv => ?_) fun _ _ z => z.elim
  obtain ⟨rfl, rfl⟩ := hv
  exact wpAny_pure (wpAny_pure hq)

theorem news_push {o : Obj} (F : Fr h₀ L s.heap m) (N : News h₀ L s.heap news) (hf : o.isFreed = false := by rfl) : Fr h₀ L (s.heap.push o) m ∧ News h₀ L (s.heap.push o) ((s.heap.objs.size, o) :: news) ∧ ∀ p ∈ news, p.1 < s.heap.objs.size :=
  ⟨F.push o, N.push F o hf, fun p hp => Heap.lt_size (N p hp).1⟩

theorem inst_dict {h : Heap} (X : K.In h) (I : InstAt h x ox C odx) (hm : mroIn K C (.type "dict") = some true) : Looks (model prog w) h (isInstance (.ref x) (.type "dict")) true := I.type.andThen (looks_mroIn X hm)

theorem sup_method {name : Str} {pl : Sem Bool} {Q : Value × List Value → Shared → Prop} (B : BM id kind T gid) (F : Fr h₀ L s.heap m) (X₀ : K.In h₀) (N : News h₀ L s.heap news) (hso : (so, ks_superObj D x C) ∈ news) (I : InstAt s.heap x ox C odx) (ho : nsIn K cStatics "thirdparty.any" = some none)
    (hm : ks_superIn K C D name = some (some (.builtin id))) (hn : (name == ("__class__" : Str)) = false) (hd : mroIn K C (.type "dict") = some true)
    (h : ∀ b h', Fr h₀ L h' m → News h₀ L h' ((b, boundO kind id x) :: news) → (∀ p ∈ news, p.1 < b) → Q (.ref b, []) { s with heap := h', toks := s.toks + 1 }) : wpAny (model prog w) A (getMethod (.ref so) name pl) Q E s := by
  have X : K.In s.heap := X₀.keeps F.keep
  obtain ⟨hh, g, d, t, os⟩ := s
  cases hc : clsIn K C with
  | none => unfold ks_superIn at hm; rw [hc] at hm; cases hm
  | some cd =>
    unfold ks_superIn at hm
    rw [hc] at hm
    refine sup_gm B (N _ hso).1 (looks_opaque X ho) (l₀ := cd.mro) ?_ rfl X (inst_dict X I hd) hm (ks_ne X I hc) hn ?_
    · exact fun A Q E s k q => wpAny_bind ((looks_clsIn X hc) A _ E s k (wpAny_pure q))
    · obtain ⟨F', N', l'⟩ := news_push (s := ⟨hh, g, d, t, os⟩) (o := boundO kind id x) F N
      exact h _ _ F' N' l'

/-- the caller of a bound built-in -/
theorem keeps_B {M : Model} {o : Obj} {vs : Array Value} (hc : o.cls = .type "builtin_function_or_method" ∨ o.cls = .type "method-wrapper") (hd : o.data = .fields vs) (h : Heap) (hb : h.get? b = some o) : ∃ k, (k = Keeper.frame ∨ k = Keeper.machine ∨ k = Keeper.boundFrame) ∧ Looks M h (keeperOf (.ref b)) k := by
  refine ⟨.machine, .inr (.inl rfl), (Looks.ld (part := none) hb).andThen ?_⟩
  rw [hd]
  rcases hc with e | e <;> rw [e] <;> exact .now

theorem callWith_B {env : Env} {pos : Pos} {first : List Value} {Q : Value → Shared → Prop} {e : PySem.Expr} {rest : List PySem.Expr} (_N : News h₀ L s.heap news) (_hb : (b, boundO kind id x) ∈ news) (hk : kind = "builtin_function_or_method" ∨ kind = "method-wrapper")
    (h : wpAny (model prog w) A (spliced (backTo pos (starEach (e :: rest) env))) (fun vs s₁ => s₁.heap.get? b = some (boundO kind id x) ∧ wpAny (model prog w) A (call (.ref b) (first ++ vs)) Q E s₁) E s)
    (he : starEach (e :: rest) env = (false, eval e env) :: starEach rest env := by rfl) (hplain : (backTo pos (starEach rest env)).any (·.1) = false := by rfl) :
    wpAny (model prog w) A (callWith pos (.ref b) first (backTo pos (starEach (e :: rest) env)) []) Q E s := by
  rw [he] at h ⊢
  exact callWith_of (P := fun h => h.get? b = some (boundO kind id x)) (by show ((false || (backTo pos (starEach rest env)).any (·.1)) || false) = false; rw [hplain]; rfl) (fun h hb => keeps_B (o := boundO kind id x) (by rcases hk with e | e <;> subst e <;> simp) rfl h hb) (evalArgs_plain h)
theorem callWith_B0 {env : Env} {pos : Pos} {first : List Value} {Q : Value → Shared → Prop} (N : News h₀ L s.heap news) (hb : (b, boundO kind id x) ∈ news) (hk : kind = "builtin_function_or_method" ∨ kind = "method-wrapper")
    (h : wpAny (model prog w) A (call (.ref b) (first ++ [])) Q E s) : wpAny (model prog w) A (callWith pos (.ref b) first (backTo pos (starEach [] env)) []) Q E s :=
  callWith_of (P := fun h => h.get? b = some (boundO kind id x)) rfl (fun h hb => keeps_B (o := boundO kind id x) (by rcases hk with e | e <;> subst e <;> simp) rfl h hb) (evalArgs_nil3 ⟨(N _ hb).1, h⟩)

/-- a bound built-in called: its count of arguments checked, then its text -/
theorem call_bound {args : List Value} {Bi : Builtin} {Q : Value → Shared → Prop} (hb : s.heap.get? b = some (boundO kind id x)) (hk : kind = "builtin_function_or_method" ∨ kind = "method-wrapper")
    (hp : plainId id = true) (he : entryFor table id = some Bi) (hchk : ∀ (A : Around) (E : Value → Shared → Prop) (Q : Unit → Shared → Prop), Q () s → wpAny (model prog w) A (checkBoundCall id ⟨.ref x :: args, []⟩) Q E s)
    (h : wpAny (model prog w) A.in1 (Bi ⟨.ref x :: args, []⟩) (fun fin s' => match fin with | .done f => (match f with | .ret v => Q v s' | _ => False) | .again c' => c'.quiet = true ∧ codeAny (model prog w) A c' (fun r s' => match r with | .ok (.ret v) => Q v s' | .ok _ => False | .error e => E e s') s') E s) :
    wpAny (model prog w) A (call (.ref b) args) Q E s := by
  refine wpAny_call (codeAny_of_tree ?_)
  show wpAny _ _ (callAny (.ref b) _) _ _ _
  unfold callAny
  refine wpAny_bind (wpAny_load hb ?_)
  have key : wpAny (model prog w) (A.under (.call (.ref b) ⟨args, []⟩)) (checkBoundCall id ⟨.ref x :: args, []⟩ >>= fun _ => again (.builtin id ⟨.ref x :: args, []⟩)) (fun fin s' => match fin with | .done f => (match f with | .ret v => Q v s' | _ => False) | .again c' => c'.quiet = true ∧ codeAny (model prog w) A c' (fun r s' => match r with | .ok (.ret v) => Q v s' | .ok _ => False | .error e => E e s') s') E s := by
    refine wpAny_bind (hchk _ _ _ (wpAny_pure ⟨plainId_quiet hp _, codeAny_builtin he ?_⟩))
    rw [Around.under_plainId hp _]
    refine wpAny_mono h (fun fin s' z => ?_) fun _ _ z => z
    rcases fin with (_ | _ | _ | _) | _ <;> first | exact z | exact z.elim
  rcases hk with e | e <;> subst e <;> refine wpAny_mono key (fun fin s' z => ?_) (fun _ _ z => z) <;> rcases fin with (_ | _ | _ | _) | _ <;> first | exact z | exact z.elim
end
/-- the object is no OrderedDict, and is not the table of the modules -/
def NO (M : Model) (h : Heap) (d : Addr) : Prop := ∀ (nm : String) (args : Args), args.pos.headD .none = .ref d → Looks M h (Builtin.Dict.notOrdered nm args) ()
theorem no_plain {M : Model} {h : Heap} {d : Addr} {o : Obj} (ho : h.get? d = some o) (hc : o.cls = .type "dict") : NO M h d := by
  intro nm args ha
  unfold Builtin.Dict.notOrdered
  have ht : Looks M h (typeOf (args.pos.headD .none)) (.type "dict") := by rw [ha, ← hc]; exact (Looks.ld ho).andThen .now
  split
  · refine ht.andThen ?_
    rw [if_neg (by decide)]; exact .now
  · exact .now
theorem no_own {M : Model} {h : Heap} {d C : Addr} {o : Obj} {K : Frag} (X : K.In h) (ho : h.get? d = some o) (hc : o.cls = .ref C) (hm : mroIn K C (.type "collections.OrderedDict") = some false) : NO M h d := by
  intro nm args ha
  unfold Builtin.Dict.notOrdered
  have ht : Looks M h (typeOf (args.pos.headD .none)) (.ref C) := by rw [ha, ← hc]; exact (Looks.ld ho).andThen .now
  have hi : Looks M h (isInstance (args.pos.headD .none) (.type "collections.OrderedDict")) false := ht.andThen (looks_mroIn X hm)
  split
  · refine ht.andThen ?_
    rw [if_pos (by simp)]
    exact hi.andThen .now
  · exact .now

section
variable {prog : Program} {w : World} {A : Around} {E : Value → Shared → Prop} {s : Shared} {d : Addr} {o : Obj} {D : DD} {es : List DictEntry} {ep : Nat} {k : Str} {tk : Tok} {Q : Fin → Shared → Prop}

theorem bi_contains (ho : s.heap.get? d = some o) (I : IsD o D es ep) (hs : (d == sysModules) = false)
    (h : ∀ tk', Q (.done (.ret (.bool (lk k D).isSome))) { s with toks := tk' }) : wpAny (model prog w) A (Builtin.«dict.__contains__» ⟨[.ref d, .str k tk], []⟩) Q E s := by
  show wpAny _ _ (dictGet d (.str k tk) >>= _) _ _ s
  refine wpAny_bind (get_D ho I (fun u v tk' a b => ?_) fun tk' a => ?_)
  · have := h tk'; rw [a] at this; exact wpAny_pure this
  · have := h tk'; rw [a] at this
    show wpAny _ _ (Builtin.Dict.pendingKey? d (.str k tk) >>= _) _ _ _
    unfold Builtin.Dict.pendingKey?
    rw [hs]
    exact wpAny_bind (wpAny_pure (wpAny_pure this))

theorem bi_getitem {u : V} (ho : s.heap.get? d = some o) (I : IsD o D es ep) (hk : lk k D = some u)
    (h : ∀ v tk', VIs u v → Q (.done (.ret v)) { s with toks := tk' }) : wpAny (model prog w) A (Builtin.«dict.__getitem__» ⟨[.ref d, .str k tk], []⟩) Q E s := by
  show wpAny _ _ (dictGet d (.str k tk) >>= _) _ _ s
  refine wpAny_bind (get_D ho I (fun u' v tk' a b => ?_) fun tk' a => ?_)
  · rw [hk] at a; cases a; exact wpAny_pure (h v tk' b)
  · rw [hk] at a; cases a

theorem bi_get {u : V} {dv : Value} (ho : s.heap.get? d = some o) (I : IsD o D es ep) (hs : (d == sysModules) = false) (hu : VIs u dv)
    (h : ∀ v tk', VIs ((lk k D).getD u) v → Q (.done (.ret v)) { s with toks := tk' }) : wpAny (model prog w) A (Builtin.«dict.get» ⟨[.ref d, .str k tk, dv], []⟩) Q E s := by
  show wpAny _ _ (dictGet d (.str k tk) >>= _) _ _ s
  refine wpAny_bind (get_D ho I (fun u' v tk' a b => ?_) fun tk' a => ?_)
  · rw [a] at h; exact wpAny_pure (h v tk' b)
  · rw [a] at h
    show wpAny _ _ (Builtin.Dict.missed d (.str k tk) >>= _) _ _ _
    unfold Builtin.Dict.missed
    rw [hs]
    exact wpAny_bind (wpAny_pure (wpAny_pure (h dv tk' hu)))
theorem bi_get1 (ho : s.heap.get? d = some o) (I : IsD o D es ep) (hs : (d == sysModules) = false)
    (h : ∀ v tk', VIs ((lk k D).getD .none) v → Q (.done (.ret v)) { s with toks := tk' }) : wpAny (model prog w) A (Builtin.«dict.get» ⟨[.ref d, .str k tk], []⟩) Q E s := by
  show wpAny _ _ (dictGet d (.str k tk) >>= _) _ _ s
  refine wpAny_bind (get_D ho I (fun u' v tk' a b => ?_) fun tk' a => ?_)
  · rw [a] at h; exact wpAny_pure (h v tk' b)
  · rw [a] at h
    show wpAny _ _ (Builtin.Dict.missed d (.str k tk) >>= _) _ _ _
    unfold Builtin.Dict.missed
    rw [hs]
    exact wpAny_bind (wpAny_pure (wpAny_pure (h .none tk' rfl)))

theorem bi_setitem {u : V} {v : Value} (hno : NO (model prog w) s.heap d) (ho : s.heap.get? d = some o) (I : IsD o D es ep) (hv : VIs u v) (hl : (put k u D).length ≤ 1000)
    (h : ∀ h' tk', Changed d s.heap h' o (put k u D) → Q (.done (.ret .none)) { s with heap := h', toks := tk' }) : wpAny (model prog w) A (Builtin.«dict.__setitem__» ⟨[.ref d, .str k tk, v], []⟩) Q E s := by
  unfold Builtin.«dict.__setitem__»
  refine wpAny_bind ((hno "__setitem__" ⟨[.ref d, .str k tk, v], []⟩ rfl).here ?_)
  show wpAny _ _ (dictSet d (.str k tk) v >>= _) _ _ s
  exact wpAny_bind (set_D ho I hv hl fun h' tk' hc => wpAny_pure (h h' tk' hc))

theorem bi_setdefault {u : V} {v : Value} (hno : NO (model prog w) s.heap d) (ho : s.heap.get? d = some o) (I : IsD o D es ep) (hs : (d == sysModules) = false) (hv : VIs u v) (hl : (put k u D).length ≤ 1000)
    (h1 : ∀ u' v' tk', lk k D = some u' → VIs u' v' → Q (.done (.ret v')) { s with toks := tk' }) (h2 : ∀ h' tk', lk k D = none → Changed d s.heap h' o (put k u D) → Q (.done (.ret v)) { s with heap := h', toks := tk' }) :
    wpAny (model prog w) A (Builtin.«dict.setdefault» ⟨[.ref d, .str k tk, v], []⟩) Q E s := by
  unfold Builtin.«dict.setdefault» Builtin.Dict.keyAndDefault
  refine wpAny_bind (wpAny_bind ((hno "setdefault" ⟨[.ref d, .str k tk, v], []⟩ rfl).here ?_))
  show wpAny _ _ (pure (d, Value.str k tk, some v)) _ _ s
  refine wpAny_pure ?_
  dsimp only
  rw [hs]
  exact wpAny_bind (setdefault_D ho I hv hl (fun u' v' tk' a b => wpAny_pure (h1 u' v' tk' a b)) fun h' tk' a b => wpAny_pure (h2 h' tk' a b))

theorem bi_pop {v : Value} (hno : NO (model prog w) s.heap d) (ho : s.heap.get? d = some o) (I : IsD o D es ep) (hs : (d == sysModules) = false)
    (h1 : ∀ u' v' h' tk', lk k D = some u' → VIs u' v' → Changed d s.heap h' o (era k D) → Q (.done (.ret v')) { s with heap := h', toks := tk' }) (h2 : ∀ tk', lk k D = none → Q (.done (.ret v)) { s with toks := tk' }) :
    wpAny (model prog w) A (Builtin.«dict.pop» ⟨[.ref d, .str k tk, v], []⟩) Q E s := by
  unfold Builtin.«dict.pop» Builtin.Dict.keyAndDefault
  refine wpAny_bind (wpAny_bind ((hno "pop" ⟨[.ref d, .str k tk, v], []⟩ rfl).here ?_))
  show wpAny _ _ (pure (d, Value.str k tk, some v)) _ _ s
  refine wpAny_pure ?_
  show wpAny _ _ (Builtin.Dict.takeOut d (.str k tk) >>= _) _ _ s
  refine wpAny_bind (takeOut_D ho I (fun u' e h' tk' a b c hc => ?_) fun tk' a => ?_)
  · dsimp only
    obtain ⟨t, ht⟩ := c
    rw [ht]
    refine wpAny_bind (wpAny_bind (wpAny_holding (wpAny_point (wpAny_pure (wpAny_pure (h1 u' e.val h' tk' a b hc))))))
  · dsimp only
    unfold Builtin.Dict.missedRemoval
    rw [hs]
    exact wpAny_bind (wpAny_pure (wpAny_bind (wpAny_rule (wpAny_pure (h2 tk' a)))))
theorem bi_pop1 (hno : NO (model prog w) s.heap d) {u : V} (ho : s.heap.get? d = some o) (I : IsD o D es ep) (hk : lk k D = some u)
    (h1 : ∀ v' h' tk', VIs u v' → Changed d s.heap h' o (era k D) → Q (.done (.ret v')) { s with heap := h', toks := tk' }) :
    wpAny (model prog w) A (Builtin.«dict.pop» ⟨[.ref d, .str k tk], []⟩) Q E s := by
  unfold Builtin.«dict.pop» Builtin.Dict.keyAndDefault
  refine wpAny_bind (wpAny_bind ((hno "pop" ⟨[.ref d, .str k tk], []⟩ rfl).here ?_))
  show wpAny _ _ (pure (d, Value.str k tk, none)) _ _ s
  refine wpAny_pure ?_
  show wpAny _ _ (Builtin.Dict.takeOut d (.str k tk) >>= _) _ _ s
  refine wpAny_bind (takeOut_D ho I (fun u' e h' tk' a b c hc => ?_) fun tk' a => ?_)
  · dsimp only
    obtain ⟨t, ht⟩ := c
    rw [ht]
    rw [hk] at a; cases a
    refine wpAny_bind (wpAny_bind (wpAny_holding (wpAny_point (wpAny_pure (wpAny_pure (h1 e.val h' tk' b hc))))))
  · rw [hk] at a; cases a

theorem bi_len (ho : s.heap.get? d = some o) (I : IsD o D es ep) (hs : (d == sysModules) = false)
    (h : ∀ tk t', Q (.done (.ret (.int D.length tk))) { s with toks := t' }) : wpAny (model prog w) A (Builtin.«dict.__len__» ⟨[.ref d], []⟩) Q E s := by
  show wpAny _ _ (dictSize d >>= _) _ _ s
  unfold dictSize
  refine wpAny_bind (wpAny_bind (wpAny_dictEntries ho I.data (wpAny_pure ?_)))
  unfold Builtin.Dict.pendingCount
  rw [hs]
  refine wpAny_bind (wpAny_pure ?_)
  refine wpAny_bind (wpAny_mkInt (wpAny_pure ?_))
  have e : ((es.toArray.size : Nat) : Int) + ((0 : Nat) : Int) = (D.length : Int) := by rw [List.size_toArray, I.ents.len]; simp
  have := h s.toks (s.toks + 1)
  rw [← e] at this
  exact this
end
theorem fill0 : hd.heap_39 = hd.heap_39 ∧ PySem.Challenge.rw_co0001_01 = PySem.Challenge.rw_co0001_01 := by k_fill; exact ⟨rfl, rfl⟩
section
variable {prog : Program} {w : World} {A : Around} {E : Value → Shared → Prop} {s : Shared} {x C : Addr} {K : Frag} {ox : Obj} {odx : Option Obj} {cd : ClassData} {id : String} {args : List Value} {Q : Unit → Shared → Prop}
theorem chk_m {h : Heap} {g : Array GenState} {d : Drawn} {t : Nat} {os : OsState} (X : K.In h) (I : InstAt h x ox C odx) (hc : clsIn K C = some cd) (ht : typeIn K (.ref C) = some (.type "type")) (hm : mroIn K C (.type "module") = some false) (hk : builtinKind id = some .method) (hv : Manifest.varargsMethods.contains id = false)
    (ha : (match Manifest.signature? id with | some sig => Bind.checkArgs id { sig with full := s!"{cd.qualname.toString}.{Bind.lastOf id}" } ⟨.ref x :: args, []⟩ | none => pure ()) = pure ()) (hq : Q () ⟨h, g, d, t, os⟩) :
    wpAny (model prog w) A (checkBoundCall id ⟨.ref x :: args, []⟩) Q E ⟨h, g, d, t, os⟩ := by
  have h1 : Looks (model prog w) h (isInstance (.ref x) (.type "module")) false := I.type.andThen (looks_mroIn X hm)
  have h2 : Looks (model prog w) h (isType (.ref x)) false := by
    refine (Looks.ld I.at_).andThen ?_
    have n := I.no
    unfold notCls at n
    split at n
    · cases n
    · rename_i hx
      split
      · rename_i q; exact absurd q (hx _)
      · exact .now
  have h3 : Looks (model prog w) h (typeOf (.ref x)) (.ref C) := I.type
  have h4 : Looks (model prog w) h (classData C) cd := looks_clsIn X hc
  have h5 : Looks (model prog w) h (typeOf (.ref C)) (.type "type") := looks_typeIn X ht
  unfold checkBoundCall
  cases hs : Manifest.signature? id with
  | none => exact wpAny_pure hq
  | some sig =>
    rw [hs] at ha
    dsimp only at ha ⊢
    rw [hk]
    dsimp only
    rw [if_neg (by decide)]
    refine wpAny_bind (h1.at ?_)
    rw [hv, if_neg (by decide)]
    refine wpAny_bind (h2.at ?_)
    rw [if_neg (by decide)]
    refine wpAny_bind (h3.at ?_)
    dsimp only
    refine wpAny_bind (h4.at (wpAny_bind (h5.at ?_)))
    rw [if_pos (by decide)]
    rw [ha]; exact wpAny_pure hq
theorem chk_s {h : Heap} {g : Array GenState} {d : Drawn} {t : Nat} {os : OsState} (hk : builtinKind id = some .slot)
    (ha : (match Manifest.signature? id with | some sig => Bind.checkArgs id sig ⟨.ref x :: args, []⟩ | none => pure ()) = pure ()) (hq : Q () ⟨h, g, d, t, os⟩) :
    wpAny (model prog w) A (checkBoundCall id ⟨.ref x :: args, []⟩) Q E ⟨h, g, d, t, os⟩ := by
  unfold checkBoundCall
  cases hs : Manifest.signature? id with
  | none => exact wpAny_pure hq
  | some sig =>
    rw [hs] at ha
    dsimp only at ha ⊢
    rw [hk]
    dsimp only
    rw [if_pos (by decide)]
    rw [ha]; exact wpAny_pure hq
end
namespace BF
theorem p_contains : plainId "dict.__contains__" = true := by decide +kernel
theorem p_getitem : plainId "dict.__getitem__" = true := by decide +kernel
theorem p_get : plainId "dict.get" = true := by decide +kernel
theorem p_setdefault : plainId "dict.setdefault" = true := by decide +kernel
theorem p_pop : plainId "dict.pop" = true := by decide +kernel
theorem p_setitem : plainId "dict.__setitem__" = true := by decide +kernel
theorem e_contains : entryFor table "dict.__contains__" = some Builtin.«dict.__contains__» := entryFor_of_tree (by kernel_rfl)
theorem e_getitem : entryFor table "dict.__getitem__" = some Builtin.«dict.__getitem__» := entryFor_of_tree (by kernel_rfl)
theorem e_get : entryFor table "dict.get" = some Builtin.«dict.get» := entryFor_of_tree (by kernel_rfl)
theorem e_setdefault : entryFor table "dict.setdefault" = some Builtin.«dict.setdefault» := entryFor_of_tree (by kernel_rfl)
theorem e_pop : entryFor table "dict.pop" = some Builtin.«dict.pop» := entryFor_of_tree (by kernel_rfl)
theorem e_setitem : entryFor table "dict.__setitem__" = some Builtin.«dict.__setitem__» := entryFor_of_tree (by kernel_rfl)
end BF
namespace BF
theorem v_contains : builtinKind "dict.__contains__" = some .method := by decide +kernel
theorem va_contains : Manifest.varargsMethods.contains "dict.__contains__" = false := by decide +kernel
theorem c_contains (a b : Value) : (match Manifest.signature? "dict.__contains__" with | some sig => Bind.checkArgs "dict.__contains__" { sig with full := s!"{("CaselessDict" : Str).toString}.{Bind.lastOf "dict.__contains__"}" } ⟨[a, b], []⟩ | none => pure ()) = pure () := by kernel_rfl!
theorem v_getitem : builtinKind "dict.__getitem__" = some .method := by decide +kernel
theorem va_getitem : Manifest.varargsMethods.contains "dict.__getitem__" = false := by decide +kernel
theorem c_getitem (a b : Value) : (match Manifest.signature? "dict.__getitem__" with | some sig => Bind.checkArgs "dict.__getitem__" { sig with full := s!"{("CaselessDict" : Str).toString}.{Bind.lastOf "dict.__getitem__"}" } ⟨[a, b], []⟩ | none => pure ()) = pure () := by kernel_rfl!
theorem v_get : builtinKind "dict.get" = some .method := by decide +kernel
theorem va_get : Manifest.varargsMethods.contains "dict.get" = false := by decide +kernel
theorem c_get (a b c : Value) : (match Manifest.signature? "dict.get" with | some sig => Bind.checkArgs "dict.get" { sig with full := s!"{("CaselessDict" : Str).toString}.{Bind.lastOf "dict.get"}" } ⟨[a, b, c], []⟩ | none => pure ()) = pure () := by kernel_rfl!
theorem v_setdefault : builtinKind "dict.setdefault" = some .method := by decide +kernel
theorem va_setdefault : Manifest.varargsMethods.contains "dict.setdefault" = false := by decide +kernel
theorem c_setdefault (a b c : Value) : (match Manifest.signature? "dict.setdefault" with | some sig => Bind.checkArgs "dict.setdefault" { sig with full := s!"{("CaselessDict" : Str).toString}.{Bind.lastOf "dict.setdefault"}" } ⟨[a, b, c], []⟩ | none => pure ()) = pure () := by kernel_rfl!
theorem v_pop : builtinKind "dict.pop" = some .method := by decide +kernel
theorem va_pop : Manifest.varargsMethods.contains "dict.pop" = false := by decide +kernel
theorem c_pop (a b c : Value) : (match Manifest.signature? "dict.pop" with | some sig => Bind.checkArgs "dict.pop" { sig with full := s!"{("CaselessDict" : Str).toString}.{Bind.lastOf "dict.pop"}" } ⟨[a, b, c], []⟩ | none => pure ()) = pure () := by kernel_rfl!
theorem v_setitem : builtinKind "dict.__setitem__" = some .slot := by decide +kernel
theorem c_setitem (a b c : Value) : (match Manifest.signature? "dict.__setitem__" with | some sig => Bind.checkArgs "dict.__setitem__" sig ⟨[a, b, c], []⟩ | none => pure ()) = pure () := by kernel_rfl!
end BF
/-- an object of the class of the text, by its entries -/
structure TD (o : Obj) (dx : Addr) (D : DD) (es : List DictEntry) (ep : Nat) : Prop where
  cls : o.cls = .ref 169
  dict : o.dict = some dx
  isd : IsD o D es ep
theorem TD.inst {h₀ h : Heap} {L x dx : Addr} {news : List (Addr × Obj)} {o od : Obj} {D : DD} {es : List DictEntry} {ep : Nat} (N : News h₀ L h news) (h1 : (x, o) ∈ news) (h2 : (dx, od) ∈ news) (T : TD o dx D es ep) : InstAt h x o 169 (some od) := by
  refine ⟨(N _ h1).1, T.cls, ?_, ?_⟩
  · unfold notCls; rw [T.isd.data]
  · rw [T.dict]; exact (N _ h2).1
section
variable {w : World} {A : Around} {E : Value → Shared → Prop} {s : Shared} {x dx b : Addr} {o : Obj} {D : DD} {es : List DictEntry} {ep : Nat} {k : Str} {tk : Tok} {odx : Option Obj}
theorem chk_t {id : String} {args : List Value} {Q : Unit → Shared → Prop} {P : Program} (X : (hd.heap_39 w.params).In s.heap) (I : InstAt s.heap x o 169 odx) (hk : builtinKind id = some .method) (hv : Manifest.varargsMethods.contains id = false)
    (ha : (match Manifest.signature? id with | some sig => Bind.checkArgs id { sig with full := s!"{("CaselessDict" : Str).toString}.{Bind.lastOf id}" } ⟨.ref x :: args, []⟩ | none => pure ()) = pure ()) (hq : Q () s) :
    wpAny (model P w) A (checkBoundCall id ⟨.ref x :: args, []⟩) Q E s := by
  obtain ⟨hh, g, d, t, os⟩ := s
  k_dflt refine' chk_m (K := hd.heap_39 w.params) X I ?a ?b ?c hk hv ?f hq
  case a => k_is
  case b => k_is
  case c => k_is
  case f => exact ha
theorem told_contains {Q : Value → Shared → Prop} (X : (hd.heap_39 w.params).In s.heap) (hb : s.heap.get? b = some (boundO "builtin_function_or_method" "dict.__contains__" x)) (I : InstAt s.heap x o 169 odx) (T : IsD o D es ep) (hs : (x == sysModules) = false)
    (h : ∀ tk', Q (.bool (lk k D).isSome) { s with toks := tk' }) : wpAny (model PySem.Challenge.rw_co0001_01.row.prog w) A (call (.ref b) [.str k tk]) Q E s :=
  call_bound hb (.inl rfl) BF.p_contains BF.e_contains (fun A E Q hq => chk_t (id := "dict.__contains__") X I BF.v_contains BF.va_contains (BF.c_contains _ _) hq) (bi_contains I.at_ T hs h)
theorem told_getitem {Q : Value → Shared → Prop} {u : V} (X : (hd.heap_39 w.params).In s.heap) (hb : s.heap.get? b = some (boundO "builtin_function_or_method" "dict.__getitem__" x)) (I : InstAt s.heap x o 169 odx) (T : IsD o D es ep) (hk : lk k D = some u)
    (h : ∀ v tk', VIs u v → Q v { s with toks := tk' }) : wpAny (model PySem.Challenge.rw_co0001_01.row.prog w) A (call (.ref b) [.str k tk]) Q E s :=
  call_bound hb (.inl rfl) BF.p_getitem BF.e_getitem (fun A E Q hq => chk_t (id := "dict.__getitem__") X I BF.v_getitem BF.va_getitem (BF.c_getitem _ _) hq) (bi_getitem I.at_ T hk h)
theorem told_get {Q : Value → Shared → Prop} {u : V} {dv : Value} (X : (hd.heap_39 w.params).In s.heap) (hb : s.heap.get? b = some (boundO "builtin_function_or_method" "dict.get" x)) (I : InstAt s.heap x o 169 odx) (T : IsD o D es ep) (hs : (x == sysModules) = false) (hu : VIs u dv)
    (h : ∀ v tk', VIs ((lk k D).getD u) v → Q v { s with toks := tk' }) : wpAny (model PySem.Challenge.rw_co0001_01.row.prog w) A (call (.ref b) [.str k tk, dv]) Q E s :=
  call_bound hb (.inl rfl) BF.p_get BF.e_get (fun A E Q hq => chk_t (id := "dict.get") X I BF.v_get BF.va_get (BF.c_get _ _ _) hq) (bi_get I.at_ T hs hu h)
theorem no_t {P : Program} {h : Heap} (X : (hd.heap_39 w.params).In h) (I : InstAt h x o 169 odx) : NO (model P w) h x := by
  refine no_own X I.at_ I.cls ?_
  k_is
theorem told_setdefault {Q : Value → Shared → Prop} {u : V} {v : Value} (X : (hd.heap_39 w.params).In s.heap) (hb : s.heap.get? b = some (boundO "builtin_function_or_method" "dict.setdefault" x)) (I : InstAt s.heap x o 169 odx) (T : IsD o D es ep) (hs : (x == sysModules) = false) (hv : VIs u v) (hl : (put k u D).length ≤ 1000)
    (h1 : ∀ u' v' tk', lk k D = some u' → VIs u' v' → Q v' { s with toks := tk' }) (h2 : ∀ h' tk', lk k D = none → Changed x s.heap h' o (put k u D) → Q v { s with heap := h', toks := tk' }) : wpAny (model PySem.Challenge.rw_co0001_01.row.prog w) A (call (.ref b) [.str k tk, v]) Q E s :=
  call_bound hb (.inl rfl) BF.p_setdefault BF.e_setdefault (fun A E Q hq => chk_t (id := "dict.setdefault") X I BF.v_setdefault BF.va_setdefault (BF.c_setdefault _ _ _) hq) (bi_setdefault (no_t X I) I.at_ T hs hv hl h1 h2)
theorem told_pop {Q : Value → Shared → Prop} {v : Value} (X : (hd.heap_39 w.params).In s.heap) (hb : s.heap.get? b = some (boundO "builtin_function_or_method" "dict.pop" x)) (I : InstAt s.heap x o 169 odx) (T : IsD o D es ep) (hs : (x == sysModules) = false)
    (h1 : ∀ u' v' h' tk', lk k D = some u' → VIs u' v' → Changed x s.heap h' o (era k D) → Q v' { s with heap := h', toks := tk' }) (h2 : ∀ tk', lk k D = none → Q v { s with toks := tk' }) : wpAny (model PySem.Challenge.rw_co0001_01.row.prog w) A (call (.ref b) [.str k tk, v]) Q E s :=
  call_bound hb (.inl rfl) BF.p_pop BF.e_pop (fun A E Q hq => chk_t (id := "dict.pop") X I BF.v_pop BF.va_pop (BF.c_pop _ _ _) hq) (bi_pop (no_t X I) I.at_ T hs h1 h2)
theorem told_setitem {Q : Value → Shared → Prop} {u : V} {v : Value} (X : (hd.heap_39 w.params).In s.heap) (hb : s.heap.get? b = some (boundO "method-wrapper" "dict.__setitem__" x)) (I : InstAt s.heap x o 169 odx) (T : IsD o D es ep) (hv : VIs u v) (hl : (put k u D).length ≤ 1000)
    (h : ∀ h' tk', Changed x s.heap h' o (put k u D) → Q .none { s with heap := h', toks := tk' }) : wpAny (model PySem.Challenge.rw_co0001_01.row.prog w) A (call (.ref b) [.str k tk, v]) Q E s :=
  call_bound hb (.inr rfl) BF.p_setitem BF.e_setitem (fun A E Q hq => chk_s (id := "dict.__setitem__") BF.v_setitem (BF.c_setitem _ _ _) hq) (bi_setitem (no_t X I) I.at_ T hv hl h)
end
structure Room (n : Nat) (A : Around) : Prop where
  dep : A.depth + n < 1000
  un : A.units + 8 * n < 9000
  hd : A.handled = none
theorem nsys {a : Addr} (h : @LT.lt Nat _ 1 a) : (a == sysModules) = false := beq_eq_false_iff_ne.mpr (Nat.ne_of_gt h)
theorem Room.lim {n : Nat} {A : Around} (r : Room n A) : A.depth < recursionLimit := by have := r.dep; show A.depth < 1000; omega
theorem Room.deeper {n : Nat} {A : Around} {env : Env} (r : Room (n + 1) A) : Room n (A.deeper env) := ⟨by have := r.dep; rw [depth_deeper]; omega, by have := r.un; rw [units_deeper]; omega, r.hd⟩
theorem Room.of {n m : Nat} {A B : Around} (r : Room n A) (h1 : B.depth + m ≤ A.depth + n) (h2 : B.units + 8 * m ≤ A.units + 8 * n) (h3 : B.handled = A.handled := by rfl) : Room m B := ⟨by have := r.dep; omega, by have := r.un; omega, h3.trans r.hd⟩
theorem ext_all {S : List (Addr × Obj)} {h h' : Heap} (E : Ext (S.map (·.1)) h h') (a : ∀ q ∈ S, h.get? q.1 = some q.2 ∧ q.1 = q.1) (b : ∀ q ∈ S, h'.get? q.1 = some q.2) : Ext [] h h' := fun c o _ e => by
  by_cases hc : c ∈ S.map (·.1)
  · obtain ⟨q, hq, rfl⟩ := List.mem_map.mp hc
    have := (a q hq).1
    rw [e] at this; cases this; exact b q hq
  · exact E c o hc e
theorem ext_nil {S : List (Addr × Obj)} {G h h' : Heap} {L : Addr} (E : Ext (S.map (·.1)) h h') (a : ∀ q ∈ S, h.get? q.1 = some q.2 ∧ G.get? q.1 = none) {g' : Heap} (b : News g' L h' S) : Ext [] h h' :=
  ext_all E (fun q hq => ⟨(a q hq).1, rfl⟩) fun q hq => (b q hq).1
/-- what is asked of an address for a ledger -/
abbrev At (G h : Heap) (a : Addr) (o : Obj) : Prop := h.get? a = some o ∧ G.get? a = none
theorem at1 {G h : Heap} {a : Addr} {o : Obj} (h1 : At G h a o) : ∀ q ∈ [(a, o)], h.get? q.1 = some q.2 ∧ G.get? q.1 = none := by simpa using h1
theorem at2 {G h : Heap} {a b : Addr} {o o' : Obj} (h1 : At G h a o) (h2 : At G h b o') : ∀ q ∈ [(a, o), (b, o')], h.get? q.1 = some q.2 ∧ G.get? q.1 = none := by simpa using ⟨h1, h2⟩
theorem at0 {G h : Heap} : ∀ q ∈ ([] : List (Addr × Obj)), h.get? q.1 = some q.2 ∧ G.get? q.1 = none := fun _ h => absurd h List.not_mem_nil
theorem News.at {G h : Heap} {L : Addr} {news : List (Addr × Obj)} (N : News G L h news) {a : Addr} {o : Obj} (h1 : (a, o) ∈ news) : At G h a o := ⟨(N _ h1).1, (N _ h1).2.2⟩

section
variable {w : World} {g : Heap} {A : Around} {s : Shared} {R : Result → Shared → Prop} {K : Frag} {prog : Program} {p : Program} {loose : List Str} {mean : ExcName → Option Value} {mg mb : Str → Option Value}
  {name qual : Str} {params : Arguments} {body : List Stmt} {scope : Scope} {cl : List (Str × Addr)} {dV kV doc pm cdv ct oc : Value} {an od : Option Addr} {osl : Array (Option Value)} {f : Addr} {args : Args} {binds : List (Str × Value)}
theorem call_r {n : Nat} (X : K.In g) (T : Top p loose mean mg mb g) (SG : g.StaysIn s.heap) (RM : Room (n + 1) A) (S : List (Addr × Obj)) (hS : ∀ q ∈ S, s.heap.get? q.1 = some q.2 ∧ g.get? q.1 = none)
    (ho : K.lookup f = some ⟨oc, od, .func (fnX name qual params body scope cl dV kV doc pm an cdv ct), osl⟩) (hcd : codeIn K cdv qual = true)
    (hbind : BindsTo s (fnX name qual params body scope cl dV kV doc pm an cdv ct) args binds) (hloc : ∀ y ∈ binds, scope.names.lookup y.1 = some .local)
    (h : ∀ g' L' h₁, g.StaysIn g' → (∀ b o, b ∉ S.map (·.1) → s.heap.get? b = some o → g'.get? b = some o) → (∀ h', g'.StaysIn h' → Ext (S.map (·.1)) s.heap h') →
      Fr g' L' h₁ (fun y => binds.reverse.lookup y) → News g' L' h₁ S → K.In g' → Top p loose mean mg mb g' → (∀ q ∈ S, q.1 < L') → Room n (A.deeper (envX qual scope L' f cdv cl)) →
      wpAny (model prog w) (A.deeper (envX qual scope L' f cdv cl)) (execs body (envX qual scope L' f cdv cl))
        (fun fl s' => R (.ok (.ret (match fl with | .ret v => v | _ => .none))) s') (fun _ _ => False)
        { s with heap := h₁, toks := s.toks + binds.length })
    (hcell : ∀ x ∈ scope.names, x.2 ≠ .cell) (hco : scope.isCoroutine = false := by rfl) (hgen : scope.isGenerator = false := by rfl) (hk : scope.kind = .function := by rfl) : codeAny (model prog w) A (.call (.ref f) args) R s :=
  call_h X T SG S hS ho hcd RM.lim hbind hloc (fun g' L' h₁ a b c d e f' g'' h' => h g' L' h₁ a b c d e f' g'' h' RM.deeper) hcell hco hgen hk
theorem call_rs {cc : Addr} {n : Nat} (X : K.In g) (T : Top p loose mean mg mb g) (SG : g.StaysIn s.heap) (RM : Room (n + 1) A) (S : List (Addr × Obj)) (hS : ∀ q ∈ S, s.heap.get? q.1 = some q.2 ∧ g.get? q.1 = none)
    (ho : K.lookup f = some ⟨oc, od, .func (ksFn name qual params body scope dV kV doc pm an cdv ct cc), osl⟩) (hcd : codeIn K cdv qual = true)
    (hbind : BindsTo s (ksFn name qual params body scope dV kV doc pm an cdv ct cc) args binds) (hloc : ∀ y ∈ binds, scope.names.lookup y.1 = some .local)
    (h : ∀ g' L' h₁, g.StaysIn g' → (∀ b o, b ∉ S.map (·.1) → s.heap.get? b = some o → g'.get? b = some o) → (∀ h', g'.StaysIn h' → Ext (S.map (·.1)) s.heap h') →
      Fr g' L' h₁ (fun y => binds.reverse.lookup y) → News g' L' h₁ S → K.In g' → Top p loose mean mg mb g' → (∀ q ∈ S, q.1 < L') → Room n (A.deeper (ksEnv qual scope L' f cdv cc)) →
      _root_.PySem.wpAt (model prog w) (A.deeper (ksEnv qual scope L' f cdv cc)) (.func body (ksEnv qual scope L' f cdv cc)) (execs body (ksEnv qual scope L' f cdv cc))
        (fun fl s' => R (.ok (.ret (match fl with | .ret v => v | _ => .none))) s') (fun _ _ => False)
        { s with heap := h₁, toks := s.toks + binds.length })
    (hcell : ∀ x ∈ scope.names, x.2 ≠ .cell) (hco : scope.isCoroutine = false := by rfl) (hgen : scope.isGenerator = false := by rfl) (hk : scope.kind = .function := by rfl) : codeAny (model prog w) A (.call (.ref f) args) R s :=
  call_hs X T SG S hS ho hcd RM.lim hbind hloc (fun g' L' h₁ a b c d e f' g'' h' => h g' L' h₁ a b c d e f' g'' h' RM.deeper) hcell hco hgen hk
end
set_option maxHeartbeats 4000000 in
theorem C_uni {w : World} {G : Heap} {A : Around} {s : Shared} {p : Program} {loose : List Str} {mean : ExcName → Option Value} {mg mb : Str → Option Value} {R : Result → Shared → Prop} (X : (hd.heap_39 w.params).In G) (T : Top p loose mean mg mb G) (SG : G.StaysIn s.heap) (RM : Room 3 A) {x : Str} {tk : Tok}
    (h : ∀ h' tk', Ext [] s.heap h' → R (.ok (.ret (.str x tk))) { s with heap := h', toks := tk' }) :
    codeAny (model PySem.Challenge.rw_co0001_01.row.prog w) A (.call (.ref 29) ⟨[.str x tk], []⟩) R s := by
  k_dflt (refine' call_r X T SG RM [] at0 ?k6 ?k7 ?k9 ?kB ?_ ?c5 ?c2 ?c3 ?c4)
  case k6 => k_is
  case k7 => k_is
  case k9 => first | exact BindsTo.of_eq rfl | exact binds_K (X.keeps SG) rfl (by k_is) rfl rfl rfl
  case kB => k_dflt exact locs rfl
  case c5 => k_dflt decide
  case c2 => k_dflt exact rfl
  case c3 => k_dflt exact rfl
  case c4 => k_dflt exact rfl
  k_whole
  intro g' L' h₁ SG' A1 A2 F N X' T' L1 RM'
  k_lt L1
  clear X T SG RM
  try dsimp only
  try k_fold
  repeat' (first | walk1 | (dsimp only; walk1))
  all_goals trace_state
  all_goals exact h _ _ (A2 _ (Fr.keep (by assumption)))
theorem U_uni {w : World} {G : Heap} {A : Around} {s : Shared} {p : Program} {loose : List Str} {mean : ExcName → Option Value} {mg mb : Str → Option Value} {E : Value → Shared → Prop} {Q : Value → Shared → Prop} {L : Addr} {m : Str → Option Value} {news : List (Addr × Obj)} (F : Fr G L s.heap m) (X : (hd.heap_39 w.params).In G) (N : News G L s.heap news) (T : Top p loose mean mg mb G) {n : Nat} (RM : Room (n + 3) A) {x : Str} {tk : Tok}
    (h : ∀ h' tk', Fr G L h' m → News G L h' news → Q (.str x tk) { s with heap := h', toks := tk' }) : wpAny (model PySem.Challenge.rw_co0001_01.row.prog w) A (call (.ref 29) [.str x tk]) Q E s :=
  wpAny_call (C_uni X T F.keep (RM.of (by omega) (by omega)) fun _ _ e => h _ _ (fr0 F e) (news0 N e))
local macro_rules | `(tactic| k_all) => `(tactic| first | (with_reducible exact List.forall_mem_nil _) | ((with_reducible refine' List.forall_mem_cons.mpr ⟨?za, ?zb⟩); (case za => k_ne); (case zb => k_all)))
local macro_rules | `(tactic| k_in) => `(tactic| first | with_reducible assumption | exact Frag.In.keeps (by with_reducible assumption) (Fr.keep (by with_reducible assumption)))
local macro_rules | `(tactic| walk_at "call ref") => `(tactic| (k_here; k_dflt (refine' U_uni ?k1 ?k2 ?k3 ?k4 ?k5 ?_; (case k1 => k_asm); (case k2 => k_asm); (case k3 => k_asm); (case k4 => k_asm); (case k5 => k_asm); k_whole); intro h' tk' F' N'; (try k_sweep)))
theorem changed_ext {d : Addr} {h h' : Heap} {o : Obj} {D : DD} (c : Changed d h h' o D) : Ext [d] h h' := fun b o' n e => (c.1.2 b (by simpa using n)).trans e
theorem TD.with {o : Obj} {dx : Addr} {D D' : DD} {es es' : List DictEntry} {ep ep' : Nat} (T : TD o dx D es ep) (I : IsD (withEs o es' ep') D' es' ep') : TD (withEs o es' ep') dx D' es' ep' := ⟨T.cls, T.dict, I⟩
section
variable {w : World} {G : Heap} {A : Around} {E : Value → Shared → Prop} {s : Shared} {L : Addr} {m : Str → Option Value} {news : List (Addr × Obj)} {f : Obj → List (Addr × Obj)} {x dx b : Addr} {o : Obj} {odx : Option Obj} {D : DD} {es : List DictEntry} {ep : Nat} {k : Str} {tk : Tok} {Q : Value → Shared → Prop}
theorem L_contains (F : Fr G L s.heap m) (X : (hd.heap_39 w.params).In G) (N : News G L s.heap news) (hb : (b, boundO "builtin_function_or_method" "dict.__contains__" x) ∈ news) (I : InstAt s.heap x o 169 odx) (T : TD o dx D es ep) (hs : (x == sysModules) = false)
    (h : ∀ tk', Q (.bool (lk k D).isSome) { s with toks := tk' }) : wpAny (model PySem.Challenge.rw_co0001_01.row.prog w) A (call (.ref b) [.str k tk]) Q E s := told_contains (X.keeps F.keep) (N _ hb).1 I T.isd hs h
theorem L_getitem {u : V} (F : Fr G L s.heap m) (X : (hd.heap_39 w.params).In G) (N : News G L s.heap news) (hb : (b, boundO "builtin_function_or_method" "dict.__getitem__" x) ∈ news) (I : InstAt s.heap x o 169 odx) (T : TD o dx D es ep) (hk : lk k D = some u)
    (h : ∀ v tk', VIs u v → Q v { s with toks := tk' }) : wpAny (model PySem.Challenge.rw_co0001_01.row.prog w) A (call (.ref b) [.str k tk]) Q E s := told_getitem (X.keeps F.keep) (N _ hb).1 I T.isd hk h
theorem L_get {u : V} {dv : Value} (F : Fr G L s.heap m) (X : (hd.heap_39 w.params).In G) (N : News G L s.heap news) (hb : (b, boundO "builtin_function_or_method" "dict.get" x) ∈ news) (I : InstAt s.heap x o 169 odx) (T : TD o dx D es ep) (hs : (x == sysModules) = false) (hu : VIs u dv)
    (h : ∀ v tk', VIs ((lk k D).getD u) v → Q v { s with toks := tk' }) : wpAny (model PySem.Challenge.rw_co0001_01.row.prog w) A (call (.ref b) [.str k tk, dv]) Q E s := told_get (X.keeps F.keep) (N _ hb).1 I T.isd hs hu h
theorem L_setdefault {u : V} {v : Value} (F : Fr G L s.heap m) (X : (hd.heap_39 w.params).In G) (N : News G L s.heap news) (hb : (b, boundO "builtin_function_or_method" "dict.setdefault" x) ∈ news) (I : InstAt s.heap x o 169 odx) (T : TD o dx D es ep) (U : UpdF x o news f) (hs : (x == sysModules) = false) (hv : VIs u v) (hl : (put k u D).length ≤ 1000)
    (h1 : ∀ u' v' tk', lk k D = some u' → VIs u' v' → Q v' { s with toks := tk' })
    (h2 : ∀ h' tk' o' es' ep', lk k D = none → Fr G L h' m → News G L h' (f o') → TD o' dx (put k u D) es' ep' → Q v { s with heap := h', toks := tk' }) : wpAny (model PySem.Challenge.rw_co0001_01.row.prog w) A (call (.ref b) [.str k tk, v]) Q E s :=
  told_setdefault (X.keeps F.keep) (N _ hb).1 I T.isd hs hv hl h1 fun h' tk' a c => by
    obtain ⟨es', ep', e1, e2⟩ := c.2
    obtain ⟨F', N'⟩ := use1 F N U (changed_ext c) e1
    exact h2 _ _ _ es' ep' a F' N' (T.with e2)
theorem L_pop {v : Value} (F : Fr G L s.heap m) (X : (hd.heap_39 w.params).In G) (N : News G L s.heap news) (hb : (b, boundO "builtin_function_or_method" "dict.pop" x) ∈ news) (I : InstAt s.heap x o 169 odx) (T : TD o dx D es ep) (U : UpdF x o news f) (hs : (x == sysModules) = false)
    (h1 : ∀ u' v' h' tk' o' es' ep', lk k D = some u' → VIs u' v' → Fr G L h' m → News G L h' (f o') → TD o' dx (era k D) es' ep' → Q v' { s with heap := h', toks := tk' })
    (h2 : ∀ tk', lk k D = none → Q v { s with toks := tk' }) : wpAny (model PySem.Challenge.rw_co0001_01.row.prog w) A (call (.ref b) [.str k tk, v]) Q E s :=
  told_pop (X.keeps F.keep) (N _ hb).1 I T.isd hs (fun u' v' h' tk' a b' c => by
    obtain ⟨es', ep', e1, e2⟩ := c.2
    obtain ⟨F', N'⟩ := use1 F N U (changed_ext c) e1
    exact h1 u' v' _ _ _ es' ep' a b' F' N' (T.with e2)) h2
theorem L_setitem {u : V} {v : Value} (F : Fr G L s.heap m) (X : (hd.heap_39 w.params).In G) (N : News G L s.heap news) (hb : (b, boundO "method-wrapper" "dict.__setitem__" x) ∈ news) (I : InstAt s.heap x o 169 odx) (T : TD o dx D es ep) (U : UpdF x o news f) (hv : VIs u v) (hl : (put k u D).length ≤ 1000)
    (h2 : ∀ h' tk' o' es' ep', Fr G L h' m → News G L h' (f o') → TD o' dx (put k u D) es' ep' → Q .none { s with heap := h', toks := tk' }) : wpAny (model PySem.Challenge.rw_co0001_01.row.prog w) A (call (.ref b) [.str k tk, v]) Q E s :=
  told_setitem (X.keeps F.keep) (N _ hb).1 I T.isd hv hl fun h' tk' c => by
    obtain ⟨es', ep', e1, e2⟩ := c.2
    obtain ⟨F', N'⟩ := use1 F N U (changed_ext c) e1
    exact h2 _ _ _ es' ep' F' N' (T.with e2)
end
local macro_rules | `(tactic| walk_at "wpAt") => `(tactic| (ks_step "eval Call"; k_dflt (refine ks_wpAt_MethodCall ?_)))
local macro_rules | `(tactic| walk_at "wpAt") => `(tactic| (ks_step "exec Expr"; k_dflt (refine ks_wpAt_Expr_any ?_)))
local macro_rules | `(tactic| k_inst) => `(tactic| (refine' TD.inst ?N ?h1 ?h2 ?T; (case N => k_asm); (case h1 => k_mem); (case T => assumption); (case h2 => k_mem)))
local macro_rules | `(tactic| walk_at "getMethod ref") => `(tactic| (k_here; ks_any; k_dflt (refine' sup_method ?k0 ?k1 ?k2 ?k3 ?k4 ?k5 ?k6 ?k7 ?k8 ?k9 ?_; (case k1 => k_asm); (case k2 => k_asm); (case k3 => k_asm); (case k4 => k_mem); (case k5 => k_inst); (case k6 => k_is); (case k7 => ks_is); (case k8 => decide); (case k9 => k_is); (case k0 => first | exact bm_contains | exact bm_getitem | exact bm_get | exact bm_setdefault | exact bm_pop | exact bm_setitem | exact bm_init); intro q' h' F' N' l1; (try k_lt l1))))
local macro_rules | `(tactic| walk_at "callWith ref") => `(tactic| (k_here; k_dflt (first | (refine' callWith_B ?k1 ?k2 ?k3 ?_ ?k4 ?k5; (case k1 => k_asm); (case k2 => k_mem); (case k4 => exact rfl); (case k5 => exact rfl); (case k3 => first | exact .inl rfl | exact .inr rfl); k_whole; try dsimp only [List.nil_append, List.cons_append]) | (refine' callWith_B0 ?k1 ?k2 ?k3 ?_; (case k1 => k_asm); (case k2 => k_mem); (case k3 => first | exact .inl rfl | exact .inr rfl); k_whole; try dsimp only [List.nil_append, List.cons_append]))))
local macro_rules | `(tactic| walk_at "And") => `(tactic| ((with_reducible show Heap.get? _ _ = some _ ∧ _); k_dflt (refine ⟨PyProof.Rows.News.get (by k_asm) (by k_mem), ?_⟩); try dsimp only [List.nil_append, List.cons_append]))
local macro_rules | `(tactic| walk_at "call ref") => `(tactic| (k_here; k_dflt (first
  | (refine' L_contains ?k1 ?k2 ?k3 ?k4 ?k5 ?k6 ?k7 ?_; (case k1 => k_asm); (case k2 => k_asm); (case k3 => k_asm); (case k4 => k_mem); (case k5 => k_inst); (case k6 => k_asm); (case k7 => k_asm); k_whole; intro tk')
  | (refine' L_getitem ?k1 ?k2 ?k3 ?k4 ?k5 ?k6 ?k7 ?_; (case k1 => k_asm); (case k2 => k_asm); (case k3 => k_asm); (case k4 => k_mem); (case k5 => k_inst); (case k6 => k_asm); (case k7 => k_asm); k_whole; intro v' tk' hv')
  | (refine' L_get ?k1 ?k2 ?k3 ?k4 ?k5 ?k6 ?k7 ?k8 ?_; (case k1 => k_asm); (case k2 => k_asm); (case k3 => k_asm); (case k4 => k_mem); (case k5 => k_inst); (case k6 => k_asm); (case k7 => k_asm); (case k8 => k_asm); k_whole; intro v' tk' hv')
  | (refine' L_setdefault ?k1 ?k2 ?k3 ?k4 ?k5 ?k6 ?k7 ?k8 ?k9 ?k10 ?h1 ?h2; (case k1 => k_asm); (case k2 => k_asm); (case k3 => k_asm); (case k4 => k_mem); (case k5 => k_inst); (case k6 => k_asm); (case k7 => k_updF); (case k8 => k_asm); (case k9 => k_asm); (case k10 => k_asm); (case' h2 => intro h' tk' o' es' ep' hl' F' N' td'; (try dsimp only at N'); (try k_sweep)); (case' h1 => intro u' v' tk' hl' hv'))
  | (refine' L_pop ?k1 ?k2 ?k3 ?k4 ?k5 ?k6 ?k7 ?k8 ?h1 ?h2; (case k1 => k_asm); (case k2 => k_asm); (case k3 => k_asm); (case k4 => k_mem); (case k5 => k_inst); (case k6 => k_asm); (case k7 => k_updF); (case k8 => k_asm); (case' h2 => intro tk' hl'); (case' h1 => intro u' v' h' tk' o' es' ep' hl' hv' F' N' td'; (try dsimp only at N'); (try k_sweep)))
  | (refine' L_setitem ?k1 ?k2 ?k3 ?k4 ?k5 ?k6 ?k7 ?k8 ?k9 ?_; (case k1 => k_asm); (case k2 => k_asm); (case k3 => k_asm); (case k4 => k_mem); (case k5 => k_inst); (case k6 => k_asm); (case k7 => k_updF); (case k8 => k_asm); (case k9 => k_asm); k_whole; intro h' tk' o' es' ep' F' N' td'; (try dsimp only at N'); (try k_sweep)))))
theorem ext_nil2 {G h h' g' : Heap} {L a b : Addr} {o o' : Obj} {news : List (Addr × Obj)} (E : Ext ([(a, o), (b, o')].map (·.1)) h h') (h1 : At G h a o) (h2 : At G h b o') (N : News g' L h' news) (m1 : (a, o) ∈ news) (m2 : (b, o') ∈ news) : Ext [] h h' :=
  ext_all E (by simpa using ⟨h1.1, h2.1⟩) (by simpa using ⟨(N _ m1).1, (N _ m2).1⟩)
theorem ext_one2 {G h h' g' : Heap} {L a b : Addr} {o o' : Obj} {news : List (Addr × Obj)} (E : Ext ([(a, o), (b, o')].map (·.1)) h h') (h2 : At G h b o') (N : News g' L h' news) (m2 : (b, o') ∈ news) : Ext [a] h h' := fun c q n e => by
  by_cases hc : c = b
  · subst hc; have := h2.1; rw [e] at this; cases this; exact (N _ m2).1
  · exact E c q (by simpa [hc] using n) e
set_option maxHeartbeats 4000000 in
theorem C_contains {w : World} {G : Heap} {A : Around} {s : Shared} {p : Program} {loose : List Str} {mean : ExcName → Option Value} {mg mb : Str → Option Value} {R : Result → Shared → Prop} (X : (hd.heap_39 w.params).In G) (T : Top p loose mean mg mb G) (SG : G.StaysIn s.heap) (RM : Room 6 A) {x dx : Addr} {o od : Obj} {D : DD} {es : List DictEntry} {ep : Nat} {k : Str} {tk : Tok}
    (hx : At G s.heap x o) (hdx : At G s.heap dx od) (TD1 : TD o dx D es ep) (hsys : (x == sysModules) = false) (hlen : k.length ≤ 100) (hne : @Ne Nat dx x) 
    (h : ∀ h' tk', Ext [] s.heap h' → R (.ok (.ret (.bool (lk (Txt.upper k) D).isSome))) { s with heap := h', toks := tk' }) :
    codeAny (model PySem.Challenge.rw_co0001_01.row.prog w) A (.call (.ref 89) ⟨[.ref x, .str k tk], []⟩) R s := by
  k_dflt (refine' call_rs X T SG RM [(x, o), (dx, od)] (at2 hx hdx) ?k6 ?k7 ?k9 ?kB ?_ ?c5 ?c2 ?c3 ?c4)
  case k6 => k_is
  case k7 => k_is
  case k9 => first | exact BindsTo.of_eq rfl | exact binds_K (X.keeps SG) rfl (by k_is) rfl rfl rfl
  case kB => k_dflt exact locs rfl
  case c5 => k_dflt decide
  case c2 => k_dflt exact rfl
  case c3 => k_dflt exact rfl
  case c4 => k_dflt exact rfl
  k_whole
  intro g' L' h₁ SG' A1 A2 F N X' T' L1 RM'
  k_lt L1
  clear X T SG RM
  try dsimp only
  try k_fold
  repeat' (first | walk1 | (dsimp only; walk1))
  exact h _ _ (ext_nil2 (A2 _ (Fr.keep (by assumption))) hx hdx (by assumption) (by k_mem) (by k_mem))
set_option maxHeartbeats 4000000 in
theorem C_has_key {w : World} {G : Heap} {A : Around} {s : Shared} {p : Program} {loose : List Str} {mean : ExcName → Option Value} {mg mb : Str → Option Value} {R : Result → Shared → Prop} (X : (hd.heap_39 w.params).In G) (T : Top p loose mean mg mb G) (SG : G.StaysIn s.heap) (RM : Room 6 A) {x dx : Addr} {o od : Obj} {D : DD} {es : List DictEntry} {ep : Nat} {k : Str} {tk : Tok}
    (hx : At G s.heap x o) (hdx : At G s.heap dx od) (TD1 : TD o dx D es ep) (hsys : (x == sysModules) = false) (hlen : k.length ≤ 100) (hne : @Ne Nat dx x) 
    (h : ∀ h' tk', Ext [] s.heap h' → R (.ok (.ret (.bool (lk (Txt.upper k) D).isSome))) { s with heap := h', toks := tk' }) :
    codeAny (model PySem.Challenge.rw_co0001_01.row.prog w) A (.call (.ref 131) ⟨[.ref x, .str k tk], []⟩) R s := by
  k_dflt (refine' call_rs X T SG RM [(x, o), (dx, od)] (at2 hx hdx) ?k6 ?k7 ?k9 ?kB ?_ ?c5 ?c2 ?c3 ?c4)
  case k6 => k_is
  case k7 => k_is
  case k9 => first | exact BindsTo.of_eq rfl | exact binds_K (X.keeps SG) rfl (by k_is) rfl rfl rfl
  case kB => k_dflt exact locs rfl
  case c5 => k_dflt decide
  case c2 => k_dflt exact rfl
  case c3 => k_dflt exact rfl
  case c4 => k_dflt exact rfl
  k_whole
  intro g' L' h₁ SG' A1 A2 F N X' T' L1 RM'
  k_lt L1
  clear X T SG RM
  try dsimp only
  try k_fold
  repeat' (first | walk1 | (dsimp only; walk1))
  exact h _ _ (ext_nil2 (A2 _ (Fr.keep (by assumption))) hx hdx (by assumption) (by k_mem) (by k_mem))
set_option maxHeartbeats 4000000 in
theorem C_getitem {w : World} {G : Heap} {A : Around} {s : Shared} {p : Program} {loose : List Str} {mean : ExcName → Option Value} {mg mb : Str → Option Value} {R : Result → Shared → Prop} (X : (hd.heap_39 w.params).In G) (T : Top p loose mean mg mb G) (SG : G.StaysIn s.heap) (RM : Room 6 A) {x dx : Addr} {o od : Obj} {D : DD} {es : List DictEntry} {ep : Nat} {k : Str} {tk : Tok}
    (hx : At G s.heap x o) (hdx : At G s.heap dx od) (TD1 : TD o dx D es ep) (hsys : (x == sysModules) = false) (hlen : k.length ≤ 100) (hne : @Ne Nat dx x) {u : V} (hk : lk (Txt.upper k) D = some u)
    (h : ∀ h' tk' v, Ext [] s.heap h' → VIs u v → R (.ok (.ret v)) { s with heap := h', toks := tk' }) :
    codeAny (model PySem.Challenge.rw_co0001_01.row.prog w) A (.call (.ref 65) ⟨[.ref x, .str k tk], []⟩) R s := by
  k_dflt (refine' call_rs X T SG RM [(x, o), (dx, od)] (at2 hx hdx) ?k6 ?k7 ?k9 ?kB ?_ ?c5 ?c2 ?c3 ?c4)
  case k6 => k_is
  case k7 => k_is
  case k9 => first | exact BindsTo.of_eq rfl | exact binds_K (X.keeps SG) rfl (by k_is) rfl rfl rfl
  case kB => k_dflt exact locs rfl
  case c5 => k_dflt decide
  case c2 => k_dflt exact rfl
  case c3 => k_dflt exact rfl
  case c4 => k_dflt exact rfl
  k_whole
  intro g' L' h₁ SG' A1 A2 F N X' T' L1 RM'
  k_lt L1
  clear X T SG RM
  try dsimp only
  try k_fold
  repeat' (first | walk1 | (dsimp only; walk1))
  exact h _ _ _ (ext_nil2 (A2 _ (Fr.keep (by assumption))) hx hdx (by assumption) (by k_mem) (by k_mem)) (by assumption)
set_option maxHeartbeats 4000000 in
theorem C_get {w : World} {G : Heap} {A : Around} {s : Shared} {p : Program} {loose : List Str} {mean : ExcName → Option Value} {mg mb : Str → Option Value} {R : Result → Shared → Prop} (X : (hd.heap_39 w.params).In G) (T : Top p loose mean mg mb G) (SG : G.StaysIn s.heap) (RM : Room 6 A) {x dx : Addr} {o od : Obj} {D : DD} {es : List DictEntry} {ep : Nat} {k : Str} {tk : Tok}
    (hx : At G s.heap x o) (hdx : At G s.heap dx od) (TD1 : TD o dx D es ep) (hsys : (x == sysModules) = false) (hlen : k.length ≤ 100) (hne : @Ne Nat dx x) {u : V} {dv : Value} (hv : VIs u dv)
    (h : ∀ h' tk' v, Ext [] s.heap h' → VIs ((lk (Txt.upper k) D).getD u) v → R (.ok (.ret v)) { s with heap := h', toks := tk' }) :
    codeAny (model PySem.Challenge.rw_co0001_01.row.prog w) A (.call (.ref 98) ⟨[.ref x, .str k tk, dv], []⟩) R s := by
  k_dflt (refine' call_rs X T SG RM [(x, o), (dx, od)] (at2 hx hdx) ?k6 ?k7 ?k9 ?kB ?_ ?c5 ?c2 ?c3 ?c4)
  case k6 => k_is
  case k7 => k_is
  case k9 => first | exact BindsTo.of_eq rfl | exact binds_K (X.keeps SG) rfl (by k_is) rfl rfl rfl
  case kB => k_dflt exact locs rfl
  case c5 => k_dflt decide
  case c2 => k_dflt exact rfl
  case c3 => k_dflt exact rfl
  case c4 => k_dflt exact rfl
  k_whole
  intro g' L' h₁ SG' A1 A2 F N X' T' L1 RM'
  k_lt L1
  clear X T SG RM
  try dsimp only
  try k_fold
  repeat' (first | walk1 | (dsimp only; walk1))
  exact h _ _ _ (ext_nil2 (A2 _ (Fr.keep (by assumption))) hx hdx (by assumption) (by k_mem) (by k_mem)) (by assumption)
set_option maxHeartbeats 4000000 in
theorem C_setdefault {w : World} {G : Heap} {A : Around} {s : Shared} {p : Program} {loose : List Str} {mean : ExcName → Option Value} {mg mb : Str → Option Value} {R : Result → Shared → Prop} (X : (hd.heap_39 w.params).In G) (T : Top p loose mean mg mb G) (SG : G.StaysIn s.heap) (RM : Room 6 A) {x dx : Addr} {o od : Obj} {D : DD} {es : List DictEntry} {ep : Nat} {k : Str} {tk : Tok}
    (hx : At G s.heap x o) (hdx : At G s.heap dx od) (TD1 : TD o dx D es ep) (hsys : (x == sysModules) = false) (hlen : k.length ≤ 100) (hne : @Ne Nat dx x) {u : V} {dv : Value} (hv : VIs u dv) (hl : (put (Txt.upper k) u D).length ≤ 1000)
    (h1 : ∀ h' tk' u' v, lk (Txt.upper k) D = some u' → Ext [] s.heap h' → VIs u' v → R (.ok (.ret v)) { s with heap := h', toks := tk' })
    (h2 : ∀ h' tk' o' es' ep', lk (Txt.upper k) D = none → Ext [x] s.heap h' → h'.get? x = some o' → TD o' dx (put (Txt.upper k) u D) es' ep' → R (.ok (.ret dv)) { s with heap := h', toks := tk' }) :
    codeAny (model PySem.Challenge.rw_co0001_01.row.prog w) A (.call (.ref 107) ⟨[.ref x, .str k tk, dv], []⟩) R s := by
  k_dflt (refine' call_rs X T SG RM [(x, o), (dx, od)] (at2 hx hdx) ?k6 ?k7 ?k9 ?kB ?_ ?c5 ?c2 ?c3 ?c4)
  case k6 => k_is
  case k7 => k_is
  case k9 => first | exact BindsTo.of_eq rfl | exact binds_K (X.keeps SG) rfl (by k_is) rfl rfl rfl
  case kB => k_dflt exact locs rfl
  case c5 => k_dflt decide
  case c2 => k_dflt exact rfl
  case c3 => k_dflt exact rfl
  case c4 => k_dflt exact rfl
  k_whole
  intro g' L' h₁ SG' A1 A2 F N X' T' L1 RM'
  k_lt L1
  clear X T SG RM
  try dsimp only
  try k_fold
  repeat' (first | walk1 | (dsimp only; walk1))
  all_goals (try trace_state)
  · exact h1 _ _ _ _ (by assumption) (ext_nil2 (A2 _ (Fr.keep (by assumption))) hx hdx (by assumption) (by k_mem) (by k_mem)) (by assumption)
  · exact h2 _ _ _ _ _ (by assumption) (ext_one2 (A2 _ (Fr.keep (by assumption))) hdx (by assumption) (by k_mem)) (News.get (by assumption) (by k_mem)) (by assumption)
set_option maxHeartbeats 4000000 in
theorem C_pop {w : World} {G : Heap} {A : Around} {s : Shared} {p : Program} {loose : List Str} {mean : ExcName → Option Value} {mg mb : Str → Option Value} {R : Result → Shared → Prop} (X : (hd.heap_39 w.params).In G) (T : Top p loose mean mg mb G) (SG : G.StaysIn s.heap) (RM : Room 6 A) {x dx : Addr} {o od : Obj} {D : DD} {es : List DictEntry} {ep : Nat} {k : Str} {tk : Tok}
    (hx : At G s.heap x o) (hdx : At G s.heap dx od) (TD1 : TD o dx D es ep) (hsys : (x == sysModules) = false) (hlen : k.length ≤ 100) (hne : @Ne Nat dx x) {u : V} {dv : Value} (hv : VIs u dv)
    (h1 : ∀ h' tk' o' es' ep' u' v, lk (Txt.upper k) D = some u' → Ext [x] s.heap h' → h'.get? x = some o' → TD o' dx (era (Txt.upper k) D) es' ep' → VIs u' v → R (.ok (.ret v)) { s with heap := h', toks := tk' })
    (h2 : ∀ h' tk', lk (Txt.upper k) D = none → Ext [] s.heap h' → R (.ok (.ret dv)) { s with heap := h', toks := tk' }) :
    codeAny (model PySem.Challenge.rw_co0001_01.row.prog w) A (.call (.ref 116) ⟨[.ref x, .str k tk, dv], []⟩) R s := by
  k_dflt (refine' call_rs X T SG RM [(x, o), (dx, od)] (at2 hx hdx) ?k6 ?k7 ?k9 ?kB ?_ ?c5 ?c2 ?c3 ?c4)
  case k6 => k_is
  case k7 => k_is
  case k9 => first | exact BindsTo.of_eq rfl | exact binds_K (X.keeps SG) rfl (by k_is) rfl rfl rfl
  case kB => k_dflt exact locs rfl
  case c5 => k_dflt decide
  case c2 => k_dflt exact rfl
  case c3 => k_dflt exact rfl
  case c4 => k_dflt exact rfl
  k_whole
  intro g' L' h₁ SG' A1 A2 F N X' T' L1 RM'
  k_lt L1
  clear X T SG RM
  try dsimp only
  try k_fold
  repeat' (first | walk1 | (dsimp only; walk1))
  · exact h1 _ _ _ _ _ _ _ (by assumption) (ext_one2 (A2 _ (Fr.keep (by assumption))) hdx (by assumption) (by k_mem)) (News.get (by assumption) (by k_mem)) (by assumption) (by assumption)
  · exact h2 _ _ (by assumption) (ext_nil2 (A2 _ (Fr.keep (by assumption))) hx hdx (by assumption) (by k_mem) (by k_mem))
set_option maxHeartbeats 4000000 in
theorem C_setitem {w : World} {G : Heap} {A : Around} {s : Shared} {p : Program} {loose : List Str} {mean : ExcName → Option Value} {mg mb : Str → Option Value} {R : Result → Shared → Prop} (X : (hd.heap_39 w.params).In G) (T : Top p loose mean mg mb G) (SG : G.StaysIn s.heap) (RM : Room 6 A) {x dx : Addr} {o od : Obj} {D : DD} {es : List DictEntry} {ep : Nat} {k : Str} {tk : Tok}
    (hx : At G s.heap x o) (hdx : At G s.heap dx od) (TD1 : TD o dx D es ep) (hsys : (x == sysModules) = false) (hlen : k.length ≤ 100) (hne : @Ne Nat dx x) {u : V} {dv : Value} (hv : VIs u dv) (hl : (put (Txt.upper k) u D).length ≤ 1000)
    (h2 : ∀ h' tk' o' es' ep', Ext [x] s.heap h' → h'.get? x = some o' → TD o' dx (put (Txt.upper k) u D) es' ep' → R (.ok (.ret .none)) { s with heap := h', toks := tk' }) :
    codeAny (model PySem.Challenge.rw_co0001_01.row.prog w) A (.call (.ref 73) ⟨[.ref x, .str k tk, dv], []⟩) R s := by
  k_dflt (refine' call_rs X T SG RM [(x, o), (dx, od)] (at2 hx hdx) ?k6 ?k7 ?k9 ?kB ?_ ?c5 ?c2 ?c3 ?c4)
  case k6 => k_is
  case k7 => k_is
  case k9 => first | exact BindsTo.of_eq rfl | exact binds_K (X.keeps SG) rfl (by k_is) rfl rfl rfl
  case kB => k_dflt exact locs rfl
  case c5 => k_dflt decide
  case c2 => k_dflt exact rfl
  case c3 => k_dflt exact rfl
  case c4 => k_dflt exact rfl
  k_whole
  intro g' L' h₁ SG' A1 A2 F N X' T' L1 RM'
  k_lt L1
  clear X T SG RM
  try dsimp only
  try k_fold
  repeat' (first | walk1 | (dsimp only; walk1))
  all_goals (try trace_state)
  exact h2 _ _ _ _ _ (ext_one2 (A2 _ (Fr.keep (by assumption))) hdx (by assumption) (by k_mem)) (News.get (by assumption) (by k_mem)) (by assumption)
set_option maxHeartbeats 4000000 in
theorem C_get1 {w : World} {G : Heap} {A : Around} {s : Shared} {p : Program} {loose : List Str} {mean : ExcName → Option Value} {mg mb : Str → Option Value} {R : Result → Shared → Prop} (X : (hd.heap_39 w.params).In G) (T : Top p loose mean mg mb G) (SG : G.StaysIn s.heap) (RM : Room 6 A) {x dx : Addr} {o od : Obj} {D : DD} {es : List DictEntry} {ep : Nat} {k : Str} {tk : Tok}
    (hx : At G s.heap x o) (hdx : At G s.heap dx od) (TD1 : TD o dx D es ep) (hsys : (x == sysModules) = false) (hlen : k.length ≤ 100) (hne : @Ne Nat dx x) 
    (h : ∀ h' tk' v, Ext [] s.heap h' → VIs ((lk (Txt.upper k) D).getD .none) v → R (.ok (.ret v)) { s with heap := h', toks := tk' }) :
    codeAny (model PySem.Challenge.rw_co0001_01.row.prog w) A (.call (.ref 98) ⟨[.ref x, .str k tk], []⟩) R s := by
  have hv0 : VIs .none Value.none := rfl
  k_dflt (refine' call_rs X T SG RM [(x, o), (dx, od)] (at2 hx hdx) ?k6 ?k7 ?k9 ?kB ?_ ?c5 ?c2 ?c3 ?c4)
  case k6 => k_is
  case k7 => k_is
  case k9 => first | exact BindsTo.of_eq rfl | exact binds_K (X.keeps SG) rfl (by k_is) rfl rfl rfl
  case kB => k_dflt exact locs rfl
  case c5 => k_dflt decide
  case c2 => k_dflt exact rfl
  case c3 => k_dflt exact rfl
  case c4 => k_dflt exact rfl
  k_whole
  intro g' L' h₁ SG' A1 A2 F N X' T' L1 RM'
  k_lt L1
  clear X T SG RM
  try dsimp only
  try k_fold
  repeat' (first | walk1 | (dsimp only; walk1))
  exact h _ _ _ (ext_nil2 (A2 _ (Fr.keep (by assumption))) hx hdx (by assumption) (by k_mem) (by k_mem)) (by assumption)
set_option maxHeartbeats 4000000 in
theorem C_setdefault1 {w : World} {G : Heap} {A : Around} {s : Shared} {p : Program} {loose : List Str} {mean : ExcName → Option Value} {mg mb : Str → Option Value} {R : Result → Shared → Prop} (X : (hd.heap_39 w.params).In G) (T : Top p loose mean mg mb G) (SG : G.StaysIn s.heap) (RM : Room 6 A) {x dx : Addr} {o od : Obj} {D : DD} {es : List DictEntry} {ep : Nat} {k : Str} {tk : Tok}
    (hx : At G s.heap x o) (hdx : At G s.heap dx od) (TD1 : TD o dx D es ep) (hsys : (x == sysModules) = false) (hlen : k.length ≤ 100) (hne : @Ne Nat dx x) (hl : (put (Txt.upper k) .none D).length ≤ 1000)
    (h1 : ∀ h' tk' u' v, lk (Txt.upper k) D = some u' → Ext [] s.heap h' → VIs u' v → R (.ok (.ret v)) { s with heap := h', toks := tk' })
    (h2 : ∀ h' tk' o' es' ep', lk (Txt.upper k) D = none → Ext [x] s.heap h' → h'.get? x = some o' → TD o' dx (put (Txt.upper k) .none D) es' ep' → R (.ok (.ret .none)) { s with heap := h', toks := tk' }) :
    codeAny (model PySem.Challenge.rw_co0001_01.row.prog w) A (.call (.ref 107) ⟨[.ref x, .str k tk], []⟩) R s := by
  have hv0 : VIs .none Value.none := rfl
  k_dflt (refine' call_rs X T SG RM [(x, o), (dx, od)] (at2 hx hdx) ?k6 ?k7 ?k9 ?kB ?_ ?c5 ?c2 ?c3 ?c4)
  case k6 => k_is
  case k7 => k_is
  case k9 => first | exact BindsTo.of_eq rfl | exact binds_K (X.keeps SG) rfl (by k_is) rfl rfl rfl
  case kB => k_dflt exact locs rfl
  case c5 => k_dflt decide
  case c2 => k_dflt exact rfl
  case c3 => k_dflt exact rfl
  case c4 => k_dflt exact rfl
  k_whole
  intro g' L' h₁ SG' A1 A2 F N X' T' L1 RM'
  k_lt L1
  clear X T SG RM
  try dsimp only
  try k_fold
  repeat' (first | walk1 | (dsimp only; walk1))
  · exact h1 _ _ _ _ (by assumption) (ext_nil2 (A2 _ (Fr.keep (by assumption))) hx hdx (by assumption) (by k_mem) (by k_mem)) (by assumption)
  · exact h2 _ _ _ _ _ (by assumption) (ext_one2 (A2 _ (Fr.keep (by assumption))) hdx (by assumption) (by k_mem)) (News.get (by assumption) (by k_mem)) (by assumption)
set_option maxHeartbeats 4000000 in
theorem C_pop1 {w : World} {G : Heap} {A : Around} {s : Shared} {p : Program} {loose : List Str} {mean : ExcName → Option Value} {mg mb : Str → Option Value} {R : Result → Shared → Prop} (X : (hd.heap_39 w.params).In G) (T : Top p loose mean mg mb G) (SG : G.StaysIn s.heap) (RM : Room 6 A) {x dx : Addr} {o od : Obj} {D : DD} {es : List DictEntry} {ep : Nat} {k : Str} {tk : Tok}
    (hx : At G s.heap x o) (hdx : At G s.heap dx od) (TD1 : TD o dx D es ep) (hsys : (x == sysModules) = false) (hlen : k.length ≤ 100) (hne : @Ne Nat dx x) 
    (h1 : ∀ h' tk' o' es' ep' u' v, lk (Txt.upper k) D = some u' → Ext [x] s.heap h' → h'.get? x = some o' → TD o' dx (era (Txt.upper k) D) es' ep' → VIs u' v → R (.ok (.ret v)) { s with heap := h', toks := tk' })
    (h2 : ∀ h' tk', lk (Txt.upper k) D = none → Ext [] s.heap h' → R (.ok (.ret .none)) { s with heap := h', toks := tk' }) :
    codeAny (model PySem.Challenge.rw_co0001_01.row.prog w) A (.call (.ref 116) ⟨[.ref x, .str k tk], []⟩) R s := by
  have hv0 : VIs .none Value.none := rfl
  k_dflt (refine' call_rs X T SG RM [(x, o), (dx, od)] (at2 hx hdx) ?k6 ?k7 ?k9 ?kB ?_ ?c5 ?c2 ?c3 ?c4)
  case k6 => k_is
  case k7 => k_is
  case k9 => first | exact BindsTo.of_eq rfl | exact binds_K (X.keeps SG) rfl (by k_is) rfl rfl rfl
  case kB => k_dflt exact locs rfl
  case c5 => k_dflt decide
  case c2 => k_dflt exact rfl
  case c3 => k_dflt exact rfl
  case c4 => k_dflt exact rfl
  k_whole
  intro g' L' h₁ SG' A1 A2 F N X' T' L1 RM'
  k_lt L1
  clear X T SG RM
  try dsimp only
  try k_fold
  repeat' (first | walk1 | (dsimp only; walk1))
  · exact h1 _ _ _ _ _ _ _ (by assumption) (ext_one2 (A2 _ (Fr.keep (by assumption))) hdx (by assumption) (by k_mem)) (News.get (by assumption) (by k_mem)) (by assumption) (by assumption)
  · exact h2 _ _ (by assumption) (ext_nil2 (A2 _ (Fr.keep (by assumption))) hx hdx (by assumption) (by k_mem) (by k_mem))
theorem U_contains {w : World} {G : Heap} {A : Around} {s : Shared} {p : Program} {loose : List Str} {mean : ExcName → Option Value} {mg mb : Str → Option Value} {E : Value → Shared → Prop} {Q : Value → Shared → Prop} {L : Addr} {m : Str → Option Value} {news : List (Addr × Obj)} {f : Obj → List (Addr × Obj)} (F : Fr G L s.heap m) (X : (hd.heap_39 w.params).In G) (N : News G L s.heap news) (T : Top p loose mean mg mb G) {n : Nat} (RM : Room (n + 6) A) {x dx : Addr} {o od : Obj} {D : DD} {es : List DictEntry} {ep : Nat} {k : Str} {tk : Tok}
    (hx : (x, o) ∈ news) (TD1 : TD o dx D es ep) (hdx : (dx, od) ∈ news) (hsys : (x == sysModules) = false) (hlen : k.length ≤ 100) (hne : @Ne Nat dx x) 
    (h : ∀ h' tk', Fr G L h' m → News G L h' news → Q (.bool (lk (Txt.upper k) D).isSome) { s with heap := h', toks := tk' }) : wpAny (model PySem.Challenge.rw_co0001_01.row.prog w) A (call (.ref 89) [.ref x, .str k tk]) Q E s :=
  wpAny_call (C_contains X T F.keep (RM.of (by omega) (by omega)) (News.at N hx) (News.at N hdx) TD1 hsys hlen hne fun h' tk' e => h h' tk' (fr0 F e) (news0 N e))
theorem U_has_key {w : World} {G : Heap} {A : Around} {s : Shared} {p : Program} {loose : List Str} {mean : ExcName → Option Value} {mg mb : Str → Option Value} {E : Value → Shared → Prop} {Q : Value → Shared → Prop} {L : Addr} {m : Str → Option Value} {news : List (Addr × Obj)} {f : Obj → List (Addr × Obj)} (F : Fr G L s.heap m) (X : (hd.heap_39 w.params).In G) (N : News G L s.heap news) (T : Top p loose mean mg mb G) {n : Nat} (RM : Room (n + 6) A) {x dx : Addr} {o od : Obj} {D : DD} {es : List DictEntry} {ep : Nat} {k : Str} {tk : Tok}
    (hx : (x, o) ∈ news) (TD1 : TD o dx D es ep) (hdx : (dx, od) ∈ news) (hsys : (x == sysModules) = false) (hlen : k.length ≤ 100) (hne : @Ne Nat dx x) 
    (h : ∀ h' tk', Fr G L h' m → News G L h' news → Q (.bool (lk (Txt.upper k) D).isSome) { s with heap := h', toks := tk' }) : wpAny (model PySem.Challenge.rw_co0001_01.row.prog w) A (call (.ref 131) [.ref x, .str k tk]) Q E s :=
  wpAny_call (C_has_key X T F.keep (RM.of (by omega) (by omega)) (News.at N hx) (News.at N hdx) TD1 hsys hlen hne fun h' tk' e => h h' tk' (fr0 F e) (news0 N e))
theorem U_getitem {w : World} {G : Heap} {A : Around} {s : Shared} {p : Program} {loose : List Str} {mean : ExcName → Option Value} {mg mb : Str → Option Value} {E : Value → Shared → Prop} {Q : Value → Shared → Prop} {L : Addr} {m : Str → Option Value} {news : List (Addr × Obj)} {f : Obj → List (Addr × Obj)} (F : Fr G L s.heap m) (X : (hd.heap_39 w.params).In G) (N : News G L s.heap news) (T : Top p loose mean mg mb G) {n : Nat} (RM : Room (n + 6) A) {x dx : Addr} {o od : Obj} {D : DD} {es : List DictEntry} {ep : Nat} {k : Str} {tk : Tok}
    (hx : (x, o) ∈ news) (TD1 : TD o dx D es ep) (hdx : (dx, od) ∈ news) (hsys : (x == sysModules) = false) (hlen : k.length ≤ 100) (hne : @Ne Nat dx x) {u : V} (hk : (lk (Txt.upper k) D) = some u)
    (h : ∀ h' tk' v, Fr G L h' m → News G L h' news → VIs u v → Q v { s with heap := h', toks := tk' }) : wpAny (model PySem.Challenge.rw_co0001_01.row.prog w) A (call (.ref 65) [.ref x, .str k tk]) Q E s :=
  wpAny_call (C_getitem X T F.keep (RM.of (by omega) (by omega)) (News.at N hx) (News.at N hdx) TD1 hsys hlen hne hk fun h' tk' v e hv => h h' tk' v (fr0 F e) (news0 N e) hv)
theorem U_get1 {w : World} {G : Heap} {A : Around} {s : Shared} {p : Program} {loose : List Str} {mean : ExcName → Option Value} {mg mb : Str → Option Value} {E : Value → Shared → Prop} {Q : Value → Shared → Prop} {L : Addr} {m : Str → Option Value} {news : List (Addr × Obj)} {f : Obj → List (Addr × Obj)} (F : Fr G L s.heap m) (X : (hd.heap_39 w.params).In G) (N : News G L s.heap news) (T : Top p loose mean mg mb G) {n : Nat} (RM : Room (n + 6) A) {x dx : Addr} {o od : Obj} {D : DD} {es : List DictEntry} {ep : Nat} {k : Str} {tk : Tok}
    (hx : (x, o) ∈ news) (TD1 : TD o dx D es ep) (hdx : (dx, od) ∈ news) (hsys : (x == sysModules) = false) (hlen : k.length ≤ 100) (hne : @Ne Nat dx x) 
    (h : ∀ h' tk' v, Fr G L h' m → News G L h' news → VIs ((lk (Txt.upper k) D).getD .none) v → Q v { s with heap := h', toks := tk' }) : wpAny (model PySem.Challenge.rw_co0001_01.row.prog w) A (call (.ref 98) [.ref x, .str k tk]) Q E s :=
  wpAny_call (C_get1 X T F.keep (RM.of (by omega) (by omega)) (News.at N hx) (News.at N hdx) TD1 hsys hlen hne fun h' tk' v e hv => h h' tk' v (fr0 F e) (news0 N e) hv)
theorem U_get {w : World} {G : Heap} {A : Around} {s : Shared} {p : Program} {loose : List Str} {mean : ExcName → Option Value} {mg mb : Str → Option Value} {E : Value → Shared → Prop} {Q : Value → Shared → Prop} {L : Addr} {m : Str → Option Value} {news : List (Addr × Obj)} {f : Obj → List (Addr × Obj)} (F : Fr G L s.heap m) (X : (hd.heap_39 w.params).In G) (N : News G L s.heap news) (T : Top p loose mean mg mb G) {n : Nat} (RM : Room (n + 6) A) {x dx : Addr} {o od : Obj} {D : DD} {es : List DictEntry} {ep : Nat} {k : Str} {tk : Tok}
    (hx : (x, o) ∈ news) (TD1 : TD o dx D es ep) (hdx : (dx, od) ∈ news) (hsys : (x == sysModules) = false) (hlen : k.length ≤ 100) (hne : @Ne Nat dx x) {u : V} {dv : Value} (hv : VIs u dv)
    (h : ∀ h' tk' v, Fr G L h' m → News G L h' news → VIs ((lk (Txt.upper k) D).getD u) v → Q v { s with heap := h', toks := tk' }) : wpAny (model PySem.Challenge.rw_co0001_01.row.prog w) A (call (.ref 98) [.ref x, .str k tk, dv]) Q E s :=
  wpAny_call (C_get X T F.keep (RM.of (by omega) (by omega)) (News.at N hx) (News.at N hdx) TD1 hsys hlen hne hv fun h' tk' v e hv => h h' tk' v (fr0 F e) (news0 N e) hv)
theorem U_setdefault1 {w : World} {G : Heap} {A : Around} {s : Shared} {p : Program} {loose : List Str} {mean : ExcName → Option Value} {mg mb : Str → Option Value} {E : Value → Shared → Prop} {Q : Value → Shared → Prop} {L : Addr} {m : Str → Option Value} {news : List (Addr × Obj)} {f : Obj → List (Addr × Obj)} (F : Fr G L s.heap m) (X : (hd.heap_39 w.params).In G) (N : News G L s.heap news) (T : Top p loose mean mg mb G) {n : Nat} (RM : Room (n + 6) A) {x dx : Addr} {o od : Obj} {D : DD} {es : List DictEntry} {ep : Nat} {k : Str} {tk : Tok}
    (hx : (x, o) ∈ news) (TD1 : TD o dx D es ep) (hdx : (dx, od) ∈ news) (hsys : (x == sysModules) = false) (hlen : k.length ≤ 100) (hne : @Ne Nat dx x)  (U : UpdF x o news f) (hl : (put (Txt.upper k) .none D).length ≤ 1000)
    (h1 : ∀ h' tk' u' v, lk (Txt.upper k) D = some u' → Fr G L h' m → News G L h' news → VIs u' v → Q v { s with heap := h', toks := tk' })
    (h2 : ∀ h' tk' o' es' ep', lk (Txt.upper k) D = none → Fr G L h' m → News G L h' (f o') → TD o' dx (put (Txt.upper k) .none D) es' ep' → Q Value.none { s with heap := h', toks := tk' }) : wpAny (model PySem.Challenge.rw_co0001_01.row.prog w) A (call (.ref 107) [.ref x, .str k tk]) Q E s :=
  wpAny_call (C_setdefault1 X T F.keep (RM.of (by omega) (by omega)) (News.at N hx) (News.at N hdx) TD1 hsys hlen hne  hl (fun h' tk' u' v a e hv => h1 h' tk' u' v a (fr0 F e) (news0 N e) hv) fun h' tk' o' es' ep' a e b c => h2 h' tk' o' es' ep' a (use1 F N U e b).1 (use1 F N U e b).2 c)
theorem U_pop1 {w : World} {G : Heap} {A : Around} {s : Shared} {p : Program} {loose : List Str} {mean : ExcName → Option Value} {mg mb : Str → Option Value} {E : Value → Shared → Prop} {Q : Value → Shared → Prop} {L : Addr} {m : Str → Option Value} {news : List (Addr × Obj)} {f : Obj → List (Addr × Obj)} (F : Fr G L s.heap m) (X : (hd.heap_39 w.params).In G) (N : News G L s.heap news) (T : Top p loose mean mg mb G) {n : Nat} (RM : Room (n + 6) A) {x dx : Addr} {o od : Obj} {D : DD} {es : List DictEntry} {ep : Nat} {k : Str} {tk : Tok}
    (hx : (x, o) ∈ news) (TD1 : TD o dx D es ep) (hdx : (dx, od) ∈ news) (hsys : (x == sysModules) = false) (hlen : k.length ≤ 100) (hne : @Ne Nat dx x)  (U : UpdF x o news f)
    (h1 : ∀ h' tk' o' es' ep' u' v, lk (Txt.upper k) D = some u' → VIs u' v → Fr G L h' m → News G L h' (f o') → TD o' dx (era (Txt.upper k) D) es' ep' → Q v { s with heap := h', toks := tk' })
    (h2 : ∀ h' tk', lk (Txt.upper k) D = none → Fr G L h' m → News G L h' news → Q Value.none { s with heap := h', toks := tk' }) : wpAny (model PySem.Challenge.rw_co0001_01.row.prog w) A (call (.ref 116) [.ref x, .str k tk]) Q E s :=
  wpAny_call (C_pop1 X T F.keep (RM.of (by omega) (by omega)) (News.at N hx) (News.at N hdx) TD1 hsys hlen hne  (fun h' tk' o' es' ep' u' v a e b c hv => h1 h' tk' o' es' ep' u' v a hv (use1 F N U e b).1 (use1 F N U e b).2 c) fun h' tk' a e => h2 h' tk' a (fr0 F e) (news0 N e))
theorem U_setdefault {w : World} {G : Heap} {A : Around} {s : Shared} {p : Program} {loose : List Str} {mean : ExcName → Option Value} {mg mb : Str → Option Value} {E : Value → Shared → Prop} {Q : Value → Shared → Prop} {L : Addr} {m : Str → Option Value} {news : List (Addr × Obj)} {f : Obj → List (Addr × Obj)} (F : Fr G L s.heap m) (X : (hd.heap_39 w.params).In G) (N : News G L s.heap news) (T : Top p loose mean mg mb G) {n : Nat} (RM : Room (n + 6) A) {x dx : Addr} {o od : Obj} {D : DD} {es : List DictEntry} {ep : Nat} {k : Str} {tk : Tok}
    (hx : (x, o) ∈ news) (TD1 : TD o dx D es ep) (hdx : (dx, od) ∈ news) (hsys : (x == sysModules) = false) (hlen : k.length ≤ 100) (hne : @Ne Nat dx x) {u : V} {dv : Value} (hv : VIs u dv) (U : UpdF x o news f) (hl : (put (Txt.upper k) u D).length ≤ 1000)
    (h1 : ∀ h' tk' u' v, lk (Txt.upper k) D = some u' → Fr G L h' m → News G L h' news → VIs u' v → Q v { s with heap := h', toks := tk' })
    (h2 : ∀ h' tk' o' es' ep', lk (Txt.upper k) D = none → Fr G L h' m → News G L h' (f o') → TD o' dx (put (Txt.upper k) u D) es' ep' → Q dv { s with heap := h', toks := tk' }) : wpAny (model PySem.Challenge.rw_co0001_01.row.prog w) A (call (.ref 107) [.ref x, .str k tk, dv]) Q E s :=
  wpAny_call (C_setdefault X T F.keep (RM.of (by omega) (by omega)) (News.at N hx) (News.at N hdx) TD1 hsys hlen hne hv hl (fun h' tk' u' v a e hv => h1 h' tk' u' v a (fr0 F e) (news0 N e) hv) fun h' tk' o' es' ep' a e b c => h2 h' tk' o' es' ep' a (use1 F N U e b).1 (use1 F N U e b).2 c)
theorem U_pop {w : World} {G : Heap} {A : Around} {s : Shared} {p : Program} {loose : List Str} {mean : ExcName → Option Value} {mg mb : Str → Option Value} {E : Value → Shared → Prop} {Q : Value → Shared → Prop} {L : Addr} {m : Str → Option Value} {news : List (Addr × Obj)} {f : Obj → List (Addr × Obj)} (F : Fr G L s.heap m) (X : (hd.heap_39 w.params).In G) (N : News G L s.heap news) (T : Top p loose mean mg mb G) {n : Nat} (RM : Room (n + 6) A) {x dx : Addr} {o od : Obj} {D : DD} {es : List DictEntry} {ep : Nat} {k : Str} {tk : Tok}
    (hx : (x, o) ∈ news) (TD1 : TD o dx D es ep) (hdx : (dx, od) ∈ news) (hsys : (x == sysModules) = false) (hlen : k.length ≤ 100) (hne : @Ne Nat dx x) {u : V} {dv : Value} (hv : VIs u dv) (U : UpdF x o news f)
    (h1 : ∀ h' tk' o' es' ep' u' v, lk (Txt.upper k) D = some u' → VIs u' v → Fr G L h' m → News G L h' (f o') → TD o' dx (era (Txt.upper k) D) es' ep' → Q v { s with heap := h', toks := tk' })
    (h2 : ∀ h' tk', lk (Txt.upper k) D = none → Fr G L h' m → News G L h' news → Q dv { s with heap := h', toks := tk' }) : wpAny (model PySem.Challenge.rw_co0001_01.row.prog w) A (call (.ref 116) [.ref x, .str k tk, dv]) Q E s :=
  wpAny_call (C_pop X T F.keep (RM.of (by omega) (by omega)) (News.at N hx) (News.at N hdx) TD1 hsys hlen hne hv (fun h' tk' o' es' ep' u' v a e b c hv => h1 h' tk' o' es' ep' u' v a hv (use1 F N U e b).1 (use1 F N U e b).2 c) fun h' tk' a e => h2 h' tk' a (fr0 F e) (news0 N e))
theorem U_setitem {w : World} {G : Heap} {A : Around} {s : Shared} {p : Program} {loose : List Str} {mean : ExcName → Option Value} {mg mb : Str → Option Value} {E : Value → Shared → Prop} {Q : Value → Shared → Prop} {L : Addr} {m : Str → Option Value} {news : List (Addr × Obj)} {f : Obj → List (Addr × Obj)} (F : Fr G L s.heap m) (X : (hd.heap_39 w.params).In G) (N : News G L s.heap news) (T : Top p loose mean mg mb G) {n : Nat} (RM : Room (n + 6) A) {x dx : Addr} {o od : Obj} {D : DD} {es : List DictEntry} {ep : Nat} {k : Str} {tk : Tok}
    (hx : (x, o) ∈ news) (TD1 : TD o dx D es ep) (hdx : (dx, od) ∈ news) (hsys : (x == sysModules) = false) (hlen : k.length ≤ 100) (hne : @Ne Nat dx x) {u : V} {dv : Value} (hv : VIs u dv) (U : UpdF x o news f) (hl : (put (Txt.upper k) u D).length ≤ 1000)
    (h2 : ∀ h' tk' o' es' ep', Fr G L h' m → News G L h' (f o') → TD o' dx (put (Txt.upper k) u D) es' ep' → Q .none { s with heap := h', toks := tk' }) : wpAny (model PySem.Challenge.rw_co0001_01.row.prog w) A (call (.ref 73) [.ref x, .str k tk, dv]) Q E s :=
  wpAny_call (C_setitem X T F.keep (RM.of (by omega) (by omega)) (News.at N hx) (News.at N hdx) TD1 hsys hlen hne hv hl fun h' tk' o' es' ep' e b c => h2 h' tk' o' es' ep' (use1 F N U e b).1 (use1 F N U e b).2 c)
local macro_rules | `(tactic| walk_at "call ref") => `(tactic| (k_here; k_dflt (first
  | (refine' U_contains ?k1 ?k2 ?k3 ?k4 ?k5 ?k6 ?k7 ?k8 ?k9 ?ka ?kb ?_; (case k1 => k_asm); (case k2 => k_asm); (case k3 => k_asm); (case k4 => k_asm); (case k5 => k_asm); (case k6 => k_mem); (case k7 => k_asm); (case k8 => k_mem); (case k9 => k_asm); (case ka => first | with_reducible assumption | (exact nsys (by omega)) | k_asm); (case kb => k_ne); k_whole; intro h' tk' F' N'; (try k_sweep))
  | (refine' U_has_key ?k1 ?k2 ?k3 ?k4 ?k5 ?k6 ?k7 ?k8 ?k9 ?ka ?kb ?_; (case k1 => k_asm); (case k2 => k_asm); (case k3 => k_asm); (case k4 => k_asm); (case k5 => k_asm); (case k6 => k_mem); (case k7 => k_asm); (case k8 => k_mem); (case k9 => k_asm); (case ka => first | with_reducible assumption | (exact nsys (by omega)) | k_asm); (case kb => k_ne); k_whole; intro h' tk' F' N'; (try k_sweep))
  | (refine' U_getitem ?k1 ?k2 ?k3 ?k4 ?k5 ?k6 ?k7 ?k8 ?k9 ?ka ?kb ?kc ?_; (case k1 => k_asm); (case k2 => k_asm); (case k3 => k_asm); (case k4 => k_asm); (case k5 => k_asm); (case k6 => k_mem); (case k7 => k_asm); (case k8 => k_mem); (case k9 => k_asm); (case ka => first | with_reducible assumption | (exact nsys (by omega)) | k_asm); (case kb => k_ne); (case kc => k_asm); k_whole; intro h' tk' v' F' N' hv'; (try k_sweep))
  | (refine' U_get1 ?k1 ?k2 ?k3 ?k4 ?k5 ?k6 ?k7 ?k8 ?k9 ?ka ?kb ?_; (case k1 => k_asm); (case k2 => k_asm); (case k3 => k_asm); (case k4 => k_asm); (case k5 => k_asm); (case k6 => k_mem); (case k7 => k_asm); (case k8 => k_mem); (case k9 => k_asm); (case ka => first | with_reducible assumption | (exact nsys (by omega)) | k_asm); (case kb => k_ne); k_whole; intro h' tk' v' F' N' hv'; (try k_sweep))
  | (refine' U_get ?k1 ?k2 ?k3 ?k4 ?k5 ?k6 ?k7 ?k8 ?k9 ?ka ?kb ?kc ?_; (case k1 => k_asm); (case k2 => k_asm); (case k3 => k_asm); (case k4 => k_asm); (case k5 => k_asm); (case k6 => k_mem); (case k7 => k_asm); (case k8 => k_mem); (case k9 => k_asm); (case ka => first | with_reducible assumption | (exact nsys (by omega)) | k_asm); (case kb => k_ne); (case kc => first | k_asm | exact rfl | exact ⟨_, rfl⟩); k_whole; intro h' tk' v' F' N' hv'; (try k_sweep))
  | (refine' U_setdefault1 ?k1 ?k2 ?k3 ?k4 ?k5 ?k6 ?k7 ?k8 ?k9 ?ka ?kb ?kd ?ke ?h1 ?h2; (case k1 => k_asm); (case k2 => k_asm); (case k3 => k_asm); (case k4 => k_asm); (case k5 => k_asm); (case k6 => k_mem); (case k7 => k_asm); (case k8 => k_mem); (case k9 => k_asm); (case ka => first | with_reducible assumption | (exact nsys (by omega)) | k_asm); (case kb => k_ne); (case kd => k_updF); (case ke => k_asm); (case' h2 => intro h' tk' o' es' ep' hl' F' N' td'; (try dsimp only at N'); (try k_sweep)); (case' h1 => intro h' tk' u' v' hl' F' N' hv'; (try k_sweep)))
  | (refine' U_pop1 ?k1 ?k2 ?k3 ?k4 ?k5 ?k6 ?k7 ?k8 ?k9 ?ka ?kb ?kd ?h1 ?h2; (case k1 => k_asm); (case k2 => k_asm); (case k3 => k_asm); (case k4 => k_asm); (case k5 => k_asm); (case k6 => k_mem); (case k7 => k_asm); (case k8 => k_mem); (case k9 => k_asm); (case ka => first | with_reducible assumption | (exact nsys (by omega)) | k_asm); (case kb => k_ne); (case kd => k_updF); (case' h2 => intro h' tk' hl' F' N'; (try k_sweep)); (case' h1 => intro h' tk' o' es' ep' u' v' hl' hv' F' N' td'; (try dsimp only at N'); (try k_sweep)))
  | (refine' U_setdefault ?k1 ?k2 ?k3 ?k4 ?k5 ?k6 ?k7 ?k8 ?k9 ?ka ?kb ?kc ?kd ?ke ?h1 ?h2; (case k1 => k_asm); (case k2 => k_asm); (case k3 => k_asm); (case k4 => k_asm); (case k5 => k_asm); (case k6 => k_mem); (case k7 => k_asm); (case k8 => k_mem); (case k9 => k_asm); (case ka => first | with_reducible assumption | (exact nsys (by omega)) | k_asm); (case kb => k_ne); (case kc => first | k_asm | exact rfl | exact ⟨_, rfl⟩); (case kd => k_updF); (case ke => k_asm); (case' h2 => intro h' tk' o' es' ep' hl' F' N' td'; (try dsimp only at N'); (try k_sweep)); (case' h1 => intro h' tk' u' v' hl' F' N' hv'; (try k_sweep)))
  | (refine' U_pop ?k1 ?k2 ?k3 ?k4 ?k5 ?k6 ?k7 ?k8 ?k9 ?ka ?kb ?kc ?kd ?h1 ?h2; (case k1 => k_asm); (case k2 => k_asm); (case k3 => k_asm); (case k4 => k_asm); (case k5 => k_asm); (case k6 => k_mem); (case k7 => k_asm); (case k8 => k_mem); (case k9 => k_asm); (case ka => first | with_reducible assumption | (exact nsys (by omega)) | k_asm); (case kb => k_ne); (case kc => first | k_asm | exact rfl | exact ⟨_, rfl⟩); (case kd => k_updF); (case' h2 => intro h' tk' hl' F' N'; (try k_sweep)); (case' h1 => intro h' tk' o' es' ep' u' v' hl' hv' F' N' td'; (try dsimp only at N'); (try k_sweep)))
  | (refine' U_setitem ?k1 ?k2 ?k3 ?k4 ?k5 ?k6 ?k7 ?k8 ?k9 ?ka ?kb ?kc ?kd ?ke ?_; (case k1 => k_asm); (case k2 => k_asm); (case k3 => k_asm); (case k4 => k_asm); (case k5 => k_asm); (case k6 => k_mem); (case k7 => k_asm); (case k8 => k_mem); (case k9 => k_asm); (case ka => first | with_reducible assumption | (exact nsys (by omega)) | k_asm); (case kb => k_ne); (case kc => first | k_asm | exact rfl | exact ⟨_, rfl⟩); (case kd => k_updF); (case ke => k_asm); k_whole; intro h' tk' o' es' ep'  F' N' td'; (try dsimp only at N'); (try k_sweep)))))
/-- an iterator object told by its steps -/
structure Iter (prog : Program) (w : World) (A : Around) (I : Addr) (n : Nat) (S : Nat → Obj → Prop) (keep : List (Addr × Obj)) (P : Nat → Value → Heap → Prop) : Prop where
  item : ∀ i o (s : Shared) (Q : Option Value → Shared → Prop) (E : Value → Shared → Prop), i < n → s.heap.get? I = some o → S i o → (∀ q ∈ keep, s.heap.get? q.1 = some q.2) →
    (∀ v h' tk o', P i v h' → h'.get? I = some o' → S (i + 1) o' → Ext [I] s.heap h' → Q (some v) { s with heap := h', toks := tk }) → wpAny (model prog w) A (pyNext (.ref I)) Q E s
  done : ∀ o (s : Shared) (Q : Option Value → Shared → Prop) (E : Value → Shared → Prop), s.heap.get? I = some o → S n o → (∀ q ∈ keep, s.heap.get? q.1 = some q.2) →
    (∀ h' tk, Ext [I] s.heap h' → Q none { s with heap := h', toks := tk }) → wpAny (model prog w) A (pyNext (.ref I)) Q E s
  self : ∀ i o (s : Shared) (Q : Value → Shared → Prop) (E : Value → Shared → Prop), s.heap.get? I = some o → S i o → Q (.ref I) s → wpAny (model prog w) A (pyIter (.ref I)) Q E s
  go : ∀ i o (elts : List PySem.Expr) (k : Nat) (pos : Pos) (v : Value) (s : Shared) (Q : Unit → Shared → Prop) (E : Value → Shared → Prop), s.heap.get? I = some o → S i o →
    (∀ h' o', h'.get? I = some o' → S i o' → Ext [I] s.heap h' → Q () { s with heap := h' }) → wpAny (model prog w) A (letOwnedTupleGo (.Tuple elts k pos) (.ref I) v) Q E s
  mono : ∀ i v h h', P i v h → Ext [I] h h' → P i v h'

/-- a tuple of a key and a value -/
abbrev tup2 (k v : Value) : Obj := { cls := .type "tuple", data := .seq #[k, v] }
def IsPair (I : Addr) (k : Str) (u : V) (v : Value) (h : Heap) : Prop := ∃ t tk x, v = .ref t ∧ t ≠ I ∧ h.get? t = some (tup2 (.str k tk) x) ∧ VIs u x
theorem IsPair.ext {I : Addr} {k : Str} {u : V} {v : Value} {h h' : Heap} (p : IsPair I k u v h) (e : Ext [I] h h') : IsPair I k u v h' := by
  obtain ⟨t, tk, x, rfl, n, ht, hv⟩ := p
  exact ⟨t, tk, x, rfl, n, e.one n ht, hv⟩

section
variable {prog : Program} {w : World} {A : Around}
abbrev listIt (l : Addr) (i : Nat) : Obj := { cls := .type "list_iterator", data := .fields #[.ref l, .int i 0] }
def SList (l : Addr) (i : Nat) (o : Obj) : Prop := o.cls = .type "list_iterator" ∧ o.data = .fields #[.ref l, .int i 0]
theorem iter_list (hh : A.handled = none) {I l : Addr} {lo : Obj} {items : Array Value} {ep : Nat} {keep : List (Addr × Obj)} (hc : lo.cls = .type "list") (hd : lo.data = .seq items ep) (P : Nat → Value → Heap → Prop) (hlk : (l, lo) ∈ keep) (hIk : ∀ q ∈ keep, q.1 ≠ I)
    (hP : ∀ i h, i < items.size → (∀ q ∈ keep, h.get? q.1 = some q.2) → P i (items.getD i .none) h) (hm : ∀ i v h h', P i v h → Ext [I] h h' → P i v h') : Iter prog w A I items.size (SList l) keep P where
  item := fun i o s Q E hi ho hS hk hQ => by
    have hl : s.heap.IsList l items := ⟨lo, hk _ hlk, hc, ep, hd⟩
    refine wpAny_pyNext_list_item (l := l) (i := i) ⟨o, ho, hS.1, hS.2⟩ hl (x := items[i]) (by simp [hi]) fun h' hit' hs' => ?_
    obtain ⟨o', ho', c', d'⟩ := hit'
    have e : Ext [I] s.heap h' := fun b o n e => hs'.extBut b o (by simpa using n) e
    have hv : items.getD i .none = items[i] := by simp [hi]
    exact hQ _ h' s.toks o' (hv ▸ hP i h' hi fun q hq => e.one (hIk q hq) (hk q hq)) ho' ⟨c', d'⟩ e
  done := fun o s Q E ho hS hk hQ => by
    have hl : s.heap.IsList l items := ⟨lo, hk _ hlk, hc, ep, hd⟩
    exact wpAny_pyNext_list_end hh (l := l) ⟨o, ho, hS.1, hS.2⟩ hl (by simp) fun h' he' => hQ h' s.toks fun b o n e => he' b o (by simpa using n) e
  self := fun i o s Q E ho hS hQ => wpAny_pyIter_listiter (l := l) (i := i) ⟨o, ho, hS.1, hS.2⟩ hQ
  go := fun i o elts k pos v s Q E ho hS hQ => by
    cases v with
    | ref T => exact wpAny_letOwnedTupleGo_listiter (l := l) (i := i) ⟨o, ho, hS.1, hS.2⟩ (hQ s.heap o ho hS Ext.refl)
    | _ => exact wpAny_pure (hQ s.heap o ho hS Ext.refl)
  mono := hm

theorem Ents.get {es : List DictEntry} {D : DD} (h : Ents es D) : ∀ {i : Nat} (hi : i < es.length), ∃ k t u, es[i].key = .str k t ∧ VIs u es[i].val ∧ D[i]? = some (k, u) := by
  induction h with
  | nil => intro i hi; exact absurd hi (Nat.not_lt_zero _)
  | @cons e x t u es D hk hv _ ih =>
    intro i hi
    cases i with
    | zero => exact ⟨x, t, u, hk, hv, rfl⟩
    | succ j => obtain ⟨k, t', u', a, b, c⟩ := ih (i := j) (by simpa using hi); exact ⟨k, t', u', a, b, c⟩

/-- what an iterator over keys gives -/
def IsKey (k : Str) (v : Value) : Prop := ∃ t, v = .str k t
def SKeys (d n ep : Nat) (i : Nat) (o : Obj) : Prop := o.cls = .type "dict_keyiterator" ∧ o.data = .fields #[.ref d, .int i 0, .int n 0, .int ep 0]
theorem iter_keys (hh : A.handled = none) {I d : Addr} {o : Obj} {D : DD} {es : List DictEntry} {ep : Nat} (T : IsD o D es ep) (hne : d ≠ I) :
    Iter prog w A I D.length (SKeys d D.length ep) [(d, o)] (fun i v _ => ∃ k u, D[i]? = some (k, u) ∧ IsKey k v) where
  item := fun i oI s Q E hi ho hS hk hQ => by
    have hod := hk _ (.head _)
    have hsz : es.toArray.size = D.length := by rw [List.size_toArray, T.ents.len]
    have hit : s.TypeIs (.ref I) "dict_keyiterator" := ⟨oI, ho, hS.1⟩
    unfold pyNext
    refine wpAny_bind (wpAny_attempt (wpAny_callSpecial?_slot (name := Str.ofString "__next__") hit PySem.F.slot_dict_keyiterator_next
      (wpAny_call_entry PySem.F.slot_dict_keyiterator_next hit PySem.F.entry_dict_keyiterator_next ?_ (PySem.F.args_dict_keyiterator_next_1 _))))
    refine wpAny_bind (wpAny_pure ?_)
    refine wpAny_bind ?_
    refine wpAny_bind ?_
    first | refine wpAny_bind (wpAny_typeNameOfWhole_keyiter hit (wpAny_pure ?_)) | refine wpAny_bind (wpAny_typeNameOf_keyiter hit (wpAny_pure ?_))
    refine wpAny_bind (wpAny_fieldsOf ho hS.2 ?_)
    have hown : Builtin.Dict_items.ownsTuple "dict_keyiterator" = false := by decide
    simp only [hown, Bool.false_eq_true, if_false]
    show wpAny _ _ (if (Value.ref d == Value.none) = true then _ else _) _ _ s
    rw [if_neg (show ¬ ((Value.ref d == Value.none) = true) from Bool.false_ne_true)]
    refine wpAny_bind (wpAny_pure ?_)
    refine wpAny_bind (wpAny_dictEntries hod T.data ?_)
    rw [if_neg (by rw [hsz]; simp)]
    refine wpAny_bind (wpAny_pure ?_)
    refine wpAny_bind (wpAny_dictEpoch hod T.data ?_)
    rw [if_neg (by simp)]
    refine wpAny_pure ?_
    have hlt : i < es.toArray.size := by rw [hsz]; exact hi
    have hlt' : i < es.length := by simpa using hlt
    obtain ⟨k, t, u, e1, e2, e3⟩ := T.ents.get hlt'
    simp only [show ¬ ((i : Int) < 0) from by omega, if_false, Int.toNat_natCast, Array.getElem?_eq_getElem hlt]
    refine wpAny_bind ?_
    first | refine wpAny_bind (wpAny_typeNameOfWhole_keyiter hit (wpAny_pure ?_)) | refine wpAny_bind (wpAny_typeNameOf_keyiter hit (wpAny_pure ?_))
    refine wpAny_bind (wpAny_isOneOf_keyiter hit ?_)
    show wpAny _ _ (setField (.ref I) 1 (rawInt ((i : Int) + 1)) >>= _) _ _ s
    refine wpAny_bind (wpAny_setField ho hS.2 (by simp) ?_)
    have g' : (s.heap.update I (Obj.mapFields (·.setIfInBounds 1 (rawInt ((i : Int) + 1))))).get? I = some (Obj.mapFields (·.setIfInBounds 1 (rawInt ((i : Int) + 1))) oI) := Heap.get?_update_self _ ho (Obj.isFreed_of_fields (Obj.data_mapFields hS.2 _))
    have c' : (Obj.mapFields (·.setIfInBounds 1 (rawInt ((i : Int) + 1))) oI).cls = .type "dict_keyiterator" := (Obj.cls_mapFields ..).trans hS.1
    refine wpAny_bind (wpAny_holding ?_)
    refine wpAny_bind (wpAny_isOneOf_keyiter (s := { s with heap := s.heap.update I (Obj.mapFields (·.setIfInBounds 1 (rawInt ((i : Int) + 1)))) }) ⟨_, g', c'⟩ ?_)
    show wpAny _ _ (pure es[i].key) _ _ _
    refine wpAny_pure (wpAny_pure ⟨_, rfl, wpAny_pure (hQ _ _ s.toks _ ⟨k, u, e3, t, e1⟩ g' ⟨c', ?_⟩ ?_)⟩)
    · rw [Obj.data_mapFields hS.2]; simp [rawInt]
    · exact fun b q n e => ((Heap.SameBut.update ..).2 b (by simpa using n)).trans e
  done := fun oI s Q E ho hS hk hQ => by
    have hod := hk _ (.head _)
    have hsz : es.toArray.size = D.length := by rw [List.size_toArray, T.ents.len]
    have hit : s.TypeIs (.ref I) "dict_keyiterator" := ⟨oI, ho, hS.1⟩
    unfold pyNext
    refine wpAny_bind (wpAny_attempt (wpAny_callSpecial?_slot (name := Str.ofString "__next__") hit PySem.F.slot_dict_keyiterator_next
      (wpAny_call_entry PySem.F.slot_dict_keyiterator_next hit PySem.F.entry_dict_keyiterator_next ?_ (PySem.F.args_dict_keyiterator_next_1 _))))
    refine wpAny_bind (wpAny_pure ?_)
    refine wpAny_bind ?_
    refine wpAny_bind ?_
    first | refine wpAny_bind (wpAny_typeNameOfWhole_keyiter hit (wpAny_pure ?_)) | refine wpAny_bind (wpAny_typeNameOf_keyiter hit (wpAny_pure ?_))
    refine wpAny_bind (wpAny_fieldsOf ho hS.2 ?_)
    have hown : Builtin.Dict_items.ownsTuple "dict_keyiterator" = false := by decide
    simp only [hown, Bool.false_eq_true, if_false]
    show wpAny _ _ (if (Value.ref d == Value.none) = true then _ else _) _ _ s
    rw [if_neg (show ¬ ((Value.ref d == Value.none) = true) from Bool.false_ne_true)]
    refine wpAny_bind (wpAny_pure ?_)
    refine wpAny_bind (wpAny_dictEntries hod T.data ?_)
    rw [if_neg (by rw [hsz]; simp)]
    refine wpAny_bind (wpAny_pure ?_)
    refine wpAny_bind (wpAny_dictEpoch hod T.data ?_)
    rw [if_neg (by simp)]
    refine wpAny_pure ?_
    have hge : es.toArray.size ≤ D.length := by rw [hsz]; exact Nat.le_refl _
    simp only [show ¬ ((D.length : Int) < 0) from by omega, if_false, Int.toNat_natCast, Array.getElem?_eq_none hge]
    refine wpAny_bind ?_
    first | refine wpAny_bind (wpAny_typeNameOfWhole_keyiter hit (wpAny_pure ?_)) | refine wpAny_bind (wpAny_typeNameOf_keyiter hit (wpAny_pure ?_))
    show wpAny _ _ (setField (.ref I) 0 .none >>= _) _ _ s
    refine wpAny_bind (wpAny_setField ho hS.2 (by simp) ?_)
    show wpAny _ _ (newExc (.type "StopIteration") [] >>= _) _ _ _
    refine wpAny_bind ?_
    simp only [newExc, newTuple]
    refine wpAny_bind (wpAny_newObj_type ?_ (by size_fits))
    refine wpAny_bind (m := firstArgMember _ _) (wpAny_of_eq (a := Value.none) (by first | rfl | (simp only [firstArgMember]; rfl)) ?_)
    refine wpAny_newObj_type ?_ (by size_fits)
    simp only [raiseNew]
    refine wpAny_bind (wpAny_handled ?_)
    rw [show A.in1.handled = none from hh]
    refine wpAny_bind (wpAny_pure (wpAny_throw ?_))
    refine wpAny_bind (wpAny_isInstance (T := "StopIteration") (b := true) ⟨_, Heap.get?_push_size _ rfl, rfl⟩ isSubtype_stop ?_)
    refine wpAny_pure (hQ _ s.toks fun b q n e => ?_)
    exact Heap.get?_push_of_some _ (Heap.get?_push_of_some _ (((Heap.SameBut.update ..).2 b (by simpa using n)).trans e))
  self := fun i oI s Q E ho hS hQ => wpAny_pyIter_keyiter (d := d) (i := i) (n := D.length) (ep := ep) ⟨oI, ho, hS.1, hS.2⟩ hQ
  go := fun i oI elts k pos v s Q E ho hS hQ => by
    cases v with
    | ref T =>
      unfold letOwnedTupleGo
      refine wpAny_bind (wpAny_load ho ?_)
      rw [hS.1, hS.2]
      show wpAny _ A (if (["enumerate", "zip", "dict_itemiterator", "dict_reverseitemiterator", "odict_iterator", "itertools.zip_longest", "itertools.pairwise"].contains "dict_keyiterator" && _) = true then _ else _) Q E s
      rw [show (["enumerate", "zip", "dict_itemiterator", "dict_reverseitemiterator", "odict_iterator", "itertools.zip_longest", "itertools.pairwise"].contains "dict_keyiterator") = false from by decide, Bool.false_and, if_neg (by decide)]
      exact wpAny_pure (hQ s.heap oI ho hS Ext.refl)
    | _ => exact wpAny_pure (hQ s.heap oI ho hS Ext.refl)
  mono := fun i v h h' p _ => p
end
section
variable {prog : Program} {w : World} {A : Around} {E : Value → Shared → Prop} {s : Shared}
abbrev itemIt (d n ep i : Nat) (ow : Value) (f : Bool) (ok ov : Value) : Obj := { cls := .type "dict_itemiterator", dict := none, data := .fields #[ow, .bool f, .ref d, .int i 0, .int n 0, .int ep 0, ok, ov], slots := #[] }
def SItems (d n ep i : Nat) (o : Obj) : Prop := ∃ ow f ok ov, o = itemIt d n ep i ow f ok ov ∧ (ow = .none ∨ ∃ a : Nat, ow = rawInt a)
theorem free_items {I d n ep i : Nat} {ow ok ov : Value} {f : Bool} {Q : Bool → Shared → Prop} (ho : s.heap.get? I = some (itemIt d n ep i ow f ok ov)) (hw : ow = .none ∨ ∃ a : Nat, ow = rawInt a)
    (h1 : Q true s) (h2 : ∀ h' f', Heap.SameBut I s.heap h' → h'.get? I = some (itemIt d n ep i ow f' ok ov) → Q false { s with heap := h' }) :
    wpAny (model prog w) A (Builtin.Dict_items.ownedTupleIsFree (.ref I)) Q E s := by
  unfold Builtin.Dict_items.ownedTupleIsFree
  rcases hw with rfl | ⟨a, rfl⟩
  · exact wpAny_bind (wpAny_field ho rfl (x := .none) rfl (wpAny_pure h1))
  · refine wpAny_bind (wpAny_field ho rfl (x := rawInt a) rfl ?_)
    show wpAny _ _ (loadIfAlive (a : Int).toNat >>= _) _ _ s
    refine wpAny_bind (show wpAny _ _ (loadIfAlive (a : Int).toNat) _ _ s from fun Γ p hΓ => ?_)
    show (wpAny _ _ _ _ _ _)
    cases hx : s.heap.get? (a : Int).toNat with
    | none =>
      exact (show wpAny _ _ (pure true) Q E s from wpAny_pure h1)
    | some o =>
      show wpAny _ _ (field (.ref I) 1 >>= _) Q E s
      refine wpAny_bind (wpAny_field ho rfl (x := .bool f) rfl ?_)
      cases f with
      | true => exact wpAny_pure (h2 s.heap true ⟨rfl, fun _ _ => rfl⟩ ho)
      | false =>
        show wpAny _ _ (setField (.ref I) 1 (.bool true) >>= _) Q E s
        exact wpAny_bind (wpAny_setField_rec ho (by simp) fun h' he' hs' => wpAny_pure (h2 h' true hs' he'))

theorem entry_itemiter_iter : entryFor table "dict_itemiterator.__iter__" = some Builtin.«dict_keyiterator.__iter__» :=
  entryFor_alias (id' := "dict_keyiterator.__iter__") (by kernel_rfl) rfl (by decide +kernel) (by kernel_rfl)
theorem iter_items2 (hh : A.handled = none) {I d : Addr} {o : Obj} {D : DD} {es : List DictEntry} {ep : Nat} (T : IsD o D es ep) (hne : d ≠ I) :
    Iter prog w A I D.length (SItems d D.length ep) [(d, o)] (fun i v h => ∃ k u, D[i]? = some (k, u) ∧ IsPair I k u v h ∧ ∀ t, v = .ref t → I < t) where
  item := fun i oI s Q E hi ho hS hk hQ => by
    have hod := hk _ (.head _)
    have hsz : es.toArray.size = D.length := by rw [List.size_toArray, T.ents.len]
    obtain ⟨ow, f, ok, ov, rfl, hw⟩ := hS
    have hit : s.TypeIs (.ref I) "dict_itemiterator" := ⟨_, ho, rfl⟩
    obtain ⟨hp, g, dr, tk, os⟩ := s
    unfold pyNext
    refine wpAny_bind (wpAny_attempt (wpAny_callSpecial?_slot (name := Str.ofString "__next__") hit PySem.F.slot_dict_itemiterator_next
      (wpAny_call_entry PySem.F.slot_dict_itemiterator_next hit PySem.F.entry_dict_itemiterator_next ?_ (PySem.F.args_dict_itemiterator_next_1 _))))
    refine wpAny_bind (wpAny_pure ?_)
    refine wpAny_bind ?_
    refine wpAny_bind ?_
    first | refine wpAny_bind (wpAny_typeNameOfWhole_itemiter hit (wpAny_pure ?_)) | refine wpAny_bind (wpAny_typeNameOf_itemiter hit (wpAny_pure ?_))
    refine wpAny_bind (wpAny_fieldsOf ho rfl ?_)
    have hown : Builtin.Dict_items.ownsTuple "dict_itemiterator" = true := by decide
    simp only [hown, if_true]
    show wpAny _ _ (if (Value.ref d == Value.none) = true then _ else _) _ _ _
    rw [if_neg (show ¬ ((Value.ref d == Value.none) = true) from Bool.false_ne_true)]
    refine wpAny_bind (wpAny_pure ?_)
    refine wpAny_bind (wpAny_dictEntries hod T.data ?_)
    rw [if_neg (by rw [hsz]; simp)]
    refine wpAny_bind (wpAny_pure ?_)
    refine wpAny_bind (wpAny_dictEpoch hod T.data ?_)
    rw [if_neg (by simp)]
    refine wpAny_pure ?_
    have hlt : i < es.toArray.size := by rw [hsz]; exact hi
    have hlt' : i < es.length := by simpa using hlt
    obtain ⟨k, t, u, e1, e2, e3⟩ := T.ents.get hlt'
    simp only [show ¬ ((i : Int) < 0) from by omega, if_false, Int.toNat_natCast, Array.getElem?_eq_getElem hlt]
    refine wpAny_bind ?_
    first | refine wpAny_bind (wpAny_typeNameOfWhole_itemiter hit (wpAny_pure ?_)) | refine wpAny_bind (wpAny_typeNameOf_itemiter hit (wpAny_pure ?_))
    refine wpAny_bind (wpAny_isOneOf_itemiter hit ?_)
    show wpAny _ _ (setField (.ref I) 3 (rawInt ((i : Int) + 1)) >>= _) _ _ ⟨hp, g, dr, tk, os⟩
    refine wpAny_bind (wpAny_setField_rec ho (by simp) fun h₁ he₁ hs₁ => ?_)
    replace hs₁ : Heap.SameBut I hp h₁ := hs₁
    replace he₁ : h₁.get? I = some (itemIt d D.length ep (i + 1) ow f ok ov) := by
      have e : ((i + 1 : Nat) : Int) = (i : Int) + 1 := by omega
      unfold itemIt; rw [e]; simpa [rawInt] using he₁
    have hit₁ : Shared.TypeIs ⟨h₁, g, dr, tk, os⟩ (.ref I) "dict_itemiterator" := ⟨_, he₁, rfl⟩
    refine wpAny_bind (wpAny_holding ?_)
    refine wpAny_bind (wpAny_isOneOf_itemiter hit₁ ?_)
    refine wpAny_bind (wpAny_isOneOf_itemiter hit₁ ?_)
    show wpAny _ _ (Builtin.Dict_items.pairFromOwner (.ref I) 6 es[i].key es[i].val) _ _ ⟨h₁, g, dr, tk, os⟩
    unfold Builtin.Dict_items.pairFromOwner
    refine wpAny_bind (wpAny_newTuple ?_)
    have hI1 : I < h₁.objs.size := Heap.lt_size he₁
    generalize hh₂ : h₁.push { cls := .type "tuple", data := .seq #[es[i].key, es[i].val] } = h₂
    have he₂ : h₂.get? I = some (itemIt d D.length ep (i + 1) ow f ok ov) := by rw [← hh₂]; exact Heap.get?_push_of_some _ he₁
    have ht₂ : h₂.get? h₁.objs.size = some (tup2 es[i].key es[i].val) := by rw [← hh₂]; exact Heap.get?_push_size _ rfl
    have hk₂ : Ext [I] hp h₂ := fun b q n e => by rw [← hh₂]; exact Heap.get?_push_of_some _ ((hs₁.2 b (by simpa using n)).trans e)
    have fin : ∀ h' ow' f' ok' ov', (∀ b q, b ≠ I → h₂.get? b = some q → h'.get? b = some q) → h'.get? I = some (itemIt d D.length ep (i + 1) ow' f' ok' ov') → (ow' = .none ∨ ∃ a : Nat, ow' = rawInt a) →
        Q (some (.ref h₁.objs.size)) ⟨h', g, dr, tk, os⟩ := fun h' ow' f' ok' ov' kp he hw' =>
      hQ _ h' tk _ ⟨k, u, e3, ⟨h₁.objs.size, t, es[i].val, rfl, Nat.ne_of_gt hI1, by rw [kp _ _ (Nat.ne_of_gt hI1) ht₂, e1], e2⟩, fun _ e => by cases e; exact hI1⟩ he ⟨ow', f', ok', ov', rfl, hw'⟩
        fun b q n e => kp b q (by simpa using n) (hk₂ b q n e)
    show wpAny _ _ (Builtin.Dict_items.ownedTupleIsFree (.ref I) >>= _) _ _ ⟨h₂, g, dr, tk, os⟩
    refine wpAny_bind (free_items (s := ⟨h₂, g, dr, tk, os⟩) he₂ hw ?_ fun h' f' hs' he' => ?_)
    · simp only [if_true]
      refine wpAny_bind (wpAny_field he₂ rfl (x := ok) rfl ?_)
      refine wpAny_bind (wpAny_field he₂ rfl (x := ov) rfl ?_)
      refine wpAny_bind (wpAny_setField_rec he₂ (by simp) fun h₃ he₃ hs₃ => ?_)
      replace hs₃ : Heap.SameBut I h₂ h₃ := hs₃
      replace he₃ : h₃.get? I = some (itemIt d D.length ep (i + 1) ow f es[i].key ov) := he₃
      refine wpAny_bind (wpAny_setField_rec he₃ (by simp) fun h₄ he₄ hs₄ => ?_)
      replace hs₄ : Heap.SameBut I h₃ h₄ := hs₄
      replace he₄ : h₄.get? I = some (itemIt d D.length ep (i + 1) ow f es[i].key es[i].val) := he₄
      refine wpAny_bind (wpAny_setField_rec he₄ (by simp) fun h₅ he₅ hs₅ => ?_)
      replace hs₅ : Heap.SameBut I h₄ h₅ := hs₅
      replace he₅ : h₅.get? I = some (itemIt d D.length ep (i + 1) (rawInt h₁.objs.size) f es[i].key es[i].val) := he₅
      refine wpAny_bind (wpAny_setField_rec he₅ (by simp) fun h₆ he₆ hs₆ => ?_)
      replace hs₆ : Heap.SameBut I h₅ h₆ := hs₆
      replace he₆ : h₆.get? I = some (itemIt d D.length ep (i + 1) (rawInt h₁.objs.size) false es[i].key es[i].val) := he₆
      refine wpAny_bind (wpAny_letGo (wpAny_pure (wpAny_pure ⟨_, rfl, wpAny_pure (fin h₆ _ _ _ _ (fun b q n e => ?_) he₆ (.inr ⟨_, rfl⟩))⟩)))
      rw [hs₆.2 b n, hs₅.2 b n, hs₄.2 b n, hs₃.2 b n]; exact e
    · simp only [Bool.false_eq_true, if_false]
      exact wpAny_pure (wpAny_pure ⟨_, rfl, wpAny_pure (fin h' _ _ _ _ (fun b q n e => (hs'.2 b n).trans e) he' hw)⟩)
  done := fun oI s Q E ho hS hk hQ => by
    have hod := hk _ (.head _)
    have hsz : es.toArray.size = D.length := by rw [List.size_toArray, T.ents.len]
    obtain ⟨ow, f, ok, ov, rfl, hw⟩ := hS
    have hit : s.TypeIs (.ref I) "dict_itemiterator" := ⟨_, ho, rfl⟩
    unfold pyNext
    refine wpAny_bind (wpAny_attempt (wpAny_callSpecial?_slot (name := Str.ofString "__next__") hit PySem.F.slot_dict_itemiterator_next
      (wpAny_call_entry PySem.F.slot_dict_itemiterator_next hit PySem.F.entry_dict_itemiterator_next ?_ (PySem.F.args_dict_itemiterator_next_1 _))))
    refine wpAny_bind (wpAny_pure ?_)
    refine wpAny_bind ?_
    refine wpAny_bind ?_
    first | refine wpAny_bind (wpAny_typeNameOfWhole_itemiter hit (wpAny_pure ?_)) | refine wpAny_bind (wpAny_typeNameOf_itemiter hit (wpAny_pure ?_))
    refine wpAny_bind (wpAny_fieldsOf ho rfl ?_)
    have hown : Builtin.Dict_items.ownsTuple "dict_itemiterator" = true := by decide
    simp only [hown, if_true]
    show wpAny _ _ (if (Value.ref d == Value.none) = true then _ else _) _ _ s
    rw [if_neg (show ¬ ((Value.ref d == Value.none) = true) from Bool.false_ne_true)]
    refine wpAny_bind (wpAny_pure ?_)
    refine wpAny_bind (wpAny_dictEntries hod T.data ?_)
    rw [if_neg (by rw [hsz]; simp)]
    refine wpAny_bind (wpAny_pure ?_)
    refine wpAny_bind (wpAny_dictEpoch hod T.data ?_)
    rw [if_neg (by simp)]
    refine wpAny_pure ?_
    have hge : es.toArray.size ≤ D.length := by rw [hsz]; exact Nat.le_refl _
    simp only [show ¬ ((D.length : Int) < 0) from by omega, if_false, Int.toNat_natCast, Array.getElem?_eq_none hge]
    refine wpAny_bind ?_
    first | refine wpAny_bind (wpAny_typeNameOfWhole_itemiter hit (wpAny_pure ?_)) | refine wpAny_bind (wpAny_typeNameOf_itemiter hit (wpAny_pure ?_))
    show wpAny _ _ (setField (.ref I) 2 .none >>= _) _ _ s
    refine wpAny_bind (wpAny_setField ho rfl (by simp) ?_)
    show wpAny _ _ (newExc (.type "StopIteration") [] >>= _) _ _ _
    refine wpAny_bind ?_
    simp only [newExc, newTuple]
    refine wpAny_bind (wpAny_newObj_type ?_ (by size_fits))
    refine wpAny_bind (m := firstArgMember _ _) (wpAny_of_eq (a := Value.none) (by first | rfl | (simp only [firstArgMember]; rfl)) ?_)
    refine wpAny_newObj_type ?_ (by size_fits)
    simp only [raiseNew]
    refine wpAny_bind (wpAny_handled ?_)
    rw [show A.in1.handled = none from hh]
    refine wpAny_bind (wpAny_pure (wpAny_throw ?_))
    refine wpAny_bind (wpAny_isInstance (T := "StopIteration") (b := true) ⟨_, Heap.get?_push_size _ rfl, rfl⟩ isSubtype_stop ?_)
    refine wpAny_pure (hQ _ s.toks fun b q n e => ?_)
    exact Heap.get?_push_of_some _ (Heap.get?_push_of_some _ (((Heap.SameBut.update ..).2 b (by simpa using n)).trans e))
  self := fun i oI s Q E ho hS hQ => by
    obtain ⟨ow, f, ok, ov, rfl, hw⟩ := hS
    have hit : s.TypeIs (.ref I) "dict_itemiterator" := ⟨_, ho, rfl⟩
    refine wpAny_pyIter_slot hit PySem.F.slot_dict_itemiterator_iter (wpAny_call_entry PySem.F.slot_dict_itemiterator_iter hit entry_itemiter_iter ?_ (PySem.F.args_dict_itemiterator_iter_1 _))
    show wpAny _ _ (ret (.ref I)) _ _ s
    exact wpAny_pure ⟨_, rfl, "dict_itemiterator", _, hit, PySem.F.slot_dict_itemiterator_next.lookup, hQ⟩
  go := fun i oI elts k pos v s Q E ho hS hQ => by
    obtain ⟨ow, f, ok, ov, rfl, hw⟩ := hS
    have same := hQ s.heap _ ho ⟨ow, f, ok, ov, rfl, hw⟩ Ext.refl
    cases v with
    | ref a =>
      unfold letOwnedTupleGo
      refine wpAny_bind (wpAny_load ho ?_)
      show wpAny _ _ (if (["enumerate", "zip", "dict_itemiterator", "dict_reverseitemiterator", "odict_iterator", "itertools.zip_longest", "itertools.pairwise"].contains "dict_itemiterator" &&
        (#[ow, .bool f, .ref d, .int i 0, .int D.length 0, .int ep 0, ok, ov] : Array Value)[0]? == some (rawInt a)) = true then _ else _) Q E s
      split
      · refine wpAny_bind (wpAny_rule ?_)
        show wpAny _ _ (setField (.ref I) 0 .none) Q E s
        exact wpAny_setField_rec ho (by simp) fun h' he' hs' => hQ h' _ he' ⟨.none, f, ok, ov, rfl, .inl rfl⟩ fun b q n e => (hs'.2 b (by simpa using n)).trans e
      · exact wpAny_pure same
    | _ => exact wpAny_pure same
  mono := fun i v h h' p e => Exists.elim p fun k q => Exists.elim q fun u r => ⟨k, u, r.1, r.2.1.ext e, r.2.2⟩
theorem Iter.map {I : Addr} {n : Nat} {S : Nat → Obj → Prop} {keep : List (Addr × Obj)} {P P' : Nat → Value → Heap → Prop} (IT : Iter prog w A I n S keep P) (hp : ∀ i v h, P i v h → P' i v h) (hm : ∀ i v h h', P' i v h → Ext [I] h h' → P' i v h') : Iter prog w A I n S keep P' where
  item := fun i o s Q E hi ho hS hk hQ => IT.item i o s Q E hi ho hS hk fun v h' tk o' p => hQ v h' tk o' (hp _ _ _ p)
  done := IT.done
  self := IT.self
  go := IT.go
  mono := hm
theorem iter_items (hh : A.handled = none) {I d : Addr} {o : Obj} {D : DD} {es : List DictEntry} {ep : Nat} (T : IsD o D es ep) (hne : d ≠ I) :
    Iter prog w A I D.length (SItems d D.length ep) [(d, o)] (fun i v h => ∃ k u, D[i]? = some (k, u) ∧ IsPair I k u v h) :=
  (iter_items2 hh T hne).map (fun _ _ _ ⟨k, u, a, b, _⟩ => ⟨k, u, a, b⟩) fun i v h h' p e => Exists.elim p fun k q => Exists.elim q fun u r => ⟨k, u, r.1, r.2.ext e⟩
end
section
variable {prog : Program} {w : World} {A : Around} {s : Shared} {env : Env}
abbrev NoE : Value → Shared → Prop := fun _ _ => False
def InIt (I : Addr) (S : Nat → Obj → Prop) (keep : List (Addr × Obj)) (i : Nat) (h : Heap) : Prop := (∃ o, h.get? I = some o ∧ S i o) ∧ ∀ q ∈ keep, h.get? q.1 = some q.2
theorem for_it {R : Result → Shared → Prop} {target : PySem.Expr} {body : List Stmt} {I : Addr} {n : Nat} {S : Nat → Obj → Prop} {keep : List (Addr × Obj)} {P : Nat → Value → Heap → Prop} (IT : Iter prog w A I n S keep P) (hIk : ∀ q ∈ keep, q.1 ≠ I)
    (hgo : (∀ v, letOwnedTupleGo target (.ref I) v = pure ()) ∨ ∃ elts k pos, target = .Tuple elts k pos) (J : Nat → Shared → Prop) (h0 : J 0 s) (hI : InIt I S keep 0 s.heap)
    (pres : ∀ i s₁ h' tk, J i s₁ → Ext [I] s₁.heap h' → J i { s₁ with heap := h', toks := tk })
    (turn : ∀ i v s₁, i < n → J i s₁ → P i v s₁.heap → InIt I S keep (i + 1) s₁.heap →
      wpAny (model prog w) A (assign target env v) (fun _ s₂ => wpAny (model prog w) A (execs body env) (fun f s₃ => match f with
        | .next | .cont => InIt I S keep (i + 1) s₃.heap ∧ J (i + 1) s₃
        | .brk => R (.ok .next) s₃
        | .ret v => R (.ok (.ret v)) s₃) NoE s₂) NoE s₁)
    (done : ∀ s₁, J n s₁ → R (.ok .next) s₁) : codeAny (model prog w) A (.forLoop target (.ref I) body [] env) R s := by
  refine codeAny_forLoop_any (fun k s' => ∃ i, i ≤ n ∧ k = n - i ∧ InIt I S keep i s'.heap ∧ J i s') ?_ n ⟨0, Nat.zero_le _, rfl, hI, h0⟩
  rintro k s' ⟨i, hi, rfl, ⟨⟨oI, ho, hS⟩, hk⟩, hJ⟩
  have kp : ∀ {h h' : Heap}, Ext [I] h h' → (∀ q ∈ keep, h.get? q.1 = some q.2) → ∀ q ∈ keep, h'.get? q.1 = some q.2 := fun e hk q hq => e.one (hIk q hq) (hk q hq)
  by_cases hlt : i < n
  · refine IT.item i oI s' _ _ hlt ho hS hk fun v h' tk o' hP ho' hS' e => ?_
    have step : ∀ h'' o'', h''.get? I = some o'' → S (i + 1) o'' → Ext [I] h' h'' → wpAny (model prog w) A (assign target env v) (fun _ s₂ => wpAny (model prog w) A (execs body env) (fun f s₃ => match f with
          | .next | .cont => ∃ m, m < n - i ∧ ∃ i, i ≤ n ∧ m = n - i ∧ InIt I S keep i s₃.heap ∧ J i s₃
          | .brk => R (.ok .next) s₃
          | .ret v => R (.ok (.ret v)) s₃) (notedBy (model prog w) A env fun e s' => R (.error e) s') s₂) (notedBy (model prog w) A env fun e s' => R (.error e) s') { s' with heap := h'', toks := tk } := by
      intro h'' o'' ho'' hS'' e''
      refine wpAny_mono (turn i v { s' with heap := h'', toks := tk } hlt (pres i s' h'' tk hJ (e.trans e'')) (IT.mono _ _ _ _ hP e'') ⟨⟨o'', ho'', hS''⟩, kp (e.trans e'') hk⟩) (fun _ s₂ h₂ => wpAny_mono h₂ (fun f s₃ h₃ => ?_) fun _ _ x => x.elim) fun _ _ x => x.elim
      cases f with
      | next => exact ⟨n - (i + 1), by omega, i + 1, hlt, rfl, h₃.1, h₃.2⟩
      | cont => exact ⟨n - (i + 1), by omega, i + 1, hlt, rfl, h₃.1, h₃.2⟩
      | brk => exact h₃
      | ret v => exact h₃
    rcases hgo with hgo | ⟨elts, k, pos, rfl⟩
    · exact wpAny_of_eq (hgo v) (step h' o' ho' hS' Ext.refl)
    · exact IT.go (i + 1) o' elts k pos v _ _ _ ho' hS' fun h'' o'' ho'' hS'' e'' => step h'' o'' ho'' hS'' e''
  · have hin : i = n := by omega
    subst hin
    exact IT.done oI s' _ _ ho hS hk fun h' tk e => wpAny_execs_nil (done _ (pres _ _ h' tk hJ e))

/-- the loop's head: the iterable, its iterator, the loop -/
theorem For_it {Q : Flow → Shared → Prop} {target iter : PySem.Expr} {body : List Stmt} {pos : Pos}
    (h : wpAny (model prog w) A (eval iter env) (fun x s₁ => wpAny (model prog w) A (pyIter x) (fun it s₂ => codeAny (model prog w) A (.forLoop target it body [] env) (fun r s' => match r with | .ok f => Q f s' | .error _ => False) s₂) NoE s₁) NoE s)
    (hs : ∀ x, foldedSetIterable iter env x = pure x := by intro _; rfl) : wpAny (model prog w) A (exec (.For target iter body [] pos) env) Q NoE s := by
  refine wpAny_For (wpAny_mono h (fun x s₁ h₁ => wpAny_mono h₁ (fun it s₂ h₂ => codeAny_mono h₂ fun r s' hr => ?_) fun _ _ x => x) fun _ _ x => x) hs
  cases r with
  | ok f => exact hr
  | error e => exact hr.elim

def PairEnd (G : Heap) (L : Addr) (J : List (Addr × Obj) → Prop) (I : Addr) (oI : Obj) (kn vn : Str) (m : Str → Option Value) (s : Shared) (f : Flow) (s' : Shared) : Prop :=
  f = .next ∧ ∃ h' tk' m' news' own, s' = { s with heap := h', toks := tk' } ∧ Fr G L h' m' ∧ News G L h' own ∧ (I, oI) ∈ own ∧ (∀ q ∈ news', q ∈ own) ∧ (∀ q ∈ news', q.1 ≠ I) ∧ (∀ y, y ≠ kn → y ≠ vn → m' y = m y) ∧ J news'
theorem for_pairs {R : Result → Shared → Prop} {G : Heap} {kn vn : Str} {x1 : Nat} {pk pv pt : Pos} {body : List Stmt} {I : Addr} {oI : Obj} {ps : DD} {S : Nat → Obj → Prop} {keep news : List (Addr × Obj)} {m : Str → Option Value} (hh : A.handled = none)
    (IT : Iter prog w A I ps.length S keep (fun i v h => ∃ k u, ps[i]? = some (k, u) ∧ IsPair I k u v h)) (hIk : ∀ q ∈ keep, q.1 ≠ I)
    (hkl : env.kindOf kn = some .local) (hvl : env.kindOf vn = some .local) (hp : (env.scope.kind == .class || (env.scope.kind == .module && env.locals != env.globals)) = false)
    (F : Fr G env.locals s.heap m) (N : News G env.locals s.heap ((I, oI) :: news)) (hS : S 0 oI) (hoff : ∀ q ∈ news, q.1 ≠ I) (J : Nat → List (Addr × Obj) → Prop) (hJ : J 0 news)
    (hkeep : ∀ i news₁, J i news₁ → ∀ q ∈ keep, q ∈ news₁ ∨ G.get? q.1 = some q.2)
    (turn : ∀ i k u news₁ h tk oI tkk x, ps[i]? = some (k, u) → J i news₁ → VIs u x → (∀ q ∈ news₁, q.1 ≠ I) → Fr G env.locals h (fun y => if y = vn then some x else if y = kn then some (.str k tkk) else m y) → News G env.locals h ((I, oI) :: news₁) →
      wpAny (model prog w) A (execs body env) (PairEnd G env.locals (J (i + 1)) I oI kn vn m { s with heap := h, toks := tk }) NoE { s with heap := h, toks := tk })
    (done : ∀ h tk m' news₁, (∀ y, y ≠ kn → y ≠ vn → m' y = m y) → J ps.length news₁ → Fr G env.locals h m' → News G env.locals h news₁ → R (.ok .next) { s with heap := h, toks := tk }) :
    codeAny (model prog w) A (.forLoop (.Tuple [.Name kn pk, .Name vn pv] x1 pt) (.ref I) body [] env) R s := by
  have NI := N _ (.head _)
  have hGI : G.get? I = none := NI.2.2
  have hIL : I ≠ env.locals := NI.2.1
  let JJ : Nat → Shared → Prop := fun i s' => ∃ h tk m' news₁, s' = { s with heap := h, toks := tk } ∧ Fr G env.locals h m' ∧ News G env.locals h news₁ ∧ (∀ q ∈ news₁, q.1 ≠ I) ∧ (∀ y, y ≠ kn → y ≠ vn → m' y = m y) ∧ J i news₁
  have kp : ∀ i h news₁ m', J i news₁ → Fr G env.locals h m' → News G env.locals h news₁ → ∀ q ∈ keep, h.get? q.1 = some q.2 := fun i h news₁ m' hj F N q hq => by
    rcases hkeep i news₁ hj q hq with a | a
    · exact (N q a).1
    · exact F.keep _ _ a
  refine for_it IT hIk (.inr ⟨_, _, _, rfl⟩) JJ ⟨s.heap, s.toks, m, news, rfl, F, fun q hq => N q (.tail _ hq), hoff, fun _ _ _ => rfl, hJ⟩ ⟨⟨oI, NI.1, hS⟩, kp 0 _ _ _ hJ F fun q hq => N q (.tail _ hq)⟩ ?_ ?_ ?_
  · rintro i s₁ h' tk ⟨h, tk0, m', news₁, rfl, F₁, N₁, ho, ha, hj⟩ e
    exact ⟨h', tk, m', news₁, rfl, fr_ext F₁ e (by simpa using Ne.symm hIL) (fun a q => by rw [List.mem_singleton.mp q]; exact hGI), news_ext N₁ e fun q hq => by simpa using ho q hq, ho, ha, hj⟩
  · rintro i v s₁ hlt ⟨h, tk0, m', news₁, rfl, F₁, N₁, ho, ha, hj⟩ ⟨k, u, hps, t, tkk, x, rfl, htI, ht, hv⟩ ⟨⟨oI', hoI', hS'⟩, hk'⟩
    have NN : News G env.locals h ((I, oI') :: news₁) := fun q hq => by
      rcases List.mem_cons.mp hq with rfl | hq
      · exact ⟨hoI', hIL, hGI⟩
      · exact N₁ q hq
    refine wpAny_assign_Tuple hh (items := #[.str k tkk, x]) ⟨_, ht, rfl, _, rfl⟩ rfl rfl fun h₃ hx₃ => ?_
    have hx : Ext [] h h₃ := fun b o _ e => hx₃ b o (Nat.ne_of_lt (Heap.lt_size e)) e
    have F₃ := fr0 F₁ hx
    have N₃ := news0 NN hx
    show wpAny _ _ (do holding [x] (assign (.Name kn pk) env (.str k tkk)); do holding [] (assign (.Name vn pv) env x); pure ()) _ _ _
    refine wpAny_bind (wpAny_holding (wpAny_assign_Name (wpAny_storeName_local hkl F₃.ns (fun h₄ hn₄ hs₄ => ?_) hp)))
    have F₄ := F₃.set hn₄ hs₄
    have N₄ := N₃.set hs₄
    refine wpAny_bind (wpAny_holding (wpAny_assign_Name (wpAny_storeName_local hvl F₄.ns (fun h₅ hn₅ hs₅ => wpAny_pure ?_) hp)))
    have F₅ := F₄.set hn₅ hs₅
    have N₅ := N₄.set hs₅
    have e : (fun y => if y = vn then some x else if y = kn then some (Value.str k tkk) else m' y) = fun y => if y = vn then some x else if y = kn then some (Value.str k tkk) else m y := by
      funext y
      by_cases h1 : y = vn
      · simp [h1]
      · by_cases h2 : y = kn
        · simp [h1, h2]
        · simp only [if_neg h1, if_neg h2]; exact ha y h2 h1
    rw [e] at F₅
    refine wpAny_mono (turn i k u news₁ h₅ _ oI' tkk x hps hj hv ho F₅ N₅) (fun f s₃ h₃' => ?_) fun _ _ x => x
    obtain ⟨rfl, h', tk', m'', news', own, rfl, F', N', hIo, hsub, ho', ha', hj'⟩ := h₃'
    have NN' : News G env.locals h' news' := fun q hq => N' q (hsub q hq)
    exact ⟨⟨⟨oI', (N' _ hIo).1, hS'⟩, kp _ _ _ _ hj' F' NN'⟩, h', tk', m'', news', rfl, F', NN', ho', ha', hj'⟩
  · rintro s₁ ⟨h, tk0, m', news₁, rfl, F₁, N₁, ho, ha, hj⟩
    exact done h tk0 m' news₁ ha hj F₁ N₁

/-- what a turn leaves -/
def TurnEnd (G : Heap) (L : Addr) (J : (Str → Option Value) → List (Addr × Obj) → Prop) (I : Addr) (oI : Obj) (Qr : Value → Shared → Prop) (s : Shared) (f : Flow) (s' : Shared) : Prop :=
  match f with
  | .ret v => Qr v s'
  | .brk => False
  | _ => ∃ h' tk' m' news' own, s' = { s with heap := h', toks := tk' } ∧ Fr G L h' m' ∧ News G L h' own ∧ (I, oI) ∈ own ∧ (∀ q ∈ news', q ∈ own) ∧ (∀ q ∈ news', q.1 ≠ I) ∧ J m' news'
theorem for_name {R : Result → Shared → Prop} {G : Heap} {xn : Str} {px : Pos} {body : List Stmt} {I : Addr} {oI : Obj} {n : Nat} {S : Nat → Obj → Prop} {P : Nat → Value → Heap → Prop} {keep news : List (Addr × Obj)} {m : Str → Option Value}
    (IT : Iter prog w A I n S keep P) (hIk : ∀ q ∈ keep, q.1 ≠ I)
    (hkl : env.kindOf xn = some .local) (hp : (env.scope.kind == .class || (env.scope.kind == .module && env.locals != env.globals)) = false)
    (F : Fr G env.locals s.heap m) (N : News G env.locals s.heap ((I, oI) :: news)) (hS : S 0 oI) (hoff : ∀ q ∈ news, q.1 ≠ I) (J : Nat → (Str → Option Value) → List (Addr × Obj) → Prop) (hJ : J 0 m news)
    (hkeep : ∀ i m₁ news₁, J i m₁ news₁ → ∀ q ∈ keep, q ∈ news₁ ∨ G.get? q.1 = some q.2)
    (turn : ∀ i v m₁ news₁ h tk oI, i < n → P i v h → J i m₁ news₁ → (∀ q ∈ news₁, q.1 ≠ I) → Fr G env.locals h (fun y => if y = xn then some v else m₁ y) → News G env.locals h ((I, oI) :: news₁) →
      wpAny (model prog w) A (execs body env) (TurnEnd G env.locals (J (i + 1)) I oI (fun v s' => R (.ok (.ret v)) s') { s with heap := h, toks := tk }) NoE { s with heap := h, toks := tk })
    (hPm : ∀ i v h h', P i v h → (∀ b o, b ≠ env.locals → h.get? b = some o → h'.get? b = some o) → P i v h')
    (done : ∀ h tk m' news₁, J n m' news₁ → Fr G env.locals h m' → News G env.locals h news₁ → R (.ok .next) { s with heap := h, toks := tk }) :
    codeAny (model prog w) A (.forLoop (.Name xn px) (.ref I) body [] env) R s := by
  have NI := N _ (.head _)
  have hGI : G.get? I = none := NI.2.2
  have hIL : I ≠ env.locals := NI.2.1
  let JJ : Nat → Shared → Prop := fun i s' => ∃ h tk m' news₁, s' = { s with heap := h, toks := tk } ∧ Fr G env.locals h m' ∧ News G env.locals h news₁ ∧ (∀ q ∈ news₁, q.1 ≠ I) ∧ J i m' news₁
  have kp : ∀ i h news₁ m', J i m' news₁ → Fr G env.locals h m' → News G env.locals h news₁ → ∀ q ∈ keep, h.get? q.1 = some q.2 := fun i h news₁ m' hj F N q hq => by
    rcases hkeep i m' news₁ hj q hq with a | a
    · exact (N q a).1
    · exact F.keep _ _ a
  refine for_it IT hIk (.inl fun _ => rfl) JJ ⟨s.heap, s.toks, m, news, rfl, F, fun q hq => N q (.tail _ hq), hoff, hJ⟩ ⟨⟨oI, NI.1, hS⟩, kp 0 _ _ _ hJ F fun q hq => N q (.tail _ hq)⟩ ?_ ?_ ?_
  · rintro i s₁ h' tk ⟨h, tk0, m', news₁, rfl, F₁, N₁, ho, hj⟩ e
    exact ⟨h', tk, m', news₁, rfl, fr_ext F₁ e (by simpa using Ne.symm hIL) (fun a q => by rw [List.mem_singleton.mp q]; exact hGI), news_ext N₁ e fun q hq => by simpa using ho q hq, ho, hj⟩
  · rintro i v s₁ hlt ⟨h, tk0, m', news₁, rfl, F₁, N₁, ho, hj⟩ hP ⟨⟨oI', hoI', hS'⟩, hk'⟩
    have NN : News G env.locals h ((I, oI') :: news₁) := fun q hq => by
      rcases List.mem_cons.mp hq with rfl | hq
      · exact ⟨hoI', hIL, hGI⟩
      · exact N₁ q hq
    refine wpAny_assign_Name (wpAny_storeName_local hkl F₁.ns (fun h₄ hn₄ hs₄ => ?_) hp)
    have F₄ := F₁.set hn₄ hs₄
    have N₄ := NN.set hs₄
    refine wpAny_mono (turn i v m' news₁ h₄ _ oI' hlt (hPm _ _ _ _ hP fun b o n e => (hs₄.2 b n).trans e) hj ho F₄ N₄) (fun f s₃ h₃' => ?_) fun _ _ x => x
    have fin : (∃ h' tk' m'' news' own, s₃ = { s with heap := h', toks := tk' } ∧ Fr G env.locals h' m'' ∧ News G env.locals h' own ∧ (I, oI') ∈ own ∧ (∀ q ∈ news', q ∈ own) ∧ (∀ q ∈ news', q.1 ≠ I) ∧ J (i + 1) m'' news') → InIt I S keep (i + 1) s₃.heap ∧ JJ (i + 1) s₃ := by
      rintro ⟨h', tk', m'', news', own, rfl, F', N', hIo, hsub, ho', hj'⟩
      have NN' : News G env.locals h' news' := fun q hq => N' q (hsub q hq)
      exact ⟨⟨⟨oI', (N' _ hIo).1, hS'⟩, kp _ _ _ _ hj' F' NN'⟩, h', tk', m'', news', rfl, F', NN', ho', hj'⟩
    cases f with
    | next => exact fin h₃'
    | cont => exact fin h₃'
    | brk => exact h₃'.elim
    | ret v => exact h₃'
  · rintro s₁ ⟨h, tk0, m', news₁, rfl, F₁, N₁, ho, hj⟩
    exact done h tk0 m' news₁ hj F₁ N₁
end
section
variable {prog : Program} {w : World} {A : Around} {E : Value → Shared → Prop} {s : Shared} {G : Heap} {L : Addr} {m : Str → Option Value} {news : List (Addr × Obj)} {Q : Value → Shared → Prop}
abbrev fieldsO (kind : String) (vs : Array Value) : Obj := { cls := .type kind, data := .fields vs }
/-- the list's iterator -/
theorem U_iter_list {l : Addr} {lo : Obj} {items : Array Value} {ep : Nat} (F : Fr G L s.heap m) (N : News G L s.heap news) (hl : s.heap.get? l = some lo) (hc : lo.cls = .type "list") (hd : lo.data = .seq items ep)
    (h : ∀ I h', Fr G L h' m → News G L h' ((I, listIt l 0) :: news) → (∀ p ∈ news, p.1 < I) → @LT.lt Nat _ l I → Q (.ref I) { s with heap := h' }) : wpAny (model prog w) A (pyIter (.ref l)) Q E s := by
  refine wpAny_pyIter_list ⟨lo, hl, hc, ep, hd⟩ ?_
  obtain ⟨F', N', l'⟩ := news_push (o := listIt l 0) F N
  exact h _ _ F' N' l' (Heap.lt_size hl)
/-- the view of items, and its iterator -/
theorem U_iter_items {v d : Addr} {o : Obj} {D : DD} {es : List DictEntry} {ep : Nat} (F : Fr G L s.heap m) (N : News G L s.heap news) (hv : s.heap.get? v = some (fieldsO "dict_items" #[.ref d])) (hd : s.heap.get? d = some o) (T : IsD o D es ep)
    (h : ∀ I h', Fr G L h' m → News G L h' ((I, itemIt d D.length ep 0 .none false .none .none) :: news) → (∀ p ∈ news, p.1 < I) → @LT.lt Nat _ d I → Q (.ref I) { s with heap := h' }) : wpAny (model prog w) A (pyIter (.ref v)) Q E s := by
  have hT : s.TypeIs (.ref v) "dict_items" := ⟨_, hv, rfl⟩
  refine wpAny_pyIter_slot hT PySem.F.slot_dict_items_iter (wpAny_call_entry PySem.F.slot_dict_items_iter hT PySem.F.entry_dict_items_iter ?_ (PySem.F.args_dict_items_iter_1 _))
  unfold Builtin.«dict_items.__iter__»
  refine wpAny_bind (wpAny_pure ?_)
  refine wpAny_bind ?_
  unfold Builtin.Dict_items.dictOf
  refine wpAny_bind (wpAny_field hv rfl (x := .ref d) rfl (wpAny_pure ?_))
  refine wpAny_bind ?_
  unfold Builtin.Dict_items.newIterator
  refine wpAny_bind (wpAny_dictEntries hd T.data ?_)
  refine wpAny_bind (wpAny_dictEpoch hd T.data ?_)
  have hsz : es.toArray.size = D.length := by rw [List.size_toArray, T.ents.len]
  have hown : Builtin.Dict_items.ownsTuple "dict_itemiterator" = true := by decide
  simp only [hown, if_true]
  refine wpAny_newObj_type (wpAny_pure ⟨_, rfl, "dict_itemiterator", _, ⟨_, Heap.get?_push_size _ rfl, rfl⟩, PySem.F.slot_dict_itemiterator_next.lookup, ?_⟩)
    (by simp only [sizeOk, Builtin.Dict_items.ownedTupleFields, List.size_toArray, List.length_append, List.length_cons, List.length_nil, sizeLine_eq]; omega)
  obtain ⟨F', N', l'⟩ := news_push (o := itemIt d D.length ep 0 .none false .none .none) F N
  have := h _ _ F' N' l' (Heap.lt_size hd)
  refine cast (congrArg (fun o => Q (.ref s.heap.objs.size) { s with heap := s.heap.push o }) ?_) this
  show itemIt d D.length ep 0 .none false .none .none = itemIt d es.toArray.size ep 0 .none false .none .none
  rw [hsz]
/-- an iterator is its own iterator -/
theorem U_iter_itemit {I d n ep i : Nat} {ow ok ov : Value} {f : Bool} (hI : s.heap.get? I = some (itemIt d n ep i ow f ok ov)) (h : Q (.ref I) s) : wpAny (model prog w) A (pyIter (.ref I)) Q E s := by
  have hit : s.TypeIs (.ref I) "dict_itemiterator" := ⟨_, hI, rfl⟩
  refine wpAny_pyIter_slot hit PySem.F.slot_dict_itemiterator_iter (wpAny_call_entry PySem.F.slot_dict_itemiterator_iter hit entry_itemiter_iter ?_ (PySem.F.args_dict_itemiterator_iter_1 _))
  show wpAny _ _ (ret (.ref I)) _ _ s
  exact wpAny_pure ⟨_, rfl, "dict_itemiterator", _, hit, PySem.F.slot_dict_itemiterator_next.lookup, h⟩

/-- the view of items of a dict that is none of the modules' -/
theorem bi_items {d : Addr} {o : Obj} {R : Fin → Shared → Prop} (hno : NO (model prog w) s.heap d) (hs : (d == sysModules) = false) (F : Fr G L s.heap m) (N : News G L s.heap news)
    (h : ∀ v h', Fr G L h' m → News G L h' ((v, fieldsO "dict_items" #[.ref d]) :: news) → (∀ p ∈ news, p.1 < v) → R (.done (.ret (.ref v))) { s with heap := h' }) :
    wpAny (model prog w) A (Builtin.«dict.items» ⟨[.ref d], []⟩) R E s := by
  unfold Builtin.«dict.items» Builtin.Dict.noArgs
  refine wpAny_bind (wpAny_bind ((hno "items" ⟨[.ref d], []⟩ rfl).here ?_))
  show wpAny _ _ (pure d) _ _ s
  refine wpAny_pure ?_
  show wpAny _ _ (Builtin.Dict.showsAll d >>= _) _ _ s
  unfold Builtin.Dict.showsAll
  rw [if_neg (by rw [hs]; exact Bool.false_ne_true)]
  refine wpAny_bind (wpAny_pure ?_)
  obtain ⟨F', N', l'⟩ := news_push (o := fieldsO "dict_items" #[.ref d]) F N
  exact wpAny_bind (wpAny_newObj_type (wpAny_pure (h _ _ F' N' l')))
theorem bi_keys {d : Addr} {o : Obj} {R : Fin → Shared → Prop} (hno : NO (model prog w) s.heap d) (hs : (d == sysModules) = false) (F : Fr G L s.heap m) (N : News G L s.heap news)
    (h : ∀ v h', Fr G L h' m → News G L h' ((v, fieldsO "dict_keys" #[.ref d]) :: news) → (∀ p ∈ news, p.1 < v) → R (.done (.ret (.ref v))) { s with heap := h' }) :
    wpAny (model prog w) A (Builtin.«dict.keys» ⟨[.ref d], []⟩) R E s := by
  unfold Builtin.«dict.keys»
  k_delta "view"
  unfold Builtin.Dict.noArgs
  refine wpAny_bind (wpAny_bind ((hno "keys" ⟨[.ref d], []⟩ rfl).here ?_))
  show wpAny _ _ (pure d) _ _ s
  refine wpAny_pure ?_
  show wpAny _ _ (Builtin.Dict.showsAll d >>= _) _ _ s
  unfold Builtin.Dict.showsAll
  rw [if_neg (by rw [hs]; exact Bool.false_ne_true)]
  refine wpAny_bind (wpAny_pure ?_)
  obtain ⟨F', N', l'⟩ := news_push (o := fieldsO "dict_keys" #[.ref d]) F N
  exact wpAny_bind (wpAny_newObj_type (wpAny_pure (h _ _ F' N' l')))
end
section
variable {prog : Program} {w : World} {A : Around} {E : Value → Shared → Prop} {s : Shared} {h₀ : Heap} {L : Addr} {m : Str → Option Value} {news : List (Addr × Obj)}
theorem forIn_yield {α β : Type} {g : β → α → β} {f : α → β → Sem (ForInStep β)} : ∀ (l : List α) (b : β), (∀ x ∈ l, ∀ acc, f x acc = pure (.yield (g acc x))) → forIn l b f = pure (l.foldl g b)
  | [], b, _ => rfl
  | x :: l, b, h => by
    rw [List.forIn_cons, h x (.head _) b]
    show forIn l (g b x) f = _
    exact forIn_yield l (g b x) fun y hy acc => h y (.tail _ hy) acc
/-- the binding of a def of self, *args and **kwargs -/
structure StarPar (p : Arguments) (sn an kn : Str) : Prop where
  pos : p.posonlyargs = []
  nor : p.args.map (·.arg) = [sn]
  kwo : p.kwonlyargs = []
  var : ∃ a, p.vararg = some a ∧ a.arg = an
  kwa : ∃ a, p.kwarg = some a ∧ a.arg = kn
abbrev tupO (vs : List Value) : Obj := { cls := .type "tuple", data := .seq vs.toArray }
theorem my_nsSet {d : Addr} {es : List DictEntry} {n : Nat} {k : Str} {v : Value} {Q : Unit → Shared → Prop} (ho : s.heap.get? d = some (dictOf es n))
    (hs : ∀ e ∈ es, e.key.isStr k = false) (hr : ∀ e ∈ es, e.refKey = false)
    (h : ∀ h', Heap.SameBut d s.heap h' → h'.get? d = some (dictOf (es ++ [⟨PyData.keyHash w.params k, .str k s.toks, v⟩]) (n + 1)) → Q () { s with heap := h', toks := s.toks + 1 }) :
    wpAny (model prog w) A (nsSet d k v) Q E s := by
  have e1 : es.any (·.key.isStr k) = false := List.any_eq_false.mpr fun e he => by rw [hs e he]; decide
  have e2 : es.any (·.refKey) = false := List.any_eq_false.mpr fun e he => by rw [hr e he]; decide
  have e : Obj.putName k (PyData.keyHash w.params k) (.str k s.toks) v (dictOf es n) = dictOf (es ++ [⟨PyData.keyHash w.params k, .str k s.toks, v⟩]) (n + 1) := by
    rw [putName_dict, putL_new hs]
    show dictOf _ (if es.any (·.key.isStr k) then n else n + 1) = _
    rw [e1, if_neg Bool.false_ne_true]
  have c : aRefKeyMayBeTheName k es.toArray = false := by
    rw [aRefKeyMayBeTheName_at, ← Array.any_toList, ← Array.any_toList]
    show (!es.any (·.key.isStr k) && es.any (·.refKey)) = false
    rw [e2, Bool.and_false]
  unfold nsSet
  refine wpAny_bind (wpAny_bind (wpAny_askSetting (wpAny_pure (wpAny_bind (wpAny_mkText (wpAny_bind (wpAny_loadPart ho ?_)))))))
  dsimp only
  rw [c]
  refine wpAny_updatePart ho (h _ (Heap.SameBut.update ..) ?_)
  have z : (s.heap.update d (Obj.putName k (PyData.keyHash w.params k) (.str k s.toks) v)).get? d = some (Obj.putName k (PyData.keyHash w.params k) (.str k s.toks) v (dictOf es n)) := Heap.get?_update_self _ ho (by rw [e]; rfl)
  rw [← e]; exact z
theorem my_fill {d : Addr} {Q : PUnit → Shared → Prop} : ∀ (ex : List (Str × Value)) (s : Shared) (es : List DictEntry) (n : Nat), s.heap.get? d = some (dictOf es n) →
    (∀ e ∈ es, ∀ x ∈ ex, e.key.isStr x.1 = false) → (∀ e ∈ es, e.refKey = false) → (ex.map (·.1)).Nodup →
    (∀ h', Heap.SameBut d s.heap h' → h'.get? d = some (dictOf (es ++ kwEs w.params s.toks ex) (n + ex.length)) → Q ⟨⟩ { s with heap := h', toks := s.toks + ex.length }) →
    wpAny (model prog w) A (forIn ex PUnit.unit fun x _ => (nsSet d x.1 x.2 >>= fun _ => pure (ForInStep.yield PUnit.unit))) Q E s
  | [], s, es, n, ho, _, _, _, h => by
    rw [List.forIn_nil]
    refine wpAny_pure (h s.heap ⟨rfl, fun _ _ => rfl⟩ ?_)
    show s.heap.get? d = some (dictOf (es ++ []) n)
    rw [List.append_nil]; exact ho
  | x :: r, s, es, n, ho, hs, hr, hn, h => by
    obtain ⟨hn1, hn2⟩ := List.nodup_cons.mp (show (x.1 :: r.map (·.1)).Nodup from hn)
    rw [List.forIn_cons]
    refine wpAny_bind (wpAny_bind (my_nsSet ho (fun e he => hs e he x (.head _)) hr fun h' sb ho' => wpAny_pure ?_))
    show wpAny (model prog w) A (forIn r PUnit.unit fun x _ => (nsSet d x.1 x.2 >>= fun _ => pure (ForInStep.yield PUnit.unit))) Q E { s with heap := h', toks := s.toks + 1 }
    refine my_fill r { s with heap := h', toks := s.toks + 1 } _ _ ho' (fun e he y hy => ?_) (fun e he => ?_) hn2 fun h'' sb' ho'' => ?_
    · rcases List.mem_append.mp he with he | he
      · exact hs e he y (.tail _ hy)
      · obtain rfl := List.mem_singleton.mp he
        show (x.1 == y.1) = false
        exact beq_eq_false_iff_ne.mpr fun q => hn1 (by rw [q]; exact List.mem_map_of_mem hy)
    · rcases List.mem_append.mp he with he | he
      · exact hr e he
      · obtain rfl := List.mem_singleton.mp he
        rfl
    · have t1 : s.toks + 1 + r.length = s.toks + (r.length + 1) := by omega
      have t2 : n + 1 + r.length = n + (r.length + 1) := by omega
      show Q ⟨⟩ { s with heap := h'', toks := s.toks + 1 + r.length }
      rw [t1]
      have t3 : Heap.SameBut d s.heap h'' := ⟨sb'.1.trans sb.1, fun b hb => (sb'.2 b hb).trans (sb.2 b hb)⟩
      refine h h'' t3 ?_
      rw [t2, List.append_assoc] at ho''
      exact ho''
theorem bind_star {name qual : Str} {params : Arguments} {body : List Stmt} {scope : Scope} {cl : List (Str × Addr)} {kV doc pm cdv ct : Value} {an : Option Addr} {sn va ka : Str} {v : Value} {pos : List Value} {kw : List (Str × Value)} {Q : List (Str × Value) → Shared → Prop} (SP : StarPar params sn va ka)
    (hkw : ∀ x ∈ kw, x.1 ≠ sn) (hd : kwDistinct kw = true) (hl : kw.length ≤ sizeLine) (hp : pos.length ≤ sizeLine)
    (h : ∀ h' tk', Ext [] s.heap h' → h'.get? s.heap.objs.size = some (tupO pos) → h'.get? (s.heap.objs.size + 1) = some (dictOf (kwEs w.params s.toks kw) kw.length) → Q [(sn, v), (va, .ref s.heap.objs.size), (ka, .ref (s.heap.objs.size + 1))] { s with heap := h', toks := tk' }) :
    wpAny (model prog w) A (bindArgs (fnX name qual params body scope cl .none kV doc pm an cdv ct) ⟨v :: pos, kw⟩) Q E s := by
  obtain ⟨h1, h2, h3, ⟨a, ha, rfl⟩, ⟨b, hb, rfl⟩⟩ := SP
  unfold bindArgs
  dsimp only
  rw [h1, h2, h3, ha, hb]
  simp only [List.map_nil, List.nil_append]
  rw [forIn_yield (g := fun (acc : List (Str × Value) × List (Str × Value)) x => (acc.1, acc.2 ++ [x]))]
  case a =>
    intro x hx acc
    have e : ([sn].contains x.1 || ([] : List Str).contains x.1) = false := by
      have := hkw x hx
      simp [this]
    rw [e]
    rfl
  have ef : ∀ (l : List (Str × Value)) (b : List (Str × Value) × List (Str × Value)), l.foldl (fun acc x => (acc.1, acc.2 ++ [x])) b = (b.1, b.2 ++ l) := by
    intro l
    induction l with
    | nil => intro b; simp
    | cons x l ih => intro b; simp [ih]
  rw [ef]
  refine wpAny_bind (wpAny_pure ?_)
  refine wpAny_bind (wpAny_bind (wpAny_pure (wpAny_pure ?_)))
  simp only [Option.isNone_some, Bool.and_false, Bool.false_eq_true, if_false, List.zip_cons_cons, List.zip_nil_left, List.length_cons, List.length_nil, Option.getD_none, List.nil_append, List.drop_nil, List.zip_nil_right, List.append_nil, Nat.zero_add, Nat.sub_zero, List.take_succ_cons, List.take_zero,
    List.lookup, beq_self_eq_true, List.filter, Option.isNone_some, List.isEmpty_nil, Bool.not_true, List.drop_succ_cons, List.drop_zero, List.forIn_nil, List.filterMap_cons, List.filterMap_nil]
  refine wpAny_bind (wpAny_pure (wpAny_bind (wpAny_pure ?_)))
  simp only [List.isEmpty_nil, Bool.not_true, Bool.false_eq_true, if_false, List.lookup, beq_self_eq_true, Option.map_some, List.cons_append, List.nil_append]
  refine wpAny_bind (wpAny_newObj_type ?_ (by simpa [sizeOk] using hp))
  rw [if_neg (by omega)]
  refine wpAny_bind (wpAny_alloc ?_)
  have z1 : (s.heap.push (tupO pos)).objs.size = s.heap.objs.size + 1 := Heap.size_push ..
  have z2 : ((s.heap.push (tupO pos)).push (dictOf [] 0)).get? (s.heap.push (tupO pos)).objs.size = some (dictOf [] 0) := Heap.get?_push_size _ rfl
  have e2 : Ext [] s.heap ((s.heap.push (tupO pos)).push (dictOf [] 0)) := fun b o _ e => Heap.get?_push_of_some _ (Heap.get?_push_of_some _ e)
  have z3 : ((s.heap.push (tupO pos)).push (dictOf [] 0)).get? s.heap.objs.size = some (tupO pos) := Heap.get?_push_of_some _ (Heap.get?_push_size _ rfl)
  refine wpAny_bind (my_fill kw { s with heap := (s.heap.push (tupO pos)).push (dictOf [] 0) } [] 0 z2 (fun _ he => nomatch he) (fun _ he => nomatch he) (kwDistinct_nodup hd) fun h3' sb g3 => wpAny_pure ?_)
  have ne : s.heap.objs.size ≠ (s.heap.push (tupO pos)).objs.size := by rw [z1]; exact Nat.ne_of_lt (Nat.lt_succ_self _)
  have w1 : h3'.get? s.heap.objs.size = some (tupO pos) := (sb.2 _ ne).trans z3
  have w2 : Ext [] s.heap h3' := fun b o _ e => (sb.2 b (fun q => absurd (Heap.lt_size e) (by rw [q, z1]; exact Nat.not_lt.mpr (Nat.le_succ _)))).trans (e2 b o List.not_mem_nil e)
  have w3 := h h3' (s.toks + kw.length) w2 w1 (by rw [← z1, g3, List.nil_append, Nat.zero_add])
  rw [← z1] at w3
  exact w3
end
section
variable {w : World} {g : Heap} {A : Around} {s : Shared} {R : Result → Shared → Prop} {K : Frag} {prog : Program} {p : Program} {loose : List Str} {mean : ExcName → Option Value} {mg mb : Str → Option Value}
  {name qual : Str} {params : Arguments} {body : List Stmt} {scope : Scope} {cl : List (Str × Addr)} {kV doc pm cdv ct oc : Value} {an od : Option Addr} {osl : Array (Option Value)} {f cc : Addr} {sn va ka : Str} {v : Value} {pos : List Value} {kw : List (Str × Value)}
abbrev starBinds (sn va ka : Str) (v : Value) (C D : Addr) : List (Str × Value) := [(sn, v), (va, .ref C), (ka, .ref D)]
theorem star_base (T : Top p loose mean mg mb g) (X : K.In g) (SG : g.StaysIn s.heap) (S : List (Addr × Obj)) (hS : ∀ q ∈ S, s.heap.get? q.1 = some q.2 ∧ g.get? q.1 = none) {hB : Heap} {o1 o2 : Obj} (e : Ext [] s.heap hB) (h1 : hB.get? s.heap.objs.size = some o1) (h2 : hB.get? (s.heap.objs.size + 1) = some o2) :
    ∃ g', g.StaysIn g' ∧ (∀ b o, b ∉ S.map (·.1) → s.heap.get? b = some o → g'.get? b = some o) ∧ (∀ h', g'.StaysIn h' → Ext (S.map (·.1)) s.heap h') ∧ K.In g' ∧ Top p loose mean mg mb g' ∧ g'.StaysIn hB ∧ g'.objs.size ≤ hB.objs.size ∧
      ∀ q ∈ (s.heap.objs.size + 1, o2) :: (s.heap.objs.size, o1) :: S, hB.get? q.1 = some q.2 ∧ g'.get? q.1 = none := by
  have gn : ∀ a, s.heap.objs.size ≤ a → g.get? a = none := fun a ha => by
    cases q : g.get? a with
    | none => rfl
    | some o => exact absurd (Heap.lt_size (SG _ _ q)) (Nat.not_lt.mpr ha)
  have hS2 : ∀ q ∈ (s.heap.objs.size + 1, o2) :: (s.heap.objs.size, o1) :: S, hB.get? q.1 = some q.2 ∧ g.get? q.1 = none := fun q hq => by
    rcases List.mem_cons.mp hq with rfl | hq
    · exact ⟨h2, gn _ (Nat.le_succ _)⟩
    · rcases List.mem_cons.mp hq with rfl | hq
      · exact ⟨h1, gn _ (Nat.le_refl _)⟩
      · exact ⟨e _ _ List.not_mem_nil (hS q hq).1, (hS q hq).2⟩
  obtain ⟨st, a1, a2, X', T'⟩ := base_of (s := { s with heap := hB }) T X (fun b o x => e b o List.not_mem_nil (SG b o x)) ((s.heap.objs.size + 1, o2) :: (s.heap.objs.size, o1) :: S) hS2
  have off : ∀ b o, b ∉ S.map (·.1) → s.heap.get? b = some o → b ∉ ((s.heap.objs.size + 1, o2) :: (s.heap.objs.size, o1) :: S).map (·.1) := fun b o n x q => by
    have lt := Heap.lt_size x
    simp only [List.map_cons, List.mem_cons] at q
    rcases q with rfl | rfl | q
    · exact absurd lt (Nat.not_lt.mpr (Nat.le_succ _))
    · exact absurd lt (Nat.lt_irrefl _)
    · exact n q
  refine ⟨_, st, fun b o n x => a1 b o (off b o n x) (e b o List.not_mem_nil x), fun h' k b o n x => a2 h' k b o (off b o n x) (e b o List.not_mem_nil x), X', T', fun b o x => of_hideAll _ x, Nat.le_of_eq (hideAll_size _ _), fun q hq => ⟨(hS2 q hq).1, hideAll_none _ (List.mem_map_of_mem hq)⟩⟩

theorem call_star {n : Nat} (X : K.In g) (T : Top p loose mean mg mb g) (SG : g.StaysIn s.heap) (RM : Room (n + 1) A) (S : List (Addr × Obj)) (hS : ∀ q ∈ S, s.heap.get? q.1 = some q.2 ∧ g.get? q.1 = none)
    (ho : K.lookup f = some ⟨oc, od, .func (fnX name qual params body scope cl .none kV doc pm an cdv ct), osl⟩) (hcd : codeIn K cdv qual = true) (SP : StarPar params sn va ka)
    (hkw : ∀ x ∈ kw, x.1 ≠ sn) (hd : kwDistinct kw = true) (hl : kw.length ≤ 100) (hp : pos.length ≤ 100) (hloc : ∀ C D, ∀ y ∈ starBinds sn va ka v C D, scope.names.lookup y.1 = some .local)
    (h : ∀ C D g' L' h₁ tk, g.StaysIn g' → (∀ b o, b ∉ S.map (·.1) → s.heap.get? b = some o → g'.get? b = some o) → (∀ h', g'.StaysIn h' → Ext (S.map (·.1)) s.heap h') →
      Fr g' L' h₁ (fun y => (starBinds sn va ka v C D).reverse.lookup y) → News g' L' h₁ ((D, dictOf (kwEs w.params s.toks kw) kw.length) :: (C, tupO pos) :: S) → K.In g' → Top p loose mean mg mb g' → (∀ q ∈ S, q.1 < C) → @LT.lt Nat _ 1 C → @LT.lt Nat _ C D → @LT.lt Nat _ D L' → Room n (A.deeper (envX qual scope L' f cdv cl)) →
      wpAny (model prog w) (A.deeper (envX qual scope L' f cdv cl)) (execs body (envX qual scope L' f cdv cl))
        (fun fl s' => R (.ok (.ret (match fl with | .ret v => v | _ => .none))) s') NoE
        { s with heap := h₁, toks := tk })
    (hcell : ∀ x ∈ scope.names, x.2 ≠ .cell) (hco : scope.isCoroutine = false := by rfl) (hgen : scope.isGenerator = false := by rfl) (hk : scope.kind = .function := by rfl) : codeAny (model prog w) A (.call (.ref f) ⟨v :: pos, kw⟩) R s := by
  refine codeAny_call_function (fd := fnX name qual params body scope cl .none kV doc pm an cdv ct) (body := body) RM.lim (SG _ _ (X _ _ ho)) rfl hco hgen rfl (codeRec_of (X.keeps SG) hcd) ?_
  refine bind_star SP hkw hd (by rw [sizeLine_eq]; omega) (by rw [sizeLine_eq]; omega) fun hB tk e h1 h2 => ?_
  obtain ⟨g', st, a1, a2, X', T', stB, zB, hS2⟩ := star_base T X SG S hS e h1 h2
  refine wpAny_newFunctionEnv hcell (hloc _ _) (fun h₁ hns hsb => ⟨((T.nolimit.keeps SG).keeps fun b o x => e b o List.not_mem_nil x).fresh _ hsb, codeAny_func ?_⟩) hk
  have hk₁ : ∀ b o, hB.get? b = some o → h₁.get? b = some o := fun b o e => hsb.extBut b o (Nat.ne_of_lt (Heap.lt_size e)) (Heap.get?_push_of_some _ e)
  refine wpAny_mono (h _ _ g' hB.objs.size h₁ _ st a1 a2 ⟨hns, fun b o e => hk₁ b o (stB b o e), zB⟩ (fun q hq => ⟨hk₁ _ _ (hS2 q hq).1, Nat.ne_of_lt (Heap.lt_size (hS2 q hq).1), (hS2 q hq).2⟩) X' T' (fun q hq => Heap.lt_size (hS q hq).1) (modules_low (T.nolimit.keeps SG)) (Nat.lt_succ_self _) (Heap.lt_size h2) RM.deeper) (fun _ _ x => x) (fun _ _ x => x.elim)

theorem call_stars {n : Nat} (X : K.In g) (T : Top p loose mean mg mb g) (SG : g.StaysIn s.heap) (RM : Room (n + 1) A) (S : List (Addr × Obj)) (hS : ∀ q ∈ S, s.heap.get? q.1 = some q.2 ∧ g.get? q.1 = none)
    (ho : K.lookup f = some ⟨oc, od, .func (ksFn name qual params body scope .none kV doc pm an cdv ct cc), osl⟩) (hcd : codeIn K cdv qual = true) (SP : StarPar params sn va ka)
    (hkw : ∀ x ∈ kw, x.1 ≠ sn) (hd : kwDistinct kw = true) (hl : kw.length ≤ 100) (hp : pos.length ≤ 100) (hloc : ∀ C D, ∀ y ∈ starBinds sn va ka v C D, scope.names.lookup y.1 = some .local)
    (h : ∀ C D g' L' h₁ tk, g.StaysIn g' → (∀ b o, b ∉ S.map (·.1) → s.heap.get? b = some o → g'.get? b = some o) → (∀ h', g'.StaysIn h' → Ext (S.map (·.1)) s.heap h') →
      Fr g' L' h₁ (fun y => (starBinds sn va ka v C D).reverse.lookup y) → News g' L' h₁ ((D, dictOf (kwEs w.params s.toks kw) kw.length) :: (C, tupO pos) :: S) → K.In g' → Top p loose mean mg mb g' → (∀ q ∈ S, q.1 < C) → @LT.lt Nat _ 1 C → @LT.lt Nat _ C D → @LT.lt Nat _ D L' → Room n (A.deeper (ksEnv qual scope L' f cdv cc)) →
      _root_.PySem.wpAt (model prog w) (A.deeper (ksEnv qual scope L' f cdv cc)) (.func body (ksEnv qual scope L' f cdv cc)) (execs body (ksEnv qual scope L' f cdv cc))
        (fun fl s' => R (.ok (.ret (match fl with | .ret v => v | _ => .none))) s') NoE
        { s with heap := h₁, toks := tk })
    (hcell : ∀ x ∈ scope.names, x.2 ≠ .cell) (hco : scope.isCoroutine = false := by rfl) (hgen : scope.isGenerator = false := by rfl) (hk : scope.kind = .function := by rfl) : codeAny (model prog w) A (.call (.ref f) ⟨v :: pos, kw⟩) R s := by
  refine codeAny_call_function (fd := ksFn name qual params body scope .none kV doc pm an cdv ct cc) (body := body) RM.lim (SG _ _ (X _ _ ho)) rfl hco hgen rfl (codeRec_of (X.keeps SG) hcd) ?_
  refine bind_star SP hkw hd (by rw [sizeLine_eq]; omega) (by rw [sizeLine_eq]; omega) fun hB tk e h1 h2 => ?_
  obtain ⟨g', st, a1, a2, X', T', stB, zB, hS2⟩ := star_base T X SG S hS e h1 h2
  refine wpAny_newFunctionEnv hcell (hloc _ _) (fun h₁ hns hsb => ⟨((T.nolimit.keeps SG).keeps fun b o x => e b o List.not_mem_nil x).fresh _ hsb, ks_codeAny_funcAt ?_⟩) hk
  have hk₁ : ∀ b o, hB.get? b = some o → h₁.get? b = some o := fun b o e => hsb.extBut b o (Nat.ne_of_lt (Heap.lt_size e)) (Heap.get?_push_of_some _ e)
  refine ks_wpAt_mono (h _ _ g' hB.objs.size h₁ _ st a1 a2 ⟨hns, fun b o e => hk₁ b o (stB b o e), zB⟩ (fun q hq => ⟨hk₁ _ _ (hS2 q hq).1, Nat.ne_of_lt (Heap.lt_size (hS2 q hq).1), (hS2 q hq).2⟩) X' T' (fun q hq => Heap.lt_size (hS q hq).1) (modules_low (T.nolimit.keeps SG)) (Nat.lt_succ_self _) (Heap.lt_size h2) RM.deeper) (fun _ _ x => x) (fun _ _ x => x.elim)
end
namespace HF
theorem lk_items : typeLookup (.type "dict") "items" = pure (some (.builtin "dict.items")) := PySem.F.slot_dict_items.lookup
theorem mdset : typeLookup (.type "method_descriptor") "__set__" = pure none := by rw [typeLookup_type, builtinLookup_eq_fast]; kernel_rfl
theorem mddel : typeLookup (.type "method_descriptor") "__delete__" = pure none := by rw [typeLookup_type, builtinLookup_eq_fast]; kernel_rfl
theorem dict_ga_none : typeLookup (.type "dict") "__getattr__" = pure none := by rw [typeLookup_type, builtinLookup_eq_fast]; kernel_rfl
theorem list_items : typeLookup (.type "list") "items" = pure none := by rw [typeLookup_type, builtinLookup_eq_fast]; kernel_rfl
theorem list_keys : typeLookup (.type "list") "keys" = pure none := by rw [typeLookup_type, builtinLookup_eq_fast]; kernel_rfl
theorem list_mod : isSubtype (.type "list") (.type "module") = pure false := by rw [isSubtype_type]; kernel_rfl
theorem dict_mod : isSubtype (.type "dict") (.type "module") = pure false := by rw [isSubtype_type]; kernel_rfl
theorem owner_items : isSubtype (.type "dict") (.type (".".intercalate ("dict.items".cutAt '.').dropLast)) = pure true := by
  rw [show (".".intercalate ("dict.items".cutAt '.').dropLast) = "dict" from by decide +kernel, isSubtype_type]; kernel_rfl
theorem plain_hasattr : plainId "hasattr" = true := by decide +kernel
theorem kind_hasattr : builtinKind "hasattr" = none := by decide +kernel
theorem entry_hasattr : entryFor table "hasattr" = some Builtin.«hasattr» := entryFor_of_tree (by kernel_rfl)
theorem args_hasattr (a b : Value) : argsOk "hasattr" ⟨[a, b], []⟩ := by unfold argsOk; kernel_rfl
end HF
section
variable {prog : Program} {w : World} {A : Around} {E : Value → Shared → Prop} {h : Heap} {g : Array GenState} {d : Drawn} {t : Nat} {os : OsState} {a : Addr} {o : Obj}
theorem mdt_get {R : Result → Shared → Prop} (hx : h.get? a = some o) (hc : o.cls = .type "dict") (hq : R (.ok (.ret (.ref h.objs.size))) ⟨h.push (boundO "builtin_function_or_method" "dict.items" a), g, d, t, os⟩) :
    codeAny (model prog w) A (.call (.builtin "method_descriptor.__get__") ⟨[.builtin "dict.items", .ref a, .type "dict"], []⟩) R ⟨h, g, d, t, os⟩ := by
  have hT : (⟨h, g, d, t, os⟩ : Shared).TypeIs (.ref a) "dict" := ⟨_, hx, hc⟩
  have f8 := HF.owner_items
  refine codeAny_call_builtin MF.slot_md.plain MF.entry_md (MF.slot_md.check _ _ _ _ _ _ _ _ PySem.F.type_dict_items (MF.args_md _ _ _) ?_)
  repeat (any_goals (first | assumption | wp_step))
theorem items_entry_dict {tk : Tok} {Q : Fin → Shared → Prop} {dt : Array DictEntry} {ep : Nat} (hx : h.get? a = some o) (hc : o.cls = .type "dict") (hn : o.dict = none) (hdt : o.data = .dict dt ep) (hq : Q (.done (.ret (.ref h.objs.size))) ⟨h.push (boundO "builtin_function_or_method" "dict.items" a), g, d, t, os⟩) :
    wpAny (model prog w) A (Builtin.«object.__getattribute__» ⟨[.ref a, .str "items" tk], []⟩) Q E ⟨h, g, d, t, os⟩ := by
  have hT : (⟨h, g, d, t, os⟩ : Shared).TypeIs (.ref a) "dict" := ⟨_, hx, hc⟩
  obtain ⟨c, dct, dat, sl⟩ := o
  dsimp only at hc hn hdt
  subst hc hn hdt
  have f4 := HF.lk_items
  have f5 := PySem.F.type_dict_items
  have f6 := MF.slot_md.lookup
  have f7 := HF.mdset
  have f8 := HF.mddel
  repeat (any_goals (first | assumption | wp_step))
  all_goals (try (refine mdt_get hx rfl ?_; repeat (any_goals (first | assumption | wp_step))))
  all_goals trace_state
theorem items_by_dict {tk : Tok} {Q : Value → Shared → Prop} {dt : Array DictEntry} {ep : Nat} (hx : h.get? a = some o) (hc : o.cls = .type "dict") (hn : o.dict = none) (hdt : o.data = .dict dt ep) (hq : Q (.ref h.objs.size) ⟨h.push (boundO "builtin_function_or_method" "dict.items" a), g, d, t, os⟩) :
    wpAny (model prog w) A (getAttrBy (.ref a) (.str "items" tk) false) Q E ⟨h, g, d, t, os⟩ := by
  have hT : (⟨h, g, d, t, os⟩ : Shared).TypeIs (.ref a) "dict" := ⟨_, hx, hc⟩
  have f2 := PySem.F.slot_dict_getattribute.lookup
  have f3 := PySem.F.slot_dict_getattribute.bind (.ref a)
  repeat (any_goals (first | assumption | wp_step))
  refine codeAny_call_builtin PySem.F.slot_dict_getattribute.plain PySem.F.entry_dict_ga (PySem.F.slot_dict_getattribute.check _ _ _ _ _ _ _ _ hT (PySem.F.args_dict_getattribute_2 _ _) (items_entry_dict hx hc hn hdt ?_))
  repeat (any_goals (first | assumption | wp_step))
theorem has_items_dict {Q : Value → Shared → Prop} {tk : Tok} {dt : Array DictEntry} {ep : Nat} (hx : h.get? a = some o) (hc : o.cls = .type "dict") (hn : o.dict = none) (hdt : o.data = .dict dt ep) (hq : Q (.bool true) ⟨h.push (boundO "builtin_function_or_method" "dict.items" a), g, d, t, os⟩) :
    wpAny (model prog w) A (call (.builtin "hasattr") [.ref a, .str "items" tk]) Q E ⟨h, g, d, t, os⟩ := by
  have hT : (⟨h, g, d, t, os⟩ : Shared).TypeIs (.ref a) "dict" := ⟨_, hx, hc⟩
  have f1 := HF.lk_items
  have f2 := PySem.F.slot_dict_getattribute.lookup
  have f3 := HF.dict_mod
  refine Calls.call_function_entry HF.kind_hasattr HF.plain_hasattr HF.entry_hasattr (HF.args_hasattr _ _) ?_
  unfold Builtin.«hasattr»
  refine wpAny_bind (wpAny_of_eq (a := [.ref a, .str "items" tk]) (by first | rfl | kernel_rfl) ?_)
  dsimp only
  refine wpAny_bind (wpAny_of_eq (a := ()) (by first | rfl | kernel_rfl) ?_)
  repeat (any_goals (first | assumption | with_reducible apply items_by_dict hx hc hn hdt | wp_step))
  exact ⟨_, rfl, hq⟩

theorem miss_by_list {xs : Array Value} {k : Nat} {name : Str} {tk : Tok} {Q : Value → Shared → Prop} (hx : h.get? a = some o) (hc : o.cls = .type "list") (hdat : o.data = .seq xs k) (hd : o.dict = none) (hmiss : typeLookup (.type "list") name = pure none) (hname : (["__module__", "__name__", "__qualname__", "__doc__", "__annotations__"] : List Str).contains name = false) (hA : A.handled = none)
    (hq : ∀ h' tk e, Heap.NewExcOf h h' e "AttributeError" → E (.ref e) ⟨h', g, d, tk, os⟩) (hsz : name.length + 100 ≤ sizeLine := by size_fits) :
    wpAny (model prog w) A (getAttrBy (.ref a) (.str name tk) false) Q E ⟨h, g, d, t, os⟩ := by
  obtain ⟨c, dct, dat, sl⟩ := o
  dsimp only at hc hdat hd
  subst hc hdat hd
  have hT : (⟨h, g, d, t, os⟩ : Shared).TypeIs (.ref a) "list" := ⟨_, hx, rfl⟩
  have f1 := sub_AttributeError
  have f3 := PySem.F.slot_list_getattribute.lookup
  have f4 := PySem.F.slot_list_getattribute.bind (.ref a)
  have f5 := am_list_getattr_none
  unfold getAttrBy
  repeat (any_goals (first | assumption | ((with_reducible show wpAny _ _ (call (Value.builtin "list.__getattribute__") _) _ _ _); refine call_meets PySem.F.slot_list_getattribute hT am_entry_list_getattribute (PySem.F.args_list_getattribute_2 _ _) (meets_getattribute_miss_list a xs k sl name _ hmiss hname hsz) ⟨hx, hA, fun h' tk' e hx' => ?_⟩) | wp_step))
  obtain ⟨t', u', he⟩ := hx'.there
  show wpAny _ _ (getattributeRaised _ _ _ _ _ _ _) _ _ _
  unfold getattributeRaised
  repeat (any_goals (first | assumption | wp_step))
  exact hq _ _ _ hx'.of
end
section
variable {prog : Program} {w : World} {A : Around} {E : Value → Shared → Prop} {h : Heap} {g : Array GenState} {d : Drawn} {t : Nat} {os : OsState} {a : Addr} {o : Obj}
theorem miss_q_list {xs : Array Value} {k : Nat} {name : Str} {tk : Tok} {Q : Option Value → Shared → Prop} (hx : h.get? a = some o) (hc : o.cls = .type "list") (hdat : o.data = .seq xs k) (hd : o.dict = none) (hmiss : typeLookup (.type "list") name = pure none) (hname : (["__module__", "__name__", "__qualname__", "__doc__", "__annotations__"] : List Str).contains name = false) (hA : A.handled = none)
    (hq : ∀ h' tk, Ext [] h h' → Q none ⟨h', g, d, tk, os⟩) (hsz : name.length + 100 ≤ sizeLine := by size_fits) :
    wpAny (model prog w) A (getAttrBy? (.ref a) (.str name tk)) Q E ⟨h, g, d, t, os⟩ := by
  unfold getAttrBy?
  refine wpAny_bind (wpAny_attempt (miss_by_list hx hc hdat hd hmiss hname hA (fun h' tk' e X => ?_) hsz))
  obtain ⟨ob, vs, he, hcl, _⟩ := X.there
  refine wpAny_bind (wpAny_isInstance (T := "AttributeError") (b := true) ⟨ob, he, hcl⟩ sub_AttributeError ?_)
  exact wpAny_pure (hq h' tk' fun b o _ e => X.keeps b o e)
theorem has_items_list {xs : Array Value} {k : Nat} {Q : Value → Shared → Prop} {tk : Tok} (hx : h.get? a = some o) (hc : o.cls = .type "list") (hdat : o.data = .seq xs k) (hd : o.dict = none) (hA : A.handled = none) (hq : ∀ h' tk, Ext [] h h' → Q (.bool false) ⟨h', g, d, tk, os⟩) :
    wpAny (model prog w) A (call (.builtin "hasattr") [.ref a, .str "items" tk]) Q E ⟨h, g, d, t, os⟩ := by
  have hT : (⟨h, g, d, t, os⟩ : Shared).TypeIs (.ref a) "list" := ⟨_, hx, hc⟩
  have f1 := HF.list_items
  have f3 := HF.list_mod
  refine Calls.call_function_entry HF.kind_hasattr HF.plain_hasattr HF.entry_hasattr (HF.args_hasattr _ _) ?_
  unfold Builtin.«hasattr»
  refine wpAny_bind (wpAny_of_eq (a := [.ref a, .str "items" tk]) (by first | rfl | kernel_rfl) ?_)
  dsimp only
  refine wpAny_bind (wpAny_of_eq (a := ()) (by first | rfl | kernel_rfl) ?_)
  repeat (any_goals (first | assumption | ((with_reducible show wpAny _ _ (getAttrBy? _ _) _ _ _); refine miss_q_list hx hc hdat hd f1 (by decide +kernel) hA (fun h' tk' e => ?_)) | wp_step))
  all_goals trace_state
  all_goals exact ⟨_, rfl, hq _ _ (by assumption)⟩
end
/-- a plain dict by its entries -/
structure PD (o : Obj) (D : DD) (es : List DictEntry) (ep : Nat) : Prop where
  cls : o.cls = .type "dict"
  dict : o.dict = none
  isd : IsD o D es ep
theorem PD.with {o : Obj} {D D' : DD} {es es' : List DictEntry} {ep ep' : Nat} (T : PD o D es ep) (I : IsD (withEs o es' ep') D' es' ep') : PD (withEs o es' ep') D' es' ep' := ⟨T.cls, T.dict, I⟩
section
variable {prog : Program} {w : World} {A : Around} {E : Value → Shared → Prop} {s : Shared} {G : Heap} {L : Addr} {m : Str → Option Value} {news : List (Addr × Obj)} {f : Obj → List (Addr × Obj)} {d : Addr} {o : Obj} {D : DD} {es : List DictEntry} {ep : Nat} {k : Str} {tk : Tok} {Q : Value → Shared → Prop}
theorem PD.ty (hd : s.heap.get? d = some o) (T : PD o D es ep) : s.TypeIs (.ref d) "dict" := ⟨o, hd, T.cls⟩
theorem PD.nd (hd : s.heap.get? d = some o) (T : PD o D es ep) : ∀ a, (Value.ref d) = .ref a → ∃ o, s.heap.get? a = some o ∧ o.dict = none := fun a e => by cases e; exact ⟨o, hd, T.dict⟩
theorem meth_items {pl : Sem Bool} {Q : Value × List Value → Shared → Prop} (hd : s.heap.get? d = some o) (T : PD o D es ep) (h : Q (.builtin "dict.items", [.ref d]) s) : wpAny (model prog w) A (getMethod (.ref d) "items" pl) Q E s :=
  getMethod_builtin (T.ty hd) PySem.F.plainAttrs_dict PySem.F.slot_dict_items PySem.F.type_dict_items (T.nd hd) h
theorem meth_get {pl : Sem Bool} {Q : Value × List Value → Shared → Prop} (hd : s.heap.get? d = some o) (T : PD o D es ep) (h : Q (.builtin "dict.get", [.ref d]) s) : wpAny (model prog w) A (getMethod (.ref d) "get" pl) Q E s :=
  getMethod_builtin (T.ty hd) PySem.F.plainAttrs_dict PySem.F.slot_dict_get PySem.F.type_dict_get (T.nd hd) h
theorem meth_pop {pl : Sem Bool} {Q : Value × List Value → Shared → Prop} (hd : s.heap.get? d = some o) (T : PD o D es ep) (h : Q (.builtin "dict.pop", [.ref d]) s) : wpAny (model prog w) A (getMethod (.ref d) "pop" pl) Q E s :=
  getMethod_builtin (T.ty hd) PySem.F.plainAttrs_dict PySem.F.slot_dict_pop PySem.F.type_dict_pop (T.nd hd) h
theorem p_items (F : Fr G L s.heap m) (N : News G L s.heap news) (hd : s.heap.get? d = some o) (T : PD o D es ep) (hs : (d == sysModules) = false)
    (h : ∀ v h', Fr G L h' m → News G L h' ((v, fieldsO "dict_items" #[.ref d]) :: news) → (∀ p ∈ news, p.1 < v) → Q (.ref v) { s with heap := h' }) : wpAny (model prog w) A (call (.builtin "dict.items") [.ref d]) Q E s :=
  wpAny_call_entry PySem.F.slot_dict_items (T.ty hd) PySem.F.entry_dict_items (bi_items (no_plain hd T.cls) hs (o := o) F N fun v h' F' N' l' => ⟨_, rfl, h v h' F' N' l'⟩) (PySem.F.args_dict_items_1 _)
theorem p_get1 (hd : s.heap.get? d = some o) (T : PD o D es ep) (hs : (d == sysModules) = false) (h : ∀ v tk', VIs ((lk k D).getD .none) v → Q v { s with toks := tk' }) : wpAny (model prog w) A (call (.builtin "dict.get") [.ref d, .str k tk]) Q E s :=
  wpAny_call_entry PySem.F.slot_dict_get (T.ty hd) PySem.F.entry_dict_get (bi_get1 hd T.isd hs fun v tk' hv => ⟨_, rfl, h v tk' hv⟩) (PySem.F.args_dict_get_2 _ _)
theorem p_get {u : V} {dv : Value} (hd : s.heap.get? d = some o) (T : PD o D es ep) (hs : (d == sysModules) = false) (hu : VIs u dv) (h : ∀ v tk', VIs ((lk k D).getD u) v → Q v { s with toks := tk' }) : wpAny (model prog w) A (call (.builtin "dict.get") [.ref d, .str k tk, dv]) Q E s :=
  wpAny_call_entry PySem.F.slot_dict_get (T.ty hd) PySem.F.entry_dict_get (bi_get hd T.isd hs hu fun v tk' hv => ⟨_, rfl, h v tk' hv⟩) (PySem.F.args_dict_get_3 _ _ _)
theorem p_pop1 {u : V} (F : Fr G L s.heap m) (N : News G L s.heap news) (hd : (d, o) ∈ news) (T : PD o D es ep) (U : UpdF d o news f) (hk : lk k D = some u)
    (h : ∀ v h' tk' o' es' ep', VIs u v → Fr G L h' m → News G L h' (f o') → PD o' (era k D) es' ep' → Q v { s with heap := h', toks := tk' }) : wpAny (model prog w) A (call (.builtin "dict.pop") [.ref d, .str k tk]) Q E s :=
  wpAny_call_entry PySem.F.slot_dict_pop (T.ty (N _ hd).1) PySem.F.entry_dict_pop (bi_pop1 (no_plain (N _ hd).1 T.cls) (N _ hd).1 T.isd hk fun v h' tk' hv c => by
    obtain ⟨es', ep', e1, e2⟩ := c.2
    obtain ⟨F', N'⟩ := use1 F N U (changed_ext c) e1
    exact ⟨_, rfl, h v h' tk' _ es' ep' hv F' N' (T.with e2)⟩) (PySem.F.args_dict_pop_2 _ _)
theorem p_getitem {u : V} (hd : s.heap.get? d = some o) (T : PD o D es ep) (hk : lk k D = some u) (h : ∀ v tk', VIs u v → Q v { s with toks := tk' }) : wpAny (model prog w) A (getItem (.ref d) (.str k tk)) Q E s := by
  unfold getItem
  try with_reducible refine wpAny_holding ?_
  refine wpAny_bind (wpAny_sequenceKey (T.ty hd) (by decide) ?_)
  refine wpAny_bind (wpAny_callSpecial?_slot (name := Str.ofString "__getitem__") (T.ty hd) PySem.F.slot_dict_getitem (wpAny_call_entry PySem.F.slot_dict_getitem (T.ty hd) PySem.F.entry_dict_getitem (bi_getitem hd T.isd hk fun v tk' hv => ?_) (PySem.F.args_dict_getitem_2 _ _)))
  exact ⟨v, rfl, wpAny_pure (h v tk' hv)⟩
theorem p_tail {value slice : PySem.Expr} {u : V} (hd : s.heap.get? d = some o) (T : PD o D es ep) (hk : lk k D = some u) (h : ∀ v tk', VIs u v → Q v { s with toks := tk' })
    (hs : subscripted slice false (.ref d) (.str k tk) = operate [.ref d, .str k tk] (getItem (.ref d) (.str k tk)) := by with_unfolding_all rfl) : wpAny (model prog w) A (subscriptTail value slice (.ref d) (.str k tk)) Q E s :=
  tail_any (T.ty hd) PySem.F.slot_dict_getitem.lookup (p_getitem hd T hk h) hs
theorem p_setitem {u : V} {v : Value} {Q : Unit → Shared → Prop} (F : Fr G L s.heap m) (N : News G L s.heap news) (hd : (d, o) ∈ news) (T : PD o D es ep) (U : UpdF d o news f) (hv : VIs u v) (hl : (put k u D).length ≤ 1000)
    (h : ∀ h' tk' o' es' ep', Fr G L h' m → News G L h' (f o') → PD o' (put k u D) es' ep' → Q () { s with heap := h', toks := tk' }) : wpAny (model prog w) A (setItem (.ref d) (.str k tk) v) Q E s := by
  have hd' := (N _ hd).1
  unfold setItem
  try with_reducible refine wpAny_holding ?_
  refine wpAny_bind (wpAny_sequenceKey (T.ty hd') (by decide) ?_)
  refine wpAny_bind (wpAny_callSpecial?_slot (name := Str.ofString "__setitem__") (T.ty hd') PySem.F.slot_dict_setitem (wpAny_call_entry PySem.F.slot_dict_setitem (T.ty hd') PySem.F.entry_dict_setitem
    (bi_setitem (no_plain hd' T.cls) hd' T.isd hv hl fun h' tk' c => ?_) (PySem.F.args_dict_setitem_3 _ _ _)))
  obtain ⟨es', ep', e1, e2⟩ := c.2
  obtain ⟨F', N'⟩ := use1 F N U (changed_ext c) e1
  exact ⟨.none, rfl, wpAny_pure (h h' tk' _ es' ep' F' N' (T.with e2))⟩
theorem p_len (hd : s.heap.get? d = some o) (T : PD o D es ep) (hs : (d == sysModules) = false) (h : ∀ tk t', Q (.int D.length tk) { s with toks := t' }) : wpAny (model prog w) A (call (.builtin "len") [.ref d]) Q E s := by
  have hz := T.isd.small
  refine Calls.call_function_entry kind_len plain_len entry_len (args_len1 _) ?_
  unfold Builtin.«len»
  refine wpAny_bind (m := oneArg "len" _) (wpAny_pure ?_)
  refine wpAny_bind (m := callSpecial? (.ref d) (Str.ofString "__len__")) (wpAny_callSpecial?_slot (name := Str.ofString "__len__") (T.ty hd) PySem.F.slot_dict_len
    (wpAny_call_entry PySem.F.slot_dict_len (T.ty hd) PySem.F.entry_dict_len (bi_len hd T.isd hs fun tk t' => ⟨_, rfl, ?_⟩) (PySem.F.args_dict_len_1 _)))
  refine wpAny_bind (wpAny_holding (wpAny_pure ?_))
  refine wpAny_bind (wpAny_letGo ?_)
  show wpAny _ _ (if ((D.length : Nat) : Int) < 0 then _ else _) _ _ _
  rw [if_neg (by omega)]
  show wpAny _ _ (if ((D.length : Nat) : Int) ≥ 2 ^ 63 then _ else _) _ _ _
  rw [if_neg (by omega)]
  exact wpAny_bind (wpAny_mkInt (wpAny_pure ⟨_, rfl, h _ _⟩))
theorem p_contains {Q : Bool → Shared → Prop} (hd : s.heap.get? d = some o) (T : PD o D es ep) (hs : (d == sysModules) = false) (h : ∀ tk', Q (lk k D).isSome { s with toks := tk' }) : wpAny (model prog w) A (contains (.ref d) (.str k tk)) Q E s := by
  unfold contains
  try with_reducible refine wpAny_holding ?_
  refine wpAny_bind (wpAny_specialOf (T.ty hd) PySem.F.slot_dict_contains.lookup ?_)
  show wpAny _ _ (if (some (Value.builtin "dict.__contains__") == some Value.none) = true then _ else _) _ E s
  rw [if_neg (by rw [beq_builtin_none]; exact Bool.false_ne_true)]
  refine wpAny_bind (wpAny_callSpecialUnlessNone?_slot (name := Str.ofString "__contains__") (T.ty hd) PySem.F.slot_dict_contains
    (wpAny_call_entry PySem.F.slot_dict_contains (T.ty hd) PySem.F.entry_dict_contains (bi_contains hd T.isd hs fun tk' => ⟨_, rfl, ?_⟩) (PySem.F.args_dict_contains_2 _ _)))
  exact wpAny_truthy_bool (h tk')
theorem p_in (hd : s.heap.get? d = some o) (T : PD o D es ep) (hs : (d == sysModules) = false) (h : ∀ tk', Q (.bool (lk k D).isSome) { s with toks := tk' }) : wpAny (model prog w) A (compareOp .In (.str k tk) (.ref d)) Q E s := by
  show wpAny _ _ (do return .bool (← contains (.ref d) (.str k tk))) Q E s
  exact wpAny_bind (p_contains hd T hs fun tk' => wpAny_pure (h tk'))
theorem p_notin (hd : s.heap.get? d = some o) (T : PD o D es ep) (hs : (d == sysModules) = false) (h : ∀ tk', Q (.bool (!(lk k D).isSome)) { s with toks := tk' }) : wpAny (model prog w) A (compareOp .NotIn (.str k tk) (.ref d)) Q E s := by
  show wpAny _ _ (do return .bool (!(← contains (.ref d) (.str k tk)))) Q E s
  exact wpAny_bind (p_contains hd T hs fun tk' => wpAny_pure (h tk'))
theorem p_has (F : Fr G L s.heap m) (N : News G L s.heap news) (hd : s.heap.get? d = some o) (T : PD o D es ep)
    (h : ∀ v h', Fr G L h' m → News G L h' ((v, boundO "builtin_function_or_method" "dict.items" d) :: news) → (∀ p ∈ news, p.1 < v) → Q (.bool true) { s with heap := h' }) : wpAny (model prog w) A (call (.builtin "hasattr") [.ref d, .str "items" tk]) Q E s := by
  obtain ⟨F', N', l'⟩ := news_push (o := boundO "builtin_function_or_method" "dict.items" d) F N
  obtain ⟨hh, g, dd, t, os⟩ := s
  exact has_items_dict hd T.cls T.dict T.isd.data (h _ _ F' N' l')
theorem p_hasnt {lo : Obj} {xs : Array Value} {n : Nat} (F : Fr G L s.heap m) (N : News G L s.heap news) (hd : s.heap.get? d = some lo) (hc : lo.cls = .type "list") (hdt : lo.data = .seq xs n) (hn : lo.dict = none) (hA : A.handled = none)
    (h : ∀ h' tk', Fr G L h' m → News G L h' news → Q (.bool false) { s with heap := h', toks := tk' }) : wpAny (model prog w) A (call (.builtin "hasattr") [.ref d, .str "items" tk]) Q E s := by
  obtain ⟨hh, g, dd, t, os⟩ := s
  exact has_items_list hd hc hdt hn hA fun h' tk' e => h h' tk' (fr0 F e) (news0 N e)
end
local macro_rules | `(tactic| walk_at "getMethod ref") => `(tactic| (k_here; k_dflt (first | (refine' meth_items ?k1 ?k2 ?_; (case k1 => first | exact PyProof.Rows.News.get (by k_asm) (by k_mem) | exact Fr.keep (by k_asm) _ _ (by assumption)); (case k2 => k_asm); k_whole) | (refine' meth_get ?k1 ?k2 ?_; (case k1 => first | exact PyProof.Rows.News.get (by k_asm) (by k_mem) | exact Fr.keep (by k_asm) _ _ (by assumption)); (case k2 => k_asm); k_whole) | (refine' meth_pop ?k1 ?k2 ?_; (case k1 => first | exact PyProof.Rows.News.get (by k_asm) (by k_mem) | exact Fr.keep (by k_asm) _ _ (by assumption)); (case k2 => k_asm); k_whole))))
local macro_rules | `(tactic| walk_at "call builtin:dict.items") => `(tactic| (k_here; k_dflt (refine' p_items ?k1 ?k2 ?k3 ?k4 ?k5 ?_; (case k1 => k_asm); (case k2 => k_asm); (case k3 => first | exact PyProof.Rows.News.get (by k_asm) (by k_mem) | exact Fr.keep (by k_asm) _ _ (by assumption)); (case k4 => k_asm); (case k5 => first | with_reducible assumption | (exact nsys (by omega)) | k_asm); k_whole); intro v' h' F' N' l1; (try k_lt l1); (try k_sweep)))
local macro_rules | `(tactic| walk_at "call builtin:dict.get") => `(tactic| (k_here; k_dflt (first
  | (refine' p_get1 ?k3 ?k4 ?k5 ?_; (case k3 => first | exact PyProof.Rows.News.get (by k_asm) (by k_mem) | exact Fr.keep (by k_asm) _ _ (by assumption)); (case k4 => k_asm); (case k5 => first | with_reducible assumption | (exact nsys (by omega)) | k_asm); k_whole; intro v' tk' hv')
  | (refine' p_get ?k3 ?k4 ?k5 ?k6 ?_; (case k3 => first | exact PyProof.Rows.News.get (by k_asm) (by k_mem) | exact Fr.keep (by k_asm) _ _ (by assumption)); (case k4 => k_asm); (case k5 => first | with_reducible assumption | (exact nsys (by omega)) | k_asm); (case k6 => first | k_asm | exact rfl | exact ⟨_, rfl⟩); k_whole; intro v' tk' hv'))))
local macro_rules | `(tactic| walk_at "call builtin:dict.pop") => `(tactic| (k_here; k_dflt (refine' p_pop1 ?k1 ?k2 ?k3 ?k4 ?k5 ?k6 ?_; (case k1 => k_asm); (case k2 => k_asm); (case k3 => k_mem); (case k4 => k_asm); (case k5 => k_updF); (case k6 => k_asm); k_whole); intro v' h' tk' o' es' ep' hv' F' N' pd'; (try dsimp only at N'); (try k_sweep)))
local macro_rules | `(tactic| walk_at "getItem ref str") => `(tactic| (k_here; k_dflt (refine' p_getitem ?k3 ?k4 ?k5 ?_; (case k3 => first | exact PyProof.Rows.News.get (by k_asm) (by k_mem) | exact Fr.keep (by k_asm) _ _ (by assumption)); (case k4 => k_asm); (case k5 => first | with_reducible assumption | (exact nsys (by omega)) | k_asm); k_whole); intro v' tk' hv'))
local macro_rules | `(tactic| walk_at "subscriptTail") => `(tactic| (k_here; (with_reducible show wpAny _ _ (subscriptTail _ _ (Value.ref _) (Value.str _ _)) _ _ _); k_dflt (refine' p_tail ?k3 ?k4 ?k5 ?_; (case k3 => first | exact PyProof.Rows.News.get (by k_asm) (by k_mem) | exact Fr.keep (by k_asm) _ _ (by assumption)); (case k4 => k_asm); (case k5 => first | with_reducible assumption | (exact nsys (by omega)) | k_asm); k_whole); intro v' tk' hv'))
local macro_rules | `(tactic| walk_at "setItem ref str") => `(tactic| (k_here; k_dflt (refine' p_setitem ?k1 ?k2 ?k3 ?k4 ?k5 ?k6 ?k7 ?_; (case k1 => k_asm); (case k2 => k_asm); (case k3 => k_mem); (case k4 => k_asm); (case k5 => k_updF); (case k6 => first | k_asm | exact rfl | exact ⟨_, rfl⟩); (case k7 => k_asm); k_whole); intro h' tk' o' es' ep' F' N' pd'; (try dsimp only at N'); (try k_sweep)))
local macro_rules | `(tactic| walk_at "call builtin:len") => `(tactic| (k_here; (with_reducible show wpAny _ _ (call (Value.builtin "len") [Value.ref _]) _ _ _); k_dflt (refine' p_len ?k3 ?k4 ?k5 ?_; (case k3 => first | exact PyProof.Rows.News.get (by k_asm) (by k_mem) | exact Fr.keep (by k_asm) _ _ (by assumption)); (case k4 => k_asm); (case k5 => first | with_reducible assumption | (exact nsys (by omega)) | k_asm); k_whole); intro t' tk'))
local macro_rules | `(tactic| walk_at "compareOp In str ref") => `(tactic| (k_here; k_dflt (refine' p_in ?k3 ?k4 ?k5 ?_; (case k3 => first | exact PyProof.Rows.News.get (by k_asm) (by k_mem) | exact Fr.keep (by k_asm) _ _ (by assumption)); (case k4 => k_asm); (case k5 => first | with_reducible assumption | (exact nsys (by omega)) | k_asm); k_whole); intro tk'))
local macro_rules | `(tactic| walk_at "compareOp NotIn str ref") => `(tactic| (k_here; k_dflt (refine' p_notin ?k3 ?k4 ?k5 ?_; (case k3 => first | exact PyProof.Rows.News.get (by k_asm) (by k_mem) | exact Fr.keep (by k_asm) _ _ (by assumption)); (case k4 => k_asm); (case k5 => first | with_reducible assumption | (exact nsys (by omega)) | k_asm); k_whole); intro tk'))
local macro_rules | `(tactic| walk_at "call builtin:hasattr") => `(tactic| (k_here; k_dflt (first
  | (refine' p_has ?k1 ?k2 ?k3 ?k4 ?_; (case k1 => k_asm); (case k2 => k_asm); (case k3 => first | exact PyProof.Rows.News.get (by k_asm) (by k_mem) | exact Fr.keep (by k_asm) _ _ (by assumption)); (case k4 => k_asm); k_whole; intro v' h' F' N' l1; (try k_lt l1); (try k_sweep))
  | (refine' p_hasnt ?k1 ?k2 ?k3 ?k4 ?k5 ?k6 ?k7 ?_; (case k1 => k_asm); (case k2 => k_asm); (case k3 => first | exact PyProof.Rows.News.get (by k_asm) (by k_mem) | exact Fr.keep (by k_asm) _ _ (by assumption)); (case k4 => first | with_reducible assumption | exact rfl | k_asm); (case k5 => first | with_reducible assumption | exact rfl | k_asm); (case k6 => first | with_reducible assumption | exact rfl | k_asm); (case k7 => exact Room.hd (by k_asm)); k_whole; intro h' tk' F' N'; (try k_sweep)))))
/-- the plain law of update: the pairs one after the other, by their great letters -/
def puts (D : DD) (ps : DD) : DD := ps.foldl (fun D p => put (Txt.upper p.1) p.2 D) D
theorem puts_nil (D : DD) : puts D [] = D := rfl
theorem puts_snoc (D ps : DD) (p : Str × V) : puts D (ps ++ [p]) = put (Txt.upper p.1) p.2 (puts D ps) := by simp [puts]
theorem puts_len (D ps : DD) : (puts D ps).length ≤ D.length + ps.length := by
  induction ps generalizing D with
  | nil => simp [puts]
  | cons p ps ih =>
    have := ih (put (Txt.upper p.1) p.2 D)
    have h2 := put_len (Txt.upper p.1) p.2 D
    show (puts (put (Txt.upper p.1) p.2 D) ps).length ≤ _
    simp only [List.length_cons]; omega
theorem puts_take {D ps : DD} {i : Nat} {k : Str} {u : V} (h : ps[i]? = some (k, u)) : puts D (ps.take (i + 1)) = put (Txt.upper k) u (puts D (ps.take i)) := by
  rw [List.take_add_one, h]; exact puts_snoc ..
/-- a list's items are pairs that the objects tl hold -/
def PairsIn (tl : List (Addr × Obj)) (vs : Array Value) (ps : DD) : Prop := vs.size = ps.length ∧ ∀ (i : Nat) (k : Str) (u : V), ps[i]? = some (k, u) → ∃ t tk x, vs[i]? = some (Value.ref t) ∧ (t, tup2 (.str k tk) x) ∈ tl ∧ VIs u x
/-- what update may be told: a list of pairs or a plain dict -/
inductive Src (h : Heap) (M : Addr) (ps : DD) : Prop
  | list (lo : Obj) (vs : Array Value) (ep : Nat) (tl : List (Addr × Obj)) (a : h.get? M = some lo) (c : lo.cls = .type "list") (d : lo.data = .seq vs ep) (n : lo.dict = none) (P : PairsIn tl vs ps) (k : ∀ q ∈ tl, h.get? q.1 = some q.2 ∧ q.2.cls = .type "tuple") : Src h M ps
  | dict (o : Obj) (es : List DictEntry) (ep : Nat) (a : h.get? M = some o) (P : PD o ps es ep) (s : (M == sysModules) = false) : Src h M ps
theorem Src.base {h g : Heap} {x dx M : Addr} {o od : Obj} {ps : DD} (S : Src h M ps) (A1 : ∀ b q, b ∉ [(x, o), (dx, od)].map (·.1) → h.get? b = some q → g.get? b = some q) (hx : h.get? x = some o) (hdx : h.get? dx = some od) (c1 : o.cls = Value.ref 169) (c2 : od.cls = Value.type "dict") (n : M ≠ dx) : Src g M ps := by
  have key : ∀ b q, b ≠ x → b ≠ dx → h.get? b = some q → g.get? b = some q := fun b q n1 n2 e => A1 b q (by simpa using ⟨n1, n2⟩) e
  cases S with
  | list lo vs ep tl a c d nn P k =>
    refine .list lo vs ep tl (key _ _ ?_ n a) c d nn P fun q hq => ⟨key _ _ ?_ ?_ (k q hq).1, (k q hq).2⟩
    · rintro rfl; rw [hx] at a; cases a; rw [c1] at c; cases c
    · rintro e; have := (k q hq).1; rw [e, hx] at this; cases this; have := (k q hq).2; rw [c1] at this; cases this
    · rintro e; have := (k q hq).1; rw [e, hdx] at this; cases this; have := (k q hq).2; rw [c2] at this; exact absurd (Value.type.inj this) (by decide)
  | dict o' es ep a P s =>
    refine .dict o' es ep (key _ _ ?_ n a) P s
    rintro rfl; rw [hx] at a; cases a; have := P.cls; rw [c1] at this; cases this
section
variable {prog : Program} {w : World} {A : Around}
theorem iter_pairs (hh : A.handled = none) {I l : Addr} {lo : Obj} {vs : Array Value} {ep : Nat} {tl : List (Addr × Obj)} {ps : DD} (hc : lo.cls = .type "list") (hd : lo.data = .seq vs ep) (hP : PairsIn tl vs ps) (hIk : ∀ q ∈ (l, lo) :: tl, q.1 ≠ I) :
    Iter prog w A I ps.length (SList l) ((l, lo) :: tl) (fun i v h => ∃ k u, ps[i]? = some (k, u) ∧ IsPair I k u v h) := by
  rw [← hP.1]
  refine iter_list hh hc hd _ (.head _) hIk (fun i h hi hk => ?_) fun i v h h' p e => Exists.elim p fun k q => Exists.elim q fun u r => ⟨k, u, r.1, r.2.ext e⟩
  have hi' : i < ps.length := by rw [← hP.1]; exact hi
  obtain ⟨t, tk, x, e1, e2, e3⟩ := hP.2 i ps[i].1 ps[i].2 (by simp [hi'])
  refine ⟨ps[i].1, ps[i].2, by simp [hi'], t, tk, x, ?_, hIk _ (.tail _ e2), hk _ (.tail _ e2), e3⟩
  rw [Array.getD_eq_getD_getElem?, e1]; rfl
end
/-- the words of the call -/
def KwIs (kw : List (Str × Value)) (kd : DD) : Prop := kw.length = kd.length ∧ ∀ (i : Nat) (k : Str) (v : Value), kw[i]? = some (k, v) → ∃ u, kd[i]? = some (k, u) ∧ VIs u v
theorem KwIs.ents {P : Params} : ∀ {kw : List (Str × Value)} {kd : DD} {t : Tok}, KwIs kw kd → Ents (kwEs P t kw) kd
  | [], [], _, _ => .nil
  | [], _ :: _, _, h => by have := h.1; simp at this
  | _ :: _, [], _, h => by have := h.1; simp at this
  | x :: kw, y :: kd, t, h => by
    obtain ⟨u, e, hv⟩ := h.2 0 x.1 x.2 rfl
    have e' : y = (x.1, u) := by simpa using e
    subst e'
    exact .cons (t := t) rfl hv (KwIs.ents ⟨by have := h.1; simpa using this, fun i k v hi => by
      have := h.2 (i + 1) k v (by simpa using hi)
      simpa using this⟩)
theorem KwIs.pd {P : Params} {kw : List (Str × Value)} {kd : DD} {t : Tok} {n : Nat} (h : KwIs kw kd) (hl : kd.length ≤ 1000) : PD (dictOf (kwEs P t kw) n) kd (kwEs P t kw) n := ⟨rfl, rfl, rfl, h.ents, hl⟩
theorem news_cons {g h : Heap} {L a : Addr} {o : Obj} {big r : List (Addr × Obj)} (N : News g L h big) (h1 : (a, o) ∈ big) (h2 : News g L h r) : News g L h ((a, o) :: r) := fun q hq => by
  rcases List.mem_cons.mp hq with rfl | hq
  · exact N _ h1
  · exact h2 q hq
theorem news_nil {g h : Heap} {L : Addr} : News g L h [] := fun _ hq => nomatch hq
theorem puts_fit {D ps : DD} {i : Nat} {k : Str} {u : V} (h : D.length + ps.length ≤ 900) : (put k u (puts D (ps.take i))).length ≤ 1000 := by
  have e1 := put_len k u (puts D (ps.take i))
  have e2 := puts_len D (ps.take i)
  have e3 : (ps.take i).length ≤ ps.length := List.length_take_le' i ps
  omega
section
variable {prog : Program} {w : World} {A : Around} {E : Value → Shared → Prop} {s : Shared} {Q : Value → Shared → Prop}
theorem p_iter {v : Value} (h : wpAny (model prog w) A.in1 (pyIter v) Q E s) : wpAny (model prog w) A (call (.builtin "iter") [v]) Q E s := by
  refine Calls.call_function_entry (by decide +kernel) (by decide +kernel) kdk_entry_iter (kdk_args_iter _) ?_
  unfold Builtin.«iter»
  refine wpAny_bind (wpAny_of_eq (a := [v]) (by first | rfl | kernel_rfl) ?_)
  exact wpAny_bind (wpAny_mono h (fun v s' hq => wpAny_pure ⟨_, rfl, hq⟩) fun _ _ e => e)
end
local macro_rules | `(tactic| walk_at "eval Name") => `(tactic| (k_here; k_dflt (refine' nameX_L ?F ?v ?_ ?a ?b; (case F => k_asm); (case a => rfl); (case b => rfl); (case v => assumption); k_whole)))
local macro_rules | `(tactic| walk_at "call builtin:iter") => `(tactic| (k_here; refine p_iter ?_; k_dflt (first
  | (refine' U_iter_items ?k1 ?k2 ?k3 ?k4 ?k5 ?_; (case k1 => k_asm); (case k2 => k_asm); (case k3 => exact PyProof.Rows.News.get (by k_asm) (by k_mem)); (case k4 => first | exact PyProof.Rows.News.get (by k_asm) (by k_mem) | exact Fr.keep (by k_asm) _ _ (by assumption)); (case k5 => exact PD.isd (by assumption)); k_whole; intro v' h' F' N' l1 lm1; (try k_lt l1); (try k_sweep)))))
set_option maxHeartbeats 4000000 in
theorem C_update {w : World} {G : Heap} {A : Around} {s : Shared} {p : Program} {loose : List Str} {mean : ExcName → Option Value} {mg mb : Str → Option Value} {R : Result → Shared → Prop} (X : (hd.heap_39 w.params).In G) (T : Top p loose mean mg mb G) (SG : G.StaysIn s.heap) (RM : Room 20 A) {x dx M : Addr} {o od : Obj} {D ps kd : DD} {es : List DictEntry} {ep : Nat} {kw : List (Str × Value)}
    (hx : At G s.heap x o) (hdx : At G s.heap dx od) (TD1 : TD o dx D es ep) (hsys : (x == sysModules) = false) (hne : @Ne Nat dx x) (hod : od.cls = .type "dict")
    (SR : Src s.heap M ps) (hMd : M ≠ dx) (KW1 : KwIs kw kd) (hkw : ∀ x ∈ kw, x.1 ≠ Str.ofString "self") (hd : kwDistinct kw = true) (hl : kw.length ≤ 100)
    (hps : ∀ p ∈ ps, p.1.length ≤ 100) (hks : ∀ p ∈ kd, p.1.length ≤ 100) (hsz : D.length + ps.length + kd.length ≤ 900)
    (hQ : ∀ h' tk' o' es' ep', Ext [x] s.heap h' → h'.get? x = some o' → TD o' dx (puts (puts D ps) kd) es' ep' → R (.ok (.ret .none)) { s with heap := h', toks := tk' }) :
    codeAny (model PySem.Challenge.rw_co0001_01.row.prog w) A (.call (.ref 138) ⟨.ref x :: [.ref M], kw⟩) R s := by
  k_dflt (refine' call_star X T SG RM [(x, o), (dx, od)] (at2 hx hdx) ?k6 ?k7 ?k8 hkw hd hl ?k9 ?kB ?_ ?c5 ?c2 ?c3 ?c4)
  case k6 => k_is
  case k7 => k_is
  case k8 => exact ⟨rfl, rfl, rfl, ⟨_, rfl, rfl⟩, ⟨_, rfl, rfl⟩⟩
  case k9 => show 1 ≤ 100; decide
  case kB => intro C D; k_dflt exact locs rfl
  case c5 => k_dflt decide
  case c2 => k_dflt exact rfl
  case c3 => k_dflt exact rfl
  case c4 => k_dflt exact rfl
  k_whole
  intro C KW g' L' h₁ tk0 SG' A1 A2 F N X' T' L1 L0 L2 L3 RM'
  k_lt L1
  clear X T SG RM
  have SR' : Src g' M ps := SR.base A1 hx.1 hdx.1 TD1.cls hod hMd
  have KD := KW1.pd (P := w.params) (t := s.toks) (n := kw.length) (by omega)
  have hGKW := (N _ (.head _)).2.2
  generalize dictOf (kwEs w.params s.toks kw) kw.length = okw at N KD
  generalize kwEs w.params s.toks kw = eskw at KD
  have hKs : (KW == sysModules) = false := nsys (Nat.lt_trans L0 L2)
  try dsimp only
  try k_fold
  repeat' ((fail_if_success (with_reducible show wpAny _ _ (exec (Stmt.For _ _ _ _ _) _) _ _ _)); first | walk1 | (dsimp only; walk1))
  refine For_it ?_
  walk1
  rename_i Dm hc ld hd' F9 N9
  have N10 : News g' L' hd' [(Dm, listOf #[.ref M, .ref KW] 0), (KW, okw), (x, o), (dx, od)] := news_cons N9 (by k_mem) (news_cons N9 (by k_mem) (news_cons N9 (by k_mem) (news_cons N9 (by k_mem) news_nil)))
  clear N9
  refine U_iter_list F9 N10 (N10 _ (.head _)).1 rfl rfl fun I hI FI NI lI lmI => ?_
  k_lt lI
  refine for_name (n := 2) (keep := [(Dm, listOf #[.ref M, .ref KW] 0)]) (P := fun i v _ => (#[Value.ref M, .ref KW])[i]? = some v) (iter_list (items := #[Value.ref M, .ref KW]) RM'.hd rfl rfl _ (.head _) ?a1 ?a2 ?a3) ?a1 rfl rfl FI NI ⟨rfl, rfl⟩ ?a4
    (fun i m₁ news₁ => m₁ (Str.ofString "self") = some (.ref x) ∧ ∃ o' es' ep', TD o' dx (if i = 0 then D else if i = 1 then puts D ps else puts (puts D ps) kd) es' ep' ∧ news₁ = [(Dm, listOf #[.ref M, .ref KW] 0), (KW, okw), (x, o'), (dx, od)]) ⟨rfl, o, es, ep, TD1, rfl⟩ ?a5 ?turn ?a6 ?done
  case a1 => intro q hq; rw [List.mem_singleton.mp hq]; exact neN (by omega)
  case a2 =>
    intro i h hi hk
    have hi' : i < 2 := hi
    rcases i with _ | _ | i <;> first | rfl | omega
  case a3 => exact fun _ _ _ _ p _ => p
  case a4 => k_all
  case a5 => rintro i m₁ news₁ ⟨_, o', es', ep', _, rfl⟩ q hq; rw [List.mem_singleton.mp hq]; exact .inl (.head _)
  case a6 => exact fun _ _ _ _ p _ => p
  case turn =>
    rintro i v m₁ news₁ h tk oI hi hv ⟨hself, o', es', ep', td', rfl⟩ hoff F N
    rcases i with _ | _ | i
    · have hv' : v = .ref M := by simpa using hv.symm
      subst hv'
      simp only [if_true] at td'
      change Fr g' L' h _ at F
      change News g' L' h _ at N
      rcases SR' with ⟨lo, vs, ep1, tl, a, c, d, nn, P, kk⟩ | ⟨om, esm, epm, am, Pm, sm⟩
      · try k_fold
        repeat' ((fail_if_success (with_reducible show wpAny _ _ (exec (Stmt.For _ _ _ _ _) _) _ _ _)); first | walk1 | (dsimp only; walk1))
        refine For_it ?_
        walk1
        rename_i h8 tk8 F8 N8
        refine U_iter_list F8 N8 (F8.keep _ _ a) c d fun I2 hI2 FI2 NI2 lI2 lmI2 => ?_
        k_lt lI2
        have b1 : ∀ q ∈ (M, lo) :: tl, q.1 ≠ I2 := fun q hq e => by
          have z := (NI2 _ (.head _)).2.2
          rcases List.mem_cons.mp hq with rfl | hq
          · rw [← e, a] at z; cases z
          · have := (kk q hq).1; rw [e, z] at this; cases this
        refine for_pairs RM'.hd (iter_pairs RM'.hd c d P b1) b1 rfl rfl rfl FI2 NI2 ⟨rfl, rfl⟩ ?b2 (fun i news₁ => ∃ o' es' ep', TD o' dx (puts D (ps.take i)) es' ep' ∧ news₁ = [(I, oI), (Dm, listOf #[.ref M, .ref KW] 0), (KW, okw), (x, o'), (dx, od)]) ⟨o', es', ep', td', rfl⟩ ?b3 ?turn2 ?done2
        case b2 => k_all
        case b3 =>
          rintro i news₁ _ q hq
          rcases List.mem_cons.mp hq with rfl | hq
          · exact .inr a
          · exact .inr (kk q hq).1
        case turn2 =>
          rintro i k u news₁ h tk oI2 tkk xv hpi ⟨o', es', ep', td', rfl⟩ hv hoff2 F N
          change Fr g' L' h _ at F
          change News g' L' h _ at N
          have hk1 : k.length ≤ 100 := hps _ (List.mem_of_getElem? hpi)
          have hk2 : (put (Txt.upper k) u (puts D (ps.take i))).length ≤ 1000 := puts_fit (by first | omega | (have := puts_len D ps; omega))
          try k_fold
          repeat' (first | k_unfold | walk1 | (dsimp only; walk1))
          rename_i h9 tk9 o9 es9 ep9 F9 N9 td9
          refine ⟨rfl, _, _, _, [(I, oI), (Dm, listOf #[.ref M, .ref KW] 0), (KW, okw), (x, o9), (dx, od)], _, rfl, F9, N9, by k_mem, ?_, ?_, fun y n1 n2 => ?_, o9, es9, ep9, ?_, rfl⟩
          · exact fun q hq => List.mem_cons_of_mem _ hq
          · k_all
          · simp [n1, n2]
          · rw [puts_take hpi]; exact td9

        case done2 =>
          rintro h tk m' news₁ hag ⟨o', es', ep', td', rfl⟩ F N
          change Fr g' L' h _ at F
          change News g' L' h _ at N
          have hself' : m' (Str.ofString "self") = some (.ref x) := by rw [hag _ (by decide) (by decide)]; exact hself
          rw [List.take_length] at td'
          try dsimp only
          k_dflt (refine wpAny_execs_nil ?_)
          refine ⟨_, _, m', [(Dm, listOf #[.ref M, .ref KW] 0), (KW, okw), (x, o'), (dx, od)], _, rfl, F, N, by k_mem, ?_, ?_, hself', o', es', ep', td', rfl⟩
          · exact fun q hq => List.mem_cons_of_mem _ hq
          · k_all

      · try k_fold
        repeat' ((fail_if_success (with_reducible show wpAny _ _ (exec (Stmt.For _ _ _ _ _) _) _ _ _)); first | walk1 | (dsimp only; walk1))
        refine For_it ?_
        walk1
        rename_i I2 hI2 lmI2 lI2 h8 F8 N8
        refine U_iter_itemit (N8 _ (.head _)).1 ?_
        have N11 := news_cons N8 (.head _) (news_cons N8 (show (I, oI) ∈ _ by k_mem) (news_cons N8 (show (Dm, listOf #[.ref M, .ref KW] 0) ∈ _ by k_mem) (news_cons N8 (show (KW, okw) ∈ _ by k_mem) (news_cons N8 (show (x, o') ∈ _ by k_mem) (news_cons N8 (show (dx, od) ∈ _ by k_mem) news_nil)))))
        clear N8
        refine for_pairs RM'.hd (iter_items RM'.hd Pm.isd (neN (by omega))) ?b1 rfl rfl rfl F8 N11 ⟨_, _, _, _, rfl, .inl rfl⟩ ?b2 (fun i news₁ => ∃ o' es' ep', TD o' dx (puts D (ps.take i)) es' ep' ∧ news₁ = [(I, oI), (Dm, listOf #[.ref M, .ref KW] 0), (KW, okw), (x, o'), (dx, od)]) ⟨o', es', ep', td', rfl⟩ ?b3 ?turn2 ?done2
        case b1 => intro q hq; rw [List.mem_singleton.mp hq]; exact neN (by omega)
        case b2 => k_all
        case b3 =>
          rintro i news₁ ⟨o'', es'', ep'', _, rfl⟩ q hq
          rw [List.mem_singleton.mp hq]
          exact .inr am
        case turn2 =>
          rintro i k u news₁ h tk oI2 tkk xv hpi ⟨o', es', ep', td', rfl⟩ hv hoff2 F N
          change Fr g' L' h _ at F
          change News g' L' h _ at N
          have hk1 : k.length ≤ 100 := hps _ (List.mem_of_getElem? hpi)
          have hk2 : (put (Txt.upper k) u (puts D (ps.take i))).length ≤ 1000 := puts_fit (by first | omega | (have := puts_len D ps; omega))
          try k_fold
          repeat' (first | k_unfold | walk1 | (dsimp only; walk1))
          rename_i h9 tk9 o9 es9 ep9 F9 N9 td9
          refine ⟨rfl, _, _, _, [(I, oI), (Dm, listOf #[.ref M, .ref KW] 0), (KW, okw), (x, o9), (dx, od)], _, rfl, F9, N9, by k_mem, ?_, ?_, fun y n1 n2 => ?_, o9, es9, ep9, ?_, rfl⟩
          · exact fun q hq => List.mem_cons_of_mem _ hq
          · k_all
          · simp [n1, n2]
          · rw [puts_take hpi]; exact td9

        case done2 =>
          rintro h tk m' news₁ hag ⟨o', es', ep', td', rfl⟩ F N
          change Fr g' L' h _ at F
          change News g' L' h _ at N
          have hself' : m' (Str.ofString "self") = some (.ref x) := by rw [hag _ (by decide) (by decide)]; exact hself
          rw [List.take_length] at td'
          try dsimp only
          k_dflt (refine wpAny_execs_nil ?_)
          refine ⟨_, _, m', [(Dm, listOf #[.ref M, .ref KW] 0), (KW, okw), (x, o'), (dx, od)], _, rfl, F, N, by k_mem, ?_, ?_, hself', o', es', ep', td', rfl⟩
          · exact fun q hq => List.mem_cons_of_mem _ hq
          · k_all

    · have hv' : v = .ref KW := by simpa using hv.symm
      subst hv'
      simp only [Nat.zero_add, Nat.one_ne_zero, if_false, if_true] at td'
      change Fr g' L' h _ at F
      change News g' L' h _ at N
      · try k_fold
        repeat' ((fail_if_success (with_reducible show wpAny _ _ (exec (Stmt.For _ _ _ _ _) _) _ _ _)); first | walk1 | (dsimp only; walk1))
        refine For_it ?_
        walk1
        rename_i I2 hI2 lmI2 lI2 h8 F8 N8
        refine U_iter_itemit (N8 _ (.head _)).1 ?_
        have N11 := news_cons N8 (.head _) (news_cons N8 (show (I, oI) ∈ _ by k_mem) (news_cons N8 (show (Dm, listOf #[.ref M, .ref KW] 0) ∈ _ by k_mem) (news_cons N8 (show (KW, okw) ∈ _ by k_mem) (news_cons N8 (show (x, o') ∈ _ by k_mem) (news_cons N8 (show (dx, od) ∈ _ by k_mem) news_nil)))))
        clear N8
        refine for_pairs RM'.hd (iter_items RM'.hd KD.isd (neN (by omega))) ?b1 rfl rfl rfl F8 N11 ⟨_, _, _, _, rfl, .inl rfl⟩ ?b2 (fun i news₁ => ∃ o' es' ep', TD o' dx (puts (puts D ps) (kd.take i)) es' ep' ∧ news₁ = [(I, oI), (Dm, listOf #[.ref M, .ref KW] 0), (KW, okw), (x, o'), (dx, od)]) ⟨o', es', ep', td', rfl⟩ ?b3 ?turn2 ?done2
        case b1 => intro q hq; rw [List.mem_singleton.mp hq]; exact neN (by omega)
        case b2 => k_all
        case b3 =>
          rintro i news₁ ⟨o'', es'', ep'', _, rfl⟩ q hq
          rw [List.mem_singleton.mp hq]
          exact .inl (by k_mem)
        case turn2 =>
          rintro i k u news₁ h tk oI2 tkk xv hpi ⟨o', es', ep', td', rfl⟩ hv hoff2 F N
          change Fr g' L' h _ at F
          change News g' L' h _ at N
          have hk1 : k.length ≤ 100 := hks _ (List.mem_of_getElem? hpi)
          have hk2 : (put (Txt.upper k) u (puts (puts D ps) (kd.take i))).length ≤ 1000 := puts_fit (by first | omega | (have := puts_len D ps; omega))
          try k_fold
          repeat' (first | k_unfold | walk1 | (dsimp only; walk1))
          rename_i h9 tk9 o9 es9 ep9 F9 N9 td9
          refine ⟨rfl, _, _, _, [(I, oI), (Dm, listOf #[.ref M, .ref KW] 0), (KW, okw), (x, o9), (dx, od)], _, rfl, F9, N9, by k_mem, ?_, ?_, fun y n1 n2 => ?_, o9, es9, ep9, ?_, rfl⟩
          · exact fun q hq => List.mem_cons_of_mem _ hq
          · k_all
          · simp [n1, n2]
          · rw [puts_take hpi]; exact td9

        case done2 =>
          rintro h tk m' news₁ hag ⟨o', es', ep', td', rfl⟩ F N
          change Fr g' L' h _ at F
          change News g' L' h _ at N
          have hself' : m' (Str.ofString "self") = some (.ref x) := by rw [hag _ (by decide) (by decide)]; exact hself
          rw [List.take_length] at td'
          try dsimp only
          k_dflt (refine wpAny_execs_nil ?_)
          refine ⟨_, _, m', [(Dm, listOf #[.ref M, .ref KW] 0), (KW, okw), (x, o'), (dx, od)], _, rfl, F, N, by k_mem, ?_, ?_, hself', o', es', ep', td', rfl⟩
          · exact fun q hq => List.mem_cons_of_mem _ hq
          · k_all

    · omega
  case done =>
    rintro h tk m' news₁ ⟨hself, o', es', ep', td', rfl⟩ F N
    change Fr g' L' h _ at F
    change News g' L' h _ at N
    try dsimp only
    k_dflt (refine wpAny_execs_nil ?_)
    exact hQ _ _ _ _ _ (ext_one2 (A2 _ F.keep) hdx N (by k_mem)) (N.get (show (x, o') ∈ _ by k_mem)) td'
def puts1 (D0 D : DD) : DD := D.foldl (fun D p => put p.1 p.2 D) D0
theorem puts1_len (D ps : DD) : (puts1 D ps).length ≤ D.length + ps.length := by
  induction ps generalizing D with
  | nil => simp [puts1]
  | cons p ps ih =>
    have := ih (put p.1 p.2 D)
    have h2 := put_len p.1 p.2 D
    show (puts1 (put p.1 p.2 D) ps).length ≤ _
    simp only [List.length_cons]; omega
theorem puts1_take {D ps : DD} {i : Nat} {k : Str} {u : V} (h : ps[i]? = some (k, u)) : puts1 D (ps.take (i + 1)) = put k u (puts1 D (ps.take i)) := by
  rw [List.take_add_one, h]; simp [puts1]
theorem puts1_fit {D ps : DD} {i : Nat} {k : Str} {u : V} (h : D.length + ps.length ≤ 900) : (put k u (puts1 D (ps.take i))).length ≤ 1000 := by
  have e1 := put_len k u (puts1 D (ps.take i))
  have e2 := puts1_len D (ps.take i)
  have e3 : (ps.take i).length ≤ ps.length := List.length_take_le' i ps
  omega
/-- the keys, each once -/
def Keys (D : DD) : List Str := D.map (·.1)
theorem lk_none {k : Str} : ∀ {D : DD}, k ∉ Keys D → lk k D = none
  | [], _ => rfl
  | (x, u) :: D, h => by
    have h1 : x ≠ k := fun e => h (by simp [Keys, e])
    have h2 : k ∉ Keys D := fun e => h (List.mem_cons_of_mem _ e)
    simp only [lk, if_neg h1]; exact lk_none h2
theorem lk_some {k : Str} : ∀ {D : DD}, k ∈ Keys D → ∃ u, lk k D = some u
  | [], h => nomatch h
  | (x, u) :: D, h => by
    by_cases e : x = k
    · exact ⟨u, by simp [lk, e]⟩
    · simp only [lk, if_neg e]
      rcases List.mem_cons.mp h with q | q
      · exact absurd q.symm e
      · exact lk_some q
theorem lk_isSome {k : Str} {D : DD} : (lk k D).isSome = decide (k ∈ Keys D) := by
  by_cases h : k ∈ Keys D
  · obtain ⟨u, e⟩ := lk_some h; simp [e, h]
  · simp [lk_none h, h]
theorem put_new {k : Str} {u : V} : ∀ {D : DD}, k ∉ Keys D → put k u D = D ++ [(k, u)]
  | [], _ => rfl
  | (x, v) :: D, h => by
    have h1 : x ≠ k := fun e => h (by simp [Keys, e])
    simp only [put, if_neg h1, List.cons_append]
    rw [put_new fun e => h (List.mem_cons_of_mem _ e)]
theorem keys_put (k : Str) (u : V) : ∀ D : DD, Keys (put k u D) = if k ∈ Keys D then Keys D else Keys D ++ [k]
  | [] => by simp [put, Keys]
  | (x, v) :: D => by
    by_cases e : x = k
    · subst e; simp [put, Keys]
    · have ih := keys_put k u D
      have e' : k ≠ x := Ne.symm e
      simp only [put, if_neg e]
      show x :: Keys (put k u D) = _
      rw [ih]
      by_cases m : k ∈ Keys D
      · simp [Keys, e'] at m ⊢; simp [m]
      · have : k ∉ Keys ((x, v) :: D) := by simp only [Keys, List.map_cons, List.mem_cons, not_or]; exact ⟨e', m⟩
        rw [if_neg m, if_neg this]; rfl
theorem puts1_new : ∀ {D D0 : DD}, (Keys D).Nodup → (∀ k ∈ Keys D, k ∉ Keys D0) → puts1 D0 D = D0 ++ D
  | [], D0, _, _ => by simp [puts1]
  | (k, u) :: D, D0, h1, h2 => by
    obtain ⟨n1, n2⟩ := List.nodup_cons.mp h1
    show puts1 (put k u D0) D = _
    rw [put_new (h2 k (.head _)), puts1_new n2 fun k' hk' hm => ?_]
    · simp
    · have hk2 := h2 k' (.tail _ hk')
      simp only [Keys, List.map_append, List.mem_append] at hm
      rcases hm with hm | hm
      · exact hk2 hm
      · have : k' = k := by simpa using hm
        exact n1 (this ▸ hk')
theorem puts1_nil {D : DD} (h : (Keys D).Nodup) : puts1 [] D = D := by rw [puts1_new h fun _ _ h => absurd h List.not_mem_nil]; rfl
section
variable {prog : Program} {w : World} {A : Around} {E : Value → Shared → Prop} {s : Shared} {d : Addr} {o : Obj} {D : DD} {es : List DictEntry} {ep : Nat} {k : Str} {tk : Tok}
theorem setH_D {u : V} {v : Value} {hsh : Int} {Q : Unit → Shared → Prop} (ho : s.heap.get? d = some o) (I : IsD o D es ep) (hv : VIs u v) (hl : (put k u D).length ≤ 1000)
    (h : ∀ h', Changed d s.heap h' o (put k u D) → Q () { s with heap := h' }) : wpAny (model prog w) A (dictSetHashed d (.str k tk) hsh v) Q E s := by
  unfold dictSetHashed
  refine wpAny_holding (wpAny_bind (find_D ho I ?_))
  rcases I.ents.at k with ⟨a, b, c, -⟩ | ⟨i, e, u0, a, b, c, hi, f, g, -⟩
  · rw [b]
    exact wpAny_bind (wpAny_rule (updK_D (es' := es ++ [⟨hsh, .str k tk, v⟩]) ho I (by simp) (c u ▸ I.ents.snoc hv) hl fun h' hc => h h' hc))
  · rw [b]
    exact wpAny_bind (wpAny_rule (wpAny_bind (upd_D ho I (by simp) (g v u hv) hl (by simp) fun h' hc => wpAny_point (h h' hc))))
theorem put_D {u : V} {v : Value} {hsh : Int} {Q : Unit → Shared → Prop} (ho : s.heap.get? d = some o) (I : IsD o D es ep) (hv : VIs u v) (hl : (put k u D).length ≤ 1000)
    (h : ∀ h', Changed d s.heap h' o (put k u D) → Q () { s with heap := h' }) : wpAny (model prog w) A (dictPut d hsh (.str k tk) v) Q E s := by
  unfold dictPut
  refine wpAny_bind (find_D ho I ?_)
  rcases I.ents.at k with ⟨a, b, c, -⟩ | ⟨i, e, u0, a, b, c, hi, f, g, -⟩
  · rw [b]
    exact updK_D (es' := es ++ [⟨hsh, .str k tk, v⟩]) ho I (by simp) (c u ▸ I.ents.snoc hv) hl fun h' hc => h h' hc
  · rw [b]
    exact upd_D ho I (by simp) (g v u hv) hl (by simp) fun h' hc => h h' hc
theorem merge_PD {a : Addr} {od : Obj} {D0 : DD} {es0 : List DictEntry} {ep0 : Nat} {unique : Bool} {Q : Unit → Shared → Prop} (hd : s.heap.get? d = some od) (Td : PD od D0 es0 ep0) (ha : s.heap.get? a = some o) (Ta : PD o D es ep) (hne : a ≠ d) (hs : (a == sysModules) = false)
    (hu : unique = true → D0 = [] ∧ (Keys D).Nodup) (hl : D0.length + D.length ≤ 900)
    (h : ∀ h' tk' od' es' ep', Ext [d] s.heap h' → h'.get? d = some od' → PD od' (puts1 D0 D) es' ep' → Q () { s with heap := h', toks := tk' }) : wpAny (model prog w) A (mergeMapping d (.ref a) unique) Q E s := by
  have hT : s.TypeIs (.ref a) "dict" := Ta.ty ha
  have hz : es.toArray.size = D.length := by rw [List.size_toArray, Ta.isd.ents.len]
  unfold mergeMapping
  refine wpAny_bind (wpAny_isInstance hT isSubtype_dict_dict ?_)
  simp only [if_true]
  refine wpAny_bind (wpAny_specialOf hT PySem.F.slot_dict_iter.lookup ?_)
  refine wpAny_bind (wpAny_pure ?_)
  simp only [beq_self_eq_true, hs, Bool.false_eq_true, if_false]
  have main : wpAny (model prog w) A (do
      let size := (← dictEntries a).size
      let epoch ← dictEpoch a
      for i in List.range size do
        let some e := (← dictEntries a)[i]? | unsupported "dict.changed-during-merge"
        holding [e.key, e.val] do
          if unique then
            if (← dictFind d e.key e.hash).isSome then rule "dict.merge.duplicate-key"; raiseNew (← newExc (.type "KeyError") [e.key])
          dictPut d e.hash e.key e.val
        if (← dictEpoch a) != epoch then unsupported "dict.changed-during-merge") Q E s := by
    refine wpAny_bind (wpAny_dictEntries ha Ta.isd.data ?_)
    refine wpAny_bind (wpAny_dictEpoch ha Ta.isd.data ?_)
    dsimp only
    rw [hz]
    refine wpAny_bind (wpAny_forIn_list _ (fun rest _ s' => ∃ i, i ≤ D.length ∧ rest = (List.range D.length).drop i ∧ ∃ h' tk' od' es' ep', s' = { s with heap := h', toks := tk' } ∧ Ext [d] s.heap h' ∧ h'.get? d = some od' ∧ PD od' (puts1 D0 (D.take i)) es' ep') _ ?_ ?_ _ _ ⟨0, Nat.zero_le _, rfl, s.heap, s.toks, od, es0, ep0, rfl, Ext.refl, hd, Td⟩)
    · rintro x rest b s1 ⟨i, hi, hx, h', tk', od', es', ep', rfl, e, hd', Pd⟩
      have hlt : i < D.length := by
        rcases Nat.lt_or_ge i D.length with q | q
        · exact q
        · rw [List.drop_eq_nil_of_le (by simpa using q)] at hx; cases hx
      rw [List.drop_eq_getElem_cons (by simpa using hlt)] at hx
      obtain ⟨hx1, hx2⟩ := List.cons.inj hx
      have hxi : x = i := by rw [hx1]; simp
      subst hxi
      have ha' : h'.get? a = some o := e.one hne ha
      have hes : x < es.length := by rw [Ta.isd.ents.len]; exact hlt
      obtain ⟨k, t, u, k1, k2, k3⟩ := Ta.isd.ents.get hes
      refine wpAny_bind (wpAny_dictEntries (s := { s with heap := h', toks := tk' }) ha' Ta.isd.data ?_)
      have g : es.toArray[x]? = some es[x] := by simp [hes]
      rw [g]
      dsimp only
      have nf : unique = true → (es'.findIdx? fun q => q.key.isStr k) = none := fun q => by
        obtain ⟨r1, r2⟩ := hu q
        have z : lk k (puts1 D0 (D.take x)) = none := by
          subst r1
          have n2 : (Keys (D.take x)).Nodup := by
            have : Keys (D.take x) = (Keys D).take x := by simp [Keys, List.map_take]
            rw [this]; exact r2.sublist (List.take_sublist _ _)
          rw [puts1_nil n2]
          refine lk_none fun m => ?_
          have d1 : Keys D = Keys (D.take x) ++ Keys (D.drop x) := by rw [← List.take_append_drop x D]; simp [Keys]
          rw [d1] at r2
          have d2 : k ∈ Keys (D.drop x) := by
            rw [List.drop_eq_getElem_cons hlt]
            have : D[x] = (k, u) := by have := List.getElem?_eq_getElem hlt; rw [k3] at this; exact (Option.some.inj this).symm
            rw [this]; exact .head _
          exact (List.nodup_append.mp r2).2.2 k m k d2 rfl
        rcases Pd.isd.ents.at k with ⟨_, b, _, _⟩ | ⟨_, _, _, b, _⟩
        · exact b
        · rw [z] at b; cases b
      rw [k1]
      cases unique with
      | false =>
        simp only [Bool.false_eq_true, if_false]
        refine wpAny_bind (wpAny_holding ?_)
        refine put_D hd' Pd.isd k2 (puts1_fit hl) fun h'' c => ?_
        have e2 := changed_ext c
        refine wpAny_bind (wpAny_dictEpoch (e2.one hne ha') Ta.isd.data ?_)
        rw [if_neg (by simp)]
        obtain ⟨es2, ep2, g2, I2⟩ := c.2
        refine wpAny_pure ⟨x + 1, hlt, hx2, h'', tk', _, es2, ep2, rfl, e.trans e2, g2, ?_⟩
        rw [puts1_take k3]
        exact Pd.with I2
      | true =>
        simp only [if_true]
        refine wpAny_bind (wpAny_holding (wpAny_bind (find_D hd' Pd.isd ?_)))
        rw [nf rfl]
        simp only [Option.isSome_none, Bool.false_eq_true, if_false]
        refine put_D hd' Pd.isd k2 (puts1_fit hl) fun h'' c => ?_
        have e2 := changed_ext c
        refine wpAny_bind (wpAny_dictEpoch (e2.one hne ha') Ta.isd.data ?_)
        rw [if_neg (by simp)]
        obtain ⟨es2, ep2, g2, I2⟩ := c.2
        refine wpAny_pure ⟨x + 1, hlt, hx2, h'', tk', _, es2, ep2, rfl, e.trans e2, g2, ?_⟩
        rw [puts1_take k3]
        exact Pd.with I2
    · rintro b s1 ⟨i, hi, hx, h', tk', od', es', ep', rfl, e, hd', Pd⟩
      have hin : i = D.length := by
        rcases Nat.lt_or_ge i D.length with q | q
        · rw [List.drop_eq_getElem_cons (by simpa using q)] at hx; cases hx
        · omega
      subst hin
      rw [List.take_length] at Pd
      exact wpAny_pure (h h' tk' od' es' ep' e hd' Pd)
  refine wpAny_bind (wpAny_dictEntries hd Td.isd.data ?_)
  split
  · refine wpAny_bind (wpAny_dictEntries ha Ta.isd.data ?_)
    have hk : ∀ e ∈ es, isExactStrKey e.key = true := by
      have := Ta.isd.ents.exact
      simpa using this
    refine wpAny_bind (wpAny_forIn_array' _ (fun rest _ s' => (∀ e ∈ rest, isExactStrKey e.key = true) ∧ s' = s) _ ?_ ?_ _ _ ⟨by simpa using hk, rfl⟩)
    · rintro e rest b s' ⟨hr, rfl⟩
      have he := hr e (.head _)
      split
      · rename_i _ q
        rw [q] at he; cases he
      · exact wpAny_pure ⟨fun e' h' => hr e' (.tail _ h'), rfl⟩
    · rintro b s' ⟨_, rfl⟩
      exact main
  · exact main
theorem KwIs.nil : KwIs [] [] := ⟨rfl, fun i k v h => by simp at h⟩
theorem KwIs.snoc {kw : List (Str × Value)} {kd : DD} {k : Str} {v : Value} {u : V} (h : KwIs kw kd) (hv : VIs u v) : KwIs (kw ++ [(k, v)]) (kd ++ [(k, u)]) := by
  refine ⟨by simp [h.1], fun i k' v' hi => ?_⟩
  rcases Nat.lt_or_ge i kw.length with q | q
  · rw [List.getElem?_append_left q] at hi
    obtain ⟨u', e, hv'⟩ := h.2 i k' v' hi
    exact ⟨u', by rw [List.getElem?_append_left (by rw [← h.1]; exact q)]; exact e, hv'⟩
  · rw [List.getElem?_append_right q] at hi
    rw [List.getElem?_append_right (by rw [← h.1]; exact q), ← h.1]
    cases z : i - kw.length with
    | zero => rw [z] at hi; cases hi; exact ⟨u, rfl, hv⟩
    | succ n => rw [z] at hi; simp at hi
/-- the words in a dict of words -/
theorem kwIn_PD {f : Value} {Q : List (Str × Value) → Shared → Prop} (hd : s.heap.get? d = some o) (T : PD o D es ep) (h : ∀ kw, KwIs kw D → Q kw s) : wpAny (model prog w) A (keywordsIn f d) Q E s := by
  unfold keywordsIn
  refine wpAny_bind (wpAny_dictEntries hd T.isd.data ?_)
  refine wpAny_bind (wpAny_forIn_array' _ (fun rest b s' => ∃ D1 D2, D = D1 ++ D2 ∧ Ents rest D2 ∧ KwIs b D1 ∧ s' = s) _ ?_ ?_ _ _ ⟨[], D, rfl, T.isd.ents, KwIs.nil, rfl⟩)
  · rintro e rest b s' ⟨D1, D2, hD, hE, hK, rfl⟩
    cases hE with
    | @cons _ x t u _ D3 hk hv hr =>
      rw [hk]
      exact wpAny_pure ⟨D1 ++ [(x, u)], D3, by simp [hD], hr, hK.snoc hv, rfl⟩
  · rintro b s' ⟨D1, D2, hD, hE, hK, rfl⟩
    cases hE
    rw [List.append_nil] at hD; subst hD
    exact wpAny_pure (h b hK)
theorem KwIs.mem {kw : List (Str × Value)} {kd : DD} (h : KwIs kw kd) {p : Str × Value} (hp : p ∈ kw) : p.1 ∈ Keys kd := by
  obtain ⟨i, hi, e⟩ := List.getElem_of_mem hp
  obtain ⟨u, e2, _⟩ := h.2 i p.1 p.2 (by rw [List.getElem?_eq_getElem hi, e])
  exact List.mem_map.mpr ⟨_, List.mem_of_getElem? e2, rfl⟩
theorem KwIs.keys {kw : List (Str × Value)} {kd : DD} (h : KwIs kw kd) : kw.map (·.1) = Keys kd := by
  refine List.ext_getElem? fun i => ?_
  cases e : kw[i]? with
  | none =>
    have hi : kw.length ≤ i := by simpa using e
    have : kd[i]? = none := by simpa [← h.1] using hi
    simp [Keys, e, this]
  | some p =>
    obtain ⟨u, e2, _⟩ := h.2 i p.1 p.2 e
    simp [Keys, e, e2]
theorem distinct_of : ∀ {kw : List (Str × Value)}, (kw.map (·.1)).Nodup → kwDistinct kw = true
  | [], _ => rfl
  | x :: r, h => by
    obtain ⟨h1, h2⟩ := List.nodup_cons.mp h
    show (r.all (fun y => !(x.1 == y.1)) && kwDistinct r) = true
    rw [distinct_of h2, Bool.and_true]
    refine List.all_eq_true.mpr fun y hy => ?_
    have : x.1 ≠ y.1 := fun e => h1 (List.mem_map.mpr ⟨y, hy, e.symm⟩)
    simp [this]
theorem KwIs.distinct {kw : List (Str × Value)} {kd : DD} (h : KwIs kw kd) (hn : (Keys kd).Nodup) : kwDistinct kw = true := distinct_of (h.keys ▸ hn)
theorem Src.up {h h' : Heap} {M : Addr} {ps : DD} (S : Src h M ps) (k : ∀ b o, h.get? b = some o → h'.get? b = some o) : Src h' M ps := by
  cases S with
  | list lo vs ep tl a c d n P q => exact .list lo vs ep tl (k _ _ a) c d n P fun x hx => ⟨k _ _ (q x hx).1, (q x hx).2⟩
  | dict o es ep a P s => exact .dict o es ep (k _ _ a) P s
end
section
variable {M : Model} {A : Around} {E : Value → Shared → Prop} {s : Shared} {env : Env}
theorem methodCall_SS {o ea ek : PySem.Expr} {name : Str} {apos pos p1 p2 : Pos} {Q : Value → Shared → Prop}
    (h : wpAny M A (eval o env) (fun ov s₁ => wpAny M A (getAttr ov name true) (fun f s₂ => wpAny M A (callWith pos f [] (backTo pos (starEach [.Starred ea p1] env)) (backToKw pos (keywordEach [⟨none, ek, p2⟩] env))) Q E s₂) E s₁) E s)
    (he : eval (.Call (.Attribute o name apos) [.Starred ea p1] [⟨none, ek, p2⟩] pos) env = (do
      let ov ← eval o env
      standAt apos.atName
      let (f, first) ← holding [ov] (do pure (← getAttr ov name true, []))
      let callPos ← pure pos
      callWith callPos f first (backTo pos (starEach [.Starred ea p1] env)) (backToKw pos (keywordEach [⟨none, ek, p2⟩] env))) := by rfl) :
    wpAny M A (eval (.Call (.Attribute o name apos) [.Starred ea p1] [⟨none, ek, p2⟩] pos) env) Q E s := by
  rw [he]
  refine wpAny_bind (wpAny_mono h (fun ov s₁ h₁ => wpAny_bind (wpAny_standAt (wpAny_bind (wpAny_holding (wpAny_bind (wpAny_mono h₁ (fun f s₂ h₂ => wpAny_pure (wpAny_bind (wpAny_pure h₂))) fun _ _ x => x)))))) fun _ _ x => x)
theorem evalArgs_SS {f : Value} {x y : Sem Value} {pos : Pos} {Q : Args → Shared → Prop}
    (h : wpAny M A x (fun sv s₁ => wpAny M A (alloc { cls := .type "dict", data := .dict #[] }) (fun d s₂ => wpAny M A y (fun kv s₃ => wpAny M A (mergeMapping d kv true) (fun _ s₄ => StarOf M A E sv (fun vs s₅ => wpAny M A (keywordsIn f d) (fun kw s₆ => Q ⟨vs, kw⟩ s₆) E s₅) s₄) NoE s₃) NoE s₂) E s₁) E s) :
    wpAny M A (evalArgs f true [(true, (do let v ← x; standAt pos; pure v))] [(none, (do let v ← y; standAt pos; pure v))]) Q E s := by
  unfold evalArgs
  first
    | refine wpAny_bind (wpAny_bind (wpAny_mono h (fun v s₁ h₁ => wpAny_bind (wpAny_standAt (wpAny_pure ?_))) fun _ _ x => x))
    | refine wpAny_bind (wpAny_bind (wpAny_bind (wpAny_mono h (fun v s₁ h₁ => wpAny_bind (wpAny_standAt (wpAny_pure (wpAny_pure ?_)))) fun _ _ x => x)))
  refine wpAny_holding ?_
  simp only [List.all_cons, List.all_nil, Option.isSome_none, Bool.false_and, Bool.false_eq_true, if_false]
  unfold mergedKeywords
  refine wpAny_bind (wpAny_bind (wpAny_mono h₁ (fun d s₂ h₂ => ?_) fun _ _ x => x))
  refine wpAny_bind (wpAny_holding ?_)
  dsimp only
  rw [List.forIn_cons]
  rw [List.isEmpty_nil, if_pos rfl]
  refine wpAny_bind (wpAny_bind (wpAny_bind (wpAny_pure ?_)))
  refine wpAny_bind (wpAny_bind (wpAny_mono h₂ (fun kv s₃ h₃ => wpAny_bind (wpAny_standAt (wpAny_pure ?_))) fun _ _ x => x.elim))
  refine wpAny_bind (wpAny_onRaise (wpAny_holding (wpAny_tryCatch (wpAny_onRaise (wpAny_mono h₃ (fun _ s₄ h₄ => wpAny_pure ?_) fun _ _ x => x.elim)))))
  dsimp only
  rw [List.forIn_nil]
  refine wpAny_pure ?_
  rw [List.isEmpty_nil, if_pos rfl]
  refine wpAny_pure (wpAny_pure ?_)
  unfold StarOf at h₄
  refine wpAny_bind (wpAny_bind (wpAny_mono h₄ (fun b s₅ h₅ => ?_) fun _ _ x => x))
  obtain ⟨rfl, h₅⟩ := h₅
  simp only [Bool.false_eq_true, if_false]
  refine wpAny_holding (wpAny_mono h₅ (fun vs s₆ h₆ => ?_) fun _ _ x => x)
  exact wpAny_bind (wpAny_holding (wpAny_mono h₆ (fun kw s₇ h₇ => wpAny_pure h₇) fun _ _ x => x))
/-- the call behind a starred row and a starred mapping -/
theorem callWith_SS {f : Value} {ea ek : PySem.Expr} {pos p1 p2 : Pos} {Q : Value → Shared → Prop} {P : Heap → Prop} (hk : ∀ h, P h → ∃ k, (k = Keeper.frame ∨ k = Keeper.machine ∨ k = Keeper.boundFrame) ∧ Looks M h (keeperOf f) k)
    (h : wpAny M A (eval ea env) (fun sv s₁ => wpAny M A (alloc { cls := .type "dict", data := .dict #[] }) (fun d s₂ => wpAny M A (eval ek env) (fun kv s₃ => wpAny M A (mergeMapping d kv true) (fun _ s₄ => StarOf M A E sv (fun vs s₅ => wpAny M A (keywordsIn f d) (fun kw s₆ => P s₆.heap ∧ wpAny M A (call f vs kw) Q E s₆) E s₅) s₄) NoE s₃) NoE s₂) E s₁) E s)
    (h1 : backTo pos (starEach [.Starred ea p1] env) = [(true, (do let v ← eval ea env; standAt pos; pure v))] := by rfl) (h2 : backToKw pos (keywordEach [⟨none, ek, p2⟩] env) = [(none, (do let v ← eval ek env; standAt pos; pure v))] := by rfl) :
    wpAny M A (callWith pos f [] (backTo pos (starEach [.Starred ea p1] env)) (backToKw pos (keywordEach [⟨none, ek, p2⟩] env))) Q E s := by
  rw [h1, h2]
  unfold callWith
  refine wpAny_bind (wpAny_holding (wpAny_mono (evalArgs_SS (Q := fun a s₆ => P s₆.heap ∧ wpAny M A (call f a.pos a.kw) Q E s₆) h) (fun a s₁ h₁ => wpAny_bind (wpAny_standAt ?_)) fun _ _ x => x))
  obtain ⟨k, hk', L⟩ := hk _ h₁.1
  simp only [List.any_cons, List.any_nil, Bool.true_or, Bool.or_false]
  refine wpAny_bind (L.here ?_)
  have tail : ∀ {t : Sem Value}, wpAny M A t Q E s₁ → wpAny M A (t >>= fun r => holding [r] point >>= fun _ => pure r) Q E s₁ :=
    fun ht => wpAny_bind (wpAny_mono ht (fun r s₂ hr => wpAny_bind (wpAny_holding (wpAny_point (wpAny_pure hr)))) fun _ _ x => x)
  have marked (mk : Value) : wpAny M A (callMarked mk f ([] ++ a.pos) a.kw) Q E s₁ := by unfold callMarked; exact Calls.wpAny_keep h₁.2
  rcases hk' with rfl | rfl | rfl <;> dsimp only <;> first | exact tail (marked _) | exact tail (wpAny_operating h₁.2)
end
namespace TF
theorem can : (Manifest.canonical "dict.__getattribute__" != "object.__getattribute__") = false := by decide +kernel
theorem kind : builtinKind "dict.__getattribute__" = some .slot := by decide +kernel
theorem split : splitId "dict.__getattribute__" = some ("dict", "__getattribute__") := by decide +kernel
theorem plain : plainId "dict.__getattribute__" = true := by decide +kernel
end TF
section
variable {prog : Program} {w : World} {A : Around} {E : Value → Shared → Prop} {s : Shared} {x C : Addr} {K : Frag} {ox od : Obj} {name : Str} {pl : Sem Bool}
theorem meth_t {f : Value} {ft : String} {Q : Value × List Value → Shared → Prop} (X : K.In s.heap) (I : InstAt s.heap x ox C (some od)) (hga : findIn K (.ref C) "__getattribute__" = some (some (.builtin "dict.__getattribute__"))) (hk : findIn K (.ref C) "__getattr__" = some none)
    (hf : findIn K (.ref C) name = some (some f)) (ht : Looks (model prog w) s.heap (typeOf f) (.type ft)) (hft : ft = "function" ∨ ft = "method_descriptor") (hs : shadowIn (some od) name = some false) (h : Q (f, [.ref x]) s) : wpAny (model prog w) A (getMethod (.ref x) name pl) Q E s := by
  have hcan := TF.can
  unfold getMethod specialOf
  refine wpAny_bind (wpAny_bind (I.type.here ((looks_findIn X hga).here ?_)))
  dsimp only
  rw [hcan, if_neg (by decide)]
  refine wpAny_bind (wpAny_bind (I.type.here ((looks_findIn X hk).here ?_)))
  refine wpAny_bind (wpAny_bind (I.type.here ((looks_findIn X hf).here (wpAny_bind (ht.here ?_)))))
  rw [if_neg (by rcases hft with e | e <;> subst e <;> decide +kernel)]
  refine wpAny_bind (wpAny_loadPart I.at_ ?_)
  have hd := I.dict
  cases e : ox.dict with
  | none => exact wpAny_bind (wpAny_rule (wpAny_pure h))
  | some dx =>
    rw [e] at hd
    obtain ⟨r, a, b⟩ := Option.map_eq_some_iff.mp hs
    refine wpAny_bind (wpAny_bind (wpAny_loadPart hd ?_))
    rw [nsLook_of a]
    refine wpAny_pure ?_
    rw [b]
    exact wpAny_bind (wpAny_rule (wpAny_pure h))

theorem attr_t {f : Addr} {Q : Value → Shared → Prop} (X : K.In s.heap) (I : InstAt s.heap x ox C (some od)) (hga : findIn K (.ref C) "__getattribute__" = some (some (.builtin "dict.__getattribute__"))) (hk : findIn K (.ref C) "__getattr__" = some none) (hm : mroIn K C (.type "dict") = some true)
    (hf : findObj K C (some od) name = some (.bind (.builtin "function.__get__") (.ref f))) (ht : typeIn K (.ref f) = some (.type "function"))
    (h : Q (.ref s.heap.objs.size) { s with heap := s.heap.push (methodObj (.ref f) (.ref x)), toks := s.toks + 1 }) : wpAny (model prog w) A (getAttr (.ref x) name true) Q E s := by
  obtain ⟨hh, g, d, t, os⟩ := s
  have L0 := I.type (M := model prog w)
  have L1 := looks_findIn (M := model prog w) X hga
  have L2 := looks_findIn (M := model prog w) X hk
  have L3 := looks_find (M := model prog w) X I hf
  unfold getAttr getAttrBy
  refine wpAny_bind (wpAny_mkText (wpAny_holding (wpAny_bind (L0.at (wpAny_bind (L1.at ?_))))))
  show wpAny _ _ (getAttrByItsOwn (.ref x) (.str name t) (.ref C) (.builtin "dict.__getattribute__") true true) _ _ _
  unfold getAttrByItsOwn hookBefore callGetattribute boundAndCalled
  show wpAny _ _ (typeLookup (.ref C) "__getattr__" >>= _) _ _ _
  refine wpAny_bind (L2.at ?_)
  refine wpAny_bind (wpAny_attempt (wpAny_holding ?_))
  show wpAny _ _ (bindSpecial (.builtin "dict.__getattribute__") (.ref x) >>= _) _ _ _
  refine wpAny_bind (wpAny_of_eq (PySem.F.slot_dict_getattribute.bind _) ?_)
  refine wpAny_call (codeAny_call_builtin TF.plain PySem.F.entry_dict_ga (@check_slot (model prog w) _ _ _ "dict.__getattribute__" "dict" "__getattribute__" (.ref x) [.str name t] [] _ TF.kind TF.split (inst_dict X I hm) (PySem.F.args_dict_getattribute_2 _ _) ?_))
  unfold Builtin.«object.__getattribute__»
  refine wpAny_bind (wpAny_of_eq (a := (Value.ref x, [Value.str name t])) (by first | rfl | kernel_rfl) ?_)
  dsimp only
  refine wpAny_bind (wpAny_of_eq (a := name) (by first | rfl | kernel_rfl) ?_)
  refine wpAny_bind (L0.at (wpAny_bind (L3.at ?_)))
  show wpAny _ _ (ObjectAttr.bindTo (.builtin "function.__get__") (.ref f) (.ref x) (.ref C)) _ _ _
  show wpAny _ _ (holding [Value.ref f] (call (.builtin "function.__get__") [.ref f, .ref x, .ref C]) >>= ret) _ _ _
  refine wpAny_bind (wpAny_holding (wpAny_call (fn_get X ht ?_)))
  exact wpAny_pure (handed_on rfl h)
end
section
variable {prog : Program} {w : World} {A : Around} {E : Value → Shared → Prop} {s : Shared} {x dx : Addr} {ox : Obj} {name : Str} {pl : Sem Bool} {G : Heap} {L : Addr} {m : Str → Option Value} {news : List (Addr × Obj)} {D : DD} {es : List DictEntry} {ep n : Nat}
theorem U_meth_fn {f : Addr} {Q : Value × List Value → Shared → Prop} (F : Fr G L s.heap m) (X : (hd.heap_39 w.params).In G) (I : InstAt s.heap x ox 169 (some (dictOf [] n)))
    (hf : findIn (hd.heap_39 w.params) (.ref 169) name = some (some (.ref f))) (ht : typeIn (hd.heap_39 w.params) (.ref f) = some (.type "function")) (h : Q (.ref f, [.ref x]) s) : wpAny (model prog w) A (getMethod (.ref x) name pl) Q E s := by
  refine meth_t (X.keeps F.keep) I ?a ?b hf (looks_typeIn (X.keeps F.keep) ht) (.inl rfl) rfl h
  case a => k_dflt k_is
  case b => k_dflt k_is
theorem U_meth_bi {id : String} {Q : Value × List Value → Shared → Prop} (F : Fr G L s.heap m) (X : (hd.heap_39 w.params).In G) (I : InstAt s.heap x ox 169 (some (dictOf [] n)))
    (hf : findIn (hd.heap_39 w.params) (.ref 169) name = some (some (.builtin id))) (ht : typeOf (.builtin id) = pure (.type "method_descriptor")) (h : Q (.builtin id, [.ref x]) s) : wpAny (model prog w) A (getMethod (.ref x) name pl) Q E s := by
  refine meth_t (X.keeps F.keep) I ?a ?b hf (Looks.of_pure ht) (.inr rfl) rfl h
  case a => k_dflt k_is
  case b => k_dflt k_is
theorem U_attr_fn {f : Addr} {Q : Value → Shared → Prop} (F : Fr G L s.heap m) (X : (hd.heap_39 w.params).In G) (N : News G L s.heap news) (I : InstAt s.heap x ox 169 (some (dictOf [] n)))
    (ha : findIn (hd.heap_39 w.params) (.ref 169) name = some (some (.ref f))) (ht : typeIn (hd.heap_39 w.params) (.ref f) = some (.type "function")) (hgf : specialIn (hd.heap_39 w.params) (.ref f) "__get__" = some (some (.builtin "function.__get__"))) (htk : takesIn (hd.heap_39 w.params) (.ref f) = some false) (hc : copiedNames.contains name = false)
    (h : ∀ q h', Fr G L h' m → News G L h' ((q, methodObj (.ref f) (.ref x)) :: news) → (∀ p ∈ news, p.1 < q) → Q (.ref q) { s with heap := h', toks := s.toks + 1 }) : wpAny (model prog w) A (getAttr (.ref x) name true) Q E s := by
  obtain ⟨F', N', l'⟩ := news_push (o := methodObj (.ref f) (.ref x)) F N
  have hh : hasDictIn (hd.heap_39 w.params) 169 = true := by k_dflt k_is
  refine attr_t (X.keeps F.keep) I ?a ?b ?c (findObj_fn hh ha hgf htk hc (by show lookIn name (dictOf [] n) = _; rw [lookIn_dict]; rfl)) ht (h _ _ F' N' l')
  case a => k_dflt k_is
  case b => k_dflt k_is
  case c => k_dflt k_is
end
local macro_rules | `(tactic| walk_at "getMethod ref") => `(tactic| (k_here; k_dflt (first
  | (refine' U_meth_fn ?k1 ?k2 ?k3 ?k4 ?k5 ?_; (case k1 => k_asm); (case k2 => k_asm); (case k3 => k_inst); (case k4 => k_is); (case k5 => k_is); k_whole)
  | (refine' U_meth_bi ?k1 ?k2 ?k3 ?k4 ?k5 ?_; (case k1 => k_asm); (case k2 => k_asm); (case k3 => k_inst); (case k4 => k_is); (case k5 => first | exact PySem.F.type_dict_items | exact PySem.F.type_dict_keys); k_whole))))
local macro_rules | `(tactic| walk_at "getAttr ref") => `(tactic| (k_here; k_dflt (refine' U_attr_fn ?k1 ?k2 ?k3 ?k4 ?k5 ?k6 ?k7 ?k8 ?k9 ?_; (case k1 => k_asm); (case k2 => k_asm); (case k3 => k_asm); (case k4 => k_inst); (case k5 => k_is); (case k6 => k_is); (case k7 => k_is); (case k8 => k_is); (case k9 => decide +kernel); k_whole); intro q' h' F' N' l1; (try k_lt l1); (try k_sweep)))
namespace BF
theorem p_init : plainId "dict.__init__" = true := by decide +kernel
theorem v_init : builtinKind "dict.__init__" = some .slot := by decide +kernel
theorem c_init (a : Value) : (match Manifest.signature? "dict.__init__" with | some sig => Bind.checkArgs "dict.__init__" sig ⟨[a], []⟩ | none => pure ()) = pure () := by kernel_rfl!
end BF
section
variable {prog : Program} {w : World} {A : Around} {E : Value → Shared → Prop} {s : Shared} {d : Addr} {o : Obj}
theorem bi_init0 {Q : Fin → Shared → Prop} (hno : NO (model prog w) s.heap d) (h : Q (.done (.ret .none)) s) : wpAny (model prog w) A (Builtin.«dict.__init__» ⟨[.ref d], []⟩) Q E s := by
  unfold Builtin.«dict.__init__» Builtin.Dict.selfAndRest
  refine wpAny_bind (wpAny_bind ((hno "__init__" ⟨[.ref d], []⟩ rfl).here ?_))
  show wpAny _ _ (pure (d, [])) _ _ s
  refine wpAny_pure ?_
  show wpAny _ _ (Builtin.Dict.addKeywords d [] >>= _) _ _ s
  exact wpAny_bind (wpAny_pure (wpAny_pure h))
end
theorem told_init {w : World} {A : Around} {E : Value → Shared → Prop} {s : Shared} {x b : Addr} {o : Obj} {odx : Option Obj} {Q : Value → Shared → Prop} (X : (hd.heap_39 w.params).In s.heap) (hb : s.heap.get? b = some (boundO "method-wrapper" "dict.__init__" x)) (I : InstAt s.heap x o 169 odx)
    (h : Q .none s) : wpAny (model PySem.Challenge.rw_co0001_01.row.prog w) A (call (.ref b) []) Q E s :=
  call_bound hb (.inr rfl) BF.p_init PySem.F.entry_dict_init (fun A E Q hq => chk_s (id := "dict.__init__") BF.v_init (BF.c_init _) hq) (bi_init0 (no_t X I) h)
theorem L_init {w : World} {G : Heap} {A : Around} {E : Value → Shared → Prop} {s : Shared} {L : Addr} {m : Str → Option Value} {news : List (Addr × Obj)} {x b : Addr} {o : Obj} {odx : Option Obj} {Q : Value → Shared → Prop} (F : Fr G L s.heap m) (X : (hd.heap_39 w.params).In G) (N : News G L s.heap news) (hb : (b, boundO "method-wrapper" "dict.__init__" x) ∈ news) (I : InstAt s.heap x o 169 odx)
    (h : Q .none s) : wpAny (model PySem.Challenge.rw_co0001_01.row.prog w) A (call (.ref b) []) Q E s := told_init (X.keeps F.keep) (N _ hb).1 I h
local macro_rules | `(tactic| walk_at "call ref") => `(tactic| (k_here; k_dflt (refine' L_init ?k1 ?k2 ?k3 ?k4 ?k5 ?_; (case k1 => k_asm); (case k2 => k_asm); (case k3 => k_asm); (case k4 => k_mem); (case k5 => k_inst); k_whole)))
section
variable {prog : Program} {w : World} {A : Around} {E : Value → Shared → Prop} {s : Shared} {G : Heap} {L : Addr} {m : Str → Option Value} {news : List (Addr × Obj)}
theorem U_alloc {o : Obj} {Q : Addr → Shared → Prop} (F : Fr G L s.heap m) (N : News G L s.heap news) (hf : o.isFreed = false) (h : ∀ d h', Fr G L h' m → News G L h' ((d, o) :: news) → (∀ p ∈ news, p.1 < d) → Q d { s with heap := h' }) : wpAny (model prog w) A (alloc o) Q E s := by
  obtain ⟨F', N', l'⟩ := news_push (o := o) F N hf
  exact wpAny_alloc (h _ _ F' N' l')
theorem U_merge {f : Obj → List (Addr × Obj)} {d a : Addr} {od o : Obj} {D0 D : DD} {es0 es : List DictEntry} {ep0 ep : Nat} {unique : Bool} {Q : Unit → Shared → Prop} (F : Fr G L s.heap m) (N : News G L s.heap news) (U : UpdF d od news f) (Td : PD od D0 es0 ep0) (ha : s.heap.get? a = some o) (Ta : PD o D es ep) (hne : a ≠ d) (hs : (a == sysModules) = false)
    (hu : unique = true → D0 = [] ∧ (Keys D).Nodup) (hl : D0.length + D.length ≤ 900)
    (h : ∀ h' tk' od' es' ep', Fr G L h' m → News G L h' (f od') → PD od' (puts1 D0 D) es' ep' → Q () { s with heap := h', toks := tk' }) : wpAny (model prog w) A (mergeMapping d (.ref a) unique) Q E s :=
  merge_PD (N _ (updF_mem U)).1 Td ha Ta hne hs hu hl fun h' tk' od' es' ep' e g T => h h' tk' od' es' ep' (use1 F N U e g).1 (use1 F N U e g).2 T
end
set_option maxHeartbeats 4000000 in
theorem C_init {w : World} {G : Heap} {A : Around} {s : Shared} {p : Program} {loose : List Str} {mean : ExcName → Option Value} {mg mb : Str → Option Value} {R : Result → Shared → Prop} (X : (hd.heap_39 w.params).In G) (T : Top p loose mean mg mb G) (SG : G.StaysIn s.heap) (RM : Room 30 A) {x dx M : Addr} {o od : Obj} {D ps kd : DD} {es : List DictEntry} {ep : Nat} {kw : List (Str × Value)}
    (hx : At G s.heap x o) (hdx : At G s.heap dx od) (TD1 : TD o dx D es ep) (hsys : (x == sysModules) = false) (hne : @Ne Nat dx x) (hod : od = dictOf [] 0)
    (SR : Src s.heap M ps) (hMd : M ≠ dx) (KW1 : KwIs kw kd) (hself : Str.ofString "self" ∉ Keys kd) (hnd : (Keys kd).Nodup) (hl : kw.length ≤ 100)
    (hps : ∀ p ∈ ps, p.1.length ≤ 100) (hks : ∀ p ∈ kd, p.1.length ≤ 100) (hsz : D.length + ps.length + kd.length ≤ 900)
    (hQ : ∀ h' tk' o' es' ep', Ext [x] s.heap h' → h'.get? x = some o' → TD o' dx (puts (puts D ps) kd) es' ep' → R (.ok (.ret .none)) { s with heap := h', toks := tk' }) :
    codeAny (model PySem.Challenge.rw_co0001_01.row.prog w) A (.call (.ref 57) ⟨.ref x :: [.ref M], kw⟩) R s := by
  subst hod
  k_dflt (refine' call_stars X T SG RM [(x, o), (dx, dictOf [] 0)] (at2 hx hdx) ?k6 ?k7 ?k8 (fun p hp (e : p.1 = Str.ofString "self") => hself (e ▸ KW1.mem hp)) (KW1.distinct hnd) hl ?k9 ?kB ?_ ?c5 ?c2 ?c3 ?c4)
  case k6 => k_is
  case k7 => k_is
  case k8 => exact ⟨rfl, rfl, rfl, ⟨_, rfl, rfl⟩, ⟨_, rfl, rfl⟩⟩
  case k9 => show 1 ≤ 100; decide
  case kB => intro C D; k_dflt exact locs rfl
  case c5 => k_dflt decide
  case c2 => k_dflt exact rfl
  case c3 => k_dflt exact rfl
  case c4 => k_dflt exact rfl
  k_whole
  intro C KW g' L' h₁ tk0 SG' A1 A2 F N X' T' L1 L0 L2 L3 RM'
  k_lt L1
  clear X T SG RM
  have SR' : Src g' M ps := SR.base A1 hx.1 hdx.1 TD1.cls rfl hMd
  have KD := KW1.pd (P := w.params) (t := s.toks) (n := kw.length) (by omega)
  try dsimp only
  try k_fold
  repeat' (first | walk1 | (dsimp only; walk1))
  refine methodCall_SS ?_
  walk1
  walk1
  rename_i q9 h9 F9 N9 l9
  refine callWith_SS (P := fun h => MethP (_root_.Mine.hd.heap_39 w.params) q9 138 (.ref x) h) (keeps_M (by k_dflt k_is)) ?_
  walk1
  refine U_alloc (by assumption) (by assumption) rfl fun d2 h2 F2 N2 l2 => ?_
  k_lt l2
  walk1
  have PD2 : PD (dictOf [] 0) [] [] 0 := ⟨rfl, rfl, rfl, .nil, by decide⟩
  refine U_merge F2 N2 (by k_updF) PD2 ((N2.get (show (KW, _) ∈ _ by k_mem))) KD (neN (by omega)) (nsys (Nat.lt_trans L0 L2)) (fun _ => ⟨rfl, hnd⟩) (by simp only [List.length_nil]; omega) fun h3 tk3 od3 es3 ep3 F3 N3 PD3 => ?_
  try dsimp only at N3
  rw [puts1_nil hnd] at PD3
  walk1
  refine kwIn_PD (PyProof.Rows.News.get (by assumption) (by k_mem)) PD3 fun kw2 KW2 => ?_
  refine ⟨⟨PyProof.Rows.News.get (by assumption) (by k_mem), by k_in⟩, ?_⟩
  rename_i h4 F4 N4
  refine call_meth N4 (by k_mem) ?_
  refine' C_update X' T' ?kS (RM'.of (by omega) (by omega)) (News.at N4 (by k_mem)) (News.at N4 (by k_mem)) TD1 hsys hne rfl (SR'.up F4.keep) hMd KW2 ?k1 ?k2 ?k3 hps hks hsz fun h5 tk5 o5 es5 ep5 e5 g5 td5 => ?_
  case kS => exact F4.keep
  case k1 => exact fun p hp (e : p.1 = Str.ofString "self") => hself (e ▸ KW2.mem hp)
  case k2 => exact KW2.distinct hnd
  case k3 => rw [KW2.1, ← KW1.1]; exact hl
  obtain ⟨F5, N5⟩ := use1 F4 N4 (by k_updF) e5 g5
  try dsimp only at N5
  dsimp only
  walk1
  walk1
  exact hQ _ _ _ _ _ (ext_one2 (A2 _ F5.keep) hdx N5 (by k_mem)) g5 td5
namespace NF
theorem split : splitId "dict.__new__" = some ("dict", "__new__") := by decide +kernel
theorem kind : builtinKind "dict.__new__" = some .builtinFn := by decide +kernel
theorem quiet : "dict.__new__".startsWith "lifetime." = false := by decide +kernel
abbrev sig : Manifest.Signature := ⟨.any, "dict", "dict", .cls, [⟨"args", .varPos, false⟩, ⟨"kwargs", .varKw, false⟩]⟩
theorem row : Manifest.signature? "dict.__new__" = some sig := by kernel_rfl
theorem args (a : Value) (rest : List Value) (kw : List (Str × Value)) : Bind.checkArgs "dict.__new__" sig ⟨a :: rest, kw⟩ = pure () := by kernel_rfl
theorem entry : entryFor table "dict.__new__" = some Builtin.«dict.__new__» := PySem.F.kt_entry_dict_new
end NF
def okMro (l : List Value) : Bool := !(l.any fun | .type n => !["dict", "object", "collections.defaultdict", "collections.OrderedDict"].contains n | _ => false)
def makesD (K : Frag) (C : Addr) : Bool := match K.lookup C with
  | some ⟨_, _, .cls cd, sl⟩ => !cd.abstract && !cd.hasDel && (sl.toList[4]?).join == some (.builtin "dict.__new__") && !cd.mro.isEmpty && cd.mro.contains (.ref C) && cd.mro.contains (.type "dict") && okMro cd.mro &&
      specialIn K (.ref C) "__call__" == some (some (.builtin "type.__call__")) && instIn K (.ref C) (.type "type") == some true
  | _ => false
structure MakesD (M : Model) (h : Heap) (C : Addr) : Prop where
  obj : ∃ oc od cd sl, h.get? C = some ⟨oc, od, .cls cd, sl⟩ ∧ cd.abstract = false ∧ cd.hasDel = false ∧ cd.mro.isEmpty = false ∧ okMro cd.mro = true
  made : Looks M h (Bind.madeBy (.ref C)) (some "dict.__new__")
  base : Looks M h (Bind.staticBase (.ref C)) (.ref C)
  self : Looks M h (isSubtype (.ref C) (.ref C)) true
  top : Looks M h (isSubtype (.ref C) (.type "dict")) true
  call : Looks M h (specialOf (.ref C) "__call__") (some (.builtin "type.__call__"))
  typ : Looks M h (isInstance (.ref C) (.type "type")) true
theorem makesD_of {K : Frag} {M : Model} {h : Heap} (X : K.In h) {C : Addr} (e : makesD K C = true) : MakesD M h C := by
  unfold makesD at e
  split at e
  · rename_i oc od cd sl ho
    simp only [Bool.and_eq_true, Bool.not_eq_true', beq_iff_eq] at e
    obtain ⟨⟨⟨⟨⟨⟨⟨⟨e1, e2⟩, e3⟩, e4⟩, e5⟩, e6⟩, e6'⟩, e7⟩, e8⟩ := e
    have hc : clsIn K C = some cd := by unfold clsIn; rw [ho]
    have hm : Looks M h (mroOf (.ref C)) cd.mro := (looks_clsIn X hc).andThen .now
    obtain ⟨c, l, hl⟩ : ∃ c l, cd.mro = c :: l := by cases q : cd.mro with | nil => rw [q] at e4; cases e4 | cons c l => exact ⟨c, l, rfl⟩
    have made : Looks M h (Bind.madeBy (.ref C)) (some "dict.__new__") := by
      intro A Q E s k q
      unfold Bind.madeBy
      refine wpAny_bind (hm A _ E s k ?_)
      rw [hl, List.forIn_cons]
      refine wpAny_bind (wpAny_bind (wpAny_bind (wpAny_bind (wpAny_loadPart (k _ _ (X _ _ ho)) (wpAny_pure ?_)))))
      dsimp only
      rw [← Array.getElem?_toList, e3]
      exact wpAny_pure (wpAny_pure (wpAny_pure q))
    refine ⟨⟨oc, od, cd, sl, X _ _ ho, e1, e2, e4, e6'⟩, made, ?_, looks_mroIn X ?_, looks_mroIn X ?_, looks_specialIn X e7, looks_instIn X e8⟩
    · intro A Q E s k q
      unfold Bind.staticBase
      refine wpAny_bind (hm A _ E s k ?_)
      rw [hl, List.forIn_cons]
      exact wpAny_bind (wpAny_bind (wpAny_bind (made A _ E s k (wpAny_pure (wpAny_pure (wpAny_pure q))))))
    · unfold mroIn; rw [hc, Option.bind_some, if_neg (by rw [e4]; decide), e5]
    · unfold mroIn; rw [hc, Option.bind_some, if_neg (by rw [e4]; decide), e6]
  · cases e
abbrev dInst (C dx : Addr) : Obj := { cls := .ref C, dict := some dx, data := .dict #[] }
section
variable {prog : Program} {w : World} {A : Around} {K : Frag} {C : Addr} {R : Result → Shared → Prop} {h : Heap} {g : Array GenState} {d : Drawn} {t : Nat} {os : OsState}
theorem newD_K {rest : List Value} {kw : List (Str × Value)} (Y : MakesD (model prog w) h C)
    (hq : R (.ok (.ret (.ref (h.objs.size + 1)))) ⟨(h.push emptyDict).push (dInst C h.objs.size), g, d, t, os⟩) :
    codeAny (model prog w) A (.call (.builtin "dict.__new__") ⟨.ref C :: rest, kw⟩) R ⟨h, g, d, t, os⟩ := by
  obtain ⟨⟨oc, od, cd, sl, hC, e1, e2, e4, e5⟩, made, base, self, top, call, typ⟩ := Y
  have hm : Looks (model prog w) h (mroOf (.ref C)) cd.mro := ((Looks.ld (part := none) hC).andThen .now).andThen .now
  refine codeAny_call_builtin_code (Code.quiet_builtin _ NF.quiet) ?_
  simp only [checkBuiltinCall, NF.kind, NF.split, NF.row]
  rw [NF.args]
  repeat (first | simp only [bne_self_eq_false, Bool.false_eq_true, if_false] | lk)
  refine codeAny_builtin NF.entry ?_
  unfold Builtin.«dict.__new__»
  repeat lk
  rw [if_neg (fun q => absurd e5 (by rw [show okMro cd.mro = false from by unfold okMro; exact congrArg Bool.not q]; decide))]
  refine wpAny_bind (wpAny_alloc ?_)
  refine wpAny_bind ?_
  show wpAny _ _ (newObjAsIs _ _ _) _ _ _
  unfold newObjAsIs classHasDel
  refine wpAny_bind (wpAny_alloc (wpAny_bind (wpAny_bind (wpAny_load (Heap.get?_push_of_some _ (Heap.get?_push_of_some _ hC)) (wpAny_pure ?_)))))
  rw [e2]
  refine wpAny_pure (wpAny_pure ?_)
  show R _ _
  rw [Heap.size_push]
  exact hq
theorem makeD_core {rest : List Value} {kw : List (Str × Value)} {init : Value} (Y : MakesD (model prog w) h C) (hi : Looks (model prog w) h (typeLookup (.ref C) "__init__") (some init))
    (hb : ∀ self, Looks (model prog w) h (bindSpecial init self) (init, [self]))
    (hq : codeAny (model prog w) (A.under (.builtin "type.__call__" ⟨.ref C :: rest, kw⟩)) (.call init ⟨.ref (h.objs.size + 1) :: rest, kw⟩) (InitBack (h.objs.size + 1) R) ⟨(h.push emptyDict).push (dInst C h.objs.size), g, d, t, os⟩) :
    codeAny (model prog w) A (.call (.ref C) ⟨rest, kw⟩) R ⟨h, g, d, t, os⟩ := by
  have Y' := Y
  obtain ⟨⟨oc, od, cd, sl, hC, e1, e2, e4, e5⟩, made, base, self, top, call, typ⟩ := Y
  refine codeAny_of_tree ?_
  show wpAny _ _ (callAny (.ref C) _) _ _ _
  refine nd_load hC ?_
  show wpAny _ _ (callAny.viaDunder (.ref C) _) _ _ _
  unfold callAny.viaDunder
  refine wpAny_bind (call.at ?_)
  dsimp only
  rw [tc_bind]
  refine wpAny_bind (wpAny_pure (wpAny_bind (wpAny_pure ?_)))
  refine wpAny_pure (a := Fin.again (.call (.builtin "type.__call__") ⟨.ref C :: rest, kw⟩)) (And.intro rfl ?_)
  refine codeAny_call_builtin_at (Code.quiet_builtin _ (by decide +kernel)) entry_typeCall (check_slot tc_kind tc_split typ (tc_args _ _ _) ?_)
  unfold Builtin.«type.__call__»
  have hm : Looks (model prog w) h (mroOf (.ref C)) cd.mro := ((Looks.ld (part := none) hC).andThen .now).andThen .now
  repeat (first | simp only [e4, Bool.false_eq_true, if_false] | with_reducible refine wpAny_call ?_ | lk)
  refine newD_K Y' ?_
  have k : ∀ b o, h.get? b = some o → ((h.push emptyDict).push (dInst C h.objs.size)).get? b = some o := fun b o e => Heap.get?_push_of_some _ (Heap.get?_push_of_some _ e)
  have hx : ((h.push emptyDict).push (dInst C h.objs.size)).get? (h.objs.size + 1) = some (dInst C h.objs.size) := by heap_get
  have t1 : Looks (model prog w) ((h.push emptyDict).push (dInst C h.objs.size)) (typeOf (.ref (h.objs.size + 1))) (.ref C) := (Looks.ld hx).andThen .now
  have s1 := self.keeps k
  have i1 := hi.keeps k
  have b1 := (hb (.ref (h.objs.size + 1))).keeps k
  unfold isInstance callSpecial? specialOf
  repeat (first | with_reducible refine wpAny_call ?_ | lk)
  refine codeAny_mono hq fun r s' z => ?_
  rcases r with e | (v | _ | _ | _) <;> first | exact z | exact z.elim | skip
  obtain ⟨rfl, z⟩ := z
  exact wpAny_pure (wpAny_pure z)
end
theorem room_under {n : Nat} {A : Around} {C : Addr} {rest : List Value} {kw : List (Str × Value)} (r : Room (n + 3) A) : Room n (A.under (.builtin "type.__call__" ⟨.ref C :: rest, kw⟩)) :=
  r.of (by show A.depth + 1 + n ≤ A.depth + (n + 3); omega) (by rw [show (A.under (.builtin "type.__call__" ⟨.ref C :: rest, kw⟩)).units = A.units + 1 from rfl]; omega)
theorem makesD_mk {K : Frag} {C : Addr} {oc : Value} {od : Option Addr} {cd : ClassData} {sl : Array (Option Value)} (ho : K.lookup C = some ⟨oc, od, .cls cd, sl⟩) (h1 : specialIn K (.ref C) "__call__" = some (some (.builtin "type.__call__"))) (h2 : instIn K (.ref C) (.type "type") = some true)
    (hb : (!cd.abstract && !cd.hasDel && (sl.toList[4]?).join == some (.builtin "dict.__new__") && !cd.mro.isEmpty && cd.mro.contains (.ref C) && cd.mro.contains (.type "dict") && okMro cd.mro) = true) : makesD K C = true := by
  unfold makesD
  rw [ho]
  dsimp only
  rw [hb, h1, h2]
  decide
theorem C_new {w : World} {G : Heap} {A : Around} {s : Shared} {p : Program} {loose : List Str} {mean : ExcName → Option Value} {mg mb : Str → Option Value} {R : Result → Shared → Prop} (X : (hd.heap_39 w.params).In G) (T : Top p loose mean mg mb G) (SG : G.StaysIn s.heap) (RM : Room 40 A) {M : Addr} {ps kd : DD} {kw : List (Str × Value)}
    (SR : Src s.heap M ps) (KW1 : KwIs kw kd) (hself : Str.ofString "self" ∉ Keys kd) (hnd : (Keys kd).Nodup)
    (hps : ∀ p ∈ ps, p.1.length ≤ 100) (hks : ∀ p ∈ kd, p.1.length ≤ 100) (hsz : ps.length + kd.length ≤ 90)
    (hQ : ∀ h' tk' x dx o' es' ep', Ext [] s.heap h' → dx = s.heap.objs.size → x = s.heap.objs.size + 1 → h'.get? x = some o' → h'.get? dx = some (dictOf [] 0) → TD o' dx (puts (puts [] ps) kd) es' ep' → R (.ok (.ret (.ref x))) { s with heap := h', toks := tk' }) :
    codeAny (model PySem.Challenge.rw_co0001_01.row.prog w) A (.call (.ref 169) ⟨[.ref M], kw⟩) R s := by
  obtain ⟨hh, g, d, t, os⟩ := s
  have XS := X.keeps SG
  refine makeD_core (makesD_of (K := hd.heap_39 w.params) XS ?a) (looks_findIn XS (show findIn (hd.heap_39 w.params) (.ref 169) "__init__" = some (some (.ref 57)) from ?b)) (fun self => bind_fn XS self ?c) ?_
  case a =>
    k_dflt (refine' makesD_mk ?ho ?h1 ?h2 ?hb)
    case ho => k_is
    case h1 => k_is
    case h2 => k_is
    case hb => decide +kernel
  case b => k_dflt k_is
  case c => k_dflt k_is
  have x0 : ((hh.push emptyDict).push (dInst 169 hh.objs.size)).get? (hh.objs.size + 1) = some (dInst 169 hh.objs.size) := by heap_get
  have x1 : ((hh.push emptyDict).push (dInst 169 hh.objs.size)).get? hh.objs.size = some emptyDict := by heap_get
  have gn : ∀ a, hh.objs.size ≤ a → G.get? a = none := fun a ha => by
    cases q : G.get? a with
    | none => rfl
    | some o => exact absurd (Heap.lt_size (SG _ _ q)) (Nat.not_lt.mpr ha)
  have k : ∀ b o, hh.get? b = some o → ((hh.push emptyDict).push (dInst 169 hh.objs.size)).get? b = some o := fun b o e => Heap.get?_push_of_some _ (Heap.get?_push_of_some _ e)
  have TD0 : TD (dInst 169 hh.objs.size) hh.objs.size [] [] 0 := ⟨rfl, rfl, rfl, .nil, by decide⟩
  have big : 1 < hh.objs.size := modules_low (T.nolimit.keeps SG)
  have hM : M < hh.objs.size := by
    cases SR with
    | list lo vs ep tl a => exact Heap.lt_size a
    | dict o es ep a => exact Heap.lt_size a
  have hl : kw.length ≤ 100 := by rw [KW1.1]; omega
  refine C_init (s := ⟨(hh.push emptyDict).push (dInst 169 hh.objs.size), g, d, t, os⟩) X T (fun b o e => k b o (SG b o e)) (room_under (n := 30) (RM.of (by omega) (by omega))) ⟨x0, gn _ (Nat.le_succ _)⟩ ⟨x1, gn _ (Nat.le_refl _)⟩ TD0 (nsys (Nat.lt_succ_of_lt big)) (Nat.ne_of_lt (Nat.lt_succ_self _)) rfl (SR.up k) (Nat.ne_of_lt hM) KW1 hself hnd hl hps hks (by simp only [List.length_nil]; omega) fun h' tk' o' es' ep' e g' td' => ?_
  refine ⟨rfl, hQ h' tk' _ _ o' es' ep' (fun b o _ q => ?_) rfl rfl g' (e.one (Nat.ne_of_lt (Nat.lt_succ_self _)) x1) td'⟩
  have lt := Heap.lt_size q
  exact e.one (Nat.ne_of_lt (Nat.lt_succ_of_lt lt)) (k b o q)
namespace EF
theorem plain_loop : plainId "dict.update.loop" = true := by decide +kernel
theorem entry_loop : entryFor table "dict.update.loop" = some Builtin.«dict.update.loop» := entryFor_of_tree (by kernel_rfl)
theorem items_keys : typeLookup (.type "dict_items") "keys" = pure none := by rw [typeLookup_type, builtinLookup_eq_fast]; kernel_rfl
theorem items_getattr_none : typeLookup (.type "dict_items") "__getattr__" = pure none := by rw [typeLookup_type, builtinLookup_eq_fast]; kernel_rfl
end EF
section
variable {prog : Program} {w : World} {A : Around} {E : Value → Shared → Prop}
theorem upd_loop {I nd : Addr} {S : Nat → Obj → Prop} {keep : List (Addr × Obj)} {ps D0 : DD} (IT : Iter prog w A.in1 I ps.length S keep (fun i v h => ∃ k u, ps[i]? = some (k, u) ∧ IsPair I k u v h)) (hIk : ∀ q ∈ keep, q.1 ≠ I) (hnk : ∀ q ∈ keep, q.1 ≠ nd) (hnI : nd ≠ I) (hl : D0.length + ps.length ≤ 900) :
    ∀ (n i : Nat) (t : Tok) (s : Shared) (o : Obj) (es : List DictEntry) (ep : Nat) (R : Result → Shared → Prop), n = ps.length - i → i ≤ ps.length → InIt I S keep i s.heap → s.heap.get? nd = some o → PD o (puts1 D0 (ps.take i)) es ep →
      (∀ h' tk' o' es' ep', Ext [nd, I] s.heap h' → h'.get? nd = some o' → PD o' (puts1 D0 ps) es' ep' → R (.ok (.ret .none)) { s with heap := h', toks := tk' }) →
      codeAny (model prog w) A (.builtin "dict.update.loop" ⟨[.ref nd, .ref I, .int i t, .none], []⟩) R s
  | n, i, t, s, o, es, ep, R, hn, hi, ⟨⟨oI, hoI, hS⟩, hk⟩, ho, hPD, hR => by
    refine codeAny_builtin EF.entry_loop ?_
    rw [Around.under_plainId EF.plain_loop _]
    unfold Builtin.«dict.update.loop»
    dsimp only
    by_cases hlt : i < ps.length
    · refine wpAny_bind (IT.item i oI s _ _ hlt hoI hS hk fun v h' tk o' hP ho' hS' e => ?_)
      obtain ⟨k, u, hpi, tt, tkk, x, rfl, htI, ht, hv⟩ := hP
      dsimp only
      have hnd' : h'.get? nd = some o := e.one hnI ho
      refine wpAny_bind (wpAny_holding ?_)
      refine wpAny_bind (wpAny_tryCatch ?_)
      unfold Builtin.Dict.pairItems
      have hT : Shared.TypeIs ({ s with heap := h', toks := tk } : Shared) (.ref tt) "tuple" := ⟨_, ht, rfl⟩
      refine wpAny_bind (wpAny_typeOf hT ?_)
      rw [if_pos (by decide)]
      refine wpAny_bind (wpAny_bind (wpAny_load ht (wpAny_pure ?_)))
      refine wpAny_pure ?_
      refine wpAny_holding (set_D hnd' hPD.isd hv (puts1_fit hl) fun h'' tk'' c => ?_)
      have e2 := changed_ext c
      obtain ⟨es2, ep2, g2, I2⟩ := c.2
      have key := upd_loop IT hIk hnk hnI hl (ps.length - (i + 1)) (i + 1) 0 { s with heap := h'', toks := tk'' } _ es2 ep2 R rfl hlt ⟨⟨o', e2.one (Ne.symm hnI) ho', hS'⟩, fun q hq => e2.one (hnk q hq) (e.one (hIk q hq) (hk q hq))⟩ g2 (by rw [puts1_take hpi]; exact hPD.with I2)
        fun h3 tk3 o3 es3 ep3 e3 g3 p3 => hR h3 tk3 o3 es3 ep3 (((e.weak fun x hx => by rw [List.mem_singleton.mp hx]; simp).trans (e2.weak fun x hx => by rw [List.mem_singleton.mp hx]; simp)).trans e3) g3 p3
      exact wpAny_pure ⟨plainId_quiet EF.plain_loop _, key⟩
    · have hin : i = ps.length := by omega
      subst hin
      refine wpAny_bind (IT.done oI s _ _ hoI hS hk fun h' tk e => ?_)
      dsimp only
      refine wpAny_bind (wpAny_pure ?_)
      rw [List.take_length] at hPD
      exact wpAny_pure (hR h' tk o es ep (e.weak fun x hx => by rw [List.mem_singleton.mp hx]; simp) (e.one hnI ho) hPD)
termination_by n => n
decreasing_by omega
end
section
theorem meets_miss_items (a d : Addr) (name : Str) (u : Tok) (hmiss : typeLookup (.type "dict_items") name = pure none) (hname : (["__module__", "__name__", "__qualname__", "__doc__", "__annotations__"] : List Str).contains name = false) (hsz : name.length + 100 ≤ sizeLine := by size_fits) :
    Meets (Builtin.«object.__getattribute__» ⟨[.ref a, .str name u], []⟩) (fun A R s => s.heap.get? a = some (fieldsO "dict_items" #[.ref d]) ∧ raisesAttr (.ref a) name A R s) :=
  Meets.of_wp fun prog w A R s hs => by
    obtain ⟨hp, g, d, tk, os⟩ := s
    obtain ⟨hx, hs⟩ := hs
    have hT : (⟨hp, g, d, tk, os⟩ : Shared).TypeIs (.ref a) "dict_items" := ⟨_, hx, rfl⟩
    unfold Builtin.«object.__getattribute__»
    repeat (any_goals (first | assumption | wp_step))
    simp only [hname, Bool.false_eq_true, if_false]
    repeat (any_goals (first | assumption | wp_step))
    exact wpAny_raiseAttrError hs.1 hs.2 (attrMsg_fits (by decide +kernel) hsz)
variable {prog : Program} {w : World} {A : Around} {E : Value → Shared → Prop} {h : Heap} {g : Array GenState} {d : Drawn} {t : Nat} {os : OsState} {a dd : Addr}
theorem miss_q_items {tk : Tok} {Q : Option Value → Shared → Prop} (hx : h.get? a = some (fieldsO "dict_items" #[.ref dd])) (hA : A.handled = none)
    (hq : ∀ h' tk, Ext [] h h' → Q none ⟨h', g, d, tk, os⟩) :
    wpAny (model prog w) A (getAttrBy? (.ref a) (.str "keys" tk)) Q E ⟨h, g, d, t, os⟩ := by
  have hT : (⟨h, g, d, t, os⟩ : Shared).TypeIs (.ref a) "dict_items" := ⟨_, hx, rfl⟩
  have f1 := sub_AttributeError
  have f3 := PySem.F.slot_dict_items_getattribute.lookup
  have f4 := PySem.F.slot_dict_items_getattribute.bind (.ref a)
  have f5 := EF.items_getattr_none
  unfold getAttrBy?
  refine wpAny_bind (wpAny_attempt ?_)
  unfold getAttrBy
  repeat (any_goals (first | assumption | ((with_reducible show wpAny _ _ (call (Value.builtin "object.__getattribute__") _) _ _ _); refine call_meets PySem.F.slot_dict_items_getattribute hT PySem.F.entry_object_getattribute (PySem.F.args_object_getattribute_2 _ _) (meets_miss_items a dd "keys" _ EF.items_keys (by decide +kernel)) ⟨hx, hA, fun h' tk' e hx' => ?_⟩) | wp_step))
  obtain ⟨t', u', he⟩ := hx'.there
  show wpAny _ _ (getattributeRaised _ _ _ _ _ _ _) _ _ _
  unfold getattributeRaised
  repeat (any_goals (first | assumption | wp_step))
  exact hq h' tk' fun b o _ e => hx'.of.keeps b o e
end
section
variable {prog : Program} {w : World} {A : Around} {E : Value → Shared → Prop} {s : Shared} {G : Heap} {L : Addr} {m : Str → Option Value} {news : List (Addr × Obj)} {d : Addr} {o : Obj} {D ps : DD} {es : List DictEntry} {ep : Nat} {Q : Value → Shared → Prop}
abbrev newDictO : Obj := { cls := .type "dict", data := .dict #[] }
theorem h_iter_items {v : Addr} (hv : s.heap.get? v = some (fieldsO "dict_items" #[.ref d])) (hd : s.heap.get? d = some o) (T : IsD o D es ep)
    (h : Q (.ref s.heap.objs.size) { s with heap := s.heap.push (itemIt d D.length ep 0 .none false .none .none) }) : wpAny (model prog w) A (pyIter (.ref v)) Q E s := by
  have hT : s.TypeIs (.ref v) "dict_items" := ⟨_, hv, rfl⟩
  refine wpAny_pyIter_slot hT PySem.F.slot_dict_items_iter (wpAny_call_entry PySem.F.slot_dict_items_iter hT PySem.F.entry_dict_items_iter ?_ (PySem.F.args_dict_items_iter_1 _))
  unfold Builtin.«dict_items.__iter__»
  refine wpAny_bind (wpAny_pure ?_)
  refine wpAny_bind ?_
  unfold Builtin.Dict_items.dictOf
  refine wpAny_bind (wpAny_field hv rfl (x := .ref d) rfl (wpAny_pure ?_))
  refine wpAny_bind ?_
  unfold Builtin.Dict_items.newIterator
  refine wpAny_bind (wpAny_dictEntries hd T.data ?_)
  refine wpAny_bind (wpAny_dictEpoch hd T.data ?_)
  have hsz : es.toArray.size = D.length := by rw [List.size_toArray, T.ents.len]
  have hown : Builtin.Dict_items.ownsTuple "dict_itemiterator" = true := by decide
  simp only [hown, if_true]
  refine wpAny_newObj_type (wpAny_pure ⟨_, rfl, "dict_itemiterator", _, ⟨_, Heap.get?_push_size _ rfl, rfl⟩, PySem.F.slot_dict_itemiterator_next.lookup, ?_⟩)
    (by simp only [sizeOk, Builtin.Dict_items.ownedTupleFields, List.size_toArray, List.length_append, List.length_cons, List.length_nil, sizeLine_eq]; omega)
  refine cast (congrArg (fun o => Q (.ref s.heap.objs.size) { s with heap := s.heap.push o }) ?_) h
  show itemIt d D.length ep 0 .none false .none .none = itemIt d es.toArray.size ep 0 .none false .none .none
  rw [hsz]
/-- dict of a list of pairs -/
theorem dict_of_list {l : Addr} {lo : Obj} {vs : Array Value} {n : Nat} {tl : List (Addr × Obj)} (hh : A.handled = none) (hlo : s.heap.get? l = some lo) (hc : lo.cls = .type "list") (hdt : lo.data = .seq vs n) (hdn : lo.dict = none) (P : PairsIn tl vs ps) (htl : ∀ q ∈ tl, s.heap.get? q.1 = some q.2)
    (hl : ps.length ≤ 900) (hQ : ∀ nd h' tk' o' es' ep', nd = s.heap.objs.size → Ext [] s.heap h' → h'.get? nd = some o' → PD o' (puts1 [] ps) es' ep' → Q (.ref nd) { s with heap := h', toks := tk' }) :
    wpAny (model prog w) A (call (.type "dict") [.ref l]) Q E s := by
  refine callType_codes (Q₁ := fun obj s₁ => obj = .ref s.heap.objs.size ∧ s₁ = { s with heap := s.heap.push newDictO }) PySem.F.kt_called_dict (PySem.F.kt_typeCall_dict_1 _) PySem.F.entry_dict_init (kt_code_dict_new _ ⟨rfl, rfl⟩) ?_
  rintro obj s₁ ⟨rfl, rfl⟩
  have hnd : (s.heap.push newDictO).get? s.heap.objs.size = some newDictO := Heap.get?_push_size _ rfl
  have hTd : Shared.TypeIs ({ s with heap := s.heap.push newDictO } : Shared) (.ref s.heap.objs.size) "dict" := ⟨_, hnd, rfl⟩
  refine ⟨hTd, PySem.F.args_dict_init_2 _ _, ?_⟩
  have e0 : Ext [] s.heap (s.heap.push newDictO) := fun b o _ e => Heap.get?_push_of_some _ e
  have hl0 := e0 _ _ List.not_mem_nil hlo
  have lt := Heap.lt_size hlo
  unfold Builtin.«dict.__init__»
  refine wpAny_bind ?_
  unfold Builtin.Dict.selfAndRest
  refine wpAny_bind (wpAny_notOrdered_dict hTd ?_)
  show wpAny _ _ (pure (s.heap.objs.size, [Value.ref l])) _ _ _
  refine wpAny_pure ?_
  show wpAny _ _ (Builtin.Dict.updateFrom "dict.__init__" s.heap.objs.size (.ref l) [] .none) _ _ _
  unfold Builtin.Dict.updateFrom
  refine wpAny_bind (wpAny_typeOf (T := "list") ⟨lo, hl0, hc⟩ ?_)
  rw [if_pos (by decide)]
  unfold getAttr?
  refine wpAny_bind (wpAny_bind (wpAny_mkText (miss_q_list hl0 hc hdt hdn HF.list_keys (by decide +kernel) hh fun h2 tk2 e2 => ?_)))
  simp only [Option.isNone_none, if_true]
  refine wpAny_bind (wpAny_rule ?_)
  have e02 := e0.trans e2
  have hl2 := e02 _ _ List.not_mem_nil hlo
  refine wpAny_bind (wpAny_pyIter_list ⟨lo, hl2, hc, _, hdt⟩ ?_)
  have hnd2 := e2 _ _ List.not_mem_nil hnd
  have ltn := Heap.lt_size hnd2
  have big : ∀ q ∈ (l, lo) :: tl, h2.get? q.1 = some q.2 ∧ q.1 ≠ h2.objs.size ∧ q.1 ≠ s.heap.objs.size := fun q hq => by
    have z : s.heap.get? q.1 = some q.2 := by
      rcases List.mem_cons.mp hq with rfl | hq
      · exact hlo
      · exact htl q hq
    have z2 := e02 _ _ List.not_mem_nil z
    exact ⟨z2, Nat.ne_of_lt (Heap.lt_size z2), Nat.ne_of_lt (Heap.lt_size z)⟩
  refine wpAny_pure ⟨plainId_quiet EF.plain_loop _, upd_loop (A := A.in1) (D0 := []) (ps := ps) (iter_pairs (A := A.in1.in1) hh hc hdt P fun q hq => (big q hq).2.1) (fun q hq => (big q hq).2.1) (fun q hq => (big q hq).2.2) (Nat.ne_of_lt ltn) (by simpa using hl) (ps.length - 0) 0 _ _ newDictO [] 0 _ rfl (Nat.zero_le _) ⟨⟨_, Heap.get?_push_size _ rfl, ⟨rfl, rfl⟩⟩, fun q hq => Heap.get?_push_of_some _ (big q hq).1⟩ (Heap.get?_push_of_some _ hnd2) ⟨rfl, rfl, rfl, .nil, Nat.zero_le _⟩ fun h3 tk3 o3 es3 ep3 e3 g3 p3 => ?_⟩
  refine ⟨rfl, hQ _ h3 tk3 o3 es3 ep3 rfl (fun b o _ q => ?_) g3 p3⟩
  have q2 := e02 b o List.not_mem_nil q
  exact e3 b o (by simp only [List.mem_cons, List.not_mem_nil, or_false, not_or]; exact ⟨Nat.ne_of_lt (Heap.lt_size q), Nat.ne_of_lt (Heap.lt_size q2)⟩) (Heap.get?_push_of_some _ q2)
/-- dict of a view of items -/
theorem dict_of_items {v : Addr} (hh : A.handled = none) (hv : s.heap.get? v = some (fieldsO "dict_items" #[.ref d])) (hd : s.heap.get? d = some o) (T : IsD o D es ep) (hl : D.length ≤ 900)
    (hQ : ∀ nd h' tk' o' es' ep', nd = s.heap.objs.size → Ext [] s.heap h' → h'.get? nd = some o' → PD o' (puts1 [] D) es' ep' → Q (.ref nd) { s with heap := h', toks := tk' }) :
    wpAny (model prog w) A (call (.type "dict") [.ref v]) Q E s := by
  refine callType_codes (Q₁ := fun obj s₁ => obj = .ref s.heap.objs.size ∧ s₁ = { s with heap := s.heap.push newDictO }) PySem.F.kt_called_dict (PySem.F.kt_typeCall_dict_1 _) PySem.F.entry_dict_init (kt_code_dict_new _ ⟨rfl, rfl⟩) ?_
  rintro obj s₁ ⟨rfl, rfl⟩
  have hnd : (s.heap.push newDictO).get? s.heap.objs.size = some newDictO := Heap.get?_push_size _ rfl
  have hTd : Shared.TypeIs ({ s with heap := s.heap.push newDictO } : Shared) (.ref s.heap.objs.size) "dict" := ⟨_, hnd, rfl⟩
  refine ⟨hTd, PySem.F.args_dict_init_2 _ _, ?_⟩
  have e0 : Ext [] s.heap (s.heap.push newDictO) := fun b o _ e => Heap.get?_push_of_some _ e
  have hv0 := e0 _ _ List.not_mem_nil hv
  unfold Builtin.«dict.__init__»
  refine wpAny_bind ?_
  unfold Builtin.Dict.selfAndRest
  refine wpAny_bind (wpAny_notOrdered_dict hTd ?_)
  show wpAny _ _ (pure (s.heap.objs.size, [Value.ref v])) _ _ _
  refine wpAny_pure ?_
  show wpAny _ _ (Builtin.Dict.updateFrom "dict.__init__" s.heap.objs.size (.ref v) [] .none) _ _ _
  unfold Builtin.Dict.updateFrom
  refine wpAny_bind (wpAny_typeOf (T := "dict_items") ⟨_, hv0, rfl⟩ ?_)
  rw [if_pos (by decide)]
  unfold getAttr?
  refine wpAny_bind (wpAny_bind (wpAny_mkText (miss_q_items hv0 hh fun h2 tk2 e2 => ?_)))
  simp only [Option.isNone_none, if_true]
  refine wpAny_bind (wpAny_rule ?_)
  have e02 := e0.trans e2
  have hv2 := e02 _ _ List.not_mem_nil hv
  have hd2 := e02 _ _ List.not_mem_nil hd
  refine wpAny_bind (h_iter_items hv2 hd2 T ?_)
  have hnd2 := e2 _ _ List.not_mem_nil hnd
  have ltn := Heap.lt_size hnd2
  have ne1 : d ≠ h2.objs.size := Nat.ne_of_lt (Heap.lt_size hd2)
  have ne2 : d ≠ s.heap.objs.size := Nat.ne_of_lt (Heap.lt_size hd)
  refine wpAny_pure ⟨plainId_quiet EF.plain_loop _, upd_loop (A := A.in1) (D0 := []) (ps := D) (iter_items (A := A.in1.in1) hh T ne1) (fun q hq => by rw [List.mem_singleton.mp hq]; exact ne1) (fun q hq => by rw [List.mem_singleton.mp hq]; exact ne2) (Nat.ne_of_lt ltn) (by simpa using hl) (D.length - 0) 0 _ _ newDictO [] 0 _ rfl (Nat.zero_le _) ⟨⟨_, Heap.get?_push_size _ rfl, ⟨_, _, _, _, rfl, .inl rfl⟩⟩, fun q hq => by rw [List.mem_singleton.mp hq]; exact Heap.get?_push_of_some _ hd2⟩ (Heap.get?_push_of_some _ hnd2) ⟨rfl, rfl, rfl, .nil, Nat.zero_le _⟩ fun h3 tk3 o3 es3 ep3 e3 g3 p3 => ?_⟩
  refine ⟨rfl, hQ _ h3 tk3 o3 es3 ep3 rfl (fun b o _ q => ?_) g3 p3⟩
  have q2 := e02 b o List.not_mem_nil q
  exact e3 b o (by simp only [List.mem_cons, List.not_mem_nil, or_false, not_or]; exact ⟨Nat.ne_of_lt (Heap.lt_size q), Nat.ne_of_lt (Heap.lt_size q2)⟩) (Heap.get?_push_of_some _ q2)
end
section
variable {prog : Program} {w : World} {A : Around} {E : Value → Shared → Prop} {s : Shared} {d a : Addr} {o od : Obj} {D : DD} {es : List DictEntry} {ep : Nat}
theorem mergeDict_PD {id : String} {Q : Unit → Shared → Prop} (hd : s.heap.get? d = some od) (Td : PD od [] [] 0) (ha : s.heap.get? a = some o) (Ta : PD o D es ep) (hne : a ≠ d) (hs : (a == sysModules) = false) (hn : (Keys D).Nodup) (hl : D.length ≤ 900)
    (h : ∀ h' tk' od' es' ep', Ext [d] s.heap h' → h'.get? d = some od' → PD od' D es' ep' → Q () { s with heap := h', toks := tk' }) : wpAny (model prog w) A (Builtin.Dict.mergeDict id d a) Q E s := by
  have hz : es.toArray.size = D.length := by rw [List.size_toArray, Ta.isd.ents.len]
  have hk : ∀ e ∈ es, isExactStrKey e.key = true := by
    have := Ta.isd.ents.exact
    simpa using this
  unfold Builtin.Dict.mergeDict
  rw [if_neg (by simpa using Ne.symm hne)]
  unfold Builtin.Dict.showsAll
  rw [if_neg (by rw [hs]; exact Bool.false_ne_true)]
  refine wpAny_bind (wpAny_pure ?_)
  refine wpAny_bind (wpAny_dictEntries ha Ta.isd.data ?_)
  have main : wpAny (model prog w) A (do
      let epoch ← dictEpoch a
      for i in [0:(← dictEntries a).size] do
        let some e := (← dictEntries a)[i]? | unsupported "internal:dict-merge"
        holding [e.key, e.val] (dictSetHashed d e.key e.hash e.val)
        if (← dictEpoch a) != epoch then unsupported s!"{id}:source-changed-during-callback") Q E s := by
    refine wpAny_bind (wpAny_dictEpoch ha Ta.isd.data ?_)
    refine wpAny_bind (wpAny_dictEntries ha Ta.isd.data ?_)
    refine wpAny_bind ?_
    rw [Std.Legacy.Range.forIn_eq_forIn_range']
    simp only [Std.Legacy.Range.size, Nat.sub_zero, Nat.add_sub_cancel, Nat.div_one]
    rw [hz]
    refine wpAny_forIn_list _ (fun rest _ s' => ∃ i, i ≤ D.length ∧ rest = (List.range' 0 D.length 1).drop i ∧ ∃ h' tk' od' es' ep', s' = { s with heap := h', toks := tk' } ∧ Ext [d] s.heap h' ∧ h'.get? d = some od' ∧ PD od' (puts1 [] (D.take i)) es' ep') _ ?_ ?_ _ _ ⟨0, Nat.zero_le _, rfl, s.heap, s.toks, od, [], 0, rfl, Ext.refl, hd, Td⟩
    · rintro x rest b s1 ⟨i, hi, hx, h', tk', od', es', ep', rfl, e, hd', Pd⟩
      have hlt : i < D.length := by
        rcases Nat.lt_or_ge i D.length with q | q
        · exact q
        · rw [List.drop_eq_nil_of_le (by simpa using q)] at hx; cases hx
      rw [List.drop_eq_getElem_cons (by simpa using hlt)] at hx
      obtain ⟨hx1, hx2⟩ := List.cons.inj hx
      have hxi : x = i := by rw [hx1]; simp
      subst hxi
      have ha' : h'.get? a = some o := e.one hne ha
      have hes : x < es.length := by rw [Ta.isd.ents.len]; exact hlt
      obtain ⟨k, t, u, k1, k2, k3⟩ := Ta.isd.ents.get hes
      refine wpAny_bind (wpAny_dictEntries (s := { s with heap := h', toks := tk' }) ha' Ta.isd.data ?_)
      have g : es.toArray[x]? = some es[x] := by simp [hes]
      rw [g]
      dsimp only
      rw [k1]
      refine wpAny_bind (wpAny_holding (setH_D hd' Pd.isd k2 (puts1_fit (by simpa using hl)) fun h'' c => ?_))
      have e2 := changed_ext c
      refine wpAny_bind (wpAny_dictEpoch (e2.one hne ha') Ta.isd.data ?_)
      rw [if_neg (by simp)]
      obtain ⟨es2, ep2, g2, I2⟩ := c.2
      refine wpAny_pure ⟨x + 1, hlt, hx2, h'', tk', _, es2, ep2, rfl, e.trans e2, g2, ?_⟩
      rw [puts1_take k3]
      exact Pd.with I2
    · rintro b s1 ⟨i, hi, hx, h', tk', od', es', ep', rfl, e, hd', Pd⟩
      have hin : i = D.length := by
        rcases Nat.lt_or_ge i D.length with q | q
        · rw [List.drop_eq_getElem_cons (by simpa using q)] at hx; cases hx
        · omega
      subst hin
      rw [List.take_length, puts1_nil hn] at Pd
      exact wpAny_pure (h h' tk' od' es' ep' e hd' Pd)
  dsimp only
  split
  · refine wpAny_bind (wpAny_dictEntries hd Td.isd.data ?_)
    rw [if_pos (show (#[] : Array DictEntry).isEmpty = true from rfl)]
    have ents : ∀ {Q' : Array DictEntry → Shared → Prop}, Q' es.toArray s → wpAny (model prog w) A (Builtin.Dict.entriesForEmpty id a) Q' E s := fun hq => by
      unfold Builtin.Dict.entriesForEmpty
      refine wpAny_bind (wpAny_dictEntries ha Ta.isd.data ?_)
      refine wpAny_bind (wpAny_forIn_array' _ (fun rest _ s' => (∀ e ∈ rest, isExactStrKey e.key = true) ∧ s' = s) _ ?_ ?_ _ _ ⟨by simpa using hk, rfl⟩)
      · rintro e rest b s' ⟨hr, rfl⟩
        have he := hr e (.head _)
        cases hkey : e.key with
        | str x t => exact wpAny_bind (wpAny_pure (wpAny_pure ⟨fun e' h' => hr e' (.tail _ h'), rfl⟩))
        | _ => rw [hkey] at he; cases he
      · rintro b s' ⟨_, rfl⟩
        exact wpAny_pure hq
    refine wpAny_bind (ents ?_)
    by_cases hem : D = []
    · have : es = [] := List.length_eq_zero_iff.mp (by rw [Ta.isd.ents.len, hem]; rfl)
      subst this
      subst hem
      rw [if_neg (by decide)]
      exact wpAny_pure (h s.heap s.toks od [] 0 Ext.refl hd Td)
    · have hne2 : es ≠ [] := fun q => hem (List.length_eq_zero_iff.mp (by rw [← Ta.isd.ents.len, q]; rfl))
      rw [if_pos (by cases es with | nil => exact absurd rfl hne2 | cons x l => rfl)]
      refine wpAny_bind (updK_D (es' := es) hd Td.isd rfl Ta.isd.ents (by omega) fun h' c => ?_)
      obtain ⟨es2, ep2, g2, I2⟩ := c.2
      exact wpAny_pure (h h' s.toks _ es2 ep2 (changed_ext c) g2 (Td.with I2))
  · exact main
/-- dict of a dict -/
theorem dict_of_dict {Q : Value → Shared → Prop} (ha : s.heap.get? a = some o) (Ta : PD o D es ep) (hs : (a == sysModules) = false) (hn : (Keys D).Nodup) (hl : D.length ≤ 900)
    (hQ : ∀ nd h' tk' o' es' ep', nd = s.heap.objs.size → Ext [] s.heap h' → h'.get? nd = some o' → PD o' D es' ep' → Q (.ref nd) { s with heap := h', toks := tk' }) :
    wpAny (model prog w) A (call (.type "dict") [.ref a]) Q E s := by
  refine callType_codes (Q₁ := fun obj s₁ => obj = .ref s.heap.objs.size ∧ s₁ = { s with heap := s.heap.push newDictO }) PySem.F.kt_called_dict (PySem.F.kt_typeCall_dict_1 _) PySem.F.entry_dict_init (kt_code_dict_new _ ⟨rfl, rfl⟩) ?_
  rintro obj s₁ ⟨rfl, rfl⟩
  have hnd : (s.heap.push newDictO).get? s.heap.objs.size = some newDictO := Heap.get?_push_size _ rfl
  have hTd : Shared.TypeIs ({ s with heap := s.heap.push newDictO } : Shared) (.ref s.heap.objs.size) "dict" := ⟨_, hnd, rfl⟩
  refine ⟨hTd, PySem.F.args_dict_init_2 _ _, ?_⟩
  have e0 : Ext [] s.heap (s.heap.push newDictO) := fun b o _ e => Heap.get?_push_of_some _ e
  have ha0 := e0 _ _ List.not_mem_nil ha
  have ne : a ≠ s.heap.objs.size := Nat.ne_of_lt (Heap.lt_size ha)
  have hTa : Shared.TypeIs ({ s with heap := s.heap.push newDictO } : Shared) (.ref a) "dict" := ⟨o, ha0, Ta.cls⟩
  unfold Builtin.«dict.__init__»
  refine wpAny_bind ?_
  unfold Builtin.Dict.selfAndRest
  refine wpAny_bind (wpAny_notOrdered_dict hTd ?_)
  show wpAny _ _ (pure (s.heap.objs.size, [Value.ref a])) _ _ _
  refine wpAny_pure ?_
  show wpAny _ _ (Builtin.Dict.updateFrom "dict.__init__" s.heap.objs.size (.ref a) [] .none) _ _ _
  unfold Builtin.Dict.updateFrom
  refine wpAny_bind (wpAny_typeOf hTa ?_)
  rw [if_neg (by decide)]
  refine wpAny_bind ?_
  unfold Builtin.Dict.merge
  refine wpAny_bind ?_
  unfold Builtin.Dict.readDirectly
  refine wpAny_bind (wpAny_isInstance hTa isSubtype_dict_dict ?_)
  simp only [Bool.not_true, Bool.false_eq_true, if_false]
  refine wpAny_bind (wpAny_specialOf hTa PySem.F.slot_dict_iter.lookup (wpAny_pure ?_))
  simp only [beq_self_eq_true, if_true]
  refine wpAny_bind (wpAny_pure ?_)
  refine mergeDict_PD hnd ⟨rfl, rfl, rfl, .nil, Nat.zero_le _⟩ ha0 Ta ne hs hn hl fun h' tk' od' es' ep' e g P => ?_
  show wpAny _ _ (Builtin.Dict.addKeywords s.heap.objs.size [] >>= _) _ _ _
  refine wpAny_bind (wpAny_pure (wpAny_pure ⟨rfl, hQ _ h' tk' od' es' ep' rfl (fun b o _ q => ?_) g P⟩))
  exact e.one (Nat.ne_of_lt (Heap.lt_size q)) (e0 _ _ List.not_mem_nil q)
end
def deq (D1 D2 : DD) : Bool := D1.length == D2.length && D1.all fun p => decide (lk p.1 D2 = some p.2)
section
variable {prog : Program} {w : World} {A : Around} {E : Value → Shared → Prop} {s : Shared} {d a b : Addr} {o ob : Obj} {D Db : DD} {es esb : List DictEntry} {ep epb : Nat}
theorem eq_V {u u' : V} {v v' : Value} (h : VIs u v) (h' : VIs u' v') : SeqAt.EqAt A s v v' (decide (u = u')) := by
  cases u with
  | none =>
    cases h
    cases u' with
    | none => cases h'; exact SeqAt.EqAt.same _
    | int i => obtain ⟨t, rfl⟩ := h'; exact SeqAt.EqAt.none_int i t
    | str x => obtain ⟨t, rfl⟩ := h'; exact SeqAt.EqAt.none_str x t
  | int i =>
    obtain ⟨t, rfl⟩ := h
    cases u' with
    | none => cases h'; exact SeqAt.EqAt.int_none i t
    | int j => obtain ⟨t', rfl⟩ := h'; rw [show decide (V.int i = V.int j) = (i == j) from by by_cases q : i = j <;> simp [q]]; exact SeqAt.EqAt.int_int i t j t'
    | str x => obtain ⟨t', rfl⟩ := h'; exact SeqAt.EqAt.int_str i t x t'
  | str x =>
    obtain ⟨t, rfl⟩ := h
    cases u' with
    | none => cases h'; exact SeqAt.EqAt.str_none x t
    | int j => obtain ⟨t', rfl⟩ := h'; exact SeqAt.EqAt.str_int x t j t'
    | str y => obtain ⟨t', rfl⟩ := h'; rw [show decide (V.str x = V.str y) = (x == y) from by by_cases q : x = y <;> simp [q]]; exact SeqAt.EqAt.str_str x t y t'
theorem samePairs_D {nm : String} {Q : Bool → Shared → Prop} (sa : (a == sysModules) = false) (sb : (b == sysModules) = false) (ha : s.heap.get? a = some o) (Ta : IsD o D es ep) (hb : s.heap.get? b = some ob) (Tb : IsD ob Db esb epb) (h : Q (deq D Db) s) :
    wpAny (model prog w) A (Builtin.Dict.samePairs nm a b) Q E s := by
  have za : es.toArray.size = D.length := by rw [List.size_toArray, Ta.ents.len]
  have zb : esb.toArray.size = Db.length := by rw [List.size_toArray, Tb.ents.len]
  unfold Builtin.Dict.samePairs Builtin.Dict.showsAll
  rw [if_neg (show ¬ (a == sysModules) = true by rw [sa]; exact Bool.false_ne_true), if_neg (show ¬ (b == sysModules) = true by rw [sb]; exact Bool.false_ne_true)]
  refine wpAny_bind (wpAny_pure (wpAny_bind (wpAny_pure ?_)))
  refine wpAny_bind (wpAny_dictEntries ha Ta.data ?_)
  dsimp only
  refine wpAny_bind (wpAny_dictEntries hb Tb.data ?_)
  rw [za, zb]
  by_cases hsz : D.length = Db.length
  case neg =>
    rw [if_pos (by simpa using hsz)]
    have : deq D Db = false := by unfold deq; simp [hsz]
    rw [this] at h
    exact wpAny_bind (wpAny_rule (wpAny_pure h))
  case pos =>
    rw [if_neg (by rw [hsz]; simp)]
    have hd : deq D Db = D.all fun p => decide (lk p.1 Db = some p.2) := by unfold deq; simp [hsz]
    rw [hd] at h
    refine wpAny_bind (wpAny_dictEpoch ha Ta.data ?_)
    refine wpAny_bind ?_
    rw [Std.Legacy.Range.forIn_eq_forIn_range']
    simp only [Std.Legacy.Range.size, Nat.sub_zero, Nat.add_sub_cancel, Nat.div_one]
    refine wpAny_forIn_list _ (fun rest q s' => s' = s ∧ q = (none, ()) ∧ ∃ i, i ≤ D.length ∧ rest = (List.range' 0 D.length 1).drop i ∧ (D.take i).all (fun p => decide (lk p.1 Db = some p.2)) = true) _ ?_ ?_ _ _ ⟨rfl, rfl, 0, Nat.zero_le _, rfl, rfl⟩
    · rintro x rest q s' ⟨rfl, rfl, i, hi, hx, hall⟩
      have hlt : i < D.length := by
        rcases Nat.lt_or_ge i D.length with q | q
        · exact q
        · rw [List.drop_eq_nil_of_le (by simpa using q)] at hx; cases hx
      rw [List.drop_eq_getElem_cons (by simpa using hlt)] at hx
      obtain ⟨hx1, hx2⟩ := List.cons.inj hx
      have hxi : x = i := by rw [hx1]; simp
      subst hxi
      have hes : x < es.length := by rw [Ta.ents.len]; exact hlt
      obtain ⟨k, t, u, k1, k2, k3⟩ := Ta.ents.get hes
      have hDx : D[x] = (k, u) := by have := List.getElem?_eq_getElem hlt; rw [k3] at this; exact (Option.some.inj this).symm
      have split : (D.all fun p => decide (lk p.1 Db = some p.2)) = (decide (lk k Db = some u) && (D.drop (x + 1)).all fun p => decide (lk p.1 Db = some p.2)) := by
        conv => lhs; rw [← List.take_append_drop x D]
        rw [List.all_append, hall, Bool.true_and, List.drop_eq_getElem_cons hlt, List.all_cons, hDx]
      refine wpAny_bind (wpAny_dictEntries ha Ta.data ?_)
      have g : es.toArray[x]? = some es[x] := by simp [hes]
      rw [g]
      dsimp only
      rw [k1]
      refine wpAny_bind (wpAny_holding (wpAny_bind (find_D hb Tb ?_)))
      rcases Tb.ents.at k with ⟨m1, m2, -, -⟩ | ⟨j, e, u', m1, m2, m3, m4, m5, -, -⟩
      · rw [m2]
        have : (D.all fun p => decide (lk p.1 Db = some p.2)) = false := by rw [split, m1]; simp
        rw [this] at h
        refine wpAny_pure ?_
        simp only [Bool.not_false, if_true]
        exact wpAny_pure (wpAny_pure h)
      · rw [m2]
        dsimp only
        refine wpAny_bind (wpAny_dictEntries hb Tb.data ?_)
        have g2 : esb.toArray[j]? = some e := by simp [m3]
        rw [g2]
        dsimp only
        refine wpAny_holding (eq_V k2 m5 prog w _ _ ?_)
        rw [m1] at split
        by_cases huu : u = u'
        · rw [decide_eq_true huu]
          simp only [Bool.not_true, Bool.false_eq_true, if_false]
          refine wpAny_bind (wpAny_dictEpoch ha Ta.data ?_)
          rw [if_neg (by simp)]
          refine wpAny_pure ⟨rfl, rfl, x + 1, hlt, hx2, ?_⟩
          rw [List.take_add_one, k3, List.all_append, hall]
          simp [m1, huu]
        · rw [decide_eq_false huu]
          simp only [Bool.not_false, if_true]
          have : (D.all fun p => decide (lk p.1 Db = some p.2)) = false := by
            rw [split]
            have : ¬ (some u' = some u) := fun q => huu (Option.some.inj q).symm
            rw [decide_eq_false this, Bool.false_and]
          rw [this] at h
          exact wpAny_pure (wpAny_pure h)
    · rintro q s' ⟨rfl, rfl, i, hi, hx, hall⟩
      have hin : i = D.length := by
        rcases Nat.lt_or_ge i D.length with q | q
        · rw [List.drop_eq_getElem_cons (by simpa using q)] at hx; cases hx
        · omega
      subst hin
      rw [List.take_length] at hall
      rw [hall] at h
      exact wpAny_pure h
theorem d_eq {Q : Value → Shared → Prop} (hu : A.units < cLine) (sa : (a == sysModules) = false) (sb : (b == sysModules) = false) (ha : s.heap.get? a = some o) (Ta : PD o D es ep) (hb : s.heap.get? b = some ob) (Tb : PD ob Db esb epb) (h : Q (.bool (deq D Db)) s) :
    wpAny (model prog w) A (compareOp .Eq (.ref a) (.ref b)) Q E s := by
  have ta := Ta.ty ha
  have tb := Tb.ty hb
  refine wpAny_richCompare_same_room (op := .Eq) ta tb PySem.F.slot_dict_eq (wpAny_call_entry PySem.F.slot_dict_eq ta PySem.F.entry_dict_eq ?_ (PySem.F.args_dict_eq_2 _ _)) hu
  show wpAny _ _ (Builtin.Dict.dictSlotArgs "__eq__" ⟨[.ref a, .ref b], []⟩ >>= _) _ _ s
  refine wpAny_bind ?_
  unfold Builtin.Dict.dictSlotArgs
  refine wpAny_bind (wpAny_notOrdered_dict ta ?_)
  show wpAny _ _ (pure (Value.ref a, Value.ref b)) _ _ s
  refine wpAny_pure ?_
  refine wpAny_bind (wpAny_isInstance (T := "dict") tb PySem.F.sub_dict_dict ?_)
  simp only [Bool.not_true, Bool.false_eq_true, if_false]
  refine wpAny_bind (wpAny_pure (wpAny_bind (wpAny_pure ?_)))
  refine wpAny_bind (samePairs_D sa sb ha Ta.isd hb Tb.isd ?_)
  exact wpAny_pure ⟨_, rfl, fun x => (nomatch x), by simpa using h⟩
theorem d_ne {Q : Value → Shared → Prop} (hu : A.units < cLine) (sa : (a == sysModules) = false) (sb : (b == sysModules) = false) (ha : s.heap.get? a = some o) (Ta : PD o D es ep) (hb : s.heap.get? b = some ob) (Tb : PD ob Db esb epb) (h : Q (.bool (!deq D Db)) s) :
    wpAny (model prog w) A (compareOp .NotEq (.ref a) (.ref b)) Q E s := by
  have ta := Ta.ty ha
  have tb := Tb.ty hb
  refine wpAny_richCompare_same_room (op := .NotEq) ta tb PySem.F.slot_dict_ne (wpAny_call_entry PySem.F.slot_dict_ne ta PySem.F.entry_dict_ne ?_ (PySem.F.args_dict_ne_2 _ _)) hu
  show wpAny _ _ (Builtin.Dict.dictSlotArgs "__ne__" ⟨[.ref a, .ref b], []⟩ >>= _) _ _ s
  refine wpAny_bind ?_
  unfold Builtin.Dict.dictSlotArgs
  refine wpAny_bind (wpAny_notOrdered_dict ta ?_)
  show wpAny _ _ (pure (Value.ref a, Value.ref b)) _ _ s
  refine wpAny_pure ?_
  refine wpAny_bind (wpAny_isInstance (T := "dict") tb PySem.F.sub_dict_dict ?_)
  simp only [Bool.not_true, Bool.false_eq_true, if_false]
  refine wpAny_bind (wpAny_pure (wpAny_bind (wpAny_pure ?_)))
  refine wpAny_bind (samePairs_D sa sb ha Ta.isd hb Tb.isd ?_)
  exact wpAny_pure ⟨_, rfl, fun x => (nomatch x), by simpa using h⟩
end
section
variable {prog : Program} {w : World} {A : Around} {E : Value → Shared → Prop} {s : Shared} {v : Value}
theorem isi_dict {t : Value} {Q : Value → Shared → Prop} (hx : v ≠ .builtin "__main__.__loader__#opaque") (ht : ∀ M, Looks M s.heap (typeOf v) t) (hs : ∀ M, Looks M s.heap (isSubtype t (.type "dict")) true) (h : Q (.bool true) s) :
    wpAny (model prog w) A (call (.builtin "isinstance") [v, .type "dict"]) Q E s := by
  obtain ⟨hh, g, d, tt, os⟩ := s
  refine call_isinstance_of ?_ hx
  have h1 := ht (model prog w)
  have h2 := hs (model prog w)
  have hi : Looks (model prog w) hh (isInstance v (.type "dict")) true := h1.andThen h2
  unfold Builtin.«isinstance.nested»
  refine wpAny_bind (h1.at ?_)
  by_cases q : (t == Value.type "dict") = true
  · rw [if_pos q]
    refine wpAny_bind (wpAny_rule ?_)
    exact wpAny_pure h
  · rw [if_neg q]
    refine wpAny_bind (wpAny_of_eq (show typeOf (.type "dict") = pure (.type "type") from by kernel_rfl) ?_)
    rw [if_pos (by decide)]
    k_delta "plainIsInstance"
    unfold isType
    repeat lk
    exact h
theorem PD.looks {M : Model} {h : Heap} {d : Addr} {o : Obj} {D : DD} {es : List DictEntry} {ep : Nat} (hd : h.get? d = some o) (T : PD o D es ep) : Looks M h (typeOf (.ref d)) (.type "dict") := by
  rw [← T.cls]; exact (Looks.ld hd).andThen .now
end
theorem Room.units {n : Nat} {A : Around} (r : Room n A) : A.units < cLine := by have := r.un; show A.units < 9900; omega
theorem neq_off {a : Addr} : (Value.ref a) ≠ .builtin "__main__.__loader__#opaque" := fun e => by cases e
namespace IF
theorem kind_items : builtinKind "dict.items" = some .method := by decide +kernel
theorem split_items : splitId "dict.items" = some ("dict", "items") := by decide +kernel
theorem kind_keys : builtinKind "dict.keys" = some .method := by decide +kernel
theorem split_keys : splitId "dict.keys" = some ("dict", "keys") := by decide +kernel
end IF
theorem chk_bi {w : World} {A : Around} {E : Value → Shared → Prop} {s : Shared} {x : Addr} {o : Obj} {odx : Option Obj} {id n : String} {rest : List Value} {Q : Unit → Shared → Prop} (X : (hd.heap_39 w.params).In s.heap) (I : InstAt s.heap x o 169 odx) (hk : builtinKind id = some .method) (hs : splitId id = some ("dict", n))
    (ha : argsOk id ⟨.ref x :: rest, []⟩) (q : Q () s) : wpAny (model PySem.Challenge.rw_co0001_01.row.prog w) A (checkBuiltinCall id ⟨.ref x :: rest, []⟩) Q E s := by
  have hi : Looks (model PySem.Challenge.rw_co0001_01.row.prog w) s.heap (isInstance (.ref x) (.type "dict")) true := I.type.andThen (looks_mroIn X (by k_dflt k_is))
  simp only [checkBuiltinCall, hk, hs]
  refine wpAny_bind (hi.here ?_)
  simp only [Bool.not_true, Bool.false_eq_true, if_false]
  cases hsig : Manifest.signature? id with
  | none => exact wpAny_pure q
  | some sig =>
    simp only [argsOk, hsig] at ha
    have h2 : Bind.checkArgs id sig ⟨.ref x :: rest, []⟩ = pure () := ha
    show wpAny (model PySem.Challenge.rw_co0001_01.row.prog w) A (Bind.checkArgs id sig ⟨.ref x :: rest, []⟩) Q E s
    rw [h2]; exact wpAny_pure q
section
variable {w : World} {A : Around} {E : Value → Shared → Prop} {s : Shared} {G : Heap} {L : Addr} {m : Str → Option Value} {news : List (Addr × Obj)} {Q : Value → Shared → Prop} {x dx d v : Addr} {o od : Obj} {D ps kd : DD} {es : List DictEntry} {ep n : Nat}
  {p : Program} {loose : List Str} {mean : ExcName → Option Value} {mg mb : Str → Option Value}
theorem U_isi_t {odx : Option Obj} (F : Fr G L s.heap m) (X : (hd.heap_39 w.params).In G) (I : InstAt s.heap x o 169 odx) (h : Q (.bool true) s) : wpAny (model PySem.Challenge.rw_co0001_01.row.prog w) A (call (.builtin "isinstance") [.ref x, .type "dict"]) Q E s := by
  refine isi_dict neq_off (t := .ref 169) (fun M => I.type) (fun M => looks_mroIn (X.keeps F.keep) ?a) h
  case a => k_dflt k_is
theorem U_isi_p (hd : s.heap.get? d = some o) (T : PD o D es ep) (h : Q (.bool true) s) : wpAny (model PySem.Challenge.rw_co0001_01.row.prog w) A (call (.builtin "isinstance") [.ref d, .type "dict"]) Q E s :=
  isi_dict neq_off (t := .type "dict") (fun M => T.looks hd) (fun M => Looks.of_pure PySem.F.kt_sub_dict) h
theorem U_told_items {odx : Option Obj} (F : Fr G L s.heap m) (X : (hd.heap_39 w.params).In G) (N : News G L s.heap news) (I : InstAt s.heap x o 169 odx) (hs : (x == sysModules) = false)
    (h : ∀ v h', Fr G L h' m → News G L h' ((v, fieldsO "dict_items" #[.ref x]) :: news) → (∀ p ∈ news, p.1 < v) → Q (.ref v) { s with heap := h' }) : wpAny (model PySem.Challenge.rw_co0001_01.row.prog w) A (call (.builtin "dict.items") [.ref x]) Q E s := by
  have X' := X.keeps F.keep
  refine wpAny_call (codeAny_call_builtin PySem.F.slot_dict_items.plain PySem.F.entry_dict_items ?_)
  refine chk_bi X' I (id := "dict.items") IF.kind_items IF.split_items (PySem.F.args_dict_items_1 _) ?_
  exact bi_items (no_t X' I) hs (o := o) F N fun v h' F' N' l' => h v h' F' N' l'
theorem U_told_keys {odx : Option Obj} (F : Fr G L s.heap m) (X : (hd.heap_39 w.params).In G) (N : News G L s.heap news) (I : InstAt s.heap x o 169 odx) (hs : (x == sysModules) = false)
    (h : ∀ v h', Fr G L h' m → News G L h' ((v, fieldsO "dict_keys" #[.ref x]) :: news) → (∀ p ∈ news, p.1 < v) → Q (.ref v) { s with heap := h' }) : wpAny (model PySem.Challenge.rw_co0001_01.row.prog w) A (call (.builtin "dict.keys") [.ref x]) Q E s := by
  have X' := X.keeps F.keep
  refine wpAny_call (codeAny_call_builtin PySem.F.slot_dict_keys.plain PySem.F.entry_dict_keys ?_)
  refine chk_bi X' I (id := "dict.keys") IF.kind_keys IF.split_keys (PySem.F.args_dict_keys_1 _) ?_
  exact bi_keys (no_t X' I) hs (o := o) F N fun v h' F' N' l' => h v h' F' N' l'
theorem U_dict_items {v : Addr} (F : Fr G L s.heap m) (N : News G L s.heap news) {k : Nat} (RM : Room k A) (hv : (v, fieldsO "dict_items" #[.ref d]) ∈ news) (hd : s.heap.get? d = some o) (T : IsD o D es ep) (hn : (Keys D).Nodup) (hl : D.length ≤ 900)
    (h : ∀ nd h' tk' o' es' ep', Fr G L h' m → News G L h' ((nd, o') :: news) → (∀ p ∈ news, p.1 < nd) → PD o' D es' ep' → Q (.ref nd) { s with heap := h', toks := tk' }) : wpAny (model PySem.Challenge.rw_co0001_01.row.prog w) A (call (.type "dict") [.ref v]) Q E s :=
  dict_of_items RM.hd (N _ hv).1 hd T hl fun nd h' tk' o' es' ep' e1 e2 g P => by
    subst e1
    rw [puts1_nil hn] at P
    have F' := fr0 F e2
    have N' : News G L h' ((s.heap.objs.size, o') :: news) := fun q hq => by
      rcases List.mem_cons.mp hq with rfl | hq
      · refine ⟨g, Nat.ne_of_gt F.ns.lt, ?_⟩
        cases z : G.get? s.heap.objs.size with
        | none => rfl
        | some o => exact absurd (Heap.lt_size (F.keep _ _ z)) (Nat.lt_irrefl _)
      · exact news0 N e2 q hq
    exact h _ h' tk' o' es' ep' F' N' (fun p hp => Heap.lt_size (N p hp).1) P
theorem news_new {h' : Heap} {o' : Obj} (F : Fr G L s.heap m) (N : News G L s.heap news) (e2 : Ext [] s.heap h') (g : h'.get? s.heap.objs.size = some o') : Fr G L h' m ∧ News G L h' ((s.heap.objs.size, o') :: news) ∧ ∀ p ∈ news, p.1 < s.heap.objs.size :=
  ⟨fr0 F e2, fun q hq => by
      rcases List.mem_cons.mp hq with rfl | hq
      · refine ⟨g, Nat.ne_of_gt F.ns.lt, ?_⟩
        cases z : G.get? s.heap.objs.size with
        | none => rfl
        | some o => exact absurd (Heap.lt_size (F.keep _ _ z)) (Nat.lt_irrefl _)
      · exact news0 N e2 q hq, fun p hp => Heap.lt_size (N p hp).1⟩
theorem U_dict_dict (F : Fr G L s.heap m) (N : News G L s.heap news) (hd : s.heap.get? d = some o) (T : PD o D es ep) (hs : (d == sysModules) = false) (hn : (Keys D).Nodup) (hl : D.length ≤ 900)
    (h : ∀ nd h' tk' o' es' ep', Fr G L h' m → News G L h' ((nd, o') :: news) → (∀ p ∈ news, p.1 < nd) → PD o' D es' ep' → Q (.ref nd) { s with heap := h', toks := tk' }) : wpAny (model PySem.Challenge.rw_co0001_01.row.prog w) A (call (.type "dict") [.ref d]) Q E s :=
  dict_of_dict hd T hs hn hl fun nd h' tk' o' es' ep' e1 e2 g P => by
    subst e1
    obtain ⟨F', N', l'⟩ := news_new F N e2 g
    exact h _ h' tk' o' es' ep' F' N' l' P
theorem U_dict_list {l : Addr} {lo : Obj} {vs : Array Value} {k : Nat} {tl : List (Addr × Obj)} (F : Fr G L s.heap m) (N : News G L s.heap news) (RM : Room k A) (hlo : s.heap.get? l = some lo) (hc : lo.cls = .type "list") (hdt : lo.data = .seq vs n) (hdn : lo.dict = none) (P : PairsIn tl vs ps) (htl : ∀ q ∈ tl, s.heap.get? q.1 = some q.2) (hl : ps.length ≤ 900)
    (h : ∀ nd h' tk' o' es' ep', Fr G L h' m → News G L h' ((nd, o') :: news) → (∀ p ∈ news, p.1 < nd) → PD o' (puts1 [] ps) es' ep' → Q (.ref nd) { s with heap := h', toks := tk' }) : wpAny (model PySem.Challenge.rw_co0001_01.row.prog w) A (call (.type "dict") [.ref l]) Q E s :=
  dict_of_list RM.hd hlo hc hdt hdn P htl hl fun nd h' tk' o' es' ep' e1 e2 g P => by
    subst e1
    obtain ⟨F', N', l'⟩ := news_new F N e2 g
    exact h _ h' tk' o' es' ep' F' N' l' P
end
theorem TD.noTup {o : Obj} {dx : Addr} {D : DD} {es : List DictEntry} {ep : Nat} (T : TD o dx D es ep) : o.cls ≠ .type "tuple" := by rw [T.cls]; exact fun e => by cases e
theorem is_ne {prog : Program} {w : World} {A : Around} {E : Value → Shared → Prop} {s : Shared} {x y : Addr} {ox oy : Obj} {Q : Value → Shared → Prop} (hne : x ≠ y) (hx : s.heap.get? x = some ox) (hy : s.heap.get? y = some oy) (hc : ox.cls ≠ .type "tuple") (h : Q (.bool false) s) :
    wpAny (model prog w) A (compareOp .Is (.ref x) (.ref y)) Q E s := by
  show wpAny _ _ (do return .bool (← isSame (.ref x) (.ref y))) Q E s
  exact wpAny_bind (wpAny_isSame_ref_other hne hx hy hc (wpAny_pure h))
theorem cmp_back {Q : Value → Shared → Prop} {b : Bool} {s : Shared} (h : Q (.bool b) s) : PySem.W.CmpBack Q (.bool b) s := h
local macro_rules | `(tactic| walk_at "CmpBack bool") => `(tactic| (with_unfolding_all refine cmp_back ?_))
local macro_rules | `(tactic| k_units) => `(tactic| exact Room.units (by k_asm))
local macro_rules | `(tactic| k_typeOf) => `(tactic| exact PD.looks (by first | exact PyProof.Rows.News.get (by k_asm) (by k_mem) | exact Fr.keep (by k_asm) _ _ (by assumption)) (by k_asm))
local macro_rules | `(tactic| walk_at "call builtin:isinstance") => `(tactic| (k_here; k_dflt (first
  | (refine' U_isi_t ?k1 ?k2 ?k3 ?_; (case k1 => k_asm); (case k2 => k_asm); (case k3 => k_inst); k_whole)
  | (refine' U_isi_p ?k1 ?k2 ?_; (case k1 => (first | exact PyProof.Rows.News.get (by k_asm) (by k_mem) | exact Fr.keep (by k_asm) _ _ (by assumption))); (case k2 => k_asm); k_whole))))
local macro_rules | `(tactic| walk_at "call builtin:dict.items") => `(tactic| (k_here; k_dflt (refine' U_told_items ?k1 ?k2 ?k3 ?k4 ?k5 ?_; (case k1 => k_asm); (case k2 => k_asm); (case k3 => k_asm); (case k4 => k_inst); (case k5 => (first | with_reducible assumption | (exact nsys (by omega)) | k_asm)); k_whole); intro v' h' F' N' l1; (try k_lt l1); (try k_sweep)))
local macro_rules | `(tactic| walk_at "call builtin:dict.keys") => `(tactic| (k_here; k_dflt (refine' U_told_keys ?k1 ?k2 ?k3 ?k4 ?k5 ?_; (case k1 => k_asm); (case k2 => k_asm); (case k3 => k_asm); (case k4 => k_inst); (case k5 => (first | with_reducible assumption | (exact nsys (by omega)) | k_asm)); k_whole); intro v' h' F' N' l1; (try k_lt l1); (try k_sweep)))
local macro_rules | `(tactic| walk_at "call type:dict") => `(tactic| (k_here; k_dflt (first
  | (refine' U_dict_items ?k1 ?k2 ?k3 ?k4 ?k5 ?k6 ?k7 ?k8 ?_; (case k1 => k_asm); (case k2 => k_asm); (case k3 => k_asm); (case k4 => k_mem); (case k5 => (first | exact PyProof.Rows.News.get (by k_asm) (by k_mem) | exact Fr.keep (by k_asm) _ _ (by assumption))); (case k6 => (first | exact PD.isd (by k_asm) | exact TD.isd (by k_asm))); (case k7 => k_asm); (case k8 => k_asm); k_whole; intro nd' h' tk' o' es' ep' F' N' l1 pd'; (try k_lt l1); (try k_sweep))
  | (refine' U_dict_dict ?k1 ?k2 ?k3 ?k4 ?k5 ?k6 ?k7 ?_; (case k1 => k_asm); (case k2 => k_asm); (case k3 => (first | exact PyProof.Rows.News.get (by k_asm) (by k_mem) | exact Fr.keep (by k_asm) _ _ (by assumption))); (case k4 => k_asm); (case k5 => (first | with_reducible assumption | (exact nsys (by omega)) | k_asm)); (case k6 => k_asm); (case k7 => k_asm); k_whole; intro nd' h' tk' o' es' ep' F' N' l1 pd'; (try k_lt l1); (try k_sweep)))))
local macro_rules | `(tactic| walk_at "compareOp Is") => `(tactic| (k_here; (with_reducible show wpAny _ _ (compareOp CmpOp.Is (Value.ref _) (Value.ref _)) _ _ _); k_dflt (refine' is_ne ?k1 ?k2 ?k3 ?k4 ?_; (case k1 => k_ne); (case k2 => (first | exact PyProof.Rows.News.get (by k_asm) (by k_mem) | exact Fr.keep (by k_asm) _ _ (by assumption))); (case k3 => (first | exact PyProof.Rows.News.get (by k_asm) (by k_mem) | exact Fr.keep (by k_asm) _ _ (by assumption))); (case k4 => exact TD.noTup (by k_asm)); k_whole)))
local macro_rules | `(tactic| walk_at "compareOp Eq ref ref") => `(tactic| (k_here; k_dflt (refine' d_eq ?k0 ?k1 ?k2 ?k3 ?k4 ?k5 ?k6 ?_; (case k0 => exact Room.units (by k_asm)); (case k3 => (first | exact PyProof.Rows.News.get (by k_asm) (by k_mem) | exact Fr.keep (by k_asm) _ _ (by assumption))); (case k4 => k_asm); (case k5 => (first | exact PyProof.Rows.News.get (by k_asm) (by k_mem) | exact Fr.keep (by k_asm) _ _ (by assumption))); (case k6 => k_asm); (case k1 => (first | with_reducible assumption | (exact nsys (by omega)) | k_asm)); (case k2 => (first | with_reducible assumption | (exact nsys (by omega)) | k_asm)); k_whole)))
local macro_rules | `(tactic| walk_at "compareOp NotEq ref ref") => `(tactic| (k_here; k_dflt (refine' d_ne ?k0 ?k1 ?k2 ?k3 ?k4 ?k5 ?k6 ?_; (case k0 => exact Room.units (by k_asm)); (case k3 => (first | exact PyProof.Rows.News.get (by k_asm) (by k_mem) | exact Fr.keep (by k_asm) _ _ (by assumption))); (case k4 => k_asm); (case k5 => (first | exact PyProof.Rows.News.get (by k_asm) (by k_mem) | exact Fr.keep (by k_asm) _ _ (by assumption))); (case k6 => k_asm); (case k1 => (first | with_reducible assumption | (exact nsys (by omega)) | k_asm)); (case k2 => (first | with_reducible assumption | (exact nsys (by omega)) | k_asm)); k_whole)))
theorem at3 {G h : Heap} {a b c : Addr} {o o' o'' : Obj} (h1 : At G h a o) (h2 : At G h b o') (h3 : At G h c o'') : ∀ q ∈ [(a, o), (b, o'), (c, o'')], h.get? q.1 = some q.2 ∧ G.get? q.1 = none := by simpa using ⟨h1, h2, h3⟩
theorem at4 {G h : Heap} {a b c d : Addr} {o o' o'' o3 : Obj} (h1 : At G h a o) (h2 : At G h b o') (h3 : At G h c o'') (h4 : At G h d o3) : ∀ q ∈ [(a, o), (b, o'), (c, o''), (d, o3)], h.get? q.1 = some q.2 ∧ G.get? q.1 = none := by simpa using ⟨h1, h2, h3, h4⟩
theorem ext_S {S news : List (Addr × Obj)} {G h h' g' : Heap} {L : Addr} (E : Ext (S.map (·.1)) h h') (a : ∀ q ∈ S, h.get? q.1 = some q.2 ∧ G.get? q.1 = none) (N : News g' L h' news) (m : ∀ q ∈ S, q ∈ news) : Ext [] h h' :=
  ext_all E (fun q hq => ⟨(a q hq).1, rfl⟩) fun q hq => (N q (m q hq)).1
set_option maxHeartbeats 4000000 in
theorem C_eq_p {w : World} {G : Heap} {A : Around} {s : Shared} {p : Program} {loose : List Str} {mean : ExcName → Option Value} {mg mb : Str → Option Value} {R : Result → Shared → Prop} (X : (hd.heap_39 w.params).In G) (T : Top p loose mean mg mb G) (SG : G.StaysIn s.heap) (RM : Room 20 A) {x dx y dy : Addr} {o oy : Obj} {D Dy : DD} {es ey : List DictEntry} {ep epy : Nat}
    (hx : At G s.heap x o) (hdx : At G s.heap dx (dictOf [] 0)) (hy : At G s.heap y oy) (TD1 : TD o dx D es ep) (PD1 : PD oy Dy ey epy) (hsys : (x == sysModules) = false) (hsy : (y == sysModules) = false) (hne : @Ne Nat dx x) (hxy : @Ne Nat x y) (hdy : @Ne Nat dx y)
    (hn : (Keys D).Nodup) (hny : (Keys Dy).Nodup) (hl : D.length ≤ 900) (hly : Dy.length ≤ 900)
    (hQ : ∀ h' tk', Ext [] s.heap h' → R (.ok (.ret (.bool (deq D Dy)))) { s with heap := h', toks := tk' }) :
    codeAny (model PySem.Challenge.rw_co0001_01.row.prog w) A (.call (.ref 145) ⟨[.ref x, .ref y], []⟩) R s := by
  k_dflt (refine' call_r X T SG RM [(x, o), (dx, dictOf [] 0), (y, oy)] (at3 hx hdx hy) ?k6 ?k7 ?k9 ?kB ?_ ?c5 ?c2 ?c3 ?c4)
  case k6 => k_is
  case k7 => k_is
  case k9 => first | exact BindsTo.of_eq rfl | exact binds_K (X.keeps SG) rfl (by k_is) rfl rfl rfl
  case kB => k_dflt exact locs rfl
  case c5 => k_dflt decide
  case c2 => k_dflt exact rfl
  case c3 => k_dflt exact rfl
  case c4 => k_dflt exact rfl
  k_whole
  intro g' L' h₁ SG' A1 A2 F N X' T' L1 RM'
  k_lt L1
  clear X T SG RM
  try dsimp only
  try k_fold
  repeat' (first | walk1 | (dsimp only; walk1))
  exact hQ _ _ (ext_S (A2 _ (Fr.keep (by assumption))) (at3 hx hdx hy) (by assumption) (List.forall_mem_cons.mpr ⟨by k_mem, List.forall_mem_cons.mpr ⟨by k_mem, List.forall_mem_cons.mpr ⟨by k_mem, List.forall_mem_nil _⟩⟩⟩))
set_option maxHeartbeats 4000000 in
theorem C_eq_t {w : World} {G : Heap} {A : Around} {s : Shared} {p : Program} {loose : List Str} {mean : ExcName → Option Value} {mg mb : Str → Option Value} {R : Result → Shared → Prop} (X : (hd.heap_39 w.params).In G) (T : Top p loose mean mg mb G) (SG : G.StaysIn s.heap) (RM : Room 20 A) {x dx y dy : Addr} {o oy : Obj} {D Dy : DD} {es ey : List DictEntry} {ep epy : Nat}
    (hx : At G s.heap x o) (hdx : At G s.heap dx (dictOf [] 0)) (hy : At G s.heap y oy) (hdy' : At G s.heap dy (dictOf [] 0)) (TD1 : TD o dx D es ep) (TD2 : TD oy dy Dy ey epy) (hsys : (x == sysModules) = false) (hsy : (y == sysModules) = false) (hne : @Ne Nat dx x) (hxy : @Ne Nat x y) (hdy : @Ne Nat dx y) (hd1 : @Ne Nat dy x) (hd2 : @Ne Nat dy dx) (hd3 : @Ne Nat dy y)
    (hn : (Keys D).Nodup) (hny : (Keys Dy).Nodup) (hl : D.length ≤ 900) (hly : Dy.length ≤ 900)
    (hQ : ∀ h' tk', Ext [] s.heap h' → R (.ok (.ret (.bool (deq D Dy)))) { s with heap := h', toks := tk' }) :
    codeAny (model PySem.Challenge.rw_co0001_01.row.prog w) A (.call (.ref 145) ⟨[.ref x, .ref y], []⟩) R s := by
  k_dflt (refine' call_r X T SG RM [(x, o), (dx, dictOf [] 0), (y, oy), (dy, dictOf [] 0)] (at4 hx hdx hy hdy') ?k6 ?k7 ?k9 ?kB ?_ ?c5 ?c2 ?c3 ?c4)
  case k6 => k_is
  case k7 => k_is
  case k9 => first | exact BindsTo.of_eq rfl | exact binds_K (X.keeps SG) rfl (by k_is) rfl rfl rfl
  case kB => k_dflt exact locs rfl
  case c5 => k_dflt decide
  case c2 => k_dflt exact rfl
  case c3 => k_dflt exact rfl
  case c4 => k_dflt exact rfl
  k_whole
  intro g' L' h₁ SG' A1 A2 F N X' T' L1 RM'
  k_lt L1
  clear X T SG RM
  try dsimp only
  try k_fold
  repeat' (first | walk1 | (dsimp only; walk1))
  exact hQ _ _ (ext_S (A2 _ (Fr.keep (by assumption))) (at4 hx hdx hy hdy') (by assumption) (List.forall_mem_cons.mpr ⟨by k_mem, List.forall_mem_cons.mpr ⟨by k_mem, List.forall_mem_cons.mpr ⟨by k_mem, List.forall_mem_cons.mpr ⟨by k_mem, List.forall_mem_nil _⟩⟩⟩⟩))
theorem U_eq_p {w : World} {G : Heap} {A : Around} {s : Shared} {p : Program} {loose : List Str} {mean : ExcName → Option Value} {mg mb : Str → Option Value} {E : Value → Shared → Prop} {Q : Value → Shared → Prop} {L : Addr} {m : Str → Option Value} {news : List (Addr × Obj)} (F : Fr G L s.heap m) (X : (hd.heap_39 w.params).In G) (N : News G L s.heap news) (T : Top p loose mean mg mb G) {n : Nat} (RM : Room (n + 20) A) {x dx y dy : Addr} {o oy : Obj} {D Dy : DD} {es ey : List DictEntry} {ep epy : Nat}
    (hx : (x, o) ∈ news) (TD1 : TD o dx D es ep) (hdx : (dx, dictOf [] 0) ∈ news) (hy : (y, oy) ∈ news) (PD1 : PD oy Dy ey epy) (hsys : (x == sysModules) = false) (hsy : (y == sysModules) = false) (hne : @Ne Nat dx x) (hxy : @Ne Nat x y) (hdy : @Ne Nat dx y)
    (hn : (Keys D).Nodup) (hny : (Keys Dy).Nodup) (hl : D.length ≤ 900) (hly : Dy.length ≤ 900)
    (h : ∀ h' tk', Fr G L h' m → News G L h' news → Q (.bool (deq D Dy)) { s with heap := h', toks := tk' }) : wpAny (model PySem.Challenge.rw_co0001_01.row.prog w) A (call (.ref 145) [.ref x, .ref y]) Q E s :=
  wpAny_call (C_eq_p X T F.keep (RM.of (by omega) (by omega)) (dy := dy) (News.at N hx) (News.at N hdx) (News.at N hy) TD1 PD1 hsys hsy hne hxy hdy hn hny hl hly fun h' tk' e => h h' tk' (fr0 F e) (news0 N e))
theorem U_eq_t {w : World} {G : Heap} {A : Around} {s : Shared} {p : Program} {loose : List Str} {mean : ExcName → Option Value} {mg mb : Str → Option Value} {E : Value → Shared → Prop} {Q : Value → Shared → Prop} {L : Addr} {m : Str → Option Value} {news : List (Addr × Obj)} (F : Fr G L s.heap m) (X : (hd.heap_39 w.params).In G) (N : News G L s.heap news) (T : Top p loose mean mg mb G) {n : Nat} (RM : Room (n + 20) A) {x dx y dy : Addr} {o oy : Obj} {D Dy : DD} {es ey : List DictEntry} {ep epy : Nat}
    (hx : (x, o) ∈ news) (TD1 : TD o dx D es ep) (hdx : (dx, dictOf [] 0) ∈ news) (hy : (y, oy) ∈ news) (TD2 : TD oy dy Dy ey epy) (hdy' : (dy, dictOf [] 0) ∈ news) (hsys : (x == sysModules) = false) (hsy : (y == sysModules) = false) (hne : @Ne Nat dx x) (hxy : @Ne Nat x y) (hdy : @Ne Nat dx y) (hd1 : @Ne Nat dy x) (hd2 : @Ne Nat dy dx) (hd3 : @Ne Nat dy y)
    (hn : (Keys D).Nodup) (hny : (Keys Dy).Nodup) (hl : D.length ≤ 900) (hly : Dy.length ≤ 900)
    (h : ∀ h' tk', Fr G L h' m → News G L h' news → Q (.bool (deq D Dy)) { s with heap := h', toks := tk' }) : wpAny (model PySem.Challenge.rw_co0001_01.row.prog w) A (call (.ref 145) [.ref x, .ref y]) Q E s :=
  wpAny_call (C_eq_t X T F.keep (RM.of (by omega) (by omega)) (News.at N hx) (News.at N hdx) (News.at N hy) (News.at N hdy') TD1 TD2 hsys hsy hne hxy hdy hd1 hd2 hd3 hn hny hl hly fun h' tk' e => h h' tk' (fr0 F e) (news0 N e))
local macro_rules | `(tactic| walk_at "call ref") => `(tactic| (k_here; k_dflt (first
  | (refine' U_eq_p (dy := 0) ?k1 ?k2 ?k3 ?k4 ?k5 ?k6 ?k7 ?k8 ?k9 ?ka ?kb ?kc ?kd ?ke ?kf ?kg ?kh ?ki ?kj ?_; (case k1 => k_asm); (case k2 => k_asm); (case k3 => k_asm); (case k4 => k_asm); (case k5 => k_asm); (case k6 => k_mem); (case k7 => k_asm); (case k8 => k_mem); (case k9 => k_mem); (case ka => k_asm); (case kb => (first | with_reducible assumption | (exact nsys (by omega)) | k_asm)); (case kc => (first | with_reducible assumption | (exact nsys (by omega)) | k_asm)); (case kd => k_ne); (case ke => k_ne); (case kf => k_ne); (case kg => k_asm); (case kh => k_asm); (case ki => k_asm); (case kj => k_asm); k_whole; intro h' tk' F' N'; (try k_sweep))
  | (refine' U_eq_t ?k1 ?k2 ?k3 ?k4 ?k5 ?k6 ?k7 ?k8 ?k9 ?ka ?kA ?kb ?kc ?kd ?ke ?kf ?kg1 ?kg2 ?kg3 ?kg ?kh ?ki ?kj ?_; (case k1 => k_asm); (case k2 => k_asm); (case k3 => k_asm); (case k4 => k_asm); (case k5 => k_asm); (case k6 => k_mem); (case k7 => k_asm); (case k8 => k_mem); (case k9 => k_mem); (case ka => k_asm); (case kA => k_mem); (case kb => (first | with_reducible assumption | (exact nsys (by omega)) | k_asm)); (case kc => (first | with_reducible assumption | (exact nsys (by omega)) | k_asm)); (case kd => k_ne); (case ke => k_ne); (case kf => k_ne); (case kg1 => k_ne); (case kg2 => k_ne); (case kg3 => k_ne); (case kg => k_asm); (case kh => k_asm); (case ki => k_asm); (case kj => k_asm); k_whole; intro h' tk' F' N'; (try k_sweep)))))
set_option maxHeartbeats 4000000 in
theorem C_ne_p {w : World} {G : Heap} {A : Around} {s : Shared} {p : Program} {loose : List Str} {mean : ExcName → Option Value} {mg mb : Str → Option Value} {R : Result → Shared → Prop} (X : (hd.heap_39 w.params).In G) (T : Top p loose mean mg mb G) (SG : G.StaysIn s.heap) (RM : Room 40 A) {x dx y dy : Addr} {o oy : Obj} {D Dy : DD} {es ey : List DictEntry} {ep epy : Nat}
    (hx : At G s.heap x o) (hdx : At G s.heap dx (dictOf [] 0)) (hy : At G s.heap y oy) (TD1 : TD o dx D es ep) (PD1 : PD oy Dy ey epy) (hsys : (x == sysModules) = false) (hsy : (y == sysModules) = false) (hne : @Ne Nat dx x) (hxy : @Ne Nat x y) (hdy : @Ne Nat dx y)
    (hn : (Keys D).Nodup) (hny : (Keys Dy).Nodup) (hl : D.length ≤ 900) (hly : Dy.length ≤ 900)
    (hQ : ∀ h' tk', Ext [] s.heap h' → R (.ok (.ret (.bool (!deq D Dy)))) { s with heap := h', toks := tk' }) :
    codeAny (model PySem.Challenge.rw_co0001_01.row.prog w) A (.call (.ref 152) ⟨[.ref x, .ref y], []⟩) R s := by
  k_dflt (refine' call_r X T SG RM [(x, o), (dx, dictOf [] 0), (y, oy)] (at3 hx hdx hy) ?k6 ?k7 ?k9 ?kB ?_ ?c5 ?c2 ?c3 ?c4)
  case k6 => k_is
  case k7 => k_is
  case k9 => first | exact BindsTo.of_eq rfl | exact binds_K (X.keeps SG) rfl (by k_is) rfl rfl rfl
  case kB => k_dflt exact locs rfl
  case c5 => k_dflt decide
  case c2 => k_dflt exact rfl
  case c3 => k_dflt exact rfl
  case c4 => k_dflt exact rfl
  k_whole
  intro g' L' h₁ SG' A1 A2 F N X' T' L1 RM'
  k_lt L1
  clear X T SG RM
  try dsimp only
  try k_fold
  repeat' (first | walk1 | (dsimp only; walk1))
  exact hQ _ _ (ext_S (A2 _ (Fr.keep (by assumption))) (at3 hx hdx hy) (by assumption) (List.forall_mem_cons.mpr ⟨by k_mem, List.forall_mem_cons.mpr ⟨by k_mem, List.forall_mem_cons.mpr ⟨by k_mem, List.forall_mem_nil _⟩⟩⟩))
theorem U_ne_p {w : World} {G : Heap} {A : Around} {s : Shared} {p : Program} {loose : List Str} {mean : ExcName → Option Value} {mg mb : Str → Option Value} {E : Value → Shared → Prop} {Q : Value → Shared → Prop} {L : Addr} {m : Str → Option Value} {news : List (Addr × Obj)} (F : Fr G L s.heap m) (X : (hd.heap_39 w.params).In G) (N : News G L s.heap news) (T : Top p loose mean mg mb G) {n : Nat} (RM : Room (n + 40) A) {x dx y dy : Addr} {o oy : Obj} {D Dy : DD} {es ey : List DictEntry} {ep epy : Nat}
    (hx : (x, o) ∈ news) (TD1 : TD o dx D es ep) (hdx : (dx, dictOf [] 0) ∈ news) (hy : (y, oy) ∈ news) (PD1 : PD oy Dy ey epy) (hsys : (x == sysModules) = false) (hsy : (y == sysModules) = false) (hne : @Ne Nat dx x) (hxy : @Ne Nat x y) (hdy : @Ne Nat dx y)
    (hn : (Keys D).Nodup) (hny : (Keys Dy).Nodup) (hl : D.length ≤ 900) (hly : Dy.length ≤ 900)
    (h : ∀ h' tk', Fr G L h' m → News G L h' news → Q (.bool (!deq D Dy)) { s with heap := h', toks := tk' }) : wpAny (model PySem.Challenge.rw_co0001_01.row.prog w) A (call (.ref 152) [.ref x, .ref y]) Q E s :=
  wpAny_call (C_ne_p X T F.keep (RM.of (by omega) (by omega)) (dy := dy) (News.at N hx) (News.at N hdx) (News.at N hy) TD1 PD1 hsys hsy hne hxy hdy hn hny hl hly fun h' tk' e => h h' tk' (fr0 F e) (news0 N e))
local macro_rules | `(tactic| walk_at "call ref") => `(tactic| (k_here; k_dflt (first
  | (refine' U_ne_p (dy := 0) ?k1 ?k2 ?k3 ?k4 ?k5 ?k6 ?k7 ?k8 ?k9 ?ka ?kb ?kc ?kd ?ke ?kf ?kg ?kh ?ki ?kj ?_; (case k1 => k_asm); (case k2 => k_asm); (case k3 => k_asm); (case k4 => k_asm); (case k5 => k_asm); (case k6 => k_mem); (case k7 => k_asm); (case k8 => k_mem); (case k9 => k_mem); (case ka => k_asm); (case kb => (first | with_reducible assumption | (exact nsys (by omega)) | k_asm)); (case kc => (first | with_reducible assumption | (exact nsys (by omega)) | k_asm)); (case kd => k_ne); (case ke => k_ne); (case kf => k_ne); (case kg => k_asm); (case kh => k_asm); (case ki => k_asm); (case kj => k_asm); k_whole; intro h' tk' F' N'; (try k_sweep)))))
section
variable {prog : Program} {w : World} {A : Around} {s : Shared} {env : Env} {G : Heap} {L : Addr}
/-- what a comprehension's turn leaves -/
def CEnd (G : Heap) (C I D L : Addr) (oI lD oL : Obj) (J : List (Addr × Obj) → Prop) (s s' : Shared) : Prop :=
  ∃ h' tk' m' own news', s' = { s with heap := h', toks := tk' } ∧ Fr G C h' m' ∧ News G C h' own ∧ (I, oI) ∈ own ∧ (D, lD) ∈ own ∧ (L, oL) ∈ own ∧ (∀ q ∈ news', q ∈ own) ∧ (∀ q ∈ news', q.1 ≠ I ∧ q.1 ≠ D ∧ q.1 ≠ L) ∧ J news'
def SeqObj (o : Obj) (ys : List Value) : Prop := o.cls = .type "list" ∧ o.dict = none ∧ ∃ n, o.data = .seq ys.toArray n
theorem lc_loop {R : Result → Shared → Prop} {elt iter : PySem.Expr} {x : Str} {px pos : Pos} {ifs : List PySem.Expr} {scope : Scope} {cenv : Env} {I D : Addr} {oI lD oL : Obj} {n : Nat} {S : Nat → Obj → Prop} {P : Nat → Value → Heap → Prop} {keep news : List (Addr × Obj)} {mC : Str → Option Value}
    (IT : Iter prog w A I n S keep P) (hIk : ∀ q ∈ keep, q.1 ≠ I) (hDk : ∀ q ∈ keep, q.1 ≠ D) (hID : I ≠ D) (hLI : L ≠ I) (hLD : L ≠ D)
    (hx : cenv.kindOf x = some .local) (hp : (cenv.scope.kind == .class || (cenv.scope.kind == .module && cenv.locals != cenv.globals)) = false) (hn : n ≤ 900)
    (F : Fr G cenv.locals s.heap mC) (N : News G cenv.locals s.heap ((I, oI) :: (D, lD) :: (L, oL) :: news)) (hS : S 0 oI) (hlD : SeqObj lD []) (hoff : ∀ q ∈ news, q.1 ≠ I ∧ q.1 ≠ D ∧ q.1 ≠ L)
    (J : Nat → List Value → List (Addr × Obj) → Prop) (hJ : J 0 [] news) (hlen : ∀ i ys news₁, J i ys news₁ → ys.length ≤ i)
    (hkeep : ∀ i ys news₁, J i ys news₁ → ∀ q ∈ keep, q ∈ news₁ ∨ G.get? q.1 = some q.2)
    (hPm : ∀ i v h h', P i v h → (∀ b o, b ≠ cenv.locals → h.get? b = some o → h'.get? b = some o) → P i v h')
    (turn : ∀ i v ys news₁ h tk oI lD (m₁ : Str → Option Value), i < n → P i v h → J i ys news₁ → (∀ q ∈ news₁, q.1 ≠ I ∧ q.1 ≠ D ∧ q.1 ≠ L) → Fr G cenv.locals h (fun y => if y = x then some v else m₁ y) → News G cenv.locals h ((I, oI) :: (D, lD) :: (L, oL) :: news₁) →
      wpAny (model prog w) A (forIn ifs true fun c r => if r = true then do let ok ← isTrue c cenv (eval c cenv); pure (ForInStep.yield ok) else pure (ForInStep.yield r))
        (fun ok s₃ => if ok = true then wpAny (model prog w) A (eval elt cenv) (fun y s₄ => CEnd G cenv.locals I D L oI lD oL (J (i + 1) (ys ++ [y])) { s with heap := h, toks := tk } s₄) NoE s₃ else CEnd G cenv.locals I D L oI lD oL (J (i + 1) ys) { s with heap := h, toks := tk } s₃) NoE { s with heap := h, toks := tk })
    (done : ∀ h tk lD' m' ys news₁, J n ys news₁ → (∀ q ∈ news₁, q.1 ≠ I ∧ q.1 ≠ D ∧ q.1 ≠ L) → Fr G cenv.locals h m' → News G cenv.locals h ((D, lD') :: (L, oL) :: news₁) → SeqObj lD' ys → R (.ok .next) { s with heap := h, toks := tk }) :
    codeAny (model prog w) A (.compLoop (.ListComp elt [⟨.Name x px, iter, ifs, 0⟩] scope pos) 0 (.ref I) (.ref D) cenv) R s := by
  have NI := N _ (.head _)
  have ND := N _ (.tail _ (.head _))
  have hGI : G.get? I = none := NI.2.2
  have hGD : G.get? D = none := ND.2.2
  have hIC : I ≠ cenv.locals := NI.2.1
  have hDC : D ≠ cenv.locals := ND.2.1
  let JJ : Nat → Shared → Prop := fun k s' => ∃ i, i ≤ n ∧ k = n - i ∧ ∃ h tk m' ys news₁ oI lD, s' = { s with heap := h, toks := tk } ∧ Fr G cenv.locals h m' ∧ News G cenv.locals h ((I, oI) :: (D, lD) :: (L, oL) :: news₁) ∧ S i oI ∧ SeqObj lD ys ∧ (∀ q ∈ news₁, q.1 ≠ I ∧ q.1 ≠ D ∧ q.1 ≠ L) ∧ J i ys news₁
  refine codeAny_compLoop_tests JJ ?_ n ⟨0, Nat.zero_le _, rfl, s.heap, s.toks, mC, [], news, oI, lD, rfl, F, N, hS, hlD, hoff, hJ⟩
  rintro k s' ⟨i, hi, rfl, h, tk, m', ys, news₁, oI, lD, rfl, F₁, N₁, hS₁, hD₁, ho, hj⟩
  have hI₁ := (N₁ _ (.head _)).1
  have kp : ∀ q ∈ keep, h.get? q.1 = some q.2 := fun q hq => by
    rcases hkeep i ys news₁ hj q hq with a | a
    · exact (N₁ q (.tail _ (.tail _ (.tail _ a)))).1
    · exact F₁.keep _ _ a
  have after : ∀ {h' : Heap} {oI' : Obj}, Ext [I] h h' → h'.get? I = some oI' → Fr G cenv.locals h' m' ∧ News G cenv.locals h' ((I, oI') :: (D, lD) :: (L, oL) :: news₁) := fun {h' oI'} e e1 => by
    refine ⟨fr_ext F₁ e (by simpa using Ne.symm hIC) (fun a q => by rw [List.mem_singleton.mp q]; exact hGI), fun q hq => ?_⟩
    rcases List.mem_cons.mp hq with rfl | hq
    · exact ⟨e1, hIC, hGI⟩
    · have z := N₁ q (.tail _ hq)
      refine ⟨e.one ?_ z.1, z.2⟩
      rcases List.mem_cons.mp hq with rfl | hq
      · exact Ne.symm hID
      · rcases List.mem_cons.mp hq with rfl | hq
        · exact hLI
        · exact (ho q hq).1
  by_cases hlt : i < n
  · refine IT.item i oI _ _ _ hlt hI₁ hS₁ kp fun v h' tk' oI' hP hoI' hS' e => ?_
    obtain ⟨F₂, N₂⟩ := after e hoI'
    refine wpAny_assign_Name (wpAny_storeName_local hx F₂.ns (fun h₃ hn₃ hs₃ => ?_) hp)
    have F₃ := F₂.set hn₃ hs₃
    have N₃ := N₂.set hs₃
    refine wpAny_mono (turn i v ys news₁ h₃ _ oI' lD m' hlt (hPm _ _ _ _ hP fun b o n e => (hs₃.2 b n).trans e) hj ho F₃ N₃) (fun ok s₄ h₄ => ?_) fun _ _ x => x.elim
    cases ok with
    | true =>
      simp only [if_true] at h₄ ⊢
      refine wpAny_mono h₄ (fun y s₅ h₅ => ?_) fun _ _ x => x.elim
      obtain ⟨h₆, tk₆, m₆, own, news₆, rfl, F₆, N₆, hI₆, hD₆, hL₆, sub₆, off₆, j₆⟩ := h₅
      obtain ⟨hc, hdn, k0, hdt⟩ := hD₁
      have zD := N₆ _ hD₆
      have hlen' := hlen i ys news₁ hj
      have lst : h₆.IsList D ys.toArray := ⟨lD, zD.1, hc, k0, hdt⟩
      obtain ⟨cD, dD, dtD, slD⟩ := lD
      dsimp only at hc hdn hdt
      subst hc hdn hdt
      refine wpAny_call_entry slot_list_append (lst.typeIs) entry_list_append ?_ (args_list_append _ _)
      show wpAny _ _ (updateSeq D (·.push y) >>= fun _ => ret .none) _ _ _
      refine wpAny_bind (wpAny_updateSeq zD.1 rfl (wpAny_pure ⟨.none, rfl, ?_⟩) (by rw [sizeLine_eq]; simp; omega))
      obtain ⟨n', hd'⟩ := Obj.data_mapSeq (o := { cls := .type "list", dict := none, data := .seq ys.toArray k0, slots := slD }) rfl (·.push y)
      have gD : (h₆.update D (Obj.mapSeq (·.push y))).get? D = some (Obj.mapSeq (·.push y) { cls := .type "list", dict := none, data := .seq ys.toArray k0, slots := slD }) := Heap.get?_update_self _ zD.1 (Obj.isFreed_of_seq hd')
      have sb : Heap.SameBut D h₆ (h₆.update D (Obj.mapSeq (·.push y))) := Heap.SameBut.update ..
      have eD : Ext [D] h₆ (h₆.update D (Obj.mapSeq (·.push y))) := fun b o n e => (sb.2 b (by simpa using n)).trans e
      refine ⟨n - (i + 1), by omega, i + 1, hlt, rfl, _, tk₆, m₆, ys ++ [y], news₆, oI', _, rfl, fr_ext F₆ eD (by simpa using Ne.symm hDC) (fun a q => by rw [List.mem_singleton.mp q]; exact hGD), fun q hq => ?_, hS', ⟨Obj.cls_mapSeq .., rfl, n', by rw [hd']; simp⟩, off₆, j₆⟩
      rcases List.mem_cons.mp hq with rfl | hq
      · exact ⟨eD.one hID (N₆ _ hI₆).1, hIC, hGI⟩
      · rcases List.mem_cons.mp hq with rfl | hq
        · exact ⟨gD, hDC, hGD⟩
        · rcases List.mem_cons.mp hq with rfl | hq
          · exact ⟨eD.one hLD (N₆ _ hL₆).1, (N₆ _ hL₆).2⟩
          · exact ⟨eD.one (off₆ q hq).2.1 (N₆ _ (sub₆ q hq)).1, (N₆ _ (sub₆ q hq)).2⟩
    | false =>
      simp only [Bool.false_eq_true, if_false] at h₄ ⊢
      obtain ⟨h₆, tk₆, m₆, own, news₆, rfl, F₆, N₆, hI₆, hD₆, hL₆, sub₆, off₆, j₆⟩ := h₄
      refine ⟨n - (i + 1), by omega, i + 1, hlt, rfl, h₆, tk₆, m₆, ys, news₆, oI', lD, rfl, F₆, fun q hq => ?_, hS', hD₁, off₆, j₆⟩
      rcases List.mem_cons.mp hq with rfl | hq
      · exact N₆ _ hI₆
      · rcases List.mem_cons.mp hq with rfl | hq
        · exact N₆ _ hD₆
        · rcases List.mem_cons.mp hq with rfl | hq
          · exact N₆ _ hL₆
          · exact N₆ _ (sub₆ q hq)
  · have hin : i = n := by omega
    subst hin
    refine IT.done oI _ _ _ hI₁ hS₁ kp fun h' tk' e => ?_
    refine done h' tk' lD m' ys news₁ hj ho (fr_ext F₁ e (by simpa using Ne.symm hIC) (fun a q => by rw [List.mem_singleton.mp q]; exact hGI)) (fun q hq => ?_) hD₁
    have z := N₁ q (.tail _ hq)
    refine ⟨e.one ?_ z.1, z.2⟩
    rcases List.mem_cons.mp hq with rfl | hq
    · exact Ne.symm hID
    · rcases List.mem_cons.mp hq with rfl | hq
      · exact hLI
      · exact (ho q hq).1
end
section
variable {prog : Program} {w : World} {A : Around} {s : Shared} {env : Env} {G : Heap} {m : Str → Option Value}
/-- back in the outer frame behind a comprehension's end -/
theorem comp_back {C D : Addr} {lD oL : Obj} {news : List (Addr × Obj)} {h h' : Heap} {mC : Str → Option Value} (F : Fr G env.locals s.heap m) (hL : s.heap.get? env.locals = some oL) (FC : Fr G C h mC) (NC : News G C h ((D, lD) :: (env.locals, oL) :: news)) (hC : G.get? C = none) (sb : Heap.SameBut C h h') (off : ∀ q ∈ news, q.1 ≠ env.locals) (hDL : D ≠ env.locals) :
    Fr G env.locals h' m ∧ News G env.locals h' ((D, lD) :: news) := by
  have zL := NC _ (.tail _ (.head _))
  have gL : h'.get? env.locals = some oL := (sb.2 _ zL.2.1).trans zL.1
  obtain ⟨o, es, ep, ho, r⟩ := F.ns
  rw [hL] at ho; cases ho
  refine ⟨⟨⟨oL, es, ep, gL, r⟩, fun b q e => (sb.2 b (fun x => by rw [x, hC] at e; cases e)).trans (FC.keep b q e), F.above⟩, fun q hq => ?_⟩
  rcases List.mem_cons.mp hq with rfl | hq
  · have z := NC _ (.head _)
    exact ⟨(sb.2 _ z.2.1).trans z.1, hDL, z.2.2⟩
  · have z := NC _ (.tail _ (.tail _ hq))
    exact ⟨(sb.2 _ z.2.1).trans z.1, off q hq, z.2.2⟩
theorem lc_block {elt iter : PySem.Expr} {x : Str} {px pos : Pos} {ifs : List PySem.Expr} {scope : Scope} {cl : List (Str × Addr)} {I : Addr} {oI : Obj} {n : Nat} {S : Nat → Obj → Prop} {P : Nat → Value → Heap → Prop} {keep news : List (Addr × Obj)} {Q : Value → Shared → Prop}
    {L : Addr} (hcell : ∀ y ∈ scope.names, y.2 ≠ .cell) (hkind : scope.kind = .function) (hx : scope.names.lookup x = some .local) (hn : n ≤ 900) (hloc : env.locals = L)
    (F : Fr G L s.heap m) (N : News G L s.heap ((I, oI) :: news)) (IT : Iter prog w A I n S keep P) (hS : S 0 oI) (hIk : ∀ q ∈ keep, q.1 ≠ I) (hoff : ∀ q ∈ news, q.1 ≠ I)
    (J : Nat → List Value → List (Addr × Obj) → Prop) (hJ : J 0 [] news) (hlen : ∀ i ys news₁, J i ys news₁ → ys.length ≤ i) (hkeep : ∀ i ys news₁, J i ys news₁ → ∀ q ∈ keep, q ∈ news₁ ∨ G.get? q.1 = some q.2)
    (hPm : ∀ C i v h h', (∀ q ∈ (I, oI) :: news, q.1 < C) → P i v h → (∀ b o, b ≠ C → h.get? b = some o → h'.get? b = some o) → P i v h')
    (turn : ∀ D C i v ys news₁ h tk oI' lD oL (m₁ : Str → Option Value), (∀ q ∈ (I, oI) :: news, q.1 < D) → @LT.lt Nat _ L D → @LT.lt Nat _ D C → i < n → P i v h → J i ys news₁ → (∀ q ∈ news₁, q.1 ≠ I ∧ q.1 ≠ D ∧ q.1 ≠ L) → Fr G C h (fun y => if y = x then some v else m₁ y) → News G C h ((I, oI') :: (D, lD) :: (L, oL) :: news₁) →
      wpAny (model prog w) A (forIn ifs true fun c r => if r = true then do let ok ← isTrue c (compEnvC scope cl C env) (eval c (compEnvC scope cl C env)); pure (ForInStep.yield ok) else pure (ForInStep.yield r))
        (fun ok s₃ => if ok = true then wpAny (model prog w) A (eval elt (compEnvC scope cl C env)) (fun y s₄ => CEnd G C I D L oI' lD oL (J (i + 1) (ys ++ [y])) { s with heap := h, toks := tk } s₄) NoE s₃ else CEnd G C I D L oI' lD oL (J (i + 1) ys) { s with heap := h, toks := tk } s₃) NoE { s with heap := h, toks := tk })
    (done : ∀ D h tk lD ys news₁, (∀ q ∈ (I, oI) :: news, q.1 < D) → J n ys news₁ → Fr G L h m → News G L h ((D, lD) :: news₁) → (∀ q ∈ news₁, q.1 ≠ D) → SeqObj lD ys → Q (.ref D) { s with heap := h, toks := tk }) :
    wpAny (model prog w) A (newList []) (fun acc s₃ => wpAny (model prog w) A (newFunctionEnv scope env.globals cl [] env.qual none .none (some env)) (fun cenv s₄ =>
      codeAny (model prog w) A (.compStart (.ListComp elt [⟨.Name x px, iter, ifs, 0⟩] scope pos) 0 (.ref I) acc { cenv with scope := relabel scope env }) (compPost (model prog w) A NoE none Q acc cenv.locals) s₄) NoE s₃) NoE s := by
  subst hloc
  have NI := N _ (.head _)
  obtain ⟨oL, esL, epL, hL, rL⟩ := id F.ns
  refine wpAny_newObj_type (wpAny_newFunctionEnv hcell (by intro y hy; simp at hy) (fun h₁ hns₁ hsb₁ => ?_) hkind)
  dsimp only at hns₁ hsb₁ ⊢
  generalize hH2 : s.heap.push { cls := .type "list", dict := none, data := .seq ([] : List Value).toArray } = H2 at hns₁ hsb₁ ⊢
  have hC : H2.objs.size = s.heap.objs.size + 1 := by rw [← hH2, Heap.size_push]
  have hDC : s.heap.objs.size ≠ H2.objs.size := by rw [hC]; exact Nat.ne_of_lt (Nat.lt_succ_self _)
  have old : ∀ b o, s.heap.get? b = some o → h₁.get? b = some o := fun b o e => hsb₁.extBut b o (by rw [hC]; exact Nat.ne_of_lt (Nat.lt_succ_of_lt (Heap.lt_size e))) (Heap.get?_push_of_some _ (hH2 ▸ Heap.get?_push_of_some _ e))
  have gn : ∀ a, s.heap.objs.size ≤ a → G.get? a = none := fun a ha => by
    cases q : G.get? a with
    | none => rfl
    | some o => exact absurd (Heap.lt_size (F.keep _ _ q)) (Nat.not_lt.mpr ha)
  have ltD : ∀ q ∈ (I, oI) :: news, q.1 < s.heap.objs.size := fun q hq => Heap.lt_size (N q hq).1
  have ltL : env.locals < s.heap.objs.size := Heap.lt_size hL
  have FC : Fr G H2.objs.size h₁ (fun _ => none) := ⟨by simpa using hns₁, fun b o e => old b o (F.keep b o e), by
    rw [hC]; exact Nat.le_succ_of_le (Nat.le_of_lt (Nat.lt_of_le_of_lt F.above ltL))⟩
  have hDobj : h₁.get? s.heap.objs.size = some { cls := .type "list", dict := none, data := .seq ([] : List Value).toArray } := hsb₁.extBut _ _ hDC (Heap.get?_push_of_some _ (hH2 ▸ Heap.get?_push_size _ rfl))
  have NC : News G H2.objs.size h₁ ((I, oI) :: (s.heap.objs.size, { cls := .type "list", dict := none, data := .seq ([] : List Value).toArray }) :: (env.locals, oL) :: news) := fun q hq => by
    rcases List.mem_cons.mp hq with rfl | hq
    · exact ⟨old _ _ NI.1, by rw [hC]; exact Nat.ne_of_lt (Nat.lt_succ_of_lt (Heap.lt_size NI.1)), NI.2.2⟩
    · rcases List.mem_cons.mp hq with rfl | hq
      · exact ⟨hDobj, hDC, gn _ (Nat.le_refl _)⟩
      · rcases List.mem_cons.mp hq with rfl | hq
        · refine ⟨old _ _ hL, by rw [hC]; exact Nat.ne_of_lt (Nat.lt_succ_of_lt ltL), ?_⟩
          cases z : G.get? env.locals with
          | none => rfl
          | some o => exact absurd (Heap.lt_size z) (Nat.not_lt.mpr F.above)
        · have z := N q (.tail _ hq)
          exact ⟨old _ _ z.1, by rw [hC]; exact Nat.ne_of_lt (Nat.lt_succ_of_lt (Heap.lt_size z.1)), z.2.2⟩
  have hLI : env.locals ≠ I := Ne.symm NI.2.1
  have hID : I ≠ s.heap.objs.size := Nat.ne_of_lt (Heap.lt_size NI.1)
  have hLD : env.locals ≠ s.heap.objs.size := Nat.ne_of_lt ltL
  have hoff' : ∀ q ∈ news, q.1 ≠ I ∧ q.1 ≠ s.heap.objs.size ∧ q.1 ≠ env.locals := fun q hq => ⟨hoff q hq, Nat.ne_of_lt (ltD q (.tail _ hq)), (N q (.tail _ hq)).2.1⟩
  have ltC : ∀ q ∈ (I, oI) :: news, q.1 < H2.objs.size := fun q hq => by rw [hC]; exact Nat.lt_succ_of_lt (ltD q hq)
  have loop : ∀ s₃ : Shared, s₃ = { s with heap := h₁, toks := s.toks + ([] : List (Str × Value)).length } →
      codeAny (model prog w) A (.compLoop (.ListComp elt [⟨.Name x px, iter, ifs, 0⟩] scope pos) 0 (.ref I) (.ref s.heap.objs.size) (compEnvC scope cl H2.objs.size env))
        (compPost (model prog w) A NoE none Q (.ref s.heap.objs.size) H2.objs.size) s₃ := by
    rintro s₃ rfl
    have hDk : ∀ q ∈ keep, q.1 ≠ s.heap.objs.size := fun q hq => by
      rcases hkeep 0 [] news hJ q hq with a | a
      · exact (hoff' q a).2.1
      · exact Nat.ne_of_lt (Heap.lt_size (F.keep _ _ a))
    · refine lc_loop (L := env.locals) (cenv := compEnvC scope cl H2.objs.size env) IT hIk hDk hID hLI hLD (lookup_relabel_local hx) (by simp [compEnvC, relabel, hkind]) hn FC NC hS ⟨rfl, rfl, 0, rfl⟩ hoff' J hJ hlen hkeep (fun i v h h' p e => hPm H2.objs.size i v h h' ltC p e) ?_ ?_
      · intro i v ys news₁ h tk oI' lD m₁ hi hP hj ho F₁ N₁
        exact turn _ _ i v ys news₁ h tk oI' lD oL m₁ ltD ltL (by rw [hC]; exact Nat.lt_succ_self _) hi hP hj ho F₁ N₁
      · intro h tk lD' m' ys news₁ hj ho F₁ N₁ hs
        refine ⟨m', F₁.ns, fun h'' sb => ?_⟩
        have offs : ∀ q ∈ news₁, q.1 ≠ env.locals := fun q hq => (ho q hq).2.2
        obtain ⟨F₂, N₂⟩ := comp_back (s := s) F hL F₁ N₁ (gn _ (by rw [hC]; exact Nat.le_succ _)) sb offs (Ne.symm hLD)
        exact done _ h'' tk lD' ys news₁ ltD hj F₂ N₂ (fun q hq => (ho q hq).2.1) hs
  exact codeAny_compStart_list (loop _ rfl) (IT.self 0 oI _ _ _ (NC _ (.head _)).1 hS (loop _ rfl))

/-- a list comprehension as a value -/
theorem U_listcomp {elt iter : PySem.Expr} {x : Str} {px pos : Pos} {ifs : List PySem.Expr} {scope : Scope} {cl : List (Str × Addr)} {Q : Value → Shared → Prop}
    (hclos : closureFor scope env = pure cl) (hkind : scope.kind = .function) (hnames : ∀ y ∈ scope.names, y.2 = .local → scope.names.lookup y.1 = some .local)
    (h : wpAny (model prog w) A (eval iter env) (fun xv s₁ => wpAny (model prog w) A (pyIter xv) (fun it s₂ => wpAny (model prog w) A (newList []) (fun acc s₃ => wpAny (model prog w) A (newFunctionEnv scope env.globals cl [] env.qual none .none (some env)) (fun cenv s₄ =>
      codeAny (model prog w) A (.compStart (.ListComp elt [⟨.Name x px, iter, ifs, 0⟩] scope pos) 0 it acc { cenv with scope := relabel scope env }) (compPost (model prog w) A NoE none Q acc cenv.locals) s₄) NoE s₃) NoE s₂) NoE s₁) NoE s)
    (hs : ∀ x, foldedSetIterable iter env x = pure x := by intro _; rfl) :
    wpAny (model prog w) A (eval (.ListComp elt [⟨.Name x px, iter, ifs, 0⟩] scope pos) env) Q NoE s := by
  rw [eval_ListComp]
  exact wpAny_comprehension_free (use := none) rfl hs hclos hkind hnames h
/-- one test -/
theorem test1 {c : PySem.Expr} {cenv : Env} {Q : Bool → Shared → Prop} (h : wpAny (model prog w) A (isTrue c cenv (eval c cenv)) Q NoE s) :
    wpAny (model prog w) A (forIn [c] true fun c r => if r = true then do let ok ← isTrue c cenv (eval c cenv); pure (ForInStep.yield ok) else pure (ForInStep.yield r)) Q NoE s := by
  rw [List.forIn_cons]
  simp only [if_true]
  refine wpAny_bind (wpAny_bind (wpAny_mono h (fun ok s' h' => wpAny_pure ?_) fun _ _ x => x))
  dsimp only
  rw [List.forIn_nil]
  exact wpAny_pure h'
theorem test0 {cenv : Env} {Q : Bool → Shared → Prop} (h : Q true s) :
    wpAny (model prog w) A (forIn [] true fun c r => if r = true then do let ok ← isTrue c cenv (eval c cenv); pure (ForInStep.yield ok) else pure (ForInStep.yield r)) Q NoE s := by
  rw [List.forIn_nil]; exact wpAny_pure h
section
variable {K : Frag} {L : Addr} {mg mb : Str → Option Value} {p : Program} {loose : List Str} {x : Str} {pos : Pos} {v : Value} {Q : Value → Shared → Prop} {E : Value → Shared → Prop} {M : Model} {news : List (Addr × Obj)} {c : Addr} {o : Obj} {m : Str → Option Value} {cenv : Env}
theorem nameE_L (F : Fr G cenv.locals s.heap m) (hv : m x = some v) (h : Q v s) (hk : cenv.scope.kind = .function) (hx : cenv.kindOf x = some .local) (hd : (x == ("__debug__" : Str)) = false) : wpAny M A (eval (.Name x pos) cenv) Q E s := wpAny_Name (wpAny_loadName_local hk hx F.ns hv h) hd
theorem nameE_C (N : News G L s.heap news) (hc : cenv.cells.lookup x = some c) (hm : (c, o) ∈ news) (hd : o.data = .cell (some v)) (h : Q v s) (hk : cenv.scope.kind = .function) (hx : cenv.kindOf x = some .cell) (hb : (x == ("__debug__" : Str)) = false) :
    wpAny M A (eval (.Name x pos) cenv) Q E s := wpAny_Name (wpAny_loadName_cell hk hx hc ⟨o, N.get hm, hd⟩ h) hb
theorem nameE_K (F : Fr G L s.heap m) (X : K.In G) (T : TopRead p loose mg mb G) (e : nsIn K mainGlobals x = some (some v)) (h : Q v s) (hg : cenv.globals = mainGlobals) (hk : cenv.scope.kind = .function) (hx : cenv.kindOf x = some .globalImplicit) (hd : (x == ("__debug__" : Str)) = false) :
    wpAny M A (eval (.Name x pos) cenv) Q E s := nameG_K F X T e h hg hk hx hd
theorem nameE_B (F : Fr G L s.heap m) (X : K.In G) (T : TopRead p loose mg mb G) (e : nsIn K mainGlobals x = some none) (hv : bootBuiltins x = some v) (hn : x ≠ "__name__") (h : Q v s) (hg : cenv.globals = mainGlobals) (hbn : cenv.builtins = builtinsNs) (hk : cenv.scope.kind = .function) (hx : cenv.kindOf x = some .globalImplicit) (hd : (x == ("__debug__" : Str)) = false) :
    wpAny M A (eval (.Name x pos) cenv) Q E s :=
  Name_function_global hk hx (loadGlobal_builtin (env := cenv) (by rw [hg]; exact T.g.keeps F.keep) (mg_none_of X T.g e) (by rw [hbn]; exact T.b.keeps F.keep) ((T.builtins x hn).trans hv) h) hd
end
end
local macro_rules | `(tactic| walk_at "eval Name") => `(tactic| (k_here; (with_reducible show wpAny _ _ (eval (Expr.Name _ _) (compEnvC _ _ _ _)) _ _ _); k_dflt (first
  | (refine' nameE_L ?F ?v ?_ ?a ?b ?c; (case F => k_asm); (case a => rfl); (case b => rfl); (case c => decide); (case v => first | rfl | assumption); k_whole)
  | (refine' nameE_C ?N ?c ?m ?d ?_ ?a ?b ?e; (case a => rfl); (case b => rfl); (case e => decide); (case N => k_asm); (case c => rfl); (case m => k_mem); (case d => k_asm); k_whole)
  | (refine' nameE_K ?F ?X ?T ?e ?_ ?g ?a ?b ?c; (case F => k_asm); (case X => k_asm); (case T => k_asm); (case g => rfl); (case a => rfl); (case b => rfl); (case c => decide); (case e => k_is); k_whole)
  | (refine' nameE_B ?F ?X ?T ?e ?v ?n ?_ ?g ?h ?a ?b ?c; (case F => k_asm); (case X => k_asm); (case T => k_asm); (case g => rfl); (case h => rfl); (case a => rfl); (case b => rfl); (case c => decide); (case e => k_is); (case v => boot_fast); (case n => decide); k_whole))))
/-- the law's state: the script's row, the place, the seed -/
def StO (aL : Addr) (len : Nat) (o : Obj) : Prop := ∃ (i seed : Int) (ti ts : Tok) (n : Nat), o = listOf #[.ref aL, .int i ti, .int seed ts] n ∧ 0 ≤ i ∧ i ≤ len ∧ 0 ≤ seed ∧ seed < 2147483647
theorem fm_lt {a b : Int} (h : 0 < b) : a.fmod b < b := Int.fmod_lt_of_pos a h
theorem fm_nonneg {a b : Int} (h : 0 < b) : 0 ≤ a.fmod b := Int.fmod_nonneg_of_pos a h
set_option maxHeartbeats 4000000 in
theorem C_next {w : World} {G : Heap} {A : Around} {s : Shared} {p : Program} {loose : List Str} {mean : ExcName → Option Value} {mg mb : Str → Option Value} {R : Result → Shared → Prop} (X : (hd.heap_39 w.params).In G) (T : Top p loose mean mg mb G) (SG : G.StaysIn s.heap) (RM : Room 6 A) {aS aL : Addr} {o : Obj} {vs : List Value} {ns : List Int} {many : Int} {tm : Tok}
    (hS : At G s.heap aS o) (hL : At G s.heap aL (listOf vs.toArray 0)) (SO : StO aL ns.length o) (hI : IntsAre vs ns) (hlen : ns.length ≤ 50) (hm : 0 < many) (hm2 : many < 1000) (hne : @Ne Nat aS aL)
    (hQ : ∀ h' tk' r tr o', Ext [aS] s.heap h' → h'.get? aS = some o' → StO aL ns.length o' → 0 ≤ r → r < many → R (.ok (.ret (.int r tr))) { s with heap := h', toks := tk' }) :
    codeAny (model PySem.Challenge.rw_co0001_01.row.prog w) A (.call (.ref 187) ⟨[.ref aS, .int many tm], []⟩) R s := by
  obtain ⟨i, seed, ti, ts, n, rfl, hi, hi2, hs, hs2⟩ := SO
  k_dflt (refine' call_r X T SG RM [(aS, listOf #[.ref aL, .int i ti, .int seed ts] n), (aL, listOf vs.toArray 0)] (at2 hS hL) ?k6 ?k7 ?k9 ?kB ?_ ?c5 ?c2 ?c3 ?c4)
  case k6 => k_is
  case k7 => k_is
  case k9 => first | exact BindsTo.of_eq rfl | exact binds_K (X.keeps SG) rfl (by k_is) rfl rfl rfl
  case kB => k_dflt exact locs rfl
  case c5 => k_dflt decide
  case c2 => k_dflt exact rfl
  case c3 => k_dflt exact rfl
  case c4 => k_dflt exact rfl
  k_whole
  intro g' L' h₁ SG' A1 A2 F N X' T' L1 RM'
  k_lt L1
  clear X T SG RM
  try dsimp only
  try k_fold
  repeat' (first | walk1 | (dsimp only; walk1))
  all_goals (try dsimp only)
  · refine hQ _ _ _ _ _ (ext_one2 (A2 _ (Fr.keep (by assumption))) hL (by assumption) (by k_mem)) (PyProof.Rows.News.get (by assumption) (by k_mem)) ⟨_, _, _, _, _, rfl, ?_, ?_, fm_nonneg (by decide), fm_lt (by decide)⟩ (fm_nonneg hm) (fm_lt hm)
    · omega
    · omega
  · refine hQ _ _ _ _ _ (ext_one2 (A2 _ (Fr.keep (by assumption))) hL (by assumption) (by k_mem)) (PyProof.Rows.News.get (by assumption) (by k_mem)) ⟨_, _, _, _, _, rfl, hi, hi2, fm_nonneg (by decide), fm_lt (by decide)⟩ (fm_nonneg hm) (fm_lt hm)
def AllNe (d : Nat) : List (Addr × Obj) → Prop
  | [] => True
  | p :: r => @Ne Nat p.1 d ∧ AllNe d r
theorem allNe_of {d : Addr} : ∀ {l : List (Addr × Obj)}, (∀ p ∈ l, p.1 ≠ d) → AllNe d l
  | [], _ => trivial
  | p :: _, h => ⟨h p (.head _), allNe_of fun q hq => h q (.tail _ hq)⟩
abbrev lawKeys : List Str := ["a", "A", "b-c", "B-C", "Straße", "STRAẞE", "é", "É", "z", "Z9"].map Str.ofString
def StrsAre (vs : List Value) (ks : List Str) : Prop := vs.length = ks.length ∧ ∀ (i : Nat) (k : Str), ks[i]? = some k → ∃ t, vs[i]? = some (.str k t)
theorem StrsAre.nil : StrsAre [] [] := ⟨rfl, fun i k h => by simp at h⟩
theorem StrsAre.cons {vs : List Value} {ks : List Str} {k : Str} {t : Tok} (h : StrsAre vs ks) : StrsAre (.str k t :: vs) (k :: ks) := by
  refine ⟨by simp [h.1], fun i k' hi => ?_⟩
  cases i with
  | zero => cases hi; exact ⟨t, rfl⟩
  | succ i => exact h.2 i k' (by simpa using hi)
theorem fresh_of {S : List Addr} {h g : Heap} {l : Addr} (A1 : ∀ b o, b ∉ S → h.get? b = some o → g.get? b = some o) (n : g.get? l = none) (hl : l ∉ S) : h.get? l = none := by
  cases q : h.get? l with
  | none => rfl
  | some o => rw [A1 l o hl q] at n; cases n
set_option maxHeartbeats 4000000 in
theorem C_keys {w : World} {G : Heap} {A : Around} {s : Shared} {p : Program} {loose : List Str} {mean : ExcName → Option Value} {mg mb : Str → Option Value} {R : Result → Shared → Prop} (X : (hd.heap_39 w.params).In G) (T : Top p loose mean mg mb G) (SG : G.StaysIn s.heap) (RM : Room 3 A)
    (hQ : ∀ h' tk' l vs, Ext [] s.heap h' → s.heap.get? l = none → h'.get? l = some (listOf vs.toArray 0) → StrsAre vs lawKeys → R (.ok (.ret (.ref l))) { s with heap := h', toks := tk' }) :
    codeAny (model PySem.Challenge.rw_co0001_01.row.prog w) A (.call (.ref 180) ⟨[], []⟩) R s := by
  k_dflt (refine' call_r X T SG RM [] at0 ?k6 ?k7 ?k9 ?kB ?_ ?c5 ?c2 ?c3 ?c4)
  case k6 => k_is
  case k7 => k_is
  case k9 => first | exact BindsTo.of_eq rfl | exact binds_K (X.keeps SG) rfl (by k_is) rfl rfl rfl
  case kB => k_dflt exact locs rfl
  case c5 => k_dflt decide
  case c2 => k_dflt exact rfl
  case c3 => k_dflt exact rfl
  case c4 => k_dflt exact rfl
  k_whole
  intro g' L' h₁ SG' A1 A2 F N X' T' L1 RM'
  k_lt L1
  clear X T SG RM
  try dsimp only
  try k_fold
  repeat' (first | walk1 | (dsimp only; walk1))
  exact hQ _ _ _ _ (A2 _ (Fr.keep (by assumption))) (fresh_of A1 ((by assumption : News _ _ _ _) _ (List.Mem.head _)).2.2 (by simp)) (PyProof.Rows.News.get (by assumption) (by k_mem)) (.cons (.cons (.cons (.cons (.cons (.cons (.cons (.cons (.cons (.cons .nil))))))))))
theorem StrsAre.get {vs : List Value} {ks : List Str} (h : StrsAre vs ks) {i : Nat} (hi : i < ks.length) : ∃ t, vs[i]? = some (.str ks[i] t) := h.2 i ks[i] (by simp [hi])
section
variable {prog : Program} {w : World} {A : Around} {E : Value → Shared → Prop} {s : Shared} {G : Heap} {L : Addr} {m : Str → Option Value} {news : List (Addr × Obj)}
abbrev rangeIt (x left step : Int) : Obj := { cls := .type "range_iterator", dict := none, data := .fields #[rawInt x, rawInt left, rawInt step], slots := #[] }
def SRange (n i : Nat) (o : Obj) : Prop := o = rangeIt (0 + (i : Nat) * 1) ((n : Int) - (i : Nat)) 1
theorem iter_range (hh : A.handled = none) {I : Addr} (n : Nat) : Iter prog w A I n (SRange n) [] (fun i v _ => ∃ t, v = .int (i : Int) t) where
  item := fun i o s Q E hi ho hS hk hQ => by
    rw [hS] at ho
    refine wpAny_pyNext_range_item ho (by omega) fun h' hit' hs' => ?_
    have e1 : (0 : Int) + ((i + 1 : Nat) : Int) * 1 = 0 + (i : Int) * 1 + 1 := by push_cast; omega
    have e2 : (n : Int) - ((i + 1 : Nat) : Int) = (n : Int) - (i : Int) - 1 := by push_cast; omega
    refine hQ _ h' _ (rangeIt (0 + ((i + 1 : Nat) : Int) * 1) ((n : Int) - ((i + 1 : Nat) : Int)) 1) ⟨_, by rw [Int.zero_add, Int.mul_one]⟩ (by rw [e1, e2]; exact hit') rfl fun b q n e => hs'.extBut b q (by simpa using n) e
  done := fun o s Q E ho hS hk hQ => by
    rw [hS] at ho
    exact wpAny_pyNext_range_end hh ho (by omega) fun h' he' => hQ h' s.toks fun b q n e => he' b q (by simpa using n) e
  self := fun i o s Q E ho hS hQ => by
    rw [hS] at ho
    exact wpAny_pyIter_rangeiter ho hQ
  go := fun i o elts k pos v s Q E ho hS hQ => by
    cases v with
    | ref T =>
      unfold letOwnedTupleGo
      refine wpAny_bind (wpAny_load ho ?_)
      rw [hS]
      show wpAny _ A (if (["enumerate", "zip", "dict_itemiterator", "dict_reverseitemiterator", "odict_iterator", "itertools.zip_longest", "itertools.pairwise"].contains "range_iterator" && _) = true then _ else _) Q E s
      rw [show (["enumerate", "zip", "dict_itemiterator", "dict_reverseitemiterator", "odict_iterator", "itertools.zip_longest", "itertools.pairwise"].contains "range_iterator") = false from by decide, Bool.false_and, if_neg (by decide)]
      exact wpAny_pure (hQ s.heap o ho hS Ext.refl)
    | _ => exact wpAny_pure (hQ s.heap o ho hS Ext.refl)
  mono := fun i v h h' p _ => p
end
section
variable {w : World} {g : Heap} {A : Around} {s : Shared} {R : Result → Shared → Prop} {K : Frag} {prog : Program} {p : Program} {loose : List Str} {mean : ExcName → Option Value} {mg mb : Str → Option Value}
  {name qual : Str} {params : Arguments} {body : List Stmt} {scope : Scope} {dV kV doc pm cdv ct oc : Value} {an od : Option Addr} {osl : Array (Option Value)} {f : Addr} {args : Args} {binds : List (Str × Value)}
/-- a call of a def with cells -/
theorem call_rc {n : Nat} (X : K.In g) (T : Top p loose mean mg mb g) (SG : g.StaysIn s.heap) (RM : Room (n + 1) A) (S : List (Addr × Obj)) (hS : ∀ q ∈ S, s.heap.get? q.1 = some q.2 ∧ g.get? q.1 = none)
    (ho : K.lookup f = some ⟨oc, od, .func (fnOf name qual params body scope dV kV doc pm an cdv ct), osl⟩) (hcd : codeIn K cdv qual = true)
    (hbind : BindsTo s (fnOf name qual params body scope dV kV doc pm an cdv ct) args binds) (hkind : (binds.all fun y => scope.names.lookup y.1 == some .local || scope.names.lookup y.1 == some .cell) = true)
    (hnd : ((cellsFrom 0 scope.names []).map (·.1)).Nodup)
    (h : ∀ g' L' h₁ tk cells, g.StaysIn g' → (∀ b o, b ∉ S.map (·.1) → s.heap.get? b = some o → g'.get? b = some o) → (∀ h', g'.StaysIn h' → Ext (S.map (·.1)) s.heap h') →
      Fr g' L' h₁ (bindL (envOfC qual scope L' f cdv).kindOf binds fun _ => none) → News g' L' h₁ (cells ++ S) → CellsAre (bindC (envOfC qual scope L' f cdv).kindOf binds fun _ => none) (cellsFrom (L' + 1) scope.names []) cells → K.In g' → Top p loose mean mg mb g' → (∀ q ∈ S, q.1 < L') → Room n (A.deeper (envOfC qual scope L' f cdv)) →
      wpAny (model prog w) (A.deeper (envOfC qual scope L' f cdv)) (execs body (envOfC qual scope L' f cdv))
        (fun fl s' => R (.ok (.ret (match fl with | .ret v => v | _ => .none))) s') (fun _ _ => False)
        { s with heap := h₁, toks := tk })
    (hco : scope.isCoroutine = false := by rfl) (hgen : scope.isGenerator = false := by rfl) (hk : scope.kind = .function := by rfl) : codeAny (model prog w) A (.call (.ref f) args) R s := by
  obtain ⟨st, a1, a2, X', T'⟩ := base_of T X SG S hS
  refine codeAny_call_function RM.lim (SG _ _ (X _ _ ho)) rfl hco hgen rfl (codeRec_of (X.keeps SG) hcd) (hbind _ _ _ _ ?_)
  refine wpAny_newFunctionEnv_cells hk ((kindsX hkind) _) fun env' he s' x => ?_
  subst he
  refine ⟨(T.nolimit.keeps SG).keeps x.toInCall.keep, codeAny_func ?_⟩
  obtain ⟨h₁, tk, rfl, _⟩ := x.done
  have hk₁ := x.toInCall.keep
  obtain ⟨cells, NC, Y⟩ := Cl.news (h₀ := s.heap) (Nat.le_refl _) fun n c hm => ⟨x.cell n c (lookup_of_mem_nodup (cellsFrom_names scope.names 0 (s.heap.objs.size + 1) [] [] rfl ▸ hnd) hm), x.above n c hm⟩
  refine wpAny_mono (h _ s.heap.objs.size h₁ tk cells st a1 a2 ⟨x.toInCall.ns, fun b o e => hk₁ b o (of_hideAll _ e), Nat.le_of_eq (hideAll_size _ _)⟩ (fun p hp => ?_) Y X' T' (fun q hq => Heap.lt_size (hS q hq).1) RM.deeper) (fun _ _ x => x) (fun _ _ x => x.elim)
  rcases List.mem_append.mp hp with hp | hp
  · refine ⟨(NC p hp).1, (NC p hp).2.1, ?_⟩
    cases q : (hideAll s.heap (S.map (·.1))).get? p.1 with
    | none => rfl
    | some o => have := of_hideAll _ q; rw [(NC p hp).2.2] at this; cases this
  · exact ⟨hk₁ _ _ (hS p hp).1, Nat.ne_of_lt (Heap.lt_size (hS p hp).1), hideAll_none _ (List.mem_map_of_mem hp)⟩
end
abbrev lawVals : List V := [.none, .int 0, .int 1, .int 2]
theorem get_none {h : Heap} {l : Addr} (q : h.get? l = none) {b : Addr} {o : Obj} (e : h.get? b = some o) : b ≠ l := fun x => by rw [x, q] at e; cases e
section
variable {w : World} {A : Around} {E : Value → Shared → Prop} {s : Shared} {G : Heap} {L : Addr} {m : Str → Option Value} {news : List (Addr × Obj)} {Q : Value → Shared → Prop} {prog : Program}
theorem news_newL {h' : Heap} {l : Addr} {o' : Obj} (F : Fr G L s.heap m) (N : News G L s.heap news) (e2 : Ext [] s.heap h') (q : s.heap.get? l = none) (g : h'.get? l = some o') : Fr G L h' m ∧ News G L h' ((l, o') :: news) ∧ ∀ p ∈ news, p.1 ≠ l := by
  refine ⟨fr0 F e2, fun x hx => ?_, fun x hx => get_none q (N x hx).1⟩
  rcases List.mem_cons.mp hx with rfl | hx
  · obtain ⟨oL, _, _, hoL, _⟩ := F.ns
    refine ⟨g, Ne.symm (get_none q hoL), ?_⟩
    cases z : G.get? l with
    | none => rfl
    | some o => rw [F.keep _ _ z] at q; cases q
  · exact news0 N e2 x hx
theorem U_range {n : Int} {t : Tok} (F : Fr G L s.heap m) (N : News G L s.heap news)
    (h : ∀ r h' tk t₁ u₁ v₁, Fr G L h' m → News G L h' ((r, { cls := .type "range", dict := none, data := .fields #[.int 0 t₁, .int n u₁, .int 1 v₁], slots := #[] }) :: news) → (∀ p ∈ news, p.1 < r) → Q (.ref r) { s with heap := h', toks := tk }) :
    wpAny (model prog w) A (call (.type "range") [.int n t]) Q E s := by
  refine range1_rows F N fun h' tk t₁ u₁ v₁ hr F' N' ex => ?_
  obtain ⟨a, b, c⟩ := news_new F N (fun b o _ e => ex b o e) hr
  exact h _ h' tk _ _ _ F' b c
theorem U_iter_range {r : Addr} {n : Nat} {t u v : Tok} (F : Fr G L s.heap m) (N : News G L s.heap news) (hr : (r, ({ cls := .type "range", dict := none, data := .fields #[.int 0 t, .int (n : Int) u, .int 1 v], slots := #[] } : Obj)) ∈ news) (hn : n ≤ 1000)
    (h : ∀ it h', Fr G L h' m → News G L h' ((it, rangeIt 0 (n : Int) 1) :: news) → (∀ p ∈ news, p.1 < it) → Q (.ref it) { s with heap := h' }) :
    wpAny (model prog w) A (pyIter (.ref r)) Q E s := by
  have hs : Builtin.Range.rangeSize 0 (n : Int) 1 = (n : Int) := by rw [rangeSize_nat]; omega
  refine wpAny_pyIter_range (N _ hr).1 (small_one (by omega) (by omega) (by omega) (by omega)) ?_
  rw [hs]
  refine h _ _ (F.push _) (fun q hq => ?_) fun p hp => Heap.lt_size (N p hp).1
  rcases List.mem_cons.mp hq with rfl | hq
  · refine ⟨Heap.get?_push_size _ rfl, Nat.ne_of_gt F.ns.lt, ?_⟩
    cases z : G.get? s.heap.objs.size with
    | none => rfl
    | some o => exact absurd (Heap.lt_size (F.keep _ _ z)) (Nat.lt_irrefl _)
  · exact ⟨Heap.get?_push_of_some _ (N q hq).1, (N q hq).2⟩
theorem item_strs {value slice : PySem.Expr} {l : Addr} {lo : Obj} {vs : List Value} {ep : Nat} {ks : List Str} {i : Int} {u : Tok} (N : News G L s.heap news) (hm : (l, lo) ∈ news) (hc : lo.cls = .type "list") (hd : lo.data = .seq vs.toArray ep) (S : StrsAre vs ks) (h0 : 0 ≤ i) (h1 : i < (ks.length : Int)) (hk : ks.length ≤ 1000)
    (h : ∀ k t, k ∈ ks → Q (.str k t) s)
    (hs : subscripted slice false (.ref l) (.int i u) = operate [.ref l, .int i u] (getItem (.ref l) (.int i u)) := by with_unfolding_all rfl) :
    wpAny (model prog w) A (subscriptTail value slice (.ref l) (.int i u)) Q E s := by
  have hlt : i.toNat < ks.length := by omega
  obtain ⟨t, e⟩ := S.get hlt
  exact item_listR ⟨lo, (N _ hm).1, hc, ep, hd⟩ h0 (by omega) (by simpa using e) (h _ t (List.getElem_mem hlt)) hs
theorem item_vals {value slice : PySem.Expr} {l : Addr} {lo : Obj} {a b c : Tok} {ep : Nat} {i : Int} {u : Tok} (N : News G L s.heap news) (hm : (l, lo) ∈ news) (hc : lo.cls = .type "list") (hd : lo.data = .seq #[.none, .int 0 a, .int 1 b, .int 2 c] ep) (h0 : 0 ≤ i) (h1 : i < 4)
    (h : ∀ x v, x ∈ lawVals → VIs x v → Q v s)
    (hs : subscripted slice false (.ref l) (.int i u) = operate [.ref l, .int i u] (getItem (.ref l) (.int i u)) := by with_unfolding_all rfl) :
    wpAny (model prog w) A (subscriptTail value slice (.ref l) (.int i u)) Q E s := by
  have cases4 : i = 0 ∨ i = 1 ∨ i = 2 ∨ i = 3 := by omega
  rcases cases4 with rfl | rfl | rfl | rfl
  · exact item_listR ⟨lo, (N _ hm).1, hc, ep, hd⟩ h0 (by omega) (x := .none) (by rfl) (h .none _ (by simp) rfl) hs
  · exact item_listR ⟨lo, (N _ hm).1, hc, ep, hd⟩ h0 (by omega) (x := .int 0 a) (by rfl) (h (.int 0) _ (by simp) ⟨_, rfl⟩) hs
  · exact item_listR ⟨lo, (N _ hm).1, hc, ep, hd⟩ h0 (by omega) (x := .int 1 b) (by rfl) (h (.int 1) _ (by simp) ⟨_, rfl⟩) hs
  · exact item_listR ⟨lo, (N _ hm).1, hc, ep, hd⟩ h0 (by omega) (x := .int 2 c) (by rfl) (h (.int 2) _ (by simp) ⟨_, rfl⟩) hs
end
section
variable {w : World} {A : Around} {E : Value → Shared → Prop} {s : Shared} {G : Heap} {L : Addr} {m : Str → Option Value} {news : List (Addr × Obj)} {Q : Value → Shared → Prop}
  {p : Program} {loose : List Str} {mean : ExcName → Option Value} {mg mb : Str → Option Value}
theorem U_keys (F : Fr G L s.heap m) (X : (hd.heap_39 w.params).In G) (N : News G L s.heap news) (T : Top p loose mean mg mb G) {n : Nat} (RM : Room (n + 3) A)
    (h : ∀ l vs h' tk', Fr G L h' m → News G L h' ((l, listOf vs.toArray 0) :: news) → (∀ p ∈ news, p.1 ≠ l) → StrsAre vs lawKeys → Q (.ref l) { s with heap := h', toks := tk' }) : wpAny (model PySem.Challenge.rw_co0001_01.row.prog w) A (call (.ref 180) []) Q E s :=
  wpAny_call (C_keys X T F.keep (RM.of (by omega) (by omega)) fun h' tk' l vs e q g S => by
    obtain ⟨F', N', l'⟩ := news_newL F N e q g
    exact h l vs h' tk' F' N' l' S)
theorem U_next (F : Fr G L s.heap m) (X : (hd.heap_39 w.params).In G) (N : News G L s.heap news) (T : Top p loose mean mg mb G) {n : Nat} (RM : Room (n + 6) A) {aS aL : Addr} {o oL : Obj} {vs : List Value} {ns : List Int} {many : Int} {tm : Tok} {f : Obj → List (Addr × Obj)}
    (SO : StO aL ns.length o) (U : UpdF aS o news f) (hL : (aL, oL) ∈ news) (hoL : oL = listOf vs.toArray 0) (hI : IntsAre vs ns) (hlen : ns.length ≤ 50) (hm : 0 < many) (hm2 : many < 1000) (hne : @Ne Nat aS aL)
    (h : ∀ h' tk' r tr o', Fr G L h' m → News G L h' (f o') → StO aL ns.length o' → 0 ≤ r → r < many → Q (.int r tr) { s with heap := h', toks := tk' }) : wpAny (model PySem.Challenge.rw_co0001_01.row.prog w) A (call (.ref 187) [.ref aS, .int many tm]) Q E s := by
  subst hoL
  refine wpAny_call (C_next X T F.keep (RM.of (by omega) (by omega)) (News.at N (updF_mem U)) (News.at N hL) SO hI hlen hm hm2 hne fun h' tk' r tr o' e g S h0 h1 => ?_)
  obtain ⟨F', N'⟩ := use1 F N U e g
  exact h h' tk' r tr o' F' N' S h0 h1
theorem tl_lt {d : Addr} : ∀ {tl : List (Addr × Obj)}, AllLt d tl → ∀ q ∈ tl, q.1 ≠ d
  | [], _, _, h => nomatch h
  | x :: r, h, q, hq => by
    rcases List.mem_cons.mp hq with rfl | hq
    · exact Nat.ne_of_lt h.1
    · exact tl_lt h.2 q hq
theorem tl_ne {d : Addr} : ∀ {tl : List (Addr × Obj)}, AllNe d tl → ∀ q ∈ tl, q.1 ≠ d
  | [], _, _, h => nomatch h
  | x :: r, h, q, hq => by
    rcases List.mem_cons.mp hq with rfl | hq
    · exact h.1
    · exact tl_ne h.2 q hq
end
local macro_rules | `(tactic| walk_at "a part") => `(tactic| ((repeat (with_reducible cases ‹_ ∧ _›)); assumption))
local macro_rules | `(tactic| k_all) => `(tactic| ((fail_if_success (with_reducible refine List.forall_mem_cons.mpr ⟨?_, ?_⟩)); first | assumption | (with_reducible refine tl_lt ?_; walk_at "a part") | (with_reducible refine tl_ne ?_; walk_at "a part")))
local macro_rules | `(tactic| walk_at "call type:range") => `(tactic| (k_here; k_dflt (refine' U_range ?k1 ?k2 ?_; (case k1 => k_asm); (case k2 => k_asm); k_whole; intro r' h' tk' t' u' v' F' N' l1; (try k_lt l1); (try k_sweep))))
local macro_rules | `(tactic| walk_at "subscriptTail") => `(tactic| (k_here; (with_reducible show wpAny _ _ (subscriptTail _ _ (Value.ref _) (Value.int _ _)) _ _ _); k_dflt (first
  | (refine' item_strs ?k1 ?k2 ?k3 ?k4 ?k5 ?k6 ?k7 ?k8 ?_ ?k9; (case k1 => k_asm); (case k5 => k_asm); (case k2 => k_mem); (case k3 => exact rfl); (case k4 => exact rfl); (case k6 => omega); (case k7 => (simp only [List.length_cons, List.length_nil, List.map_cons, List.map_nil]; omega)); (case k8 => decide); (case k9 => with_unfolding_all rfl); k_whole; intro k' t' hk'; (try k_sweep))
  | (refine' item_vals ?k1 ?k2 ?k3 ?k4 ?k6 ?k7 ?_ ?k9; (case k1 => k_asm); (case k2 => k_mem); (case k3 => exact rfl); (case k4 => exact rfl); (case k6 => omega); (case k7 => omega); (case k9 => with_unfolding_all rfl); k_whole; intro x' v' hx' hv'; (try k_sweep)))))
local macro_rules | `(tactic| walk_at "call ref") => `(tactic| (k_here; k_dflt (first
  | (refine' U_keys ?k1 ?k2 ?k3 ?k4 ?k5 ?_; (case k1 => k_asm); (case k2 => k_asm); (case k3 => k_asm); (case k4 => k_asm); (case k5 => k_asm); k_whole; intro l' vs' h' tk' F' N' l1 S'; (try replace l1 := allNe_of l1); (try simp only [AllNe, and_true] at l1); (try k_sweep))
  | (refine' U_next ?k1 ?k2 ?k3 ?k4 ?k5 ?k6 ?k7 ?k8 ?k9 ?ka ?kb ?kc ?kd ?ke ?_; (case k1 => k_asm); (case k2 => k_asm); (case k3 => k_asm); (case k4 => k_asm); (case k5 => k_asm); (case k6 => k_asm); (case k7 => k_updF); (case k8 => k_mem); (case k9 => exact rfl); (case ka => k_asm); (case kb => k_asm); (case kc => omega); (case kd => omega); (case ke => k_ne); k_whole; intro h' tk' r' tr' o' F' N' SO' r0' r1'; (try dsimp only at N'); (try k_sweep)))))
local macro_rules | `(tactic| walk_at "in tail") => `(tactic| (repeat (first | assumption | refine List.Mem.tail _ ?_)))
def J2 (L' rg aS aL : Addr) (oc org oL : Obj) (len : Nat) (i : Nat) (ys : List Value) (nw : List (Addr × Obj)) : Prop :=
  ∃ o ps tl, nw = (rg, org) :: (L' + 1, oc) :: (aS, o) :: (aL, oL) :: tl ∧ StO aL len o ∧ PairsIn tl ys.toArray ps ∧ ps.length = i ∧ (∀ p ∈ ps, p.1 ∈ lawKeys ∧ p.2 ∈ lawVals) ∧ (∀ q ∈ tl, q.2.cls = .type "tuple" ∧ q.1 ≠ aS ∧ q.1 ≠ aL)
theorem pairs_nil : PairsIn [] ([] : List Value).toArray [] := ⟨rfl, fun i k u h => by simp at h⟩
theorem PairsIn.snoc {tl : List (Addr × Obj)} {ys : List Value} {ps : DD} {t : Addr} {k : Str} {tk : Tok} {x : Value} {u : V} (P : PairsIn tl ys.toArray ps) (hv : VIs u x) : PairsIn ((t, tup2 (.str k tk) x) :: tl) (ys ++ [Value.ref t]).toArray (ps ++ [(k, u)]) := by
  have hl : ys.length = ps.length := by simpa using P.1
  refine ⟨by simp [hl], fun i k' u' hi => ?_⟩
  rcases Nat.lt_or_ge i ps.length with q | q
  · rw [List.getElem?_append_left q] at hi
    obtain ⟨t', tk', x', e1, e2, e3⟩ := P.2 i k' u' hi
    refine ⟨t', tk', x', ?_, .tail _ e2, e3⟩
    have : ys[i]? = some (.ref t') := by simpa using e1
    simp only [List.getElem?_toArray]
    rw [List.getElem?_append_left (by omega)]; exact this
  · rw [List.getElem?_append_right q] at hi
    cases z : i - ps.length with
    | zero =>
      rw [z] at hi; cases hi
      refine ⟨t, tk, x, ?_, .head _, hv⟩
      simp only [List.getElem?_toArray]
      rw [List.getElem?_append_right (by omega), show i - ys.length = 0 by omega]; rfl
    | succ j => rw [z] at hi; simp at hi
set_option maxHeartbeats 4000000 in
theorem C_pairs {w : World} {G : Heap} {A : Around} {s : Shared} {p : Program} {loose : List Str} {mean : ExcName → Option Value} {mg mb : Str → Option Value} {R : Result → Shared → Prop} (X : (hd.heap_39 w.params).In G) (T : Top p loose mean mg mb G) (SG : G.StaysIn s.heap) (RM : Room 20 A) {aS aL : Addr} {o : Obj} {vs : List Value} {ns : List Int}
    (hS : At G s.heap aS o) (hL : At G s.heap aL (listOf vs.toArray 0)) (SO : StO aL ns.length o) (hI : IntsAre vs ns) (hlen : ns.length ≤ 50) (hne : @Ne Nat aS aL)
    (hQ : ∀ h' tk' l lo ys ps tl o', Ext [aS] s.heap h' → h'.get? aS = some o' → StO aL ns.length o' → s.heap.get? l = none → h'.get? l = some lo → SeqObj lo ys → PairsIn tl ys.toArray ps → (∀ q ∈ tl, h'.get? q.1 = some q.2 ∧ q.2.cls = .type "tuple" ∧ s.heap.get? q.1 = none ∧ q.1 ≠ l) → ps.length ≤ 4 → (∀ p ∈ ps, p.1 ∈ lawKeys ∧ p.2 ∈ lawVals) → R (.ok (.ret (.ref l))) { s with heap := h', toks := tk' }) :
    codeAny (model PySem.Challenge.rw_co0001_01.row.prog w) A (.call (.ref 192) ⟨[.ref aS], []⟩) R s := by
  k_dflt (refine' call_rc X T SG RM [(aS, o), (aL, listOf vs.toArray 0)] (at2 hS hL) ?k6 ?k7 ?k9 ?kB ?kD ?_ ?c2 ?c3 ?c4)
  case k6 => k_is
  case k7 => k_is
  case k9 => first | exact BindsTo.of_eq rfl | exact binds_K (X.keeps SG) rfl (by k_is) rfl rfl rfl
  case kB => k_dflt exact rfl
  case kD => decide +kernel
  case c2 => k_dflt exact rfl
  case c3 => k_dflt exact rfl
  case c4 => k_dflt exact rfl
  k_whole
  intro g' L' h₁ tk₁ cells₁ SG' A1 A2 F N Y X' T' L1 RM'
  k_lt L1
  k_cells Y
  (try simp only [List.cons_append, List.nil_append] at N)
  clear X T SG RM
  try dsimp only
  try k_fold
  repeat' ((fail_if_success (with_reducible show wpAny _ _ (eval (Expr.ListComp _ _ _ _) _) _ _ _)); first | walk1 | (dsimp only; walk1))
  rename_i oc dc
  replace dc : oc.data = .cell (some (.ref aS)) := dc
  k_dflt (refine' U_listcomp ?hc ?hk ?hn ?_ ?hs)
  case hc => with_unfolding_all rfl
  case hk => with_unfolding_all rfl
  case hn => decide
  case hs => intro _; with_unfolding_all rfl
  repeat' ((fail_if_success (with_reducible show wpAny _ _ (pyIter _) _ _ _)); first | walk1 | (dsimp only; walk1))
  rename_i h2 tk2 r tr o2 SO2 r0 r5 rg h3 tk3 t1 t2 t3 F3 N3 l3
  obtain ⟨n, rfl⟩ := Int.eq_ofNat_of_zero_le r0
  refine U_iter_range F3 N3 (List.Mem.head _) (by omega) fun it h4 F4 N4 l4 => ?_
  k_lt l4
  k_dflt (refine' lc_block ?b1 ?b2 ?b3 ?b4 ?b5 F4 N4 (iter_range RM'.hd n) ?b6 ?b7 ?b8 (J2 L' rg aS aL oc ⟨.type "range", none, .fields #[.int 0 t1, .int (n : Int) t2, .int 1 t3], #[]⟩ (listOf vs.toArray 0) ns.length) ?b9 ?b10 ?b11 ?b12 ?_ ?_)
  case b1 => decide
  case b2 => with_unfolding_all rfl
  case b3 => with_unfolding_all rfl
  case b4 => omega
  case b5 => with_unfolding_all rfl
  case b6 => show _ = _; simp
  case b7 => exact List.forall_mem_nil _
  case b8 => k_all
  case b9 => exact ⟨_, [], [], rfl, SO2, pairs_nil, rfl, List.forall_mem_nil _, List.forall_mem_nil _⟩
  case b10 => exact fun i ys nw ⟨o, ps, tl, _, _, P, e, _⟩ => by have := P.1; simp at this; omega
  case b11 => exact fun _ _ _ _ => List.forall_mem_nil _
  case b12 => exact fun _ _ _ _ _ _ p _ => p
  · intro D C i v ys nw h tk oI' lD oL m₁ lD1 lD2 lDC hi hP hJ ho F5 N5
    obtain ⟨o, ps, tl, rfl, SO5, P5, e5, pp5, tt5⟩ := hJ
    have tA : AllNe aS tl := allNe_of fun q hq => (tt5 q hq).2.1
    k_lt lD1
    clear F4 N4 F3 N3
    refine test0 ?_
    simp only [if_true]
    repeat' (first | walk1 | (dsimp only; walk1))
    rename_i k6 t6 hk _ _ _ _ _ _ _ _ _ _ _ o6 SO6 _ _ x6 v6 hx6 hv6 D6 h6 F6 N6 l6
    show CEnd _ _ _ _ _ _ _ _ _ _ _
    refine ⟨_, _, _, _, (rg, ⟨.type "range", none, .fields #[.int 0 t1, .int (n : Int) t2, .int 1 t3], #[]⟩) :: (L' + 1, oc) :: (aS, o6) :: (aL, listOf vs.toArray 0) :: (D6, tup2 (.str k6 t6) v6) :: tl, rfl, F6, N6, by k_mem, by k_mem, by k_mem, ?_, ?_, ⟨_, ps ++ [(k6, x6)], _, rfl, SO6, P5.snoc hv6, by simp [e5], ?_, ?_⟩⟩
    · exact List.forall_mem_cons.mpr ⟨by k_mem, List.forall_mem_cons.mpr ⟨by k_mem, List.forall_mem_cons.mpr ⟨by k_mem, List.forall_mem_cons.mpr ⟨by k_mem, List.forall_mem_cons.mpr ⟨by k_mem, fun q hq => by walk_at "in tail"⟩⟩⟩⟩⟩
    · exact List.forall_mem_cons.mpr ⟨⟨by k_ne, by k_ne, by k_ne⟩, List.forall_mem_cons.mpr ⟨⟨by k_ne, by k_ne, by k_ne⟩, List.forall_mem_cons.mpr ⟨⟨by k_ne, by k_ne, by k_ne⟩, List.forall_mem_cons.mpr ⟨⟨by k_ne, by k_ne, by k_ne⟩, List.forall_mem_cons.mpr ⟨⟨by k_ne, by k_ne, by k_ne⟩, fun q hq => ho q (by walk_at "in tail")⟩⟩⟩⟩⟩
    · intro p hp
      rcases List.mem_append.mp hp with hp | hp
      · exact pp5 p hp
      · obtain rfl := List.mem_singleton.mp hp
        exact ⟨hk, hx6⟩
    · exact List.forall_mem_cons.mpr ⟨⟨rfl, by k_ne, by k_ne⟩, tt5⟩
  · intro D h tk lD ys nw lD1 hJ F5 N5 nD so
    obtain ⟨o, ps, tl, rfl, SO5, P5, e5, pp5, tt5⟩ := hJ
    k_lt lD1
    have dD : D ∉ [(aS, o), (aL, listOf vs.toArray 0)].map (·.1) := by
      have h1 : D ≠ aS := by k_ne
      have h2 : D ≠ aL := by k_ne
      simp [h1, h2]
    refine hQ h tk D lD ys ps tl o (ext_one2 (A2 _ (Fr.keep F5)) hL N5 (by k_mem)) (PyProof.Rows.News.get N5 (by k_mem)) SO5 (fresh_of A1 (N5 _ (.head _)).2.2 dD) (N5 _ (.head _)).1 so P5 (fun q hq => ?_) (by omega) pp5
    obtain ⟨a, b, c⟩ := tt5 q hq
    have mq : q ∈ (D, lD) :: (rg, (⟨.type "range", none, .fields #[.int 0 t1, .int (n : Int) t2, .int 1 t3], #[]⟩ : Obj)) :: (L' + 1, oc) :: (aS, o) :: (aL, listOf vs.toArray 0) :: tl := by walk_at "in tail"
    refine ⟨(N5 q mq).1, a, fresh_of A1 (N5 q mq).2.2 (by simp [b, c]), nD q (by walk_at "in tail")⟩
/-- a list of pairs -/
structure LSrc (h : Heap) (M : Addr) (ps : DD) (lo : Obj) (vs : Array Value) (ep : Nat) (tl : List (Addr × Obj)) : Prop where
  a : h.get? M = some lo
  c : lo.cls = .type "list"
  d : lo.data = .seq vs ep
  n : lo.dict = none
  P : PairsIn tl vs ps
  k : ∀ q ∈ tl, h.get? q.1 = some q.2 ∧ q.2.cls = .type "tuple"
theorem LSrc.up {h h' : Heap} {M : Addr} {ps : DD} {lo : Obj} {vs : Array Value} {ep : Nat} {tl : List (Addr × Obj)} (S : LSrc h M ps lo vs ep tl) (k : ∀ b o, h.get? b = some o → h'.get? b = some o) : LSrc h' M ps lo vs ep tl :=
  ⟨k _ _ S.a, S.c, S.d, S.n, S.P, fun q hq => ⟨k _ _ (S.k q hq).1, (S.k q hq).2⟩⟩
theorem LSrc.src {h : Heap} {M : Addr} {ps : DD} {lo : Obj} {vs : Array Value} {ep : Nat} {tl : List (Addr × Obj)} (S : LSrc h M ps lo vs ep tl) : Src h M ps := .list lo vs ep tl S.a S.c S.d S.n S.P S.k
theorem U_dict_dictL {w : World} {A : Around} {E : Value → Shared → Prop} {s : Shared} {G : Heap} {L : Addr} {m : Str → Option Value} {news : List (Addr × Obj)} {Q : Value → Shared → Prop} {d : Addr} {o : Obj} {D : DD} {es : List DictEntry} {ep : Nat} (F : Fr G L s.heap m) (N : News G L s.heap news) (hd : s.heap.get? d = some o) (T : PD o D es ep) (hs : (d == sysModules) = false) (hn : (Keys D).Nodup) (hl : D.length ≤ 900)
    (h : ∀ nd h' tk' o' es' ep', Fr G L h' m → News G L h' ((nd, o') :: news) → (∀ p ∈ news, p.1 < nd) → @LT.lt Nat _ L nd → PD o' D es' ep' → Q (.ref nd) { s with heap := h', toks := tk' }) : wpAny (model PySem.Challenge.rw_co0001_01.row.prog w) A (call (.type "dict") [.ref d]) Q E s :=
  dict_of_dict hd T hs hn hl fun nd h' tk' o' es' ep' e1 e2 g P => by
    subst e1
    obtain ⟨F', N', l'⟩ := news_new F N e2 g
    exact h _ h' tk' o' es' ep' F' N' l' F.ns.lt P
local macro_rules | `(tactic| walk_at "call type:dict") => `(tactic| (k_here; k_dflt (refine' U_dict_dictL ?k1 ?k2 ?k3 ?k4 ?k5 ?k6 ?k7 ?_; (case k1 => k_asm); (case k2 => k_asm); (case k3 => (first | exact PyProof.Rows.News.get (by k_asm) (by k_mem) | exact Fr.keep (by k_asm) _ _ (by assumption))); (case k4 => k_asm); (case k5 => (first | with_reducible assumption | (exact nsys (by omega)) | k_asm)); (case k6 => k_asm); (case k7 => k_asm); k_whole; intro nd' h' tk' o' es' ep' F' N' l1 l2 pd'; (try k_lt l1); (try k_sweep))))
set_option maxHeartbeats 4000000 in
theorem C_laid {w : World} {G : Heap} {A : Around} {s : Shared} {p : Program} {loose : List Str} {mean : ExcName → Option Value} {mg mb : Str → Option Value} {R : Result → Shared → Prop} (X : (hd.heap_39 w.params).In G) (T : Top p loose mean mg mb G) (SG : G.StaysIn s.heap) (RM : Room 20 A) {H M : Addr} {oh lo : Obj} {D ps : DD} {es : List DictEntry} {ep ep1 : Nat} {vs : Array Value} {tl : List (Addr × Obj)}
    (hH : s.heap.get? H = some oh) (PD1 : PD oh D es ep) (hsys : (H == sysModules) = false) (hn : (Keys D).Nodup) (LS : LSrc s.heap M ps lo vs ep1 tl) (hps : ∀ p ∈ ps, p.1.length ≤ 100) (hl : D.length ≤ 900) (hsz : D.length + ps.length ≤ 900)
    (hQ : ∀ h' tk' d od es' ep', Ext [] s.heap h' → s.heap.get? d = none → h'.get? d = some od → PD od (puts D ps) es' ep' → @LT.lt Nat _ 1 d → R (.ok (.ret (.ref d))) { s with heap := h', toks := tk' }) :
    codeAny (model PySem.Challenge.rw_co0001_01.row.prog w) A (.call (.ref 199) ⟨[.ref H, .ref M], []⟩) R s := by
  k_dflt (refine' call_r X T SG RM [] at0 ?k6 ?k7 ?k9 ?kB ?_ ?c5 ?c2 ?c3 ?c4)
  case k6 => k_is
  case k7 => k_is
  case k9 => first | exact BindsTo.of_eq rfl | exact binds_K (X.keeps SG) rfl (by k_is) rfl rfl rfl
  case kB => k_dflt exact locs rfl
  case c5 => k_dflt decide
  case c2 => k_dflt exact rfl
  case c3 => k_dflt exact rfl
  case c4 => k_dflt exact rfl
  k_whole
  intro g' L' h₁ SG' A1 A2 F N X' T' L1 RM'
  have up : ∀ b o, s.heap.get? b = some o → g'.get? b = some o := fun b o e => A1 b o (by simp) e
  have hH' := up _ _ hH
  have LS' := LS.up up
  obtain ⟨a, c, d, nn, P, kk⟩ := LS'
  clear X T SG RM
  try dsimp only
  try k_fold
  repeat' ((fail_if_success (with_reducible show wpAny _ _ (exec (Stmt.For _ _ _ _ _) _) _ _ _)); first | walk1 | (dsimp only; walk1))
  refine For_it ?_
  walk1
  rename_i nd h7 tk7 o7 es7 ep7 l7 pd7 l7' h8 F8 N8
  have low : @LT.lt Nat _ 1 nd := Nat.lt_trans (Nat.lt_of_lt_of_le (modules_low T'.nolimit) F8.above) l7
  k_dflt (refine U_iter_list F8 N8 (F8.keep _ _ a) c d fun I2 hI2 FI2 NI2 lI2 lmI2 => ?_)
  k_lt lI2
  have b1 : ∀ q ∈ (M, lo) :: tl, q.1 ≠ I2 := fun q hq e => by
    have z := (NI2 _ (.head _)).2.2
    rcases List.mem_cons.mp hq with rfl | hq
    · rw [← e, a] at z; cases z
    · have := (kk q hq).1; rw [e, z] at this; cases this
  refine for_pairs RM'.hd (iter_pairs RM'.hd c d P b1) b1 rfl rfl rfl FI2 NI2 ⟨rfl, rfl⟩ ?b2 (fun i news₁ => ∃ o' es' ep', PD o' (puts D (ps.take i)) es' ep' ∧ news₁ = [(nd, o')]) ⟨o7, es7, ep7, pd7, rfl⟩ ?b3 ?turn2 ?done2
  case b2 => k_all
  case b3 =>
    rintro i news₁ _ q hq
    rcases List.mem_cons.mp hq with rfl | hq
    · exact .inr a
    · exact .inr (kk q hq).1
  case turn2 =>
    rintro i k u news₁ h tk oI2 tkk xv hpi ⟨o', es', ep', td', rfl⟩ hv hoff2 F N
    change Fr g' L' h _ at F
    change News g' L' h _ at N
    have hk1 : k.length ≤ 100 := hps _ (List.mem_of_getElem? hpi)
    have hk2 : (put (Txt.upper k) u (puts D (ps.take i))).length ≤ 1000 := puts_fit (by first | omega | (have := puts_len D ps; omega))
    clear N8 F8 NI2 FI2
    try k_fold
    repeat' (first | k_unfold | walk1 | (dsimp only; walk1))
    rename_i h9 tk9 o9 es9 ep9 F9 N9 td9
    refine ⟨rfl, _, _, _, [(nd, o9)], _, rfl, F9, N9, by k_mem, ?_, ?_, fun y n1 n2 => ?_, o9, es9, ep9, ?_, rfl⟩
    · exact fun q hq => List.mem_cons_of_mem _ hq
    · k_all
    · simp [n1, n2]
    · rw [puts_take hpi]; exact td9
  case done2 =>
    rintro h tk m' news₁ hag ⟨o', es', ep', td', rfl⟩ F N
    change Fr g' L' h _ at F
    change News g' L' h _ at N
    rw [List.take_length] at td'
    have hm' : m' (Str.ofString "due") = some (.ref nd) := by rw [hag _ (by decide) (by decide)]; rfl
    clear N8 F8 NI2 FI2
    try dsimp only
    repeat' (first | k_unfold | walk1 | (dsimp only; walk1))
    exact hQ _ _ _ _ _ _ (A2 _ F.keep) (fresh_of A1 (N _ (.head _)).2.2 (by simp)) (N _ (.head _)).1 td' low
theorem U_laid {w : World} {G : Heap} {A : Around} {s : Shared} {p : Program} {loose : List Str} {mean : ExcName → Option Value} {mg mb : Str → Option Value} {E : Value → Shared → Prop} {Q : Value → Shared → Prop} {L : Addr} {m : Str → Option Value} {news : List (Addr × Obj)} (F : Fr G L s.heap m) (X : (hd.heap_39 w.params).In G) (N : News G L s.heap news) (T : Top p loose mean mg mb G) {n : Nat} (RM : Room (n + 20) A) {H M : Addr} {oh lo : Obj} {D ps : DD} {es : List DictEntry} {ep ep1 : Nat} {vs : Array Value} {tl : List (Addr × Obj)}
    (hH : (H, oh) ∈ news) (PD1 : PD oh D es ep) (hsys : (H == sysModules) = false) (hn : (Keys D).Nodup) (hM : (M, lo) ∈ news) (c : lo.cls = .type "list") (d : lo.data = .seq vs ep1) (dn : lo.dict = none) (P : PairsIn tl vs ps) (ht : ∀ q ∈ tl, q.2.cls = .type "tuple") (hs : ∀ q ∈ tl, q ∈ news) (hps : ∀ p ∈ ps, p.1.length ≤ 100) (hl : D.length ≤ 900) (hsz : D.length + ps.length ≤ 900)
    (h : ∀ d od es' ep' h' tk', Fr G L h' m → News G L h' ((d, od) :: news) → (∀ p ∈ news, p.1 ≠ d) → PD od (puts D ps) es' ep' → @LT.lt Nat _ 1 d → Q (.ref d) { s with heap := h', toks := tk' }) : wpAny (model PySem.Challenge.rw_co0001_01.row.prog w) A (call (.ref 199) [.ref H, .ref M]) Q E s :=
  wpAny_call (C_laid X T F.keep (RM.of (by omega) (by omega)) (N _ hH).1 PD1 hsys hn ⟨(N _ hM).1, c, d, dn, P, fun q hq => ⟨(N q (hs q hq)).1, ht q hq⟩⟩ hps hl hsz fun h' tk' d od es' ep' e q g pd low => by
    obtain ⟨F', N', l'⟩ := news_newL F N e q g
    exact h d od es' ep' h' tk' F' N' l' pd low)
section
variable {prog : Program} {w : World} {A : Around} {E : Value → Shared → Prop} {s : Shared} {R : Result → Shared → Prop}
/-- what the collected tuples are -/
structure Got (h : Heap) (lo : Addr) (tl : List (Addr × Obj)) (vs : Array Value) (D : DD) : Prop where
  P : PairsIn tl vs D
  k : ∀ q ∈ tl, h.get? q.1 = some q.2 ∧ q.2.cls = .type "tuple" ∧ lo < q.1
theorem PairsIn.push {tl : List (Addr × Obj)} {vs : Array Value} {ps : DD} {t : Addr} {k : Str} {tk : Tok} {x : Value} {u : V} (P : PairsIn tl vs ps) (hv : VIs u x) : PairsIn ((t, tup2 (.str k tk) x) :: tl) (vs.push (.ref t)) (ps ++ [(k, u)]) := by
  have := PairsIn.snoc (ys := vs.toList) (t := t) (k := k) (tk := tk) (by simpa using P) hv
  rwa [show (vs.toList ++ [Value.ref t]).toArray = vs.push (.ref t) from by apply Array.ext'; simp] at this
theorem lp_loop {S I : Addr} {n : Nat} {D : DD} {SS : Nat → Obj → Prop} {keep : List (Addr × Obj)} (hSI : S < I) (hSk : ∀ q ∈ keep, q.1 ≠ S) (hIk : ∀ q ∈ keep, q.1 ≠ I) (hn : n ≤ 900) (hD : D.length = n) (res : Value) {h₁ : Heap}
    (IT : Iter prog w A.in1 I n SS keep (fun i v h => ∃ k u, D[i]? = some (k, u) ∧ IsPair I k u v h ∧ ∀ t, v = .ref t → I < t))
    (hR : ∀ h' tk acc c tl, (∀ b o, b ≠ S → b ≠ I → h₁.get? b = some o → h'.get? b = some o) → h'.get? S = some { cls := .type "list", dict := none, data := .seq acc c, slots := #[] } → Got h' I tl acc D → R (.ok (.ret res)) { s with heap := h', toks := tk }) :
    ∀ (k i : Nat) (h : Heap) (tk c : Nat) (acc : Array Value) (tl : List (Addr × Obj)) (oI : Obj), n - i = k → i ≤ n → h.get? I = some oI → SS i oI → (∀ q ∈ keep, h.get? q.1 = some q.2) → (∀ b o, b ≠ S → b ≠ I → h₁.get? b = some o → h.get? b = some o) →
      h.get? S = some { cls := .type "list", dict := none, data := .seq acc c, slots := #[] } → Got h I tl acc (D.take i) →
      codeAny (model prog w) A (.builtin "list.extend.loop" ⟨[.ref S, .ref I, res], []⟩) R { s with heap := h, toks := tk } := by
  have hne : S ≠ I := Nat.ne_of_lt hSI
  intro k
  induction k with
  | zero =>
    intro i h tk c acc tl oI hk hi hI hst hkp hkeep hS hG
    have hin : i = n := by omega
    subst hin
    refine codeAny_builtin PySem.F.entry_extend_loop ?_
    rw [Around.under_plainId PySem.F.plain_extend_loop _]
    show wpAny _ A.in1 (pyNext (.ref I) >>= _) _ _ _
    refine wpAny_bind (IT.done oI { s with heap := h, toks := tk } _ _ hI hst hkp fun h' tk' e => ?_)
    rw [← hD, List.take_length] at hG
    refine wpAny_pure (hR h' tk' acc c tl (fun b o h1 h2 e' => e.one h2 (hkeep b o h1 h2 e')) (e.one hne hS) ⟨hG.P, fun q hq => ?_⟩)
    obtain ⟨a, b, c⟩ := hG.k q hq
    exact ⟨e.one (Nat.ne_of_gt c) a, b, c⟩
  | succ k ih =>
    intro i h tk c acc tl oI hk hi hI hst hkp hkeep hS hG
    have hlt : i < n := by omega
    have hsz : acc.size = i := by rw [hG.P.1, List.length_take]; omega
    refine codeAny_builtin PySem.F.entry_extend_loop ?_
    rw [Around.under_plainId PySem.F.plain_extend_loop _]
    show wpAny _ A.in1 (pyNext (.ref I) >>= _) _ _ _
    refine wpAny_bind (IT.item i oI { s with heap := h, toks := tk } _ _ hlt hI hst hkp fun v h' tk' oI' hP hI' hst' e => ?_)
    obtain ⟨kk, u, hx, ⟨t, tkk, x, rfl, htI, ht, hv⟩, hlo⟩ := hP
    have hIt := hlo t rfl
    dsimp only at ht e ⊢
    have hS' := e.one hne hS
    have hSt : t ≠ S := Nat.ne_of_gt (Nat.lt_trans hSI hIt)
    have up : ∀ b o, b ≠ S → h'.get? b = some o → (h'.update S (Obj.mapSeq (·.push (Value.ref t)))).get? b = some o := fun b o hb e => (Heap.get?_update_other _ _ (Ne.symm hb)).trans e
    show wpAny _ A.in1 (updateSeq S (·.push (Value.ref t)) >>= _) _ _ _
    refine wpAny_bind ?_
    refine wpAny_updateSeq hS' rfl (wpAny_pure ⟨plainId_quiet PySem.F.plain_extend_loop _, ih (i + 1) _ tk' _ (acc.push (Value.ref t)) ((t, tup2 (.str kk tkk) x) :: tl) oI' (by omega) hlt (up _ _ (Ne.symm hne) hI') hst' (fun q hq => up _ _ (hSk q hq) (e.one (hIk q hq) (hkp q hq)))
      (fun b o h1 h2 e' => up b o h1 (e.one h2 (hkeep b o h1 h2 e'))) (Heap.get?_update_self _ hS' rfl) ⟨?_, ?_⟩⟩) (by rw [hsz, sizeLine_eq]; omega) (by show (acc.push (Value.ref t)).size ≤ sizeLine + 1; rw [Array.size_push, hsz, sizeLine_eq]; omega)
    · rw [List.take_add_one, hx]; exact hG.P.push hv
    · intro q hq
      rcases List.mem_cons.mp hq with rfl | hq
      · exact ⟨up _ _ hSt ht, rfl, hIt⟩
      · obtain ⟨a, b, c⟩ := hG.k q hq
        exact ⟨up _ _ (Nat.ne_of_gt (Nat.lt_trans hSI c)) (e.one (Nat.ne_of_gt c) a), b, c⟩
variable {v d : Addr} {o : Obj} {D : DD} {es : List DictEntry} {ep : Nat}
theorem lp_extend (hh : A.handled = none) (hv : s.heap.get? v = some (fieldsO "dict_items" #[.ref d])) (hd : s.heap.get? d = some o) (T : IsD o D es ep) (hl : D.length ≤ 900) (S : Addr) (hSv : S ≠ v) (hSd : d ≠ S) (res : Value) (c₀ : Nat) (hS : s.heap.get? S = some { cls := .type "list", data := .seq #[] c₀ })
    (hR : ∀ h' tk acc c tl, (∀ b o, b ≠ S → s.heap.get? b = some o → h'.get? b = some o) → h'.get? S = some { cls := .type "list", dict := none, data := .seq acc c, slots := #[] } → Got h' S tl acc D → R (.ok (.ret res)) { s with heap := h', toks := tk }) :
    wpAny (model prog w) A.in1 (Builtin.List.listExtendWith (.ref S) (.ref v) res)
      (fun fin s' => match fin with | .done f => R (.ok f) s' | .again c' => c'.quiet = true ∧ codeAny (model prog w) A c' R s') (fun e s' => R (.error e) s') s := by
  have hSI : S < s.heap.objs.size := Heap.lt_size hS
  have hdI : d < s.heap.objs.size := Heap.lt_size hd
  have key : ∀ (h : Heap) (c₁ tk : Nat), (∀ b o, b ≠ S → (s.heap.push (itemIt d D.length ep 0 .none false .none .none)).get? b = some o → h.get? b = some o) →
      h.get? S = some { cls := .type "list", data := .seq #[] c₁ } → codeAny (model prog w) A (.builtin "list.extend.loop" ⟨[.ref S, .ref s.heap.objs.size, res], []⟩) R { s with heap := h, toks := tk } := by
    intro h c₁ tk hk hS₁
    have hI := hk s.heap.objs.size _ (Nat.ne_of_gt hSI) (Heap.get?_push_size _ rfl)
    refine lp_loop (s := s) (h₁ := s.heap) (keep := [(d, o)]) hSI (by simpa using hSd) (by simpa using Nat.ne_of_lt hdI) hl rfl res (iter_items2 (A := A.in1) hh T (Nat.ne_of_lt hdI)) (fun h' tk' acc c tl hk' hS' hG => hR h' tk' acc c tl (fun b o hb e => hk' b o hb (Nat.ne_of_lt (Heap.lt_size e)) e) hS' ⟨hG.P, fun q hq => ⟨(hG.k q hq).1, (hG.k q hq).2.1, Nat.lt_trans hSI (hG.k q hq).2.2⟩⟩)
      D.length 0 h tk c₁ #[] [] _ (Nat.sub_zero _) (Nat.zero_le _) hI ⟨_, _, _, _, rfl, .inl rfl⟩ (by simpa using hk d o hSd (Heap.get?_push_of_some _ hd)) (fun b o hb _ e => hk b o hb (Heap.get?_push_of_some _ e)) hS₁ ⟨by simpa using pairs_nil, fun q hq => nomatch hq⟩
  unfold Builtin.List.listExtendWith
  refine wpAny_bind (wpAny_typeOf (T := "dict_items") ⟨_, hv, rfl⟩ ?_)
  have h1 : Builtin.List.listSameRef (.ref S) (.ref v) = false := by simp [Builtin.List.listSameRef, hSv]
  have h2 : (Value.type "dict_items" == Value.type "list") = false := by decide
  have h3 : (Value.type "dict_items" == Value.type "tuple") = false := by decide
  simp only [h1, h2, h3, Bool.or_false, Bool.false_eq_true, if_false]
  refine wpAny_bind (h_iter_items hv hd T ?_)
  have hS₁ := Heap.get?_push_of_some (itemIt d D.length ep 0 .none false .none .none) hS
  refine wpAny_bind (wpAny_holding (kdx_hint ⟨_, Heap.get?_push_of_some _ hv, rfl⟩ ?_))
  refine wpAny_ite_split (fun _ => ?_) (fun _ => wpAny_pure ⟨plainId_quiet PySem.F.plain_extend_loop _, key _ c₀ _ (fun b o _ e => e) hS₁⟩)
  refine wpAny_bind (wpAny_rule ?_)
  refine wpAny_bind ?_
  show wpAny _ _ (updateSeq S (·.push .none) >>= fun _ => updateSeq S (·.pop)) _ _ _
  refine wpAny_bind (wpAny_updateSeq hS₁ rfl ?_)
  have hS₂ := Heap.get?_update_self (Obj.mapSeq (·.push Value.none)) hS₁ rfl
  refine wpAny_updateSeq (hz := by seq_fits) hS₂ rfl ?_
  have hS₃ := Heap.get?_update_self (Obj.mapSeq (·.pop)) hS₂ rfl
  refine wpAny_pure ⟨plainId_quiet PySem.F.plain_extend_loop _, key _ _ _ (fun b o hb e => ?_) hS₃⟩
  exact (Heap.get?_update_other _ _ (Ne.symm hb)).trans ((Heap.get?_update_other _ _ (Ne.symm hb)).trans e)
theorem lp_init (hh : A.handled = none) (hv : s.heap.get? v = some (fieldsO "dict_items" #[.ref d])) (hd : s.heap.get? d = some o) (T : IsD o D es ep) (hl : D.length ≤ 900) (S : Addr) (hSv : S ≠ v) (hSd : d ≠ S) (hS : s.heap.get? S = some { cls := .type "list", data := .seq #[] })
    (hR : ∀ h' tk acc c tl, (∀ b o, b ≠ S → s.heap.get? b = some o → h'.get? b = some o) → h'.get? S = some { cls := .type "list", dict := none, data := .seq acc c, slots := #[] } → Got h' S tl acc D → R (.ok (.ret .none)) { s with heap := h', toks := tk }) :
    wpAny (model prog w) A.in1 (Builtin.«list.__init__» ⟨[.ref S, .ref v], []⟩)
      (fun fin s' => match fin with | .done f => R (.ok f) s' | .again c' => c'.quiet = true ∧ codeAny (model prog w) A c' R s') (fun e s' => R (.error e) s') s := by
  show wpAny _ _ (do let old ← Builtin.List.listItems (.ref S); Builtin.List.listUpdate (.ref S) (fun _ => #[]); letGo old.toList.reverse; Builtin.List.listExtendWith (.ref S) (.ref v) .none) _ _ s
  refine wpAny_bind ?_
  unfold Builtin.List.listItems
  refine wpAny_bind (wpAny_seqItems hS rfl (wpAny_pure ?_))
  show wpAny _ _ (updateSeq S (fun _ => #[]) >>= fun _ => letGo (#[] : Array Value).toList.reverse >>= fun _ => Builtin.List.listExtendWith (.ref S) (.ref v) .none) _ _ s
  refine wpAny_bind (wpAny_updateSeq hS rfl ?_)
  have hS₂ := Heap.get?_update_self (Obj.mapSeq (fun _ => (#[] : Array Value))) hS rfl
  have oth : ∀ b o, b ≠ S → s.heap.get? b = some o → (s.heap.update S (Obj.mapSeq (fun _ => (#[] : Array Value)))).get? b = some o :=
    fun b o hb e => (Heap.get?_update_other _ _ (Ne.symm hb)).trans e
  refine wpAny_bind (wpAny_letGo ?_)
  exact lp_extend (s := { s with heap := s.heap.update S (Obj.mapSeq (fun _ => (#[] : Array Value))) }) hh (oth _ _ (Ne.symm hSv) hv) (oth _ _ hSd hd) T hl S hSv hSd .none _ hS₂ (fun h' tk acc c tl hk hS' hG => hR h' tk acc c tl (fun b o hb e => hk b o hb (oth b o hb e)) hS' hG)
theorem list_items {Q : Value → Shared → Prop} (hh : A.handled = none) (hv : s.heap.get? v = some (fieldsO "dict_items" #[.ref d])) (hd : s.heap.get? d = some o) (T : IsD o D es ep) (hl : D.length ≤ 900)
    (hQ : ∀ h' tk acc c tl, Ext [] s.heap h' → h'.get? s.heap.objs.size = some { cls := .type "list", dict := none, data := .seq acc c, slots := #[] } → Got h' s.heap.objs.size tl acc D → Q (.ref s.heap.objs.size) { s with heap := h', toks := tk }) :
    wpAny (model prog w) A (call (.type "list") [.ref v]) Q E s := by
  refine callType_codes (Q₁ := fun obj s₁ => obj = .ref s.heap.objs.size ∧ s₁ = { s with heap := s.heap.push { cls := .type "list", data := .seq #[] } }) PySem.F.called_list (PySem.F.typeCall_list_1 _) PySem.F.entry_list_init
    (code_list_new _ ⟨rfl, rfl⟩) fun obj s₁ h₁ => ?_
  obtain ⟨rfl, rfl⟩ := h₁
  have hS : (s.heap.push { cls := .type "list", data := .seq #[] }).get? s.heap.objs.size = some { cls := .type "list", data := .seq #[] } := Heap.get?_push_size _ rfl
  refine ⟨⟨_, hS, rfl⟩, PySem.F.args_list_init_2 _ _, lp_init (s := { s with heap := s.heap.push { cls := .type "list", data := .seq #[] } }) (A := A.in1) hh (Heap.get?_push_of_some _ hv) (Heap.get?_push_of_some _ hd) T hl _ (Nat.ne_of_gt (Heap.lt_size hv)) (Nat.ne_of_lt (Heap.lt_size hd)) hS (fun h' tk acc c tl hk hS' hG => ?_)⟩
  exact ⟨rfl, hQ h' tk acc c tl (fun b o _ e => hk b o (Nat.ne_of_lt (Heap.lt_size e)) (Heap.get?_push_of_some _ e)) hS' hG⟩
variable {G : Heap} {L : Addr} {m : Str → Option Value} {news : List (Addr × Obj)}
theorem U_list_items {n : Nat} {Q : Value → Shared → Prop} (F : Fr G L s.heap m) (N : News G L s.heap news) (RM : Room n A) (hv : (v, fieldsO "dict_items" #[.ref d]) ∈ news) (hd : s.heap.get? d = some o) (T : IsD o D es ep) (hl : D.length ≤ 900)
    (h : ∀ l vs c tl h' tk', Fr G L h' m → News G L h' ((l, { cls := .type "list", dict := none, data := .seq vs c, slots := #[] }) :: (news ++ tl)) → (∀ p ∈ news, p.1 < l) → PairsIn tl vs D → (∀ q ∈ tl, l < q.1 ∧ q.2.cls = .type "tuple") → Q (.ref l) { s with heap := h', toks := tk' }) :
    wpAny (model prog w) A (call (.type "list") [.ref v]) Q E s :=
  list_items RM.hd (N _ hv).1 hd T hl fun h' tk' acc c tl e g H => by
    obtain ⟨F', N', l'⟩ := news_new F N e g
    refine h _ acc c tl h' tk' F' (fun q hq => ?_) l' H.P fun q hq => ⟨(H.k q hq).2.2, (H.k q hq).2.1⟩
    rcases List.mem_cons.mp hq with rfl | hq
    · exact N' _ (.head _)
    · rcases List.mem_append.mp hq with hq | hq
      · exact N' _ (.tail _ hq)
      · obtain ⟨a, b, c⟩ := H.k q hq
        refine ⟨a, Nat.ne_of_gt (Nat.lt_trans F.ns.lt c), ?_⟩
        cases z : G.get? q.1 with
        | none => rfl
        | some o => exact absurd (Heap.lt_size (F.keep _ _ z)) (Nat.not_lt.mpr (Nat.le_of_lt c))
end
def AllGt (l : Nat) (tl : List (Addr × Obj)) : Prop := ∀ q ∈ tl, @LT.lt Nat _ l q.1
theorem tl_gt {l d : Nat} {tl : List (Addr × Obj)} (h : AllGt l tl) (e : d ≤ l) : ∀ q ∈ tl, q.1 ≠ d := fun q hq x => by have := h q hq; rw [x] at this; omega
theorem allLt_append {d : Addr} {l1 l2 : List (Addr × Obj)} : AllLt d (l1 ++ l2) = (AllLt d l1 ∧ AllLt d l2) := by
  induction l1 with
  | nil => simp [AllLt]
  | cons x r ih => simp [AllLt, ih, and_assoc]
theorem allNe_append {d : Nat} {l1 l2 : List (Addr × Obj)} : AllNe d (l1 ++ l2) = (AllNe d l1 ∧ AllNe d l2) := by
  induction l1 with
  | nil => simp [AllNe]
  | cons x r ih => simp [AllNe, ih, and_assoc]
local macro_rules | `(tactic| walk_at "is in") => `(tactic| first | assumption | (refine List.Mem.tail _ ?_; walk_at "is in") | (refine List.mem_append_left _ ?_; walk_at "is in") | (refine List.mem_append_right _ ?_; walk_at "is in"))
local macro_rules | `(tactic| walk_at "all in") => `(tactic| (intro q' hq'; walk_at "is in"))
section
variable {prog : Program} {w : World} {A : Around} {E : Value → Shared → Prop} {s : Shared} {G : Heap} {L : Addr} {m : Str → Option Value} {news : List (Addr × Obj)} {Q : Value → Shared → Prop}
theorem pair_eq {t1 t2 : Addr} {k k' : Str} {a b : Tok} {u u' : V} {x y : Value} (hu : A.units < cLine) (h1 : s.heap.get? t1 = some (tup2 (.str k a) x)) (h2 : s.heap.get? t2 = some (tup2 (.str k' b) y)) (v1 : VIs u x) (v2 : VIs u' y) (e : k = k') (e' : u = u') : SeqAt.EqAt A s (.ref t1) (.ref t2) true := by
  subst e e'
  by_cases q : t1 = t2
  · rw [q]; exact SeqAt.EqAt.same _
  · refine SeqAt.EqAt.of_refs q ?_
    have h := SeqAt.RcAt.tuples (A := A) (items := #[.str k a, x]) (items2 := #[.str k b, y]) (e := fun _ => true) ⟨_, h1, rfl, _, rfl⟩ ⟨_, h2, rfl, _, rfl⟩ hu (fun j j1 j2 => ?_)
    · have z : ((List.range (min (#[Value.str k a, x] : Array Value).size (#[Value.str k b, y] : Array Value).size)).all (fun _ => true) && (#[Value.str k a, x] : Array Value).size == (#[Value.str k b, y] : Array Value).size) = true := rfl
      rw [z] at h; exact h
    · have j3 : j < 2 := j1
      rcases j with _ | _ | j
      · have := SeqAt.EqAt.str_str (A := A.in1) (s := s) k a k b; simpa using this
      · have := eq_V (A := A.in1) (s := s) v1 v2; simpa using this
      · omega
theorem pairs_eq {vs1 vs2 : Array Value} {tl1 tl2 : List (Addr × Obj)} {D : DD} (hu : A.units < cLine) (P1 : PairsIn tl1 vs1 D) (P2 : PairsIn tl2 vs2 D) (h1 : ∀ q ∈ tl1, s.heap.get? q.1 = some q.2) (h2 : ∀ q ∈ tl2, s.heap.get? q.1 = some q.2) :
    ∀ j (j1 : j < vs1.size) (j2 : j < vs2.size), SeqAt.EqAt A s vs1[j] vs2[j] true := fun j j1 j2 => by
  have hj : j < D.length := by rw [← P1.1]; exact j1
  obtain ⟨t, tk, x, a1, a2, a3⟩ := P1.2 j D[j].1 D[j].2 (by simp [hj])
  obtain ⟨t', tk', x', b1, b2, b3⟩ := P2.2 j D[j].1 D[j].2 (by simp [hj])
  have c1 : vs1[j] = .ref t := by have := Array.getElem?_eq_getElem j1; rw [a1] at this; exact (Option.some.inj this).symm
  have c2 : vs2[j] = .ref t' := by have := Array.getElem?_eq_getElem j2; rw [b1] at this; exact (Option.some.inj this).symm
  rw [c1, c2]
  exact pair_eq hu (h1 _ a2) (h2 _ b2) a3 b3 rfl rfl
theorem Room.units1 {n : Nat} {A : Around} (r : Room n A) : A.in1.units < cLine := by have := r.un; show A.units + 1 < 9900; omega
theorem all_true {n : Nat} : (List.range n).all (fun _ => true) = true := by simp
theorem lists_ne {n : Nat} {l1 l2 : Addr} {o1 o2 : Obj} {vs1 vs2 : Array Value} {n1 n2 : Nat} {tl1 tl2 : List (Addr × Obj)} {D D2 : DD} (N : News G L s.heap news) (RM : Room n A) (m1 : (l1, o1) ∈ news) (m2 : (l2, o2) ∈ news) (c1 : o1.cls = .type "list") (c2 : o2.cls = .type "list") (d1 : o1.data = .seq vs1 n1) (d2 : o2.data = .seq vs2 n2)
    (P1 : PairsIn tl1 vs1 D) (P2 : PairsIn tl2 vs2 D2) (eD : D = D2) (s1 : ∀ q ∈ tl1, q ∈ news) (s2 : ∀ q ∈ tl2, q ∈ news) (h : Q (.bool false) s) : wpAny (model prog w) A (compareOp .NotEq (.ref l1) (.ref l2)) Q E s := by
  subst eD
  have R := SeqAt.RcNeAt.lists (A := A) (e := fun _ => true) ⟨o1, (N _ m1).1, c1, _, d1⟩ ⟨o2, (N _ m2).1, c2, _, d2⟩ (P1.1.trans P2.1.symm) RM.units (pairs_eq RM.units1 P1 P2 (fun q hq => (N q (s1 q hq)).1) fun q hq => (N q (s2 q hq)).1)
  rw [all_true] at R
  exact R prog w E Q h
theorem lists_eq {n : Nat} {l1 l2 : Addr} {o1 o2 : Obj} {vs1 vs2 : Array Value} {n1 n2 : Nat} {tl1 tl2 : List (Addr × Obj)} {D D2 : DD} (N : News G L s.heap news) (RM : Room n A) (m1 : (l1, o1) ∈ news) (m2 : (l2, o2) ∈ news) (c1 : o1.cls = .type "list") (c2 : o2.cls = .type "list") (d1 : o1.data = .seq vs1 n1) (d2 : o2.data = .seq vs2 n2)
    (P1 : PairsIn tl1 vs1 D) (P2 : PairsIn tl2 vs2 D2) (eD : D = D2) (s1 : ∀ q ∈ tl1, q ∈ news) (s2 : ∀ q ∈ tl2, q ∈ news) (h : Q (.bool true) s) : wpAny (model prog w) A (compareOp .Eq (.ref l1) (.ref l2)) Q E s := by
  subst eD
  have R := SeqAt.RcAt.lists (A := A) (e := fun _ => true) ⟨o1, (N _ m1).1, c1, _, d1⟩ ⟨o2, (N _ m2).1, c2, _, d2⟩ (P1.1.trans P2.1.symm) RM.units (pairs_eq RM.units1 P1 P2 (fun q hq => (N q (s1 q hq)).1) fun q hq => (N q (s2 q hq)).1)
  rw [all_true] at R
  exact R prog w E Q h
/-- values -/
theorem ne_V {u u' : V} {v v' : Value} (h1 : VIs u v) (h2 : VIs u' v') (e : u = u') (h : Q (.bool false) s) : wpAny (model prog w) A (compareOp .NotEq v v') Q E s := by
  subst e
  cases u with
  | none => cases h1; cases h2; exact SeqAt.RcNeAt.none_none prog w E Q h
  | int i => obtain ⟨t, rfl⟩ := h1; obtain ⟨t', rfl⟩ := h2; exact SeqAt.RcNeAt.int_int i t i t' prog w E Q (by simpa using h)
  | str x => obtain ⟨t, rfl⟩ := h1; obtain ⟨t', rfl⟩ := h2; exact SeqAt.RcNeAt.str_str x t x t' prog w E Q (by simpa using h)
end
local macro_rules | `(tactic| k_all) => `(tactic| ((fail_if_success (with_reducible refine List.forall_mem_cons.mpr ⟨?_, ?_⟩)); first | ((with_reducible refine List.forall_mem_append.mpr ⟨?_, ?_⟩) <;> k_all) | ((fail_if_success (with_reducible exact List.forall_mem_nil _)); (with_reducible refine' tl_gt ?ga ?gb); (case ga => assumption); (case gb => ((try dsimp only); omega)))))
local macro_rules | `(tactic| k_lt $h:ident) => `(tactic| (replace $h := allLt_of $h; simp only [AllLt, allLt_append, and_true] at $h:ident))
local macro_rules | `(tactic| walk_at "call type:list") => `(tactic| (k_here; k_dflt (refine' U_list_items ?k1 ?k2 ?k3 ?k4 ?k5 ?k6 ?k8 ?_; (case k1 => k_asm); (case k2 => k_asm); (case k3 => k_asm); (case k4 => k_mem); (case k5 => (first | exact PyProof.Rows.News.get (by k_asm) (by k_mem) | exact Fr.keep (by k_asm) _ _ (by assumption))); (case k6 => (first | exact PD.isd (by k_asm) | exact TD.isd (by k_asm))); (case k8 => k_asm); k_whole; intro l' vs' c' tl' h' tk' F' N' l1 P' tt'; (try k_lt l1); (try simp only [List.cons_append, List.nil_append, List.append_assoc] at N'); (have tg' : AllGt l' tl' := fun q hq => (tt' q hq).1); (try k_sweep))))
local macro_rules | `(tactic| walk_at "compareOp NotEq ref ref") => `(tactic| (k_here; k_dflt (refine' lists_ne ?k1 ?k2 ?k3 ?k4 ?k5 ?k6 ?k7 ?k8 ?k9 ?ka ?kb ?kc ?kd ?_; (case k1 => k_asm); (case k2 => k_asm); (case k3 => k_mem); (case k4 => k_mem); (case k5 => (first | exact rfl | k_asm)); (case k6 => (first | exact rfl | k_asm)); (case k7 => (first | exact rfl | k_asm)); (case k8 => (first | exact rfl | k_asm)); (case k9 => k_asm); (case ka => k_asm); (case kb => exact rfl); (case kc => walk_at "all in"); (case kd => walk_at "all in"); k_whole)))
local macro_rules | `(tactic| walk_at "compareOp NotEq") => `(tactic| (k_here; (with_reducible show wpAny _ _ (compareOp CmpOp.NotEq _ _) _ _ _); k_dflt (refine' ne_V ?k1 ?k2 ?k3 ?_; (case k1 => k_asm); (case k2 => k_asm); (case k3 => first | exact rfl | assumption | (symm; assumption) | (simp [*]; done)); k_whole)))
namespace LF
theorem kind_len : builtinKind "dict.__len__" = some .slot := by decide +kernel
theorem split_len : splitId "dict.__len__" = some ("dict", "__len__") := by decide +kernel
end LF
theorem chk_sl {w : World} {A : Around} {E : Value → Shared → Prop} {s : Shared} {x : Addr} {o : Obj} {odx : Option Obj} {id n : String} {rest : List Value} {Q : Unit → Shared → Prop} (X : (hd.heap_39 w.params).In s.heap) (I : InstAt s.heap x o 169 odx) (hk : builtinKind id = some .slot) (hs : splitId id = some ("dict", n))
    (ha : argsOk id ⟨.ref x :: rest, []⟩) (q : Q () s) : wpAny (model PySem.Challenge.rw_co0001_01.row.prog w) A (checkBuiltinCall id ⟨.ref x :: rest, []⟩) Q E s := by
  have hi : Looks (model PySem.Challenge.rw_co0001_01.row.prog w) s.heap (isInstance (.ref x) (.type "dict")) true := I.type.andThen (looks_mroIn X (by k_dflt k_is))
  simp only [checkBuiltinCall, hk, hs]
  refine wpAny_bind (hi.here ?_)
  simp only [Bool.not_true, Bool.false_eq_true, if_false]
  cases hsig : Manifest.signature? id with
  | none => exact wpAny_pure q
  | some sig =>
    simp only [argsOk, hsig] at ha
    have h2 : Bind.checkArgs id sig ⟨.ref x :: rest, []⟩ = pure () := ha
    show wpAny (model PySem.Challenge.rw_co0001_01.row.prog w) A (Bind.checkArgs id sig ⟨.ref x :: rest, []⟩) Q E s
    rw [h2]; exact wpAny_pure q
section
variable {w : World} {A : Around} {E : Value → Shared → Prop} {s : Shared} {G : Heap} {L : Addr} {m : Str → Option Value} {Q : Value → Shared → Prop} {x dx : Addr} {o : Obj} {D : DD} {es : List DictEntry} {ep : Nat}
theorem U_told_len {odx : Option Obj} (F : Fr G L s.heap m) (X : (hd.heap_39 w.params).In G) (I : InstAt s.heap x o 169 odx) (T : IsD o D es ep) (hs : (x == sysModules) = false) (h : ∀ tk t', Q (.int D.length tk) { s with toks := t' }) : wpAny (model PySem.Challenge.rw_co0001_01.row.prog w) A (call (.builtin "len") [.ref x]) Q E s := by
  have X' := X.keeps F.keep
  have hz := T.small
  have sp : Looks (model PySem.Challenge.rw_co0001_01.row.prog w) s.heap (specialOf (.ref x) (Str.ofString "__len__")) (some (.builtin "dict.__len__")) := I.type.andThen (looks_findIn X' ?a)
  case a => k_dflt k_is
  refine Calls.call_function_entry kind_len plain_len entry_len (args_len1 _) ?_
  unfold Builtin.«len»
  refine wpAny_bind (m := oneArg "len" _) (wpAny_pure ?_)
  refine wpAny_bind (m := callSpecial? (.ref x) (Str.ofString "__len__")) ?_
  unfold callSpecial?
  refine wpAny_bind (sp.here ?_)
  refine wpAny_holding (wpAny_bind (wpAny_of_eq (PySem.F.slot_dict_len.bind (.ref x)) ?_))
  refine wpAny_bind (wpAny_call (codeAny_call_builtin PySem.F.slot_dict_len.plain PySem.F.entry_dict_len ?_))
  refine chk_sl X' I (id := "dict.__len__") LF.kind_len LF.split_len (PySem.F.args_dict_len_1 _) ?_
  refine bi_len I.at_ T hs fun tk t' => ?_
  refine wpAny_pure ?_
  refine wpAny_bind (wpAny_holding (wpAny_pure ?_))
  refine wpAny_bind (wpAny_letGo ?_)
  show wpAny _ _ (if ((D.length : Nat) : Int) < 0 then _ else _) _ _ _
  rw [if_neg (by omega)]
  show wpAny _ _ (if ((D.length : Nat) : Int) ≥ 2 ^ 63 then _ else _) _ _ _
  rw [if_neg (by omega)]
  exact wpAny_bind (wpAny_mkInt (wpAny_pure ⟨_, rfl, h _ _⟩))
end
local macro_rules | `(tactic| walk_at "call builtin:len") => `(tactic| (k_here; (with_reducible show wpAny _ _ (call (Value.builtin "len") [Value.ref _]) _ _ _); k_dflt (refine' U_told_len ?k1 ?k2 ?k3 ?k4 ?k5 ?_; (case k1 => k_asm); (case k2 => k_asm); (case k3 => k_inst); (case k4 => exact TD.isd (by k_asm)); (case k5 => first | with_reducible assumption | (exact nsys (by omega)) | k_asm); k_whole); intro t' tk'))
section
variable {prog : Program} {w : World} {A : Around} {s : Shared} {env : Env} {G : Heap} {L : Addr} {m : Str → Option Value}
theorem dc_loop {R : Result → Shared → Prop} {kx vx iter : PySem.Expr} {x : Str} {px pos : Pos} {ifs : List PySem.Expr} {scope : Scope} {cenv : Env} {I D : Addr} {oI lD oL : Obj} {n : Nat} {S : Nat → Obj → Prop} {P : Nat → Value → Heap → Prop} {keep news : List (Addr × Obj)} {mC : Str → Option Value}
    (IT : Iter prog w A I n S keep P) (hIk : ∀ q ∈ keep, q.1 ≠ I) (hDk : ∀ q ∈ keep, q.1 ≠ D) (hID : I ≠ D) (hLI : L ≠ I) (hLD : L ≠ D)
    (hx : cenv.kindOf x = some .local) (hp : (cenv.scope.kind == .class || (cenv.scope.kind == .module && cenv.locals != cenv.globals)) = false) (hn : n ≤ 900)
    (F : Fr G cenv.locals s.heap mC) (N : News G cenv.locals s.heap ((I, oI) :: (D, lD) :: (L, oL) :: news)) (hS : S 0 oI) {es0 : List DictEntry} {ep0 : Nat} (hlD : PD lD [] es0 ep0) (hoff : ∀ q ∈ news, q.1 ≠ I ∧ q.1 ≠ D ∧ q.1 ≠ L)
    (J : Nat → DD → List (Addr × Obj) → Prop) (hJ : J 0 [] news) (hlen : ∀ i ys news₁, J i ys news₁ → ys.length ≤ i)
    (hkeep : ∀ i ys news₁, J i ys news₁ → ∀ q ∈ keep, q ∈ news₁ ∨ G.get? q.1 = some q.2)
    (hPm : ∀ i v h h', P i v h → (∀ b o, b ≠ cenv.locals → h.get? b = some o → h'.get? b = some o) → P i v h')
    (turn : ∀ i v ys news₁ h tk oI lD (m₁ : Str → Option Value), i < n → P i v h → J i ys news₁ → (∀ q ∈ news₁, q.1 ≠ I ∧ q.1 ≠ D ∧ q.1 ≠ L) → Fr G cenv.locals h (fun y => if y = x then some v else m₁ y) → News G cenv.locals h ((I, oI) :: (D, lD) :: (L, oL) :: news₁) →
      wpAny (model prog w) A (forIn ifs true fun c r => if r = true then do let ok ← isTrue c cenv (eval c cenv); pure (ForInStep.yield ok) else pure (ForInStep.yield r))
        (fun ok s₃ => if ok = true then wpAny (model prog w) A (eval kx cenv) (fun kv s₄ => wpAny (model prog w) A (eval vx cenv) (fun vv s₅ => ∃ k t u, kv = .str k t ∧ VIs u vv ∧ CEnd G cenv.locals I D L oI lD oL (J (i + 1) (put k u ys)) { s with heap := h, toks := tk } s₅) NoE s₄) NoE s₃ else CEnd G cenv.locals I D L oI lD oL (J (i + 1) ys) { s with heap := h, toks := tk } s₃) NoE { s with heap := h, toks := tk })
    (done : ∀ h tk lD' m' ys news₁, J n ys news₁ → (∀ q ∈ news₁, q.1 ≠ I ∧ q.1 ≠ D ∧ q.1 ≠ L) → Fr G cenv.locals h m' → News G cenv.locals h ((D, lD') :: (L, oL) :: news₁) → (∃ es ep, PD lD' ys es ep) → R (.ok .next) { s with heap := h, toks := tk }) :
    codeAny (model prog w) A (.compLoop (.DictComp kx vx [⟨.Name x px, iter, ifs, 0⟩] scope pos) 0 (.ref I) (.ref D) cenv) R s := by
  have NI := N _ (.head _)
  have ND := N _ (.tail _ (.head _))
  have hGI : G.get? I = none := NI.2.2
  have hGD : G.get? D = none := ND.2.2
  have hIC : I ≠ cenv.locals := NI.2.1
  have hDC : D ≠ cenv.locals := ND.2.1
  let JJ : Nat → Shared → Prop := fun k s' => ∃ i, i ≤ n ∧ k = n - i ∧ ∃ h tk m' ys news₁ oI lD, s' = { s with heap := h, toks := tk } ∧ Fr G cenv.locals h m' ∧ News G cenv.locals h ((I, oI) :: (D, lD) :: (L, oL) :: news₁) ∧ S i oI ∧ (∃ es ep, PD lD ys es ep) ∧ (∀ q ∈ news₁, q.1 ≠ I ∧ q.1 ≠ D ∧ q.1 ≠ L) ∧ J i ys news₁
  refine codeAny_compLoop_testsD JJ ?_ n ⟨0, Nat.zero_le _, rfl, s.heap, s.toks, mC, [], news, oI, lD, rfl, F, N, hS, ⟨_, _, hlD⟩, hoff, hJ⟩
  rintro k s' ⟨i, hi, rfl, h, tk, m', ys, news₁, oI, lD, rfl, F₁, N₁, hS₁, hD₁, ho, hj⟩
  have hI₁ := (N₁ _ (.head _)).1
  have kp : ∀ q ∈ keep, h.get? q.1 = some q.2 := fun q hq => by
    rcases hkeep i ys news₁ hj q hq with a | a
    · exact (N₁ q (.tail _ (.tail _ (.tail _ a)))).1
    · exact F₁.keep _ _ a
  have after : ∀ {h' : Heap} {oI' : Obj}, Ext [I] h h' → h'.get? I = some oI' → Fr G cenv.locals h' m' ∧ News G cenv.locals h' ((I, oI') :: (D, lD) :: (L, oL) :: news₁) := fun {h' oI'} e e1 => by
    refine ⟨fr_ext F₁ e (by simpa using Ne.symm hIC) (fun a q => by rw [List.mem_singleton.mp q]; exact hGI), fun q hq => ?_⟩
    rcases List.mem_cons.mp hq with rfl | hq
    · exact ⟨e1, hIC, hGI⟩
    · have z := N₁ q (.tail _ hq)
      refine ⟨e.one ?_ z.1, z.2⟩
      rcases List.mem_cons.mp hq with rfl | hq
      · exact Ne.symm hID
      · rcases List.mem_cons.mp hq with rfl | hq
        · exact hLI
        · exact (ho q hq).1
  by_cases hlt : i < n
  · refine IT.item i oI _ _ _ hlt hI₁ hS₁ kp fun v h' tk' oI' hP hoI' hS' e => ?_
    obtain ⟨F₂, N₂⟩ := after e hoI'
    refine wpAny_assign_Name (wpAny_storeName_local hx F₂.ns (fun h₃ hn₃ hs₃ => ?_) hp)
    have F₃ := F₂.set hn₃ hs₃
    have N₃ := N₂.set hs₃
    refine wpAny_mono (turn i v ys news₁ h₃ _ oI' lD m' hlt (hPm _ _ _ _ hP fun b o n e => (hs₃.2 b n).trans e) hj ho F₃ N₃) (fun ok s₄ h₄ => ?_) fun _ _ x => x.elim
    cases ok with
    | true =>
      simp only [if_true] at h₄ ⊢
      refine wpAny_mono h₄ (fun kv s₅ h₅ => wpAny_mono h₅ (fun vv s₆ h₆ => ?_) fun _ _ x => x.elim) fun _ _ x => x.elim
      obtain ⟨k, t, u, rfl, hvv, h₆, tk₆, m₆, own, news₆, rfl, F₆, N₆, hI₆, hD₆, hL₆, sub₆, off₆, j₆⟩ := h₆
      obtain ⟨es1, ep1, Pd⟩ := hD₁
      have zD := N₆ _ hD₆
      have hlen' := hlen (i + 1) (put k u ys) news₆ j₆
      refine set_D (s := { s with heap := h₆, toks := tk₆ }) zD.1 Pd.isd hvv (by omega) fun h₇ tk₇ c => ?_
      obtain ⟨es2, ep2, gD, I2⟩ := c.2
      have eD : Ext [D] h₆ h₇ := changed_ext c
      refine ⟨n - (i + 1), by omega, i + 1, hlt, rfl, _, tk₇, m₆, put k u ys, news₆, oI', _, rfl, fr_ext F₆ eD (by simpa using Ne.symm hDC) (fun a q => by rw [List.mem_singleton.mp q]; exact hGD), fun q hq => ?_, hS', ⟨_, _, Pd.with I2⟩, off₆, j₆⟩
      rcases List.mem_cons.mp hq with rfl | hq
      · exact ⟨eD.one hID (N₆ _ hI₆).1, hIC, hGI⟩
      · rcases List.mem_cons.mp hq with rfl | hq
        · exact ⟨gD, hDC, hGD⟩
        · rcases List.mem_cons.mp hq with rfl | hq
          · exact ⟨eD.one hLD (N₆ _ hL₆).1, (N₆ _ hL₆).2⟩
          · exact ⟨eD.one (off₆ q hq).2.1 (N₆ _ (sub₆ q hq)).1, (N₆ _ (sub₆ q hq)).2⟩
    | false =>
      simp only [Bool.false_eq_true, if_false] at h₄ ⊢
      obtain ⟨h₆, tk₆, m₆, own, news₆, rfl, F₆, N₆, hI₆, hD₆, hL₆, sub₆, off₆, j₆⟩ := h₄
      refine ⟨n - (i + 1), by omega, i + 1, hlt, rfl, h₆, tk₆, m₆, ys, news₆, oI', lD, rfl, F₆, fun q hq => ?_, hS', hD₁, off₆, j₆⟩
      rcases List.mem_cons.mp hq with rfl | hq
      · exact N₆ _ hI₆
      · rcases List.mem_cons.mp hq with rfl | hq
        · exact N₆ _ hD₆
        · rcases List.mem_cons.mp hq with rfl | hq
          · exact N₆ _ hL₆
          · exact N₆ _ (sub₆ q hq)
  · have hin : i = n := by omega
    subst hin
    refine IT.done oI _ _ _ hI₁ hS₁ kp fun h' tk' e => ?_
    refine done h' tk' lD m' ys news₁ hj ho (fr_ext F₁ e (by simpa using Ne.symm hIC) (fun a q => by rw [List.mem_singleton.mp q]; exact hGI)) (fun q hq => ?_) hD₁
    have z := N₁ q (.tail _ hq)
    refine ⟨e.one ?_ z.1, z.2⟩
    rcases List.mem_cons.mp hq with rfl | hq
    · exact Ne.symm hID
    · rcases List.mem_cons.mp hq with rfl | hq
      · exact hLI
      · exact (ho q hq).1
theorem dc_block {kx vx iter : PySem.Expr} {x : Str} {px pos : Pos} {ifs : List PySem.Expr} {scope : Scope} {cl : List (Str × Addr)} {I : Addr} {oI : Obj} {n : Nat} {S : Nat → Obj → Prop} {P : Nat → Value → Heap → Prop} {keep news : List (Addr × Obj)} {Q : Value → Shared → Prop}
    {L : Addr} (hcell : ∀ y ∈ scope.names, y.2 ≠ .cell) (hkind : scope.kind = .function) (hx : scope.names.lookup x = some .local) (hn : n ≤ 900) (hloc : env.locals = L)
    (F : Fr G L s.heap m) (N : News G L s.heap ((I, oI) :: news)) (IT : Iter prog w A I n S keep P) (hS : S 0 oI) (hIk : ∀ q ∈ keep, q.1 ≠ I) (hoff : ∀ q ∈ news, q.1 ≠ I)
    (J : Nat → DD → List (Addr × Obj) → Prop) (hJ : J 0 [] news) (hlen : ∀ i ys news₁, J i ys news₁ → ys.length ≤ i) (hkeep : ∀ i ys news₁, J i ys news₁ → ∀ q ∈ keep, q ∈ news₁ ∨ G.get? q.1 = some q.2)
    (hPm : ∀ C i v h h', (∀ q ∈ (I, oI) :: news, q.1 < C) → P i v h → (∀ b o, b ≠ C → h.get? b = some o → h'.get? b = some o) → P i v h')
    (turn : ∀ D C i v ys news₁ h tk oI' lD oL (m₁ : Str → Option Value), (∀ q ∈ (I, oI) :: news, q.1 < D) → @LT.lt Nat _ L D → @LT.lt Nat _ D C → i < n → P i v h → J i ys news₁ → (∀ q ∈ news₁, q.1 ≠ I ∧ q.1 ≠ D ∧ q.1 ≠ L) → Fr G C h (fun y => if y = x then some v else m₁ y) → News G C h ((I, oI') :: (D, lD) :: (L, oL) :: news₁) →
      wpAny (model prog w) A (forIn ifs true fun c r => if r = true then do let ok ← isTrue c (compEnvC scope cl C env) (eval c (compEnvC scope cl C env)); pure (ForInStep.yield ok) else pure (ForInStep.yield r))
        (fun ok s₃ => if ok = true then wpAny (model prog w) A (eval kx (compEnvC scope cl C env)) (fun kv s₄ => wpAny (model prog w) A (eval vx (compEnvC scope cl C env)) (fun vv s₅ => ∃ k t u, kv = .str k t ∧ VIs u vv ∧ CEnd G C I D L oI' lD oL (J (i + 1) (put k u ys)) { s with heap := h, toks := tk } s₅) NoE s₄) NoE s₃ else CEnd G C I D L oI' lD oL (J (i + 1) ys) { s with heap := h, toks := tk } s₃) NoE { s with heap := h, toks := tk })
    (done : ∀ D h tk lD ys news₁, (∀ q ∈ (I, oI) :: news, q.1 < D) → J n ys news₁ → Fr G L h m → News G L h ((D, lD) :: news₁) → (∀ q ∈ news₁, q.1 ≠ D) → (∃ es ep, PD lD ys es ep) → Q (.ref D) { s with heap := h, toks := tk }) :
    wpAny (model prog w) A newDict (fun acc s₃ => wpAny (model prog w) A (newFunctionEnv scope env.globals cl [] env.qual none .none (some env)) (fun cenv s₄ =>
      codeAny (model prog w) A (.compStart (.DictComp kx vx [⟨.Name x px, iter, ifs, 0⟩] scope pos) 0 (.ref I) acc { cenv with scope := relabel scope env }) (compPost (model prog w) A NoE none Q acc cenv.locals) s₄) NoE s₃) NoE s := by
  subst hloc
  have NI := N _ (.head _)
  obtain ⟨oL, esL, epL, hL, rL⟩ := id F.ns
  refine wpAny_newObj_type (wpAny_newFunctionEnv hcell (by intro y hy; simp at hy) (fun h₁ hns₁ hsb₁ => ?_) hkind)
  dsimp only at hns₁ hsb₁ ⊢
  generalize hH2 : s.heap.push { cls := .type "dict", dict := none, data := .dict #[] } = H2 at hns₁ hsb₁ ⊢
  have hC : H2.objs.size = s.heap.objs.size + 1 := by rw [← hH2, Heap.size_push]
  have hDC : s.heap.objs.size ≠ H2.objs.size := by rw [hC]; exact Nat.ne_of_lt (Nat.lt_succ_self _)
  have old : ∀ b o, s.heap.get? b = some o → h₁.get? b = some o := fun b o e => hsb₁.extBut b o (by rw [hC]; exact Nat.ne_of_lt (Nat.lt_succ_of_lt (Heap.lt_size e))) (Heap.get?_push_of_some _ (hH2 ▸ Heap.get?_push_of_some _ e))
  have gn : ∀ a, s.heap.objs.size ≤ a → G.get? a = none := fun a ha => by
    cases q : G.get? a with
    | none => rfl
    | some o => exact absurd (Heap.lt_size (F.keep _ _ q)) (Nat.not_lt.mpr ha)
  have ltD : ∀ q ∈ (I, oI) :: news, q.1 < s.heap.objs.size := fun q hq => Heap.lt_size (N q hq).1
  have ltL : env.locals < s.heap.objs.size := Heap.lt_size hL
  have FC : Fr G H2.objs.size h₁ (fun _ => none) := ⟨by simpa using hns₁, fun b o e => old b o (F.keep b o e), by
    rw [hC]; exact Nat.le_succ_of_le (Nat.le_of_lt (Nat.lt_of_le_of_lt F.above ltL))⟩
  have hDobj : h₁.get? s.heap.objs.size = some { cls := .type "dict", dict := none, data := .dict #[] } := hsb₁.extBut _ _ hDC (Heap.get?_push_of_some _ (hH2 ▸ Heap.get?_push_size _ rfl))
  have NC : News G H2.objs.size h₁ ((I, oI) :: (s.heap.objs.size, { cls := .type "dict", dict := none, data := .dict #[] }) :: (env.locals, oL) :: news) := fun q hq => by
    rcases List.mem_cons.mp hq with rfl | hq
    · exact ⟨old _ _ NI.1, by rw [hC]; exact Nat.ne_of_lt (Nat.lt_succ_of_lt (Heap.lt_size NI.1)), NI.2.2⟩
    · rcases List.mem_cons.mp hq with rfl | hq
      · exact ⟨hDobj, hDC, gn _ (Nat.le_refl _)⟩
      · rcases List.mem_cons.mp hq with rfl | hq
        · refine ⟨old _ _ hL, by rw [hC]; exact Nat.ne_of_lt (Nat.lt_succ_of_lt ltL), ?_⟩
          cases z : G.get? env.locals with
          | none => rfl
          | some o => exact absurd (Heap.lt_size z) (Nat.not_lt.mpr F.above)
        · have z := N q (.tail _ hq)
          exact ⟨old _ _ z.1, by rw [hC]; exact Nat.ne_of_lt (Nat.lt_succ_of_lt (Heap.lt_size z.1)), z.2.2⟩
  have hLI : env.locals ≠ I := Ne.symm NI.2.1
  have hID : I ≠ s.heap.objs.size := Nat.ne_of_lt (Heap.lt_size NI.1)
  have hLD : env.locals ≠ s.heap.objs.size := Nat.ne_of_lt ltL
  have hoff' : ∀ q ∈ news, q.1 ≠ I ∧ q.1 ≠ s.heap.objs.size ∧ q.1 ≠ env.locals := fun q hq => ⟨hoff q hq, Nat.ne_of_lt (ltD q (.tail _ hq)), (N q (.tail _ hq)).2.1⟩
  have ltC : ∀ q ∈ (I, oI) :: news, q.1 < H2.objs.size := fun q hq => by rw [hC]; exact Nat.lt_succ_of_lt (ltD q hq)
  have loop : ∀ s₃ : Shared, s₃ = { s with heap := h₁, toks := s.toks + ([] : List (Str × Value)).length } →
      codeAny (model prog w) A (.compLoop (.DictComp kx vx [⟨.Name x px, iter, ifs, 0⟩] scope pos) 0 (.ref I) (.ref s.heap.objs.size) (compEnvC scope cl H2.objs.size env))
        (compPost (model prog w) A NoE none Q (.ref s.heap.objs.size) H2.objs.size) s₃ := by
    rintro s₃ rfl
    have hDk : ∀ q ∈ keep, q.1 ≠ s.heap.objs.size := fun q hq => by
      rcases hkeep 0 [] news hJ q hq with a | a
      · exact (hoff' q a).2.1
      · exact Nat.ne_of_lt (Heap.lt_size (F.keep _ _ a))
    · refine dc_loop (L := env.locals) (cenv := compEnvC scope cl H2.objs.size env) IT hIk hDk hID hLI hLD (lookup_relabel_local hx) (by simp [compEnvC, relabel, hkind]) hn FC NC hS (es0 := []) (ep0 := 0) ⟨rfl, rfl, rfl, .nil, Nat.zero_le _⟩ hoff' J hJ hlen hkeep (fun i v h h' p e => hPm H2.objs.size i v h h' ltC p e) ?_ ?_
      · intro i v ys news₁ h tk oI' lD m₁ hi hP hj ho F₁ N₁
        exact turn _ _ i v ys news₁ h tk oI' lD oL m₁ ltD ltL (by rw [hC]; exact Nat.lt_succ_self _) hi hP hj ho F₁ N₁
      · intro h tk lD' m' ys news₁ hj ho F₁ N₁ hs
        refine ⟨m', F₁.ns, fun h'' sb => ?_⟩
        have offs : ∀ q ∈ news₁, q.1 ≠ env.locals := fun q hq => (ho q hq).2.2
        obtain ⟨F₂, N₂⟩ := comp_back (s := s) F hL F₁ N₁ (gn _ (by rw [hC]; exact Nat.le_succ _)) sb offs (Ne.symm hLD)
        exact done _ h'' tk lD' ys news₁ ltD hj F₂ N₂ (fun q hq => (ho q hq).2.1) hs
  exact codeAny_compStart_dict (loop _ rfl) (IT.self 0 oI _ _ _ (NC _ (.head _)).1 hS (loop _ rfl))


theorem U_dictcomp {kx vx iter : PySem.Expr} {x : Str} {px pos : Pos} {ifs : List PySem.Expr} {scope : Scope} {cl : List (Str × Addr)} {Q : Value → Shared → Prop}
    (hclos : closureFor scope env = pure cl) (hkind : scope.kind = .function) (hnames : ∀ y ∈ scope.names, y.2 = .local → scope.names.lookup y.1 = some .local)
    (h : wpAny (model prog w) A (eval iter env) (fun xv s₁ => wpAny (model prog w) A (pyIter xv) (fun it s₂ => wpAny (model prog w) A newDict (fun acc s₃ => wpAny (model prog w) A (newFunctionEnv scope env.globals cl [] env.qual none .none (some env)) (fun cenv s₄ =>
      codeAny (model prog w) A (.compStart (.DictComp kx vx [⟨.Name x px, iter, ifs, 0⟩] scope pos) 0 it acc { cenv with scope := relabel scope env }) (compPost (model prog w) A NoE none Q acc cenv.locals) s₄) NoE s₃) NoE s₂) NoE s₁) NoE s)
    (hs : ∀ x, foldedSetIterable iter env x = pure x := by intro _; rfl) :
    wpAny (model prog w) A (eval (.DictComp kx vx [⟨.Name x px, iter, ifs, 0⟩] scope pos) env) Q NoE s := by
  rw [arm_eval_DictComp]
  exact wpAny_comprehension_free (use := none) rfl hs hclos hkind hnames h
end
/-- lists of texts in order, of the same items, are one -/
theorem rising_all : ∀ (p : Str) (l : List Str), risingS p l = true → (p :: l).Pairwise (fun a b => a.cps.toList ≤ b.cps.toList)
  | p, [], _ => by simp
  | p, x :: r, h => by
    have h' : (!PySem.Spec.ltCps x.cps.toList p.cps.toList && risingS x r) = true := h
    rw [Bool.and_eq_true] at h'
    have ih := rising_all x r h'.2
    have le : p.cps.toList ≤ x.cps.toList := by
      have := h'.1
      rw [ltCps_eq] at this
      simpa using this
    refine List.pairwise_cons.mpr ⟨fun y hy => ?_, ih⟩
    rcases List.mem_cons.mp hy with rfl | hy
    · exact le
    · exact List.le_trans le ((List.pairwise_cons.mp ih).1 y hy)
theorem sorted_all : ∀ (l : List Str), sortedS l = true → l.Pairwise (fun a b => a.cps.toList ≤ b.cps.toList)
  | [], _ => List.Pairwise.nil
  | x :: r, h => rising_all x r h
theorem sorted_one {a b : List Str} (p : a.Perm b) (ha : sortedS a = true) (hb : sortedS b = true) : a = b := by
  refine List.Perm.eq_of_pairwise (le := fun a b => a.cps.toList ≤ b.cps.toList) (fun x y _ _ h1 h2 => ?_) (sorted_all a ha) (sorted_all b hb) p
  have e : x.cps.toList = y.cps.toList := List.le_antisymm h1 h2
  obtain ⟨xc⟩ := x; obtain ⟨yc⟩ := y
  have : xc = yc := by apply Array.ext'; exact e
  rw [this]

theorem StrsAre.kit : ∀ {vs : List Value} {ks : List Str}, StrsAre vs ks → PyProof.Rows.StrsAre vs ks
  | [], [], _ => .nil
  | [], _ :: _, h => by have := h.1; simp at this
  | _ :: _, [], h => by have := h.1; simp at this
  | v :: vs, k :: ks, h => by
    obtain ⟨t, e⟩ := h.2 0 k rfl
    have e' : v = .str k t := by simpa using e
    subst e'
    exact .cons k t (StrsAre.kit ⟨by have := h.1; simpa using this, fun i k' hi => by
      have := h.2 (i + 1) k' (by simpa using hi)
      simpa using this⟩)
theorem StrsAre.of_kit : ∀ {vs : List Value} {ks : List Str}, PyProof.Rows.StrsAre vs ks → StrsAre vs ks
  | _, _, .nil => .nil
  | _, _, .cons _ _ h => .cons (StrsAre.of_kit h)
section
variable {prog : Program} {w : World} {A : Around} {E : Value → Shared → Prop} {s : Shared} {G : Heap} {L : Addr} {m : Str → Option Value} {news : List (Addr × Obj)} {Q : Value → Shared → Prop}
/-- a list of texts in order -/
theorem U_sorted_strs {l : Addr} {lo : Obj} {vs : List Value} {ks : List Str} {ep : Nat} (F : Fr G L s.heap m) (N : News G L s.heap news) (hl : (l, lo) ∈ news) (c : lo.cls = .type "list") (d : lo.data = .seq vs.toArray ep) (S : StrsAre vs ks) (h64 : ks.length < 64)
    (h : ∀ D vs' ks' e h', Fr G L h' m → News G L h' ((D, listOf vs'.toArray e) :: news) → (∀ q ∈ news, q.1 < D) → StrsAre vs' ks' → ks'.Perm ks → sortedS ks' = true → Q (.ref D) { s with heap := h' }) :
    wpAny (model prog w) A (call (.builtin "sorted") [.ref l]) Q E s :=
  sorted_N_str F N ⟨lo, (N _ hl).1, c, ep, d⟩ S.kit (by rw [S.1]; exact h64) fun h' vs' ks' e F' N' a1 a2 a3 => h _ vs' ks' e h' F' N' (fun p hp => Nat.lt_succ_of_lt (Heap.lt_size (N p hp).1)) (.of_kit a1) a2 a3

theorem Iter.walks {I d : Addr} {n : Nat} {S : Nat → Obj → Prop} {o : Obj} {PV : Nat → Value → Prop} (hne : d ≠ I) (IT : Iter prog w A I n S [(d, o)] (fun i v _ => PV i v)) :
    Walks prog w A I [I, d] [I] n PV (fun i h => (∃ oI, h.get? I = some oI ∧ S i oI) ∧ h.get? d = some o) where
  sub := fun b hb => by simp at hb; simp [hb]
  frame := fun i h h' st hk => ⟨let ⟨oI, a, b⟩ := st.1; ⟨oI, hk I (by simp) _ a, b⟩, hk d (by simp) _ st.2⟩
  item := fun i s Q E hi st hQ => by
    obtain ⟨⟨oI, a, b⟩, c⟩ := st
    exact IT.item i oI s Q E hi a b (by simpa using c) fun v h' tk o' hP ho' hS' e => hQ v h' tk hP ⟨⟨o', ho', hS'⟩, e.one hne c⟩ e
  done := fun s Q E st hQ => by
    obtain ⟨⟨oI, a, b⟩, c⟩ := st
    exact IT.done oI s Q E a b (by simpa using c) fun h' tk e => hQ h' tk e
  self := fun i s Q E st hQ => by
    obtain ⟨⟨oI, a, b⟩, c⟩ := st
    exact IT.self i oI s Q E a b hQ
abbrev keyIt (d n ep : Nat) : Obj := { cls := .type "dict_keyiterator", data := .fields #[.ref d, .int 0 0, .int n 0, .int ep 0] }
theorem h_iter_dict {d : Addr} {o : Obj} {D : DD} {es : List DictEntry} {ep : Nat} (hs : (d == sysModules) = false) (hd : s.heap.get? d = some o) (T : PD o D es ep) (h : Q (.ref s.heap.objs.size) { s with heap := s.heap.push (keyIt d D.length ep) }) :
    wpAny (model prog w) A (pyIter (.ref d)) Q E s := by
  have hT : s.TypeIs (.ref d) "dict" := T.ty hd
  refine wpAny_pyIter_slot hT PySem.F.slot_dict_iter (wpAny_call_entry PySem.F.slot_dict_iter hT PySem.F.entry_dict_iter ?_ (PySem.F.args_dict_iter_1 _))
  unfold Builtin.«dict.__iter__»
  refine wpAny_bind ?_
  unfold Builtin.Dict.dictSlotNone
  refine wpAny_bind (wpAny_notOrdered_dict hT ?_)
  show wpAny _ _ (pure (Value.ref d)) _ _ s
  refine wpAny_pure ?_
  show wpAny _ _ (Builtin.Dict.showsAll d >>= _) _ _ s
  unfold Builtin.Dict.showsAll
  rw [if_neg (by rw [hs]; exact Bool.false_ne_true)]
  refine wpAny_bind (wpAny_pure ?_)
  refine wpAny_bind (wpAny_dictEntries hd T.isd.data ?_)
  refine wpAny_bind (wpAny_dictEpoch hd T.isd.data ?_)
  have hsz : es.toArray.size = D.length := by rw [List.size_toArray, T.isd.ents.len]
  refine wpAny_bind (wpAny_newObj_type (wpAny_pure ⟨_, rfl, "dict_keyiterator", _, ⟨_, Heap.get?_push_size _ rfl, rfl⟩, PySem.F.slot_dict_keyiterator_next.lookup, ?_⟩))
  simpa [rawInt, hsz] using h
theorem U_iter_dict {d : Addr} {o : Obj} {D : DD} {es : List DictEntry} {ep : Nat} (F : Fr G L s.heap m) (N : News G L s.heap news) (hs : (d == sysModules) = false) (hd : s.heap.get? d = some o) (T : PD o D es ep)
    (h : ∀ I h', Fr G L h' m → News G L h' ((I, keyIt d D.length ep) :: news) → (∀ p ∈ news, p.1 < I) → @LT.lt Nat _ d I → Q (.ref I) { s with heap := h' }) :
    wpAny (model prog w) A (pyIter (.ref d)) Q E s := by
  obtain ⟨F', N', l'⟩ := news_push (o := keyIt d D.length ep) F N
  exact h_iter_dict hs hd T (h _ _ F' N' l' (Heap.lt_size hd))
/-- the view of keys, and its iterator -/
theorem U_iter_keys {v d : Addr} {o : Obj} {D : DD} {es : List DictEntry} {ep : Nat} (F : Fr G L s.heap m) (N : News G L s.heap news) (hv : s.heap.get? v = some (fieldsO "dict_keys" #[.ref d])) (hd : s.heap.get? d = some o) (T : IsD o D es ep)
    (h : ∀ I h', Fr G L h' m → News G L h' ((I, keyIt d D.length ep) :: news) → (∀ p ∈ news, p.1 < I) → @LT.lt Nat _ d I → Q (.ref I) { s with heap := h' }) : wpAny (model prog w) A (pyIter (.ref v)) Q E s := by
  have hT : s.TypeIs (.ref v) "dict_keys" := ⟨_, hv, rfl⟩
  refine wpAny_pyIter_slot hT kdl_slot_keys_iter (wpAny_call_entry kdl_slot_keys_iter hT kdl_entry_keys_iter ?_ (kdl_args_keys_iter _))
  unfold Builtin.«dict_keys.__iter__»
  refine wpAny_bind (wpAny_pure ?_)
  refine wpAny_bind ?_
  unfold Builtin.Dict_items.dictOf
  refine wpAny_bind (wpAny_field hv rfl (x := .ref d) rfl (wpAny_pure ?_))
  refine wpAny_bind ?_
  unfold Builtin.Dict_items.newIterator
  refine wpAny_bind (wpAny_dictEntries hd T.data ?_)
  refine wpAny_bind (wpAny_dictEpoch hd T.data ?_)
  have hsz : es.toArray.size = D.length := by rw [List.size_toArray, T.ents.len]
  have hown : Builtin.Dict_items.ownsTuple "dict_keyiterator" = false := by decide
  simp only [hown, Bool.false_eq_true, if_false]
  obtain ⟨F', N', l'⟩ := news_push (o := keyIt d D.length ep) F N
  have := h _ _ F' N' l' (Heap.lt_size hd)
  refine wpAny_newObj_type (wpAny_pure ⟨_, rfl, "dict_keyiterator", _, ⟨_, Heap.get?_push_size _ rfl, rfl⟩, PySem.F.slot_dict_keyiterator_next.lookup, ?_⟩)
  simpa [rawInt, hsz] using this
/-- a dict's keys, collected -/
theorem src_dict {d : Addr} {o : Obj} {D : DD} {es : List DictEntry} {ep : Nat} (hs : (d == sysModules) = false) (T : PD o D es ep) :
    KdlSrc prog w "dict" d d D.length (fun i v => ∃ k u, D[i]? = some (k, u) ∧ IsKey k v) (fun h => h.get? d = some o) where
  type := fun s hd => T.ty hd
  there := fun _ hd => ⟨Heap.lt_size hd, Heap.lt_size hd⟩
  keep := fun _ _ hm hk => hk d (.inl rfl) o hm
  notList := by decide
  notTuple := by decide
  hint := fun _ _ s _ hd hq => kdl_hint_dict (T.ty hd) hq
  iter := fun A s hh hd => ⟨keyIt d D.length ep, _, fun E Q hq => h_iter_dict hs hd T hq, Iter.walks (Nat.ne_of_lt (Heap.lt_size hd)) (iter_keys hh T.isd (Nat.ne_of_lt (Heap.lt_size hd))), ⟨⟨_, Heap.get?_push_size _ rfl, rfl, rfl⟩, Heap.get?_push_of_some _ hd⟩⟩
theorem collect_code {R : Result → Shared → Prop} {P : Nat → Value → Prop} {T : String} {r d n : Nat} {OK : Heap → Prop} (K : KdlSrc prog w T r d n P OK) (hh : A.handled = none) (hok : OK s.heap) (hn : n ≤ 900)
    (h : ∀ h' tk acc c, (∀ b o, s.heap.get? b = some o → h'.get? b = some o) → h'.get? s.heap.objs.size = some { cls := .type "list", dict := none, data := .seq acc c, slots := #[] } → ItemsOf P acc n → R (.ok (.ret (.ref s.heap.objs.size))) { s with heap := h', toks := tk }) :
    codeAny (model prog w) A (.builtin "proto.collect" ⟨[.ref r], []⟩) R s := by
  have lt := K.there _ hok
  refine codeAny_builtin entry_proto_collect' ?_
  show wpAny _ _ (do again (.builtin "list.__iadd__" ⟨[← newList [], .ref r], []⟩)) _ _ s
  refine wpAny_bind (wpAny_newList (wpAny_pure ⟨Code.quiet_builtin _ (by decide +kernel), codeAny_builtin entry_list_iadd' ?_⟩))
  rw [Around.under_plainId (by decide +kernel : plainId "list.__iadd__" = true)]
  show wpAny _ _ (Builtin.List.listExtendWith (.ref s.heap.objs.size) (.ref r) (.ref s.heap.objs.size)) _ _ { s with heap := s.heap.push (seqObj "list" #[] 0) }
  have hS : (s.heap.push (seqObj "list" #[] 0)).get? s.heap.objs.size = some { cls := .type "list", data := .seq #[] 0 } := Heap.get?_push_size _ rfl
  exact kdl_extend (R := R) (s := { s with heap := s.heap.push (seqObj "list" #[] 0) }) K hh (K.keep _ _ hok fun b _ o e => Heap.get?_push_of_some _ e) s.heap.objs.size (Nat.ne_of_gt lt.1) (Nat.ne_of_gt lt.2) _ 0 hS (fun h' tk acc c hk hS' hacc => h h' tk acc c (fun b o e => hk b o (Nat.ne_of_lt (Heap.lt_size e)) (Heap.get?_push_of_some _ e)) hS' hacc) (by rw [sizeLine_eq]; omega)
theorem collect_src {P : Nat → Value → Prop} {Q : List Value → Shared → Prop} {T : String} {r d n : Nat} {OK : Heap → Prop} (K : KdlSrc prog w T r d n P OK) (hh : A.handled = none) (hok : OK s.heap) (hn : n ≤ 900)
    (h : ∀ h' tk vs, (∀ b o, s.heap.get? b = some o → h'.get? b = some o) → s.heap.objs.size < h'.objs.size → vs.length = n → (∀ i v, vs[i]? = some v → P i v) → Q vs { s with heap := h', toks := tk }) :
    wpAny (model prog w) A (collect (.ref r)) Q E s := by
  unfold collect
  refine wpAny_bind (wpAny_runValue (collect_code K hh hok hn fun h' tk acc c hk hS' hacc => ?_))
  refine wpAny_bind (wpAny_load hS' (wpAny_pure ?_))
  exact h h' tk acc.toList hk (Heap.lt_size hS') (by rw [Array.length_toList]; exact hacc.1) fun i v e => hacc.2 i v (by rw [← Array.getElem?_toList]; exact e)
theorem U_sorted_dict {k : Nat} {d : Addr} {o : Obj} {D : DD} {es : List DictEntry} {ep : Nat} (F : Fr G L s.heap m) (N : News G L s.heap news) (RM : Room k A) (hd : s.heap.get? d = some o) (T : PD o D es ep) (hs : (d == sysModules) = false) (h64 : D.length < 64)
    (h : ∀ B vs' ks' e h' tk', Fr G L h' m → News G L h' ((B, listOf vs'.toArray e) :: news) → (∀ q ∈ news, q.1 < B) → StrsAre vs' ks' → ks'.Perm (Keys D) → sortedS ks' = true → Q (.ref B) { s with heap := h', toks := tk' }) :
    wpAny (model prog w) A (call (.builtin "sorted") [.ref d]) Q E s := by
  refine Calls.call_function_entry kind_sorted plain_sorted entry_sorted (args_sorted1 _) ?_
  unfold Builtin.«sorted»
  refine wpAny_bind (m := checkCount "sorted" 1 1 _) (wpAny_pure ?_)
  refine wpAny_bind (collect_src (src_dict hs T) RM.hd hd (by omega) fun h1 tk vs hk big hl hv => ?_)
  have S : StrsAre vs (Keys D) := by
    refine ⟨by simp [Keys, hl], fun i x hi => ?_⟩
    have hi' : i < D.length := by
      rcases Nat.lt_or_ge i D.length with q | q
      · exact q
      · rw [List.getElem?_eq_none (by simpa [Keys] using q)] at hi; cases hi
    obtain ⟨k', u, e1, t, e2⟩ := hv i vs[i] (by simp [hl, hi'])
    have e3 : x = k' := by
      have : (Keys D)[i]? = some k' := by simp [Keys, e1]
      rw [this] at hi; exact (Option.some.inj hi).symm
    exact ⟨t, by rw [e3, ← e2]; simp [hl, hi']⟩
  refine wpAny_bind (wpAny_newList ?_ (by rw [hl, sizeLine_eq]; omega))
  have hoL : (h1.push (seqObj "list" vs.toArray 0)).get? h1.objs.size = some (seqObj "list" vs.toArray 0) := Heap.get?_push_size _ rfl
  refine wpAny_bind (wpAny_holding (wpAny_call_entry slot_list_sort ⟨_, hoL, rfl⟩ entry_list_sort (list_sort_treeK strKind_oneLt hoL S.kit.keysOf (fun v₁ v₂ rest e => keyKind_strs (by rw [← e]; exact S.kit)) (by omega) fun st' a1 a2 => ⟨_, rfl, ?_⟩) (args_list_sort _)))
  obtain ⟨ks', b1, b2, b3⟩ := sorted_out_str S.kit a1 a2
  obtain ⟨e, he⟩ := sortedHeap_at (out := (arrOf st').map (·.2)) hoL
  have old : ∀ b o, s.heap.get? b = some o → (sortedHeap (h1.push (seqObj "list" vs.toArray 0)) h1.objs.size vs ((arrOf st').map (·.2))).get? b = some o := fun b o q => by
    have q1 := hk b o q
    have lt := Heap.lt_size q1
    rw [sortedHeap_old (Nat.ne_of_lt lt) (by rw [size_push']; exact Nat.lt_succ_of_lt lt)]
    exact Heap.get?_push_of_some _ q1
  refine wpAny_pure ⟨_, rfl, h _ ((arrOf st').map (·.2)).toList ks' e _ _ (F.kept old) (F.ns.lt |> fun ltL => N.kept_cons F old (Nat.le_of_lt big) (by rw [show ((arrOf st').map (·.2)).toList.toArray = (arrOf st').map (·.2) from Array.toArray_toList ..]; exact he)) (fun q hq => Nat.lt_trans (Heap.lt_size (N q hq).1) big) (.of_kit b1) b2 b3⟩
end
section
variable {w : World} {g : Heap} {A : Around} {s : Shared} {R : Result → Shared → Prop} {K : Frag} {prog : Program} {p : Program} {loose : List Str} {mean : ExcName → Option Value} {mg mb : Str → Option Value}
  {name qual : Str} {params : Arguments} {body : PySem.Expr} {scope : Scope} {cl : List (Str × Addr)} {pm ctv : Value} {c' f : Addr} {args : Args} {binds : List (Str × Value)}
/-- a call of a lambda -/
theorem call_l {n : Nat} (X : K.In g) (T : Top p loose mean mg mb g) (SG : g.StaysIn s.heap) (RM : Room (n + 1) A) (S : List (Addr × Obj)) (hS : ∀ q ∈ S, s.heap.get? q.1 = some q.2 ∧ g.get? q.1 = none)
    (ho : s.heap.get? f = some (kla_obj name qual params body scope cl pm c' ctv)) (hcd : s.heap.CodeRec (.ref c') qual)
    (hbind : bindArgs (kla_fn name qual params body scope cl pm (.ref c') ctv) args = pure binds) (hloc : ∀ y ∈ binds, scope.names.lookup y.1 = some .local)
    (h : ∀ g' L' h₁, g.StaysIn g' → (∀ b o, b ∉ S.map (·.1) → s.heap.get? b = some o → g'.get? b = some o) → (∀ h', g'.StaysIn h' → Ext (S.map (·.1)) s.heap h') →
      Fr g' L' h₁ (fun y => binds.reverse.lookup y) → News g' L' h₁ S → K.In g' → Top p loose mean mg mb g' → (∀ q ∈ S, q.1 < L') → Room n (A.deeper (envX qual scope L' f (.ref c') cl)) →
      wpAny (model prog w) (A.deeper (envX qual scope L' f (.ref c') cl)) (eval body (envX qual scope L' f (.ref c') cl)) (fun v s' => R (.ok (.ret v)) s') NoE { s with heap := h₁, toks := s.toks + binds.length })
    (hcell : ∀ x ∈ scope.names, x.2 ≠ .cell) (hco : scope.isCoroutine = false := by rfl) (hgen : scope.isGenerator = false := by rfl) (hk : scope.kind = .function := by rfl) : codeAny (model prog w) A (.call (.ref f) args) R s := by
  obtain ⟨st, a1, a2, X', T'⟩ := base_of T X SG S hS
  refine kla_callFunE RM.lim ho rfl hco hgen rfl hcd ?_
  rw [hbind]
  refine wpAny_pure (wpAny_newFunctionEnv hcell hloc (fun h₁ hns hsb => ⟨(T.nolimit.keeps SG).fresh _ hsb, ?_⟩) hk)
  show codeAny _ _ (.expr body (envX qual scope s.heap.objs.size f (.ref c') cl)) _ _
  have hk₁ : ∀ b o, s.heap.get? b = some o → h₁.get? b = some o := fun b o e => hsb.extBut b o (Nat.ne_of_lt (Heap.lt_size e)) (Heap.get?_push_of_some _ e)
  exact kla_codeExpr (wpAny_mono (h _ s.heap.objs.size h₁ st a1 a2 ⟨hns, fun b o e => hk₁ b o (of_hideAll _ e), Nat.le_of_eq (hideAll_size _ _)⟩
    (fun q hq => ⟨hk₁ _ _ (hS q hq).1, Nat.ne_of_lt (Heap.lt_size (hS q hq).1), hideAll_none _ (List.mem_map_of_mem hq)⟩) X' T' (fun q hq => Heap.lt_size (hS q hq).1) RM.deeper) (fun _ _ x => x) fun _ _ x => x.elim)
end
section
variable {prog : Program} {w : World} {A : Around} {E : Value → Shared → Prop} {s : Shared} {G : Heap} {L : Addr} {m : Str → Option Value} {news : List (Addr × Obj)} {Q : Value → Shared → Prop}
/-- a list of texts in the order of a key -/
theorem U_sorted_key {idx : Str → Int} {l q : Addr} {lo : Obj} {vs : List Value} {ks : List Str} {ep : Nat} (F : Fr G L s.heap m) (N : News G L s.heap news) (hl : (l, lo) ∈ news) (c : lo.cls = .type "list") (d : lo.data = .seq vs.toArray ep) (S : StrsAre vs ks) (h64 : ks.length < 64)
    (turn : ∀ k t h tk own, k ∈ ks → Fr G L h m → News G L h (news ++ own) → wpAny (model prog w) A.in1.in1 (call (.ref q) [.str k t]) (KskEnd G L m (news ++ own) (idx k) { s with heap := h, toks := tk }) NoE { s with heap := h, toks := tk })
    (h : ∀ B vs' ks' e h' tk', Fr G L h' m → News G L h' ((B, listOf vs'.toArray e) :: news) → (∀ q ∈ news, q.1 < B) → StrsAre vs' ks' → ks'.Perm ks → ks'.Pairwise (fun a b => idx a ≤ idx b) → Q (.ref B) { s with heap := h', toks := tk' }) :
    wpAny (model prog w) A (call (.builtin "sorted") [.ref l] [(Str.ofString "key", .ref q)]) Q E s := by
  refine ksk_sorted (b := false) (kz := ks.map idx) F N ⟨lo, (N _ hl).1, c, ep, d⟩ (by rw [List.length_map, S.1]) (by rw [S.1]; exact h64) (ksk_s1 _ _) (fun x => ksk_l1 _ _) (fun x => ksk_t1 q x) (fun i v k hv hk h tk own F' N' => ?_) fun B h' tk out e F' N' l1 ko => ?_
  · rw [List.getElem?_map] at hk
    cases e : ks[i]? with
    | none => rw [e] at hk; cases hk
    | some x =>
      rw [e] at hk
      cases hk
      obtain ⟨t, ht⟩ := S.2 i x e
      rw [ht] at hv; cases hv
      exact turn x t h tk own (List.mem_of_getElem? e) F' N'
  · obtain ⟨ps, pp, po, pw⟩ := ko
    have K := S.kit
    have hz : (ks.map idx).zip vs = vs.map fun v => (idx (strOf v), v) := by
      rw [← K.strs, List.map_map]
      clear pp po pw K S d
      induction vs with
      | nil => rfl
      | cons v vs ih => simp only [List.map_cons, List.zip_cons_cons, ih]; rfl
    rw [hz] at pp
    have hmem : ∀ x ∈ ps, x.1 = idx (strOf x.2) ∧ x.2 ∈ vs := fun x hx => by
      obtain ⟨v, hv, rfl⟩ := List.mem_map.mp (pp.mem_iff.mp hx)
      exact ⟨rfl, hv⟩
    have hsnd : (ps.map Prod.snd).Perm vs := by
      have := pp.map Prod.snd
      rw [List.map_map] at this
      simpa [Function.comp_def] using this
    have hout : out.toList.Perm vs := by rw [po]; exact hsnd
    refine h B out.toList (out.toList.map strOf) e h' tk F' (by simpa using N') l1 (.of_kit (strsAre_map _ fun v hv => K.all v (hout.mem_iff.mp hv))) (by have := hout.map strOf; rwa [K.strs] at this) ?_
    rw [po, List.map_map, List.pairwise_map]
    refine List.Pairwise.imp_of_mem (fun {a b} ha hb hab => ?_) pw
    have hab' : a.1 ≤ b.1 := by simpa using hab
    rw [(hmem a ha).1, (hmem b hb).1] at hab'
    exact hab'
/-- two lists of texts side by side -/
theorem U_add_strs {l b : Addr} {lo bo : Obj} {vs ws : List Value} {ks js : List Str} {n1 n2 : Nat} (F : Fr G L s.heap m) (N : News G L s.heap news) (hl : (l, lo) ∈ news) (hb : (b, bo) ∈ news) (c1 : lo.cls = .type "list") (c2 : bo.cls = .type "list") (d1 : lo.data = .seq vs.toArray n1) (d2 : bo.data = .seq ws.toArray n2)
    (S1 : StrsAre vs ks) (S2 : StrsAre ws js) (hz : ks.length + js.length ≤ 900)
    (h : ∀ D xs h', Fr G L h' m → News G L h' ((D, listOf xs.toArray 0) :: news) → (∀ q ∈ news, q.1 < D) → StrsAre xs (ks ++ js) → Q (.ref D) { s with heap := h' }) : wpAny (model prog w) A (binaryOp .Add (.ref l) (.ref b)) Q E s := by
  refine add_lists (vs := vs) (ws := ws) (hsz := by rw [S1.1, S2.1, sizeLine_eq]; omega) F N ⟨lo, (N _ hl).1, c1, n1, d1⟩ ⟨bo, (N _ hb).1, c2, n2, d2⟩ fun h' F' N' => h _ (vs ++ ws) h' F' N' (fun p hp => Heap.lt_size (N p hp).1) ⟨by simp [S1.1, S2.1], fun i k hi => ?_⟩
  rcases Nat.lt_or_ge i ks.length with q | q
  · rw [List.getElem?_append_left q] at hi
    obtain ⟨t, e⟩ := S1.2 i k hi
    exact ⟨t, by rw [List.getElem?_append_left (by rw [S1.1]; exact q)]; exact e⟩
  · rw [List.getElem?_append_right q] at hi
    obtain ⟨t, e⟩ := S2.2 _ k hi
    exact ⟨t, by rw [List.getElem?_append_right (by rw [S1.1]; exact q), S1.1]; exact e⟩
/-- two lists of the same texts -/
theorem strs_eq {n : Nat} {l1 l2 : Addr} {o1 o2 : Obj} {vs1 vs2 : List Value} {n1 n2 : Nat} {ks js : List Str} (N : News G L s.heap news) (RM : Room n A) (m1 : (l1, o1) ∈ news) (m2 : (l2, o2) ∈ news) (c1 : o1.cls = .type "list") (c2 : o2.cls = .type "list") (d1 : o1.data = .seq vs1.toArray n1) (d2 : o2.data = .seq vs2.toArray n2)
    (S1 : StrsAre vs1 ks) (S2 : StrsAre vs2 js) (e : ks = js) (h : Q (.bool true) s) : wpAny (model prog w) A (compareOp .Eq (.ref l1) (.ref l2)) Q E s := by
  subst e
  have R := SeqAt.RcAt.lists (A := A) (e := fun _ => true) ⟨o1, (N _ m1).1, c1, _, d1⟩ ⟨o2, (N _ m2).1, c2, _, d2⟩ (by simp [S1.1, S2.1]) RM.units (fun j j1 j2 => ?_)
  · rw [all_true] at R
    exact R prog w E Q h
  · have hj : j < ks.length := by rw [← S1.1]; simpa using j1
    obtain ⟨t, e1⟩ := S1.get hj
    obtain ⟨t', e2⟩ := S2.get hj
    have a1 : vs1.toArray[j] = .str ks[j] t := by have := List.getElem?_eq_getElem (l := vs1) (i := j) (by simpa using j1); rw [e1] at this; simpa using this.symm
    have a2 : vs2.toArray[j] = .str ks[j] t' := by have := List.getElem?_eq_getElem (l := vs2) (i := j) (by simpa using j2); rw [e2] at this; simpa using this.symm
    rw [a1, a2]
    have := SeqAt.EqAt.str_str (A := A.in1) (s := s) ks[j] t ks[j] t'
    simpa using this
end
theorem Room.in1 {n : Nat} {A : Around} (r : Room (n + 1) A) : Room n A.in1 := r.of (by show A.depth + n ≤ A.depth + (n + 1); omega) (by show A.units + 1 + 8 * n ≤ A.units + 8 * (n + 1); omega)
theorem vis_none : VIs .none Value.none := rfl
theorem vis_int {i : Int} {t : Tok} : VIs (.int i) (.int i t) := ⟨t, rfl⟩
theorem vis_str {x : Str} {t : Tok} : VIs (.str x) (.str x t) := ⟨t, rfl⟩
section
variable {prog : Program} {w : World} {A : Around}
theorem ne_same_b {E : Value → Shared → Prop} {s : Shared} {Q : Value → Shared → Prop} {b b' : Bool} (e : b = b') (h : Q (.bool false) s) : wpAny (model prog w) A (compareOp .NotEq (.bool b) (.bool b')) Q E s :=
  SeqAt.RcNeAt.bool_bool b b' prog w E Q (by subst e; simpa using h)
theorem ne_same_i {E : Value → Shared → Prop} {s : Shared} {Q : Value → Shared → Prop} {b b' : Int} {t t' : Tok} (e : b = b') (h : Q (.bool false) s) : wpAny (model prog w) A (compareOp .NotEq (.int b t) (.int b' t')) Q E s :=
  SeqAt.RcNeAt.int_int b t b' t' prog w E Q (by subst e; simpa using h)
theorem iter_strs (hh : A.handled = none) {I l : Addr} {lo : Obj} {vs : List Value} {ks : List Str} {ep : Nat} (hc : lo.cls = .type "list") (hd : lo.data = .seq vs.toArray ep) (S : StrsAre vs ks) (hne : l ≠ I) :
    Iter prog w A I ks.length (SList l) [(l, lo)] (fun i v _ => ∃ k t, ks[i]? = some k ∧ v = .str k t) := by
  have e : vs.toArray.size = ks.length := by rw [List.size_toArray, S.1]
  rw [← e]
  refine iter_list hh hc hd _ (.head _) (fun q hq => by rw [List.mem_singleton.mp hq]; exact hne) (fun i h hi hk => ?_) fun i v h h' p _ => p
  have hi' : i < ks.length := by rw [← e]; exact hi
  obtain ⟨t, e1⟩ := S.get hi'
  refine ⟨ks[i], t, by simp [hi'], ?_⟩
  rw [Array.getD_eq_getD_getElem?, List.getElem?_toArray, e1]; rfl
end
local macro_rules | `(tactic| walk_at "compareOp NotEq bool bool") => `(tactic| (k_here; k_dflt (refine' ne_same_b ?k1 ?_; (case k1 => with_reducible rfl); k_whole)))
local macro_rules | `(tactic| walk_at "compareOp NotEq int int") => `(tactic| (k_here; k_dflt (refine' ne_same_i ?k1 ?_; (case k1 => with_reducible rfl); k_whole)))
local macro_rules | `(tactic| walk_at "call ref") => `(tactic| (k_here; k_dflt (first
  | (refine' U_contains ?k1 ?k2 ?k3 ?k4 ?k5 ?k6 ?k7 ?k8 ?k9 ?ka ?kb ?_; (any_goals (try exact (fun (_ : Obj) => ([] : List (Addr × Obj))))); (case k1 => k_asm); (case k2 => k_asm); (case k3 => k_asm); (case k4 => k_asm); (case k5 => first | with_reducible assumption | exact Room.in1 (by with_reducible assumption) | k_asm); (case k6 => k_mem); (case k7 => k_asm); (case k8 => k_mem); (case k9 => k_asm); (case ka => first | with_reducible assumption | (exact nsys (by omega)) | k_asm); (case kb => k_ne); k_whole; intro h' tk' F' N'; (try k_sweep))
  | (refine' U_has_key ?k1 ?k2 ?k3 ?k4 ?k5 ?k6 ?k7 ?k8 ?k9 ?ka ?kb ?_; (any_goals (try exact (fun (_ : Obj) => ([] : List (Addr × Obj))))); (case k1 => k_asm); (case k2 => k_asm); (case k3 => k_asm); (case k4 => k_asm); (case k5 => first | with_reducible assumption | exact Room.in1 (by with_reducible assumption) | k_asm); (case k6 => k_mem); (case k7 => k_asm); (case k8 => k_mem); (case k9 => k_asm); (case ka => first | with_reducible assumption | (exact nsys (by omega)) | k_asm); (case kb => k_ne); k_whole; intro h' tk' F' N'; (try k_sweep))
  | (refine' U_getitem ?k1 ?k2 ?k3 ?k4 ?k5 ?k6 ?k7 ?k8 ?k9 ?ka ?kb ?kc ?_; (any_goals (try exact (fun (_ : Obj) => ([] : List (Addr × Obj))))); (case k1 => k_asm); (case k2 => k_asm); (case k3 => k_asm); (case k4 => k_asm); (case k5 => first | with_reducible assumption | exact Room.in1 (by with_reducible assumption) | k_asm); (case k6 => k_mem); (case k7 => k_asm); (case k8 => k_mem); (case k9 => k_asm); (case ka => first | with_reducible assumption | (exact nsys (by omega)) | k_asm); (case kb => k_ne); (case kc => k_asm); k_whole; intro h' tk' v' F' N' hv'; (try k_sweep))
  | (refine' U_get1 ?k1 ?k2 ?k3 ?k4 ?k5 ?k6 ?k7 ?k8 ?k9 ?ka ?kb ?_; (any_goals (try exact (fun (_ : Obj) => ([] : List (Addr × Obj))))); (case k1 => k_asm); (case k2 => k_asm); (case k3 => k_asm); (case k4 => k_asm); (case k5 => first | with_reducible assumption | exact Room.in1 (by with_reducible assumption) | k_asm); (case k6 => k_mem); (case k7 => k_asm); (case k8 => k_mem); (case k9 => k_asm); (case ka => first | with_reducible assumption | (exact nsys (by omega)) | k_asm); (case kb => k_ne); k_whole; intro h' tk' v' F' N' hv'; (try k_sweep))
  | (refine' U_get ?k1 ?k2 ?k3 ?k4 ?k5 ?k6 ?k7 ?k8 ?k9 ?ka ?kb ?kc ?_; (any_goals (try exact (fun (_ : Obj) => ([] : List (Addr × Obj))))); (case k1 => k_asm); (case k2 => k_asm); (case k3 => k_asm); (case k4 => k_asm); (case k5 => first | with_reducible assumption | exact Room.in1 (by with_reducible assumption) | k_asm); (case k6 => k_mem); (case k7 => k_asm); (case k8 => k_mem); (case k9 => k_asm); (case ka => first | with_reducible assumption | (exact nsys (by omega)) | k_asm); (case kb => k_ne); (case kc => first | k_asm | exact vis_none | exact vis_int | exact vis_str); k_whole; intro h' tk' v' F' N' hv'; (try k_sweep))
  | (refine' U_setdefault1 ?k1 ?k2 ?k3 ?k4 ?k5 ?k6 ?k7 ?k8 ?k9 ?ka ?kb ?kd ?ke ?h1 ?h2; (case k1 => k_asm); (case k2 => k_asm); (case k3 => k_asm); (case k4 => k_asm); (case k5 => first | with_reducible assumption | exact Room.in1 (by with_reducible assumption) | k_asm); (case k6 => k_mem); (case k7 => k_asm); (case k8 => k_mem); (case k9 => k_asm); (case ka => first | with_reducible assumption | (exact nsys (by omega)) | k_asm); (case kb => k_ne); (case kd => k_updF); (case ke => k_asm); (case' h2 => intro h' tk' o' es' ep' hl' F' N' td'; (try dsimp only at N'); (try k_sweep)); (case' h1 => intro h' tk' u' v' hl' F' N' hv'; (try k_sweep)))
  | (refine' U_pop1 ?k1 ?k2 ?k3 ?k4 ?k5 ?k6 ?k7 ?k8 ?k9 ?ka ?kb ?kd ?h1 ?h2; (case k1 => k_asm); (case k2 => k_asm); (case k3 => k_asm); (case k4 => k_asm); (case k5 => first | with_reducible assumption | exact Room.in1 (by with_reducible assumption) | k_asm); (case k6 => k_mem); (case k7 => k_asm); (case k8 => k_mem); (case k9 => k_asm); (case ka => first | with_reducible assumption | (exact nsys (by omega)) | k_asm); (case kb => k_ne); (case kd => k_updF); (case' h2 => intro h' tk' hl' F' N'; (try k_sweep)); (case' h1 => intro h' tk' o' es' ep' u' v' hl' hv' F' N' td'; (try dsimp only at N'); (try k_sweep)))
  | (refine' U_setdefault ?k1 ?k2 ?k3 ?k4 ?k5 ?k6 ?k7 ?k8 ?k9 ?ka ?kb ?kc ?kd ?ke ?h1 ?h2; (case k1 => k_asm); (case k2 => k_asm); (case k3 => k_asm); (case k4 => k_asm); (case k5 => first | with_reducible assumption | exact Room.in1 (by with_reducible assumption) | k_asm); (case k6 => k_mem); (case k7 => k_asm); (case k8 => k_mem); (case k9 => k_asm); (case ka => first | with_reducible assumption | (exact nsys (by omega)) | k_asm); (case kb => k_ne); (case kc => first | k_asm | exact vis_none | exact vis_int | exact vis_str); (case kd => k_updF); (case ke => k_asm); (case' h2 => intro h' tk' o' es' ep' hl' F' N' td'; (try dsimp only at N'); (try k_sweep)); (case' h1 => intro h' tk' u' v' hl' F' N' hv'; (try k_sweep)))
  | (refine' U_pop ?k1 ?k2 ?k3 ?k4 ?k5 ?k6 ?k7 ?k8 ?k9 ?ka ?kb ?kc ?kd ?h1 ?h2; (case k1 => k_asm); (case k2 => k_asm); (case k3 => k_asm); (case k4 => k_asm); (case k5 => first | with_reducible assumption | exact Room.in1 (by with_reducible assumption) | k_asm); (case k6 => k_mem); (case k7 => k_asm); (case k8 => k_mem); (case k9 => k_asm); (case ka => first | with_reducible assumption | (exact nsys (by omega)) | k_asm); (case kb => k_ne); (case kc => first | k_asm | exact vis_none | exact vis_int | exact vis_str); (case kd => k_updF); (case' h2 => intro h' tk' hl' F' N'; (try k_sweep)); (case' h1 => intro h' tk' o' es' ep' u' v' hl' hv' F' N' td'; (try dsimp only at N'); (try k_sweep)))
  | (refine' U_setitem ?k1 ?k2 ?k3 ?k4 ?k5 ?k6 ?k7 ?k8 ?k9 ?ka ?kb ?kc ?kd ?ke ?_; (case k1 => k_asm); (case k2 => k_asm); (case k3 => k_asm); (case k4 => k_asm); (case k5 => first | with_reducible assumption | exact Room.in1 (by with_reducible assumption) | k_asm); (case k6 => k_mem); (case k7 => k_asm); (case k8 => k_mem); (case k9 => k_asm); (case ka => first | with_reducible assumption | (exact nsys (by omega)) | k_asm); (case kb => k_ne); (case kc => first | k_asm | exact vis_none | exact vis_int | exact vis_str); (case kd => k_updF); (case ke => k_asm); k_whole; intro h' tk' o' es' ep'  F' N' td'; (try dsimp only at N'); (try k_sweep)))))
local macro_rules | `(tactic| walk_at "call builtin:dict.get") => `(tactic| (k_here; k_dflt (first
  | (refine' p_get1 ?k3 ?k4 ?k5 ?_; (case k3 => first | exact PyProof.Rows.News.get (by k_asm) (by k_mem) | exact Fr.keep (by k_asm) _ _ (by assumption)); (case k4 => k_asm); (case k5 => first | with_reducible assumption | (exact nsys (by omega)) | k_asm); k_whole; intro v' tk' hv')
  | (refine' p_get ?k3 ?k4 ?k5 ?k6 ?_; (case k3 => first | exact PyProof.Rows.News.get (by k_asm) (by k_mem) | exact Fr.keep (by k_asm) _ _ (by assumption)); (case k4 => k_asm); (case k5 => first | with_reducible assumption | (exact nsys (by omega)) | k_asm); (case k6 => first | k_asm | exact vis_none | exact vis_int | exact vis_str); k_whole; intro v' tk' hv'))))
local macro_rules | `(tactic| walk_at "setItem ref str") => `(tactic| (k_here; k_dflt (refine' p_setitem ?k1 ?k2 ?k3 ?k4 ?k5 ?k6 ?k7 ?_; (case k1 => k_asm); (case k2 => k_asm); (case k3 => k_mem); (case k4 => k_asm); (case k5 => k_updF); (case k6 => first | k_asm | exact vis_none | exact vis_int | exact vis_str); (case k7 => k_asm); k_whole); intro h' tk' o' es' ep' F' N' pd'; (try dsimp only at N'); (try k_sweep)))
set_option maxHeartbeats 4000000 in
theorem C_is {w : World} {G : Heap} {A : Around} {s : Shared} {p : Program} {loose : List Str} {mean : ExcName → Option Value} {mg mb : Str → Option Value} {R : Result → Shared → Prop} (X : (hd.heap_39 w.params).In G) (T : Top p loose mean mg mb G) (SG : G.StaysIn s.heap) (RM : Room 20 A) {x dx H : Addr} {o oh : Obj} {D : DD} {es eh : List DictEntry} {ep eph : Nat}
    (hx : At G s.heap x o) (hdx : At G s.heap dx (dictOf [] 0)) (hH : At G s.heap H oh) (TD1 : TD o dx D es ep) (PD1 : PD oh D eh eph) (hsys : (x == sysModules) = false) (hsysH : (H == sysModules) = false) (hne : @Ne Nat dx x) (hxy : @Ne Nat x H) (hdy : @Ne Nat dx H) (hl : D.length ≤ 900)
    (hQ : ∀ h' tk', Ext [] s.heap h' → R (.ok (.ret (.bool true))) { s with heap := h', toks := tk' }) :
    codeAny (model PySem.Challenge.rw_co0001_01.row.prog w) A (.call (.ref 206) ⟨[.ref x, .ref H], []⟩) R s := by
  k_dflt (refine' call_r X T SG RM [(x, o), (dx, dictOf [] 0), (H, oh)] (at3 hx hdx hH) ?k6 ?k7 ?k9 ?kB ?_ ?c5 ?c2 ?c3 ?c4)
  case k6 => k_is
  case k7 => k_is
  case k9 => first | exact BindsTo.of_eq rfl | exact binds_K (X.keeps SG) rfl (by k_is) rfl rfl rfl
  case kB => k_dflt exact locs rfl
  case c5 => k_dflt decide
  case c2 => k_dflt exact rfl
  case c3 => k_dflt exact rfl
  case c4 => k_dflt exact rfl
  k_whole
  intro g' L' h₁ SG' A1 A2 F N X' T' L1 RM'
  k_lt L1
  clear X T SG RM
  try dsimp only
  try k_fold
  repeat' ((fail_if_success (with_reducible show wpAny _ _ (exec (Stmt.For _ _ _ _ _) _) _ _ _)); first | walk1 | (dsimp only; walk1))
  refine For_it ?_
  repeat' ((fail_if_success (with_reducible show wpAny _ _ (pyIter _) _ _ _)); first | walk1 | (dsimp only; walk1))
  rename_i la vsa ha tka Fa Na Sa la1
  have N10 : News g' L' ha [(la, listOf vsa.toArray 0), (x, o), (dx, dictOf [] 0), (H, oh)] := news_cons Na (by k_mem) (news_cons Na (by k_mem) (news_cons Na (by k_mem) (news_cons Na (by k_mem) news_nil)))
  have e1 : la ≠ x ∧ la ≠ dx ∧ la ≠ H := ⟨by k_ne, by k_ne, by k_ne⟩
  clear Na la1
  k_dflt (refine U_iter_list Fa N10 (N10 _ (.head _)).1 rfl rfl fun I hI FI NI lI lmI => ?_)
  k_lt lI
  have hne1 : la ≠ I := neN (by omega)
  have b1 : ∀ q ∈ [(la, listOf vsa.toArray 0)], q.1 ≠ I := by intro q hq; rw [List.mem_singleton.mp hq]; exact hne1
  refine for_name (iter_strs RM'.hd rfl rfl Sa hne1) b1 ?c1 ?c2 FI NI ?c3 ?a4
    (fun i m₁ news₁ => m₁ (Str.ofString "told") = some (.ref x) ∧ m₁ (Str.ofString "held") = some (.ref H) ∧ news₁ = [(la, listOf vsa.toArray 0), (x, o), (dx, dictOf [] 0), (H, oh)]) ?hJ ?a5 ?turn ?a6 ?done
  case c1 => exact rfl
  case c2 => exact rfl
  case c3 => exact ⟨rfl, rfl⟩
  case hJ => exact ⟨rfl, rfl, rfl⟩
  case a4 => k_all
  case a5 => rintro i m₁ news₁ ⟨_, _, rfl⟩ q hq; rw [List.mem_singleton.mp hq]; exact .inl (.head _)
  case a6 => exact fun _ _ _ _ p _ => p
  case turn =>
    rintro i v m₁ news₁ h tk oI hi ⟨k, tkk, hk, rfl⟩ ⟨ht, hh, rfl⟩ hoff F N
    change Fr g' L' h _ at F
    change News g' L' h _ at N
    have hk0 : k ∈ lawKeys := List.mem_of_getElem? hk
    have hk1 : k.length ≤ 100 := (by decide +kernel : ∀ k ∈ lawKeys, k.length ≤ 100) k hk0
    clear Fa FI NI N10 hk hk0
    have fin : ∀ (c : Bool) (h' : Heap) (tk' : Nat), Fr g' L' h' (fun y => if y = Str.ofString "there" then some (.bool c) else if y = Str.ofString "key" then some (.str k tkk) else m₁ y) → News g' L' h' [(I, oI), (la, listOf vsa.toArray 0), (x, o), (dx, dictOf [] 0), (H, oh)] →
        TurnEnd g' L' (fun m₁ news₁ => m₁ (Str.ofString "told") = some (.ref x) ∧ m₁ (Str.ofString "held") = some (.ref H) ∧ news₁ = [(la, listOf vsa.toArray 0), (x, o), (dx, dictOf [] 0), (H, oh)]) I oI (fun v s' => R (.ok (.ret v)) s') { s with heap := h, toks := tk } .next { s with heap := h', toks := tk' } := fun c h' tk' F' N' => by
      refine ⟨_, _, _, [(la, listOf vsa.toArray 0), (x, o), (dx, dictOf [] 0), (H, oh)], _, rfl, F', N', by k_mem, fun q hq => List.mem_cons_of_mem _ hq, hoff, ?_, ?_, rfl⟩
      · show (if _ = _ then _ else if _ = _ then _ else m₁ _) = _
        rw [if_neg (by decide), if_neg (by decide)]; exact ht
      · show (if _ = _ then _ else if _ = _ then _ else m₁ _) = _
        rw [if_neg (by decide), if_neg (by decide)]; exact hh
    cases hlk : lk (Txt.upper k) D with
    | none =>
      try k_fold
      repeat' (first | k_unfold | walk1 | (dsimp only; walk1))
      all_goals first | (exfalso; have q := ‹(lk (Txt.upper k) D).isSome = true›; rw [hlk] at q; exact Bool.false_ne_true q) | exact fin _ _ _ (by assumption) (by assumption)
    | some u =>
      try k_fold
      repeat' (first | k_unfold | walk1 | (dsimp only; walk1))
      all_goals first | (exfalso; have q := ‹(lk (Txt.upper k) D).isSome = false›; rw [hlk] at q; exact Bool.false_ne_true q.symm) | exact fin _ _ _ (by assumption) (by assumption)
  case done =>
    rintro h tk m' news₁ ⟨ht, hh, rfl⟩ F N
    change Fr g' L' h _ at F
    change News g' L' h _ at N
    try dsimp only
    repeat' (first | walk1 | (dsimp only; walk1))
    exact hQ _ _ (ext_S (A2 _ F.keep) (at3 hx hdx hH) N (List.forall_mem_cons.mpr ⟨by k_mem, List.forall_mem_cons.mpr ⟨by k_mem, List.forall_mem_cons.mpr ⟨by k_mem, List.forall_mem_nil _⟩⟩⟩))
theorem U_is {w : World} {G : Heap} {A : Around} {s : Shared} {p : Program} {loose : List Str} {mean : ExcName → Option Value} {mg mb : Str → Option Value} {E : Value → Shared → Prop} {Q : Value → Shared → Prop} {L : Addr} {m : Str → Option Value} {news : List (Addr × Obj)} (F : Fr G L s.heap m) (X : (hd.heap_39 w.params).In G) (N : News G L s.heap news) (T : Top p loose mean mg mb G) {n : Nat} (RM : Room (n + 20) A) {x dx H : Addr} {o oh : Obj} {D : DD} {es eh : List DictEntry} {ep eph : Nat}
    (hx : (x, o) ∈ news) (TD1 : TD o dx D es ep) (hdx : (dx, dictOf [] 0) ∈ news) (hH : (H, oh) ∈ news) (PD1 : PD oh D eh eph) (hsys : (x == sysModules) = false) (hsysH : (H == sysModules) = false) (hne : @Ne Nat dx x) (hxy : @Ne Nat x H) (hdy : @Ne Nat dx H) (hl : D.length ≤ 900)
    (h : ∀ h' tk', Fr G L h' m → News G L h' news → Q (.bool true) { s with heap := h', toks := tk' }) : wpAny (model PySem.Challenge.rw_co0001_01.row.prog w) A (call (.ref 206) [.ref x, .ref H]) Q E s :=
  wpAny_call (C_is X T F.keep (RM.of (by omega) (by omega)) (News.at N hx) (News.at N hdx) (News.at N hH) TD1 PD1 hsys hsysH hne hxy hdy hl fun h' tk' e => h h' tk' (fr0 F e) (news0 N e))
/-- the great keys that the law's dictionaries may hold -/
abbrev greats : List Str := ["A", "B-C", "STRASSE", "STRAẞE", "É", "Z", "Z9", "B"].map Str.ofString
theorem up_keys : ∀ k ∈ lawKeys, Txt.upper k ∈ greats := by decide +kernel
theorem up_greats : ∀ k ∈ greats, Txt.upper k = k := by decide +kernel
theorem len_greats : ∀ k ∈ greats, k.length ≤ 100 := by decide +kernel
structure Law (D : DD) : Prop where
  nd : (Keys D).Nodup
  ks : ∀ k ∈ Keys D, k ∈ greats
  vs : ∀ p ∈ D, ∀ x, p.2 ≠ .str x
theorem Law.nil : Law [] := ⟨List.nodup_nil, (fun _ h => nomatch h), (fun _ h => nomatch h)⟩
theorem Law.len {D : DD} (h : Law D) : D.length ≤ 8 := by
  have := List.Nodup.length_le_of_subset h.nd (fun k hk => h.ks k hk)
  simpa [Keys] using this
theorem nodup_put {k : Str} {u : V} {D : DD} (h : (Keys D).Nodup) : (Keys (put k u D)).Nodup := by
  rw [keys_put]
  split
  · exact h
  · rename_i m
    rw [List.nodup_append]
    exact ⟨h, by simp, fun a ha b hb e => m (by rw [List.mem_singleton.mp hb] at e; exact e ▸ ha)⟩
theorem mem_put {k : Str} {u : V} : ∀ {D : DD} {p : Str × V}, p ∈ put k u D → p ∈ D ∨ p = (k, u)
  | [], p, h => .inr (by simpa [put] using h)
  | (x, v) :: D, p, h => by
    by_cases e : x = k
    · subst e
      simp only [put, if_true] at h
      rcases List.mem_cons.mp h with q | q
      · exact .inr q
      · exact .inl (.tail _ q)
    · simp only [put, if_neg e] at h
      rcases List.mem_cons.mp h with q | q
      · exact .inl (q ▸ .head _)
      · rcases mem_put q with a | a
        · exact .inl (.tail _ a)
        · exact .inr a
theorem mem_keys {D : DD} {k : Str} : k ∈ Keys D ↔ ∃ u, (k, u) ∈ D := by simp [Keys]
theorem Law.put {D : DD} (h : Law D) {k : Str} {u : V} (hk : k ∈ greats) (hu : ∀ x, u ≠ .str x) : Law (put k u D) := by
  refine ⟨nodup_put h.nd, fun q hq => ?_, fun p hp => ?_⟩
  · obtain ⟨v, hv⟩ := mem_keys.mp hq
    rcases mem_put hv with a | a
    · exact h.ks q (mem_keys.mpr ⟨v, a⟩)
    · cases a; exact hk
  · rcases mem_put hp with a | a
    · exact h.vs p a
    · cases a; exact hu
theorem Law.puts {ps : DD} : ∀ {D : DD}, Law D → (∀ p ∈ ps, Txt.upper p.1 ∈ greats ∧ ∀ x, p.2 ≠ .str x) → Law (puts D ps) := by
  induction ps with
  | nil => exact fun h _ => h
  | cons p ps ih => exact fun h hp => ih (h.put (hp p (.head _)).1 (hp p (.head _)).2) fun q hq => hp q (.tail _ hq)
theorem mem_era {k : Str} : ∀ {D : DD} {p : Str × V}, p ∈ era k D → p ∈ D
  | [], p, h => h
  | (x, v) :: D, p, h => by
    by_cases e : x = k
    · subst e; simp only [era, if_true] at h; exact .tail _ h
    · simp only [era, if_neg e] at h
      rcases List.mem_cons.mp h with q | q
      · exact q ▸ .head _
      · exact .tail _ (mem_era q)
theorem era_sub (k : Str) : ∀ D : DD, (era k D).Sublist D
  | [] => List.Sublist.refl _
  | (x, v) :: D => by
    unfold era
    split
    · exact List.sublist_cons_self ..
    · exact (era_sub k D).cons_cons _
theorem Law.sub {D D' : DD} (h : Law D) (s : D'.Sublist D) : Law D' :=
  ⟨h.nd.sublist (s.map _), fun k hk => h.ks k (by obtain ⟨v, hv⟩ := mem_keys.mp hk; exact mem_keys.mpr ⟨v, s.subset hv⟩), fun p hp => h.vs p (s.subset hp)⟩
theorem era_filter {k : Str} : ∀ {D : DD}, (Keys D).Nodup → era k D = D.filter fun p => !(p.1 == k)
  | [], _ => rfl
  | (x, v) :: D, h => by
    obtain ⟨n1, n2⟩ := List.nodup_cons.mp h
    by_cases e : x = k
    · subst e
      simp only [era, if_true, List.filter_cons, beq_self_eq_true, Bool.not_true, Bool.false_eq_true, if_false]
      refine (List.filter_eq_self.mpr fun p hp => ?_).symm
      have : p.1 ≠ x := fun e => n1 (e ▸ mem_keys.mpr ⟨p.2, hp⟩)
      simpa using this
    · have e' : (x == k) = false := by simpa using e
      simp only [era, if_neg e, List.filter_cons, e', Bool.not_false, if_true, era_filter n2]
theorem puts_append (D a b : DD) : puts D (a ++ b) = puts (puts D a) b := by simp [puts]
theorem puts_up {ps : DD} : ∀ {D : DD}, (∀ p ∈ ps, Txt.upper p.1 = p.1) → puts D ps = puts1 D ps := by
  induction ps with
  | nil => exact fun _ => rfl
  | cons p ps ih =>
    intro D h
    show puts (Mine.put (Txt.upper p.1) p.2 D) ps = puts1 (Mine.put p.1 p.2 D) ps
    rw [h p (.head _)]
    exact ih fun q hq => h q (.tail _ hq)
theorem Law.up {D : DD} (h : Law D) {k : Str} (hk : k ∈ Keys D) : Txt.upper k = k := up_greats k (h.ks k hk)
theorem Law.rev {D : DD} (h : Law D) : Law D.reverse := by
  refine ⟨?_, fun k hk => h.ks k (by simpa [Keys] using hk), fun p hp => h.vs p (by simpa using hp)⟩
  have : Keys D.reverse = (Keys D).reverse := by simp [Keys]
  rw [this, List.Nodup, List.pairwise_reverse]; exact h.nd.imp fun e => Ne.symm e
theorem Law.self {D : DD} (h : Law D) : Mine.puts [] D = D := by
  rw [puts_up fun p hp => h.up (mem_keys.mpr ⟨p.2, hp⟩), puts1_nil h.nd]
theorem mem_lk {k : Str} {u : V} : ∀ {D : DD}, (Keys D).Nodup → (k, u) ∈ D → lk k D = some u
  | (x, v) :: D, hn, h => by
    obtain ⟨n1, n2⟩ := List.nodup_cons.mp hn
    by_cases e : x = k
    · subst e
      rcases List.mem_cons.mp h with q | q
      · cases q; simp [lk]
      · exact absurd (mem_keys.mpr ⟨u, q⟩) n1
    · rcases List.mem_cons.mp h with q | q
      · cases q; exact absurd rfl e
      · simp only [lk, if_neg e]; exact mem_lk n2 q
theorem lk_mem {k : Str} {u : V} : ∀ {D : DD}, lk k D = some u → (k, u) ∈ D
  | [], h => by cases h
  | (x, v) :: D, h => by
    by_cases e : x = k
    · subst e; simp only [lk, if_true] at h; cases h; exact .head _
    · simp only [lk, if_neg e] at h; exact .tail _ (lk_mem h)
theorem lk_put (k : Str) (u : V) : ∀ D : DD, lk k (put k u D) = some u
  | [] => by simp [put, lk]
  | (x, v) :: D => by
    by_cases e : x = k
    · simp [put, lk, e]
    · simp only [put, if_neg e, lk]; exact lk_put k u D
/-- equal: the same length, the same value for each key -/
theorem deq_true {D D' : DD} (hl : D.length = D'.length) (h : ∀ p ∈ D, lk p.1 D' = some p.2) : deq D D' = true := by
  unfold deq
  rw [Bool.and_eq_true]
  exact ⟨by simp [hl], List.all_eq_true.mpr fun p hp => by simpa using h p hp⟩
theorem deq_self {D : DD} (h : (Keys D).Nodup) : deq D D = true := deq_true rfl fun p hp => mem_lk h hp
theorem deq_rev {D : DD} (h : Law D) : deq D D.reverse = true := deq_true (by simp) fun p hp => mem_lk h.rev.nd (by simpa using hp)
theorem deq_len {D D' : DD} (hl : D.length ≠ D'.length) : deq D D' = false := by
  unfold deq
  have : (D.length == D'.length) = false := by simpa using hl
  rw [this]; rfl
theorem deq_at {D D' : DD} {p : Str × V} (hp : p ∈ D) (h : lk p.1 D' ≠ some p.2) : deq D D' = false := by
  unfold deq
  rw [Bool.and_eq_false_iff]
  refine .inr ?_
  rw [List.all_eq_false]
  exact ⟨p, hp, by simpa using h⟩
theorem deq_turned {D : DD} (h : Law D) {k x : Str} (hk : k ∈ Keys D) : deq D (put k (.str x) D) = false := by
  obtain ⟨u, hu⟩ := mem_keys.mp hk
  refine deq_at hu ?_
  rw [lk_put]
  exact fun e => h.vs _ hu x (Option.some.inj e).symm
theorem lk_era {k : Str} {D : DD} (h : (Keys D).Nodup) : k ∉ Keys (era k D) := by
  rw [era_filter h]
  intro hk
  obtain ⟨u, hu⟩ := mem_keys.mp hk
  have := (List.mem_filter.mp hu).2
  simp at this
theorem deq_other {D : DD} (h : Law D) {k y : Str} {u : V} (hk : k ∈ Keys D) (hy : y ≠ k) : deq D (put y u (era k D)) = false := by
  obtain ⟨v, hv⟩ := mem_keys.mp hk
  refine deq_at hv ?_
  rw [lk_none]
  · exact fun e => by cases e
  · rw [keys_put]
    split
    · exact lk_era h.nd
    · intro hm
      rcases List.mem_append.mp hm with a | a
      · exact lk_era h.nd a
      · exact hy (List.mem_singleton.mp a).symm
theorem era_length {k : Str} : ∀ {D : DD}, k ∈ Keys D → (era k D).length + 1 = D.length
  | [], h => nomatch h
  | (x, v) :: D, h => by
    by_cases e : x = k
    · simp [era, e]
    · have : k ∈ Keys D := by
        rcases List.mem_cons.mp h with q | q
        · exact absurd q.symm e
        · exact q
      simp only [era, if_neg e, List.length_cons, era_length this]
theorem deq_less {D : DD} {k : Str} (hk : k ∈ Keys D) : deq D (era k D) = false := deq_len (by have := era_length hk; omega)
theorem deq_more {D : DD} {k : Str} {u : V} (hk : k ∉ Keys D) : deq D (put k u D) = false := by
  rw [put_new hk]; exact deq_len (by simp)
theorem KwIs.cons {kw : List (Str × Value)} {kd : DD} {k : Str} {v : Value} {u : V} (hv : VIs u v) (h : KwIs kw kd) : KwIs ((k, v) :: kw) ((k, u) :: kd) := by
  refine ⟨by simp [h.1], fun i k' v' hi => ?_⟩
  cases i with
  | zero => cases hi; exact ⟨u, rfl, hv⟩
  | succ i => exact h.2 i k' v' (by simpa using hi)
theorem allNe_fresh {h : Heap} {news tl : List (Addr × Obj)} (a : ∀ q ∈ news, h.get? q.1 = some q.2) (b : ∀ q ∈ tl, h.get? q.1 = none) : ∀ p ∈ news, AllNe p.1 tl := fun p hp => allNe_of fun q hq e => by
  have := a p hp
  rw [← e, b q hq] at this; cases this
theorem Ext.none {S : List Addr} {h h' : Heap} {a : Addr} (e : Ext [] h h') (n : h'.get? a = none) : h.get? a = none := by
  cases q : h.get? a with
  | none => rfl
  | some o => rw [e a o List.not_mem_nil q] at n; cases n
def AllOff (tl : List (Addr × Obj)) : List (Addr × Obj) → Prop
  | [] => True
  | p :: r => AllNe p.1 tl ∧ AllOff tl r
theorem allOff_of {tl : List (Addr × Obj)} : ∀ {l : List (Addr × Obj)}, (∀ p ∈ l, AllNe p.1 tl) → AllOff tl l
  | [], _ => trivial
  | p :: _, h => ⟨h p (.head _), allOff_of fun q hq => h q (.tail _ hq)⟩
theorem lawKey_len : ∀ k ∈ lawKeys, k.length ≤ 100 := by decide +kernel
section
variable {E : Value → Shared → Prop} {Q : Value → Shared → Prop} {w : World} {A : Around} {s : Shared} {G : Heap} {L : Addr} {m : Str → Option Value} {news : List (Addr × Obj)} {p : Program} {loose : List Str} {mean : ExcName → Option Value} {mg mb : Str → Option Value}
theorem U_pairs (F : Fr G L s.heap m) (X : (hd.heap_39 w.params).In G) (N : News G L s.heap news) (T : Top p loose mean mg mb G) {n : Nat} (RM : Room (n + 20) A) {aS aL : Addr} {o oL : Obj} {vs : List Value} {ns : List Int} {f : Obj → List (Addr × Obj)}
    (SO : StO aL ns.length o) (U : UpdF aS o news f) (hL : (aL, oL) ∈ news) (hoL : oL = listOf vs.toArray 0) (hI : IntsAre vs ns) (hlen : ns.length ≤ 50) (hne : @Ne Nat aS aL)
    (hf : ∀ o', (f o').map (·.1) = news.map (·.1))
    (h : ∀ h' tk' l lo (ys : List Value) ps tl o' n1, Fr G L h' m → News G L h' ((l, lo) :: (f o' ++ tl)) → AllNe l (f o') → AllNe l tl → AllOff tl (f o') → StO aL ns.length o' → lo.cls = .type "list" → lo.dict = none → lo.data = .seq ys.toArray n1 → PairsIn tl ys.toArray ps → (∀ q ∈ tl, q.2.cls = .type "tuple") → ps.length ≤ 4 → (∀ p ∈ ps, p.1 ∈ lawKeys ∧ p.2 ∈ lawVals) → (∀ p ∈ ps, p.1.length ≤ 100) → Q (.ref l) { s with heap := h', toks := tk' }) :
    wpAny (model PySem.Challenge.rw_co0001_01.row.prog w) A (call (.ref 192) [.ref aS]) Q E s := by
  subst hoL
  refine wpAny_call (C_pairs X T F.keep (RM.of (by omega) (by omega)) (News.at N (updF_mem U)) (News.at N hL) SO hI hlen hne fun h' tk' l lo ys ps tl o' e g SO' q g2 so P tt hp hv => ?_)
  obtain ⟨F', N'⟩ := use1 F N U e g
  obtain ⟨oL, _, _, hoL, _⟩ := F.ns
  have fresh : ∀ {a : Addr}, s.heap.get? a = none → a ≠ L ∧ G.get? a = none := fun {a} z => by
    refine ⟨fun x => (by rw [x, hoL] at z; cases z), ?_⟩
    cases zz : G.get? a with
    | none => rfl
    | some o => rw [F.keep _ _ zz] at z; cases z
  have old : ∀ x ∈ (f o').map (·.1), ∃ ox, s.heap.get? x = some ox := fun x hx => by
    rw [hf] at hx
    obtain ⟨y, hy, rfl⟩ := List.mem_map.mp hx
    exact ⟨_, (N y hy).1⟩
  have off : ∀ {a : Addr}, s.heap.get? a = none → ∀ x ∈ f o', x.1 ≠ a := fun {a} z x hx e => by
    obtain ⟨ox, hox⟩ := old x.1 (List.mem_map_of_mem hx)
    rw [e, z] at hox; cases hox
  obtain ⟨c1, c2, n1, c3⟩ := so
  refine h h' tk' l lo ys ps tl o' n1 F' (fun x hx => ?_) (allNe_of (off q)) (allNe_of fun x hx => (tt x hx).2.2.2) (allOff_of fun y hy => allNe_of fun x hx => Ne.symm (off (tt x hx).2.2.1 y hy)) SO' c1 c2 c3 P (fun x hx => (tt x hx).2.1) hp hv fun p hp => lawKey_len p.1 (hv p hp).1
  rcases List.mem_cons.mp hx with rfl | hx
  · exact ⟨g2, fresh q⟩
  · rcases List.mem_append.mp hx with hx | hx
    · exact N' x hx
    · exact ⟨(tt x hx).1, fresh (tt x hx).2.2.1⟩
theorem U_new {M : Addr} {ps kd : DD} {kw : List (Str × Value)} (F : Fr G L s.heap m) (X : (hd.heap_39 w.params).In G) (N : News G L s.heap news) (T : Top p loose mean mg mb G) {n : Nat} (RM : Room (n + 40) A)
    (SR : Src s.heap M ps) (KW1 : KwIs kw kd) (hself : Str.ofString "self" ∉ Keys kd) (hnd : (Keys kd).Nodup) (hps : ∀ p ∈ ps, p.1.length ≤ 100) (hks : ∀ p ∈ kd, p.1.length ≤ 100) (hsz : ps.length + kd.length ≤ 90)
    (h : ∀ x dx o' es' ep' h' tk', Fr G L h' m → News G L h' ((x, o') :: (dx, dictOf [] 0) :: news) → (∀ p ∈ news, p.1 < dx) → @LT.lt Nat _ dx x → TD o' dx (puts (puts [] ps) kd) es' ep' → Q (.ref x) { s with heap := h', toks := tk' }) :
    wpAny (model PySem.Challenge.rw_co0001_01.row.prog w) A (call (.ref 169) [.ref M] kw) Q E s := by
  refine wpAny_call (C_new X T F.keep (RM.of (by omega) (by omega)) SR KW1 hself hnd hps hks hsz fun h' tk' x dx o' es' ep' e e1 e2 g1 g2 td => ?_)
  subst e1 e2
  have F' := fr0 F e
  have N' := news0 N e
  have big := F.ns.lt
  have gn : ∀ a, s.heap.objs.size ≤ a → G.get? a = none := fun a ha => Heap.get?_none_of_le (Nat.le_trans F.above (Nat.le_trans (Nat.le_of_lt big) ha))
  refine h _ _ o' es' ep' h' tk' F' (fun q hq => ?_) (fun q hq => Heap.lt_size (N q hq).1) (Nat.lt_succ_self _) td
  rcases List.mem_cons.mp hq with rfl | hq
  · exact ⟨g1, Nat.ne_of_gt (Nat.lt_succ_of_lt big), gn _ (Nat.le_succ _)⟩
  · rcases List.mem_cons.mp hq with rfl | hq
    · exact ⟨g2, Nat.ne_of_gt big, gn _ (Nat.le_refl _)⟩
    · exact N' q hq
theorem src_l {M : Addr} {lo : Obj} {ps : DD} {vs : Array Value} {ep1 : Nat} {tl : List (Addr × Obj)} (N : News G L s.heap news) (hM : (M, lo) ∈ news) (c : lo.cls = .type "list") (d : lo.data = .seq vs ep1) (dn : lo.dict = none) (P : PairsIn tl vs ps) (ht : ∀ q ∈ tl, q.2.cls = .type "tuple") (hs : ∀ q ∈ tl, q ∈ news) : Src s.heap M ps :=
  .list lo vs ep1 tl (N _ hM).1 c d dn P fun q hq => ⟨(N q (hs q hq)).1, ht q hq⟩
theorem src_d {M : Addr} {o : Obj} {ps : DD} {es : List DictEntry} {ep : Nat} (N : News G L s.heap news) (hM : (M, o) ∈ news) (P : PD o ps es ep) (hs : (M == sysModules) = false) : Src s.heap M ps := .dict o es ep (N _ hM).1 P hs
theorem U_upd {x dx M : Addr} {o : Obj} {D ps kd : DD} {es : List DictEntry} {ep : Nat} {kw : List (Str × Value)} {f : Obj → List (Addr × Obj)} (F : Fr G L s.heap m) (X : (hd.heap_39 w.params).In G) (N : News G L s.heap news) (T : Top p loose mean mg mb G) {n : Nat} (RM : Room (n + 20) A)
    (U : UpdF x o news f) (hdx : (dx, dictOf [] 0) ∈ news) (TD1 : TD o dx D es ep) (hsys : (x == sysModules) = false) (hne : @Ne Nat dx x) (hMd : @Ne Nat M dx)
    (SR : Src s.heap M ps) (KW1 : KwIs kw kd) (hself : Str.ofString "self" ∉ Keys kd) (hnd : (Keys kd).Nodup) (hl : kd.length ≤ 100) (hps : ∀ p ∈ ps, p.1.length ≤ 100) (hks : ∀ p ∈ kd, p.1.length ≤ 100) (hsz : D.length + ps.length + kd.length ≤ 900)
    (h : ∀ h' tk' o' es' ep', Fr G L h' m → News G L h' (f o') → TD o' dx (puts (puts D ps) kd) es' ep' → Q .none { s with heap := h', toks := tk' }) :
    wpAny (model PySem.Challenge.rw_co0001_01.row.prog w) A (call (.ref 138) [.ref x, .ref M] kw) Q E s := by
  refine wpAny_call (C_update X T F.keep (RM.of (by omega) (by omega)) (News.at N (updF_mem U)) (News.at N hdx) TD1 hsys hne rfl SR hMd KW1 (fun y hy e => hself (KW1.keys ▸ e ▸ List.mem_map_of_mem hy)) (KW1.distinct hnd) (by rw [KW1.1]; exact hl) hps hks hsz fun h' tk' o' es' ep' e g td => ?_)
  obtain ⟨F', N'⟩ := use1 F N U e g
  exact h h' tk' o' es' ep' F' N' td
end
theorem puts1_mem : ∀ {ps D : DD} {p : Str × V}, p ∈ puts1 D ps → p ∈ D ∨ p ∈ ps
  | [], D, p, h => .inl h
  | q :: ps, D, p, h => by
    rcases puts1_mem (ps := ps) (D := put q.1 q.2 D) h with a | a
    · rcases mem_put a with b | b
      · exact .inl b
      · exact .inr (b ▸ .head _)
    · exact .inr (.tail _ a)
theorem puts1_nd : ∀ {ps D : DD}, (Keys D).Nodup → (Keys (puts1 D ps)).Nodup
  | [], _, h => h
  | q :: ps, D, h => puts1_nd (ps := ps) (D := put q.1 q.2 D) (nodup_put h)
section
variable {E : Value → Shared → Prop} {Q : Value → Shared → Prop} {w : World} {A : Around} {s : Shared} {G : Heap} {L : Addr} {m : Str → Option Value} {news : List (Addr × Obj)} {prog : Program}
theorem U_dict_pairs {l : Addr} {lo : Obj} {vs : Array Value} {k n : Nat} {tl : List (Addr × Obj)} {ps : DD} (F : Fr G L s.heap m) (N : News G L s.heap news) (RM : Room k A) (hl : (l, lo) ∈ news) (c : lo.cls = .type "list") (d : lo.data = .seq vs n) (dn : lo.dict = none) (P : PairsIn tl vs ps) (hs : ∀ q ∈ tl, q ∈ news) (hz : ps.length ≤ 4) (hp : ∀ p ∈ ps, p.1 ∈ lawKeys ∧ p.2 ∈ lawVals)
    (h : ∀ nd ps1 h' tk' o' es' ep', ps1 = puts1 [] ps → (Keys ps1).Nodup → ps1.length ≤ 4 → ps1.length ≤ 900 → (∀ p ∈ ps1, p.1 ∈ lawKeys ∧ p.2 ∈ lawVals) → (∀ p ∈ ps1, p.1.length ≤ 100) → Fr G L h' m → News G L h' ((nd, o') :: news) → (∀ p ∈ news, p.1 < nd) → PD o' ps1 es' ep' → Q (.ref nd) { s with heap := h', toks := tk' }) :
    wpAny (model PySem.Challenge.rw_co0001_01.row.prog w) A (call (.type "dict") [.ref l]) Q E s := by
  have hv : ∀ p ∈ puts1 [] ps, p.1 ∈ lawKeys ∧ p.2 ∈ lawVals := fun p hq => by
    rcases puts1_mem hq with a | a
    · cases a
    · exact hp p a
  have hz' := puts1_len [] ps
  simp only [List.length_nil, Nat.zero_add] at hz'
  exact U_dict_list F N RM (N _ hl).1 c d dn P (fun q hq => (N q (hs q hq)).1) (by omega) fun nd h' tk' o' es' ep' F' N' l1 pd => h nd _ h' tk' o' es' ep' rfl (puts1_nd List.nodup_nil) (by omega) (by omega) hv (fun p hq => lawKey_len p.1 (hv p hq).1) F' N' l1 pd
theorem PairsIn.append {tl1 tl2 : List (Addr × Obj)} {vs1 vs2 : List Value} {D1 D2 : DD} (P1 : PairsIn tl1 vs1.toArray D1) (P2 : PairsIn tl2 vs2.toArray D2) : PairsIn (tl1 ++ tl2) (vs1 ++ vs2).toArray (D1 ++ D2) := by
  have z1 : vs1.length = D1.length := by simpa using P1.1
  have z2 : vs2.length = D2.length := by simpa using P2.1
  refine ⟨by simp [z1, z2], fun i k u hi => ?_⟩
  rcases Nat.lt_or_ge i D1.length with q | q
  · rw [List.getElem?_append_left q] at hi
    obtain ⟨t, tk, x, e1, e2, e3⟩ := P1.2 i k u hi
    refine ⟨t, tk, x, ?_, List.mem_append_left _ e2, e3⟩
    rw [List.getElem?_toArray, List.getElem?_append_left (by omega)]; simpa using e1
  · rw [List.getElem?_append_right q] at hi
    obtain ⟨t, tk, x, e1, e2, e3⟩ := P2.2 _ k u hi
    refine ⟨t, tk, x, ?_, List.mem_append_right _ e2, e3⟩
    rw [List.getElem?_toArray, List.getElem?_append_right (by omega), z1]; simpa using e1
theorem pairsIn_cons {t : Addr} {k : Str} {tk : Tok} {x : Value} {u : V} {tl : List (Addr × Obj)} {vs : List Value} {D : DD} (hv : VIs u x) (P : PairsIn tl vs.toArray D) : PairsIn ((t, tup2 (.str k tk) x) :: tl) ((Value.ref t) :: vs).toArray ((k, u) :: D) := by
  have h := PairsIn.append (PairsIn.snoc (t := t) (k := k) (tk := tk) pairs_nil hv) P
  simpa using h
theorem U_add_pairs {l b : Addr} {lo bo : Obj} {vs ws : List Value} {D1 D2 : DD} {tl1 tl2 : List (Addr × Obj)} {n1 n2 : Nat} (F : Fr G L s.heap m) (N : News G L s.heap news) (hl : (l, lo) ∈ news) (hb : (b, bo) ∈ news) (c1 : lo.cls = .type "list") (c2 : bo.cls = .type "list") (d1 : lo.data = .seq vs.toArray n1) (d2 : bo.data = .seq ws.toArray n2)
    (P1 : PairsIn tl1 vs.toArray D1) (P2 : PairsIn tl2 ws.toArray D2) (hz : D1.length + D2.length ≤ 900)
    (h : ∀ D (xs : List Value) h', Fr G L h' m → News G L h' ((D, listOf xs.toArray 0) :: news) → (∀ q ∈ news, q.1 < D) → PairsIn (tl1 ++ tl2) xs.toArray (D1 ++ D2) → Q (.ref D) { s with heap := h' }) : wpAny (model prog w) A (binaryOp .Add (.ref l) (.ref b)) Q E s := by
  have z1 : vs.length = D1.length := by simpa using P1.1
  have z2 : ws.length = D2.length := by simpa using P2.1
  exact add_lists (vs := vs) (ws := ws) (hsz := by rw [z1, z2, sizeLine_eq]; omega) F N ⟨lo, (N _ hl).1, c1, n1, d1⟩ ⟨bo, (N _ hb).1, c2, n2, d2⟩ fun h' F' N' => h _ (vs ++ ws) h' F' N' (fun p hp => Heap.lt_size (N p hp).1) (P1.append P2)
end
theorem pd_empty {o : Obj} (h1 : o.cls = .type "dict") (h2 : o.dict = none) (h3 : o.data = .dict #[] 0) : PD o [] [] 0 := ⟨h1, h2, h3, .nil, Nat.zero_le _⟩
theorem U_empty {M : Model} {A : Around} {E : Value → Shared → Prop} {s : Shared} {G : Heap} {L : Addr} {m : Str → Option Value} {news : List (Addr × Obj)} {Q : Value → Shared → Prop} {pos : Pos} {env : Env} (F : Fr G L s.heap m) (N : News G L s.heap news)
    (h : ∀ d h', Fr G L h' m → News G L h' ((d, dictOf [] 0) :: news) → (∀ p ∈ news, p.1 < d) → @LT.lt Nat _ L d → PD (dictOf [] 0) [] [] 0 → Q (.ref d) { s with heap := h' }) : wpAny M A (eval (.Dict [] [] pos) env) Q E s := by
  obtain ⟨F', N', l'⟩ := news_push (o := dictOf [] 0) F N
  exact wpAny_Dict_empty (h _ _ F' N' l' F.ns.lt (pd_empty rfl rfl rfl))
theorem lens_append {a b : DD} (h1 : ∀ p ∈ a, p.1.length ≤ 100) (h2 : ∀ p ∈ b, p.1.length ≤ 100) : ∀ p ∈ a ++ b, p.1.length ≤ 100 := fun p hp => (List.mem_append.mp hp).elim (h1 p) (h2 p)
theorem lens_one {k : Str} {u : V} (h : k.length ≤ 100) : ∀ p ∈ [(k, u)], p.1.length ≤ 100 := fun p hp => by rw [List.mem_singleton.mp hp]; exact h
theorem tups_lt {l : Addr} {a : List (Addr × Obj)} (h : ∀ q ∈ a, l < q.1 ∧ q.2.cls = .type "tuple") : ∀ q ∈ a, q.2.cls = .type "tuple" := fun q hq => (h q hq).2
theorem tups_append {a b : List (Addr × Obj)} (h1 : ∀ q ∈ a, q.2.cls = .type "tuple") (h2 : ∀ q ∈ b, q.2.cls = .type "tuple") : ∀ q ∈ a ++ b, q.2.cls = .type "tuple" := fun p hp => (List.mem_append.mp hp).elim (h1 p) (h2 p)
/-- what stands between the law's deeds -/
def Core (L aS aL x dx : Addr) (len : Nat) (vs : List Value) (m : Str → Option Value) (news : List (Addr × Obj)) : Prop :=
  ∃ H oO oG oH o oh oS D es ep eh eph, news = [(x, o), (dx, dictOf [] 0), (H, oh), (aS, oS), (aL, PySem.W.listOf vs.toArray 0), (L + 1 + 1 + 1, oO), (L + 1 + 1, oG), (L + 1, oH), (32, tabObj #[])] ∧
    m (Str.ofString "told") = some (.ref x) ∧ m (Str.ofString "state") = some (.ref aS) ∧ oO.data = .cell none ∧ (∃ v, oG.data = .cell v) ∧ oH.data = .cell (some (.ref H)) ∧ TD o dx D es ep ∧ PD oh D eh eph ∧ StO aL len oS ∧ Law D ∧ @LT.lt Nat _ 1 H ∧
    (@Ne Nat x H ∧ @Ne Nat dx H ∧ @Ne Nat aS H ∧ @Ne Nat aL H ∧ @Ne Nat (L + 1 + 1 + 1) H ∧ @Ne Nat (L + 1 + 1) H ∧ @Ne Nat (L + 1) H ∧ @Ne Nat 32 H)
def Stt (G : Heap) (L aS aL : Addr) (len : Nat) (vs : List Value) (s₀ s' : Shared) : Prop :=
  ∃ h' tk m' x dx news, s' = { s₀ with heap := h', toks := tk } ∧ Fr G L h' m' ∧ News G L h' news ∧ Core L aS aL x dx len vs m' news ∧ @LT.lt Nat _ aS dx ∧ @LT.lt Nat _ dx x
def SttI (G : Heap) (L aS aL x dx I : Addr) (oI : Obj) (len : Nat) (vs : List Value) (s₀ s' : Shared) : Prop :=
  ∃ h' tk m' news, s' = { s₀ with heap := h', toks := tk } ∧ Fr G L h' m' ∧ News G L h' ((I, oI) :: news) ∧ Core L aS aL x dx len vs m' news ∧ ∀ q ∈ news, q.1 ≠ I
theorem kd_za : ∀ p ∈ ([(Str.ofString "z", V.int 3), (Str.ofString "A", V.int 4)] : DD), Txt.upper p.1 ∈ greats ∧ ∀ x, p.2 ≠ .str x := List.forall_mem_cons.mpr ⟨⟨by decide +kernel, fun x e => by cases e⟩, List.forall_mem_cons.mpr ⟨⟨by decide +kernel, fun x e => by cases e⟩, List.forall_mem_nil _⟩⟩
theorem kd_b : ∀ p ∈ ([(Str.ofString "b", V.int 5)] : DD), Txt.upper p.1 ∈ greats ∧ ∀ x, p.2 ≠ .str x := List.forall_mem_cons.mpr ⟨⟨by decide +kernel, fun x e => by cases e⟩, List.forall_mem_nil _⟩
theorem vals_ok : ∀ u ∈ lawVals, ∀ x, u ≠ .str x := by intro u hu x e; subst e; simp at hu
theorem core_mk {G h' : Heap} {L aS aL x dx H : Addr} {len : Nat} {vs : List Value} {m' : Str → Option Value} {big : List (Addr × Obj)} {oO oG oH o oh oS : Obj} {D Dt Dh : DD} {es eh : List DictEntry} {ep eph : Nat} {v : Option Value} (F : Fr G L h' m') (N : News G L h' big) (td : TD o dx Dt es ep) (pd : PD oh Dh eh eph) (SO : StO aL len oS)
    (e1 : Dt = D) (e2 : Dh = D) (law : Law D) (m1 : (x, o) ∈ big) (m2 : (dx, dictOf [] 0) ∈ big) (m3 : (H, oh) ∈ big) (m4 : (aS, oS) ∈ big) (m5 : (aL, PySem.W.listOf vs.toArray 0) ∈ big) (m6 : (L + 1 + 1 + 1, oO) ∈ big) (m7 : (L + 1 + 1, oG) ∈ big) (m8 : (L + 1, oH) ∈ big) (m9 : (32, tabObj #[]) ∈ big)
    (ht : m' (Str.ofString "told") = some (.ref x)) (hs : m' (Str.ofString "state") = some (.ref aS)) (dO : oO.data = .cell none) (dG : oG.data = .cell v) (dH : oH.data = .cell (some (.ref H)))
    (l3 : @LT.lt Nat _ 1 H) (l4 : @Ne Nat x H ∧ @Ne Nat dx H ∧ @Ne Nat aS H ∧ @Ne Nat aL H ∧ @Ne Nat (L + 1 + 1 + 1) H ∧ @Ne Nat (L + 1 + 1) H ∧ @Ne Nat (L + 1) H ∧ @Ne Nat 32 H) :
    ∃ news, News G L h' news ∧ Core L aS aL x dx len vs m' news ∧ news = [(x, o), (dx, dictOf [] 0), (H, oh), (aS, oS), (aL, PySem.W.listOf vs.toArray 0), (L + 1 + 1 + 1, oO), (L + 1 + 1, oG), (L + 1, oH), (32, tabObj #[])] := by
  subst e1 e2
  refine ⟨_, fun q hq => N q ?_, ⟨H, oO, oG, oH, o, oh, oS, _, es, ep, eh, eph, rfl, ht, hs, dO, ⟨v, dG⟩, dH, td, pd, SO, law, l3, l4⟩, rfl⟩
  simp only [List.mem_cons, List.not_mem_nil, or_false] at hq
  rcases hq with rfl | rfl | rfl | rfl | rfl | rfl | rfl | rfl | rfl <;> assumption
theorem Stt.mk {G h' : Heap} {L aS aL x dx H : Addr} {len : Nat} {vs : List Value} {s₀ : Shared} {tk : Nat} {m' : Str → Option Value} {big : List (Addr × Obj)} {oO oG oH o oh oS : Obj} {D Dt Dh : DD} {es eh : List DictEntry} {ep eph : Nat} {v : Option Value} (F : Fr G L h' m') (N : News G L h' big) (td : TD o dx Dt es ep) (pd : PD oh Dh eh eph) (SO : StO aL len oS)
    (e1 : Dt = D) (e2 : Dh = D) (law : Law D) (m1 : (x, o) ∈ big) (m2 : (dx, dictOf [] 0) ∈ big) (m3 : (H, oh) ∈ big) (m4 : (aS, oS) ∈ big) (m5 : (aL, PySem.W.listOf vs.toArray 0) ∈ big) (m6 : (L + 1 + 1 + 1, oO) ∈ big) (m7 : (L + 1 + 1, oG) ∈ big) (m8 : (L + 1, oH) ∈ big) (m9 : (32, tabObj #[]) ∈ big)
    (ht : m' (Str.ofString "told") = some (.ref x)) (hs : m' (Str.ofString "state") = some (.ref aS)) (dO : oO.data = .cell none) (dG : oG.data = .cell v) (dH : oH.data = .cell (some (.ref H)))
    (l3 : @LT.lt Nat _ 1 H) (l4 : @Ne Nat x H ∧ @Ne Nat dx H ∧ @Ne Nat aS H ∧ @Ne Nat aL H ∧ @Ne Nat (L + 1 + 1 + 1) H ∧ @Ne Nat (L + 1 + 1) H ∧ @Ne Nat (L + 1) H ∧ @Ne Nat 32 H) (l1 : @LT.lt Nat _ aS dx) (l2 : @LT.lt Nat _ dx x) :
    Stt G L aS aL len vs s₀ { s₀ with heap := h', toks := tk } := by
  obtain ⟨news, N', C, -⟩ := core_mk F N td pd SO e1 e2 law m1 m2 m3 m4 m5 m6 m7 m8 m9 ht hs dO dG dH l3 l4
  exact ⟨h', tk, m', x, dx, news, rfl, F, N', C, l1, l2⟩
theorem SttI.mk {G h' : Heap} {L aS aL x dx H : Addr} {len : Nat} {vs : List Value} {s₀ : Shared} {tk : Nat} {m' : Str → Option Value} {big : List (Addr × Obj)} {oO oG oH o oh oS : Obj} {D Dt Dh : DD} {es eh : List DictEntry} {ep eph : Nat} {v : Option Value} {I : Addr} {oI : Obj} (F : Fr G L h' m') (N : News G L h' big) (td : TD o dx Dt es ep) (pd : PD oh Dh eh eph) (SO : StO aL len oS)
    (e1 : Dt = D) (e2 : Dh = D) (law : Law D) (m1 : (x, o) ∈ big) (m2 : (dx, dictOf [] 0) ∈ big) (m3 : (H, oh) ∈ big) (m4 : (aS, oS) ∈ big) (m5 : (aL, PySem.W.listOf vs.toArray 0) ∈ big) (m6 : (L + 1 + 1 + 1, oO) ∈ big) (m7 : (L + 1 + 1, oG) ∈ big) (m8 : (L + 1, oH) ∈ big) (m9 : (32, tabObj #[]) ∈ big)
    (ht : m' (Str.ofString "told") = some (.ref x)) (hs : m' (Str.ofString "state") = some (.ref aS)) (dO : oO.data = .cell none) (dG : oG.data = .cell v) (dH : oH.data = .cell (some (.ref H)))
    (l3 : @LT.lt Nat _ 1 H) (l4 : @Ne Nat x H ∧ @Ne Nat dx H ∧ @Ne Nat aS H ∧ @Ne Nat aL H ∧ @Ne Nat (L + 1 + 1 + 1) H ∧ @Ne Nat (L + 1 + 1) H ∧ @Ne Nat (L + 1) H ∧ @Ne Nat 32 H) (mI : (I, oI) ∈ big) (l5 : @Ne Nat x I ∧ @Ne Nat dx I ∧ @Ne Nat H I ∧ @Ne Nat aS I ∧ @Ne Nat aL I ∧ @Ne Nat (L + 1 + 1 + 1) I ∧ @Ne Nat (L + 1 + 1) I ∧ @Ne Nat (L + 1) I ∧ @Ne Nat 32 I) :
    SttI G L aS aL x dx I oI len vs s₀ { s₀ with heap := h', toks := tk } := by
  obtain ⟨news, N', C, e⟩ := core_mk F N td pd SO e1 e2 law m1 m2 m3 m4 m5 m6 m7 m8 m9 ht hs dO dG dH l3 l4
  refine ⟨h', tk, m', news, rfl, F, fun q hq => (List.mem_cons.mp hq).elim (fun e => e ▸ N _ mI) (N' q), C, ?_⟩
  subst e
  obtain ⟨a, b, c, d, e, f, g, i, j⟩ := l5
  intro q hq
  simp only [List.mem_cons, List.not_mem_nil, or_false] at hq
  rcases hq with rfl | rfl | rfl | rfl | rfl | rfl | rfl | rfl | rfl <;> assumption
section
variable {E : Value → Shared → Prop} {Q : Value → Shared → Prop} {w : World} {A : Around} {s : Shared} {G : Heap} {L : Addr} {m : Str → Option Value} {news : List (Addr × Obj)} {prog : Program} {p : Program} {loose : List Str} {mean : ExcName → Option Value} {mg mb : Str → Option Value}
theorem U_add2 {l b t1 t2 : Addr} {lo bo : Obj} {vs : List Value} {D1 : DD} {tl1 : List (Addr × Obj)} {n1 n2 : Nat} {k1 k2 : Str} {tk1 tk2 : Tok} {x1 x2 : Value} {u1 u2 : V} (F : Fr G L s.heap m) (N : News G L s.heap news) (hl : (l, lo) ∈ news) (hb : (b, bo) ∈ news) (c1 : lo.cls = .type "list") (c2 : bo.cls = .type "list") (d1 : lo.data = .seq vs.toArray n1) (d2 : bo.data = .seq #[.ref t1, .ref t2] n2)
    (P1 : PairsIn tl1 vs.toArray D1) (m1 : (t1, tup2 (.str k1 tk1) x1) ∈ news) (m2 : (t2, tup2 (.str k2 tk2) x2) ∈ news) (v1 : VIs u1 x1) (v2 : VIs u2 x2) (hz : D1.length ≤ 800)
    (h : ∀ D (xs : List Value) h', Fr G L h' m → News G L h' ((D, PySem.W.listOf xs.toArray 0) :: news) → (∀ q ∈ news, q.1 < D) → PairsIn (tl1 ++ [(t1, tup2 (.str k1 tk1) x1), (t2, tup2 (.str k2 tk2) x2)]) xs.toArray (D1 ++ [(k1, u1), (k2, u2)]) → Q (.ref D) { s with heap := h' }) : wpAny (model prog w) A (binaryOp .Add (.ref l) (.ref b)) Q E s :=
  U_add_pairs (ws := [.ref t1, .ref t2]) F N hl hb c1 c2 d1 d2 P1 (pairsIn_cons v1 (pairsIn_cons v2 pairs_nil)) (by simp only [List.length_cons, List.length_nil]; omega) h
theorem U_add1 {l b t1 : Addr} {lo bo : Obj} {vs : List Value} {D1 : DD} {tl1 : List (Addr × Obj)} {n1 n2 : Nat} {k1 : Str} {tk1 : Tok} {x1 : Value} {u1 : V} (F : Fr G L s.heap m) (N : News G L s.heap news) (hl : (l, lo) ∈ news) (hb : (b, bo) ∈ news) (c1 : lo.cls = .type "list") (c2 : bo.cls = .type "list") (d1 : lo.data = .seq vs.toArray n1) (d2 : bo.data = .seq #[.ref t1] n2)
    (P1 : PairsIn tl1 vs.toArray D1) (m1 : (t1, tup2 (.str k1 tk1) x1) ∈ news) (v1 : VIs u1 x1) (hz : D1.length ≤ 800)
    (h : ∀ D (xs : List Value) h', Fr G L h' m → News G L h' ((D, PySem.W.listOf xs.toArray 0) :: news) → (∀ q ∈ news, q.1 < D) → PairsIn (tl1 ++ [(t1, tup2 (.str k1 tk1) x1)]) xs.toArray (D1 ++ [(k1, u1)]) → Q (.ref D) { s with heap := h' }) : wpAny (model prog w) A (binaryOp .Add (.ref l) (.ref b)) Q E s :=
  U_add_pairs (ws := [.ref t1]) F N hl hb c1 c2 d1 d2 P1 (pairsIn_cons v1 pairs_nil) (by simp only [List.length_cons, List.length_nil]; omega) h
theorem U_laid1 (F : Fr G L s.heap m) (X : (hd.heap_39 w.params).In G) (N : News G L s.heap news) (T : Top p loose mean mg mb G) {n : Nat} (RM : Room (n + 20) A) {H M t1 : Addr} {oh lo : Obj} {D : DD} {es : List DictEntry} {ep ep1 : Nat} {k1 : Str} {tk1 : Tok} {x1 : Value} {u1 : V}
    (hH : (H, oh) ∈ news) (PD1 : PD oh D es ep) (hsys : (H == sysModules) = false) (hn : (Keys D).Nodup) (hM : (M, lo) ∈ news) (c : lo.cls = .type "list") (d : lo.data = .seq #[.ref t1] ep1) (dn : lo.dict = none) (m1 : (t1, tup2 (.str k1 tk1) x1) ∈ news) (v1 : VIs u1 x1) (hk : k1.length ≤ 100) (hl : D.length ≤ 800)
    (h : ∀ d od es' ep' h' tk', Fr G L h' m → News G L h' ((d, od) :: news) → (∀ p ∈ news, p.1 ≠ d) → PD od (puts D [(k1, u1)]) es' ep' → @LT.lt Nat _ 1 d → Q (.ref d) { s with heap := h', toks := tk' }) : wpAny (model PySem.Challenge.rw_co0001_01.row.prog w) A (call (.ref 199) [.ref H, .ref M]) Q E s :=
  U_laid F X N T RM hH PD1 hsys hn hM c d dn (pairsIn_cons (vs := []) v1 pairs_nil) (List.forall_mem_cons.mpr ⟨rfl, List.forall_mem_nil _⟩) (List.forall_mem_cons.mpr ⟨m1, List.forall_mem_nil _⟩) (lens_one hk) (by omega) (by simp only [List.length_cons, List.length_nil]; omega) h
end
theorem cut1 {M : Model} {A : Around} {E : Value → Shared → Prop} {s : Shared} {Q : Flow → Shared → Prop} {env : Env} {a : Stmt} {rest : List Stmt} (P : Shared → Prop) (h1 : wpAny M A (exec a env) (fun f s' => match f with | .next => P s' | _ => False) E s)
    (h2 : ∀ s', P s' → wpAny M A (execs rest env) Q E s') : wpAny M A (execs (a :: rest) env) Q E s :=
  wpAny_execs_cons (wpAny_mono h1 (fun f s1 h => by cases f <;> first | exact h2 s1 h | exact h.elim) fun _ _ x => x)
theorem cut2 {M : Model} {A : Around} {E : Value → Shared → Prop} {s : Shared} {Q : Flow → Shared → Prop} {env : Env} {a b : Stmt} {rest : List Stmt} (P : Shared → Prop)
    (h1 : wpAny M A (exec a env) (fun f s1 => match f with | .next => wpAny M A (exec b env) (fun f s' => match f with | .next => P s' | _ => False) E s1 | _ => False) E s)
    (h2 : ∀ s', P s' → wpAny M A (execs rest env) Q E s') : wpAny M A (execs (a :: b :: rest) env) Q E s :=
  wpAny_execs_cons (wpAny_mono h1 (fun f s1 h => by cases f <;> first | exact cut1 P h h2 | exact h.elim) fun _ _ x => x)
local macro_rules | `(tactic| walk_at "kw is") => `(tactic| first | exact KwIs.nil | with_unfolding_all exact KwIs.cons vis_int KwIs.nil | with_unfolding_all exact KwIs.cons vis_int (KwIs.cons vis_int KwIs.nil))
local macro_rules | `(tactic| walk_at "lens") => `(tactic| first | k_asm | exact lens_one (by k_asm) | decide +kernel | (refine lens_append ?_ ?_ <;> walk_at "lens"))
local macro_rules | `(tactic| walk_at "tups") => `(tactic| first | k_asm | exact List.forall_mem_nil _ | exact tups_lt (by assumption) | (refine List.forall_mem_cons.mpr ⟨rfl, ?_⟩; walk_at "tups") | (refine tups_append ?_ ?_ <;> walk_at "tups"))
local macro_rules | `(tactic| walk_at "eval Dict nil nil") => `(tactic| (k_here; k_dflt (refine' U_empty ?k1 ?k2 ?_; (case k1 => k_asm); (case k2 => k_asm); k_whole); intro d' h' F' N' l1 l2 pd'; (try k_lt l1); (try k_sweep)))
local macro_rules | `(tactic| walk_at "is stt") => `(tactic| first
  | (refine' Stt.mk ?F ?N ?td ?pd ?SO ?e1 ?e2 ?law ?m1 ?m2 ?m3 ?m4 ?m5 ?m6 ?m7 ?m8 ?m9 ?ht ?hs ?dO ?dG ?dH ?l3 ?l4 ?l1 ?l2; (case F => k_asm); (case N => k_asm); (case SO => k_asm); (case td => k_asm); (case pd => k_asm); (case m1 => k_mem); (case m2 => k_mem); (case m3 => k_mem); (case m4 => k_mem); (case m5 => k_mem); (case m6 => k_mem); (case m7 => k_mem); (case m8 => k_mem); (case m9 => k_mem); (case ht => first | assumption | rfl); (case hs => first | assumption | rfl); (case dO => first | assumption | rfl); (case dG => first | assumption | rfl); (case dH => first | assumption | rfl); (case l3 => first | assumption | omega); (case l4 => exact ⟨by k_ne, by k_ne, by k_ne, by k_ne, by k_ne, by k_ne, by k_ne, by k_ne⟩); (case l1 => omega); (case l2 => omega))
  | (refine' SttI.mk ?F ?N ?td ?pd ?SO ?e1 ?e2 ?law ?m1 ?m2 ?m3 ?m4 ?m5 ?m6 ?m7 ?m8 ?m9 ?ht ?hs ?dO ?dG ?dH ?l3 ?l4 ?mI ?l5; (case F => k_asm); (case N => k_asm); (case SO => k_asm); (case td => k_asm); (case pd => k_asm); (case m1 => k_mem); (case m2 => k_mem); (case m3 => k_mem); (case m4 => k_mem); (case m5 => k_mem); (case m6 => k_mem); (case m7 => k_mem); (case m8 => k_mem); (case m9 => k_mem); (case ht => first | assumption | rfl); (case hs => first | assumption | rfl); (case dO => first | assumption | rfl); (case dG => first | assumption | rfl); (case dH => first | assumption | rfl); (case l3 => first | assumption | omega); (case l4 => exact ⟨by k_ne, by k_ne, by k_ne, by k_ne, by k_ne, by k_ne, by k_ne, by k_ne⟩); (case mI => k_mem); (case l5 => exact ⟨by k_ne, by k_ne, by k_ne, by k_ne, by k_ne, by k_ne, by k_ne, by k_ne, by k_ne⟩)))
local macro_rules | `(tactic| walk_at "all in") => `(tactic| first | (with_reducible exact List.forall_mem_nil _) | ((with_reducible refine' List.forall_mem_append.mpr ⟨?ia, ?ib⟩); (case ia => walk_at "all in"); (case ib => walk_at "all in")) | ((with_reducible refine' List.forall_mem_cons.mpr ⟨?ia, ?ib⟩); (case ia => k_mem); (case ib => walk_at "all in")) | (intro q' hq'; walk_at "is in"))
local macro_rules | `(tactic| walk_at "is src") => `(tactic| first
  | (refine' src_l ?s1 ?s2 ?s3 ?s4 ?s5 ?s6 ?s7 ?s8; (case s1 => k_asm); (case s2 => k_mem); (case s3 => first | exact rfl | k_asm); (case s4 => first | exact rfl | k_asm); (case s5 => first | exact rfl | k_asm); (case s6 => k_asm); (case s7 => k_asm); (case s8 => walk_at "all in"))
  | (refine' src_d ?s1 ?s2 ?s3 ?s4; (case s1 => k_asm); (case s2 => k_mem); (case s3 => k_asm); (case s4 => first | with_reducible assumption | (exact nsys (by omega)) | k_asm)))
local macro_rules | `(tactic| walk_at "call type:dict") => `(tactic| (k_here; k_dflt (refine' U_dict_pairs ?k1 ?k2 ?k3 ?k4 ?k5 ?k6 ?k7 ?k8 ?k9 ?ka ?kb ?_; (case k1 => k_asm); (case k2 => k_asm); (case k3 => k_asm); (case k4 => k_mem); (case k5 => first | exact rfl | k_asm); (case k6 => first | exact rfl | k_asm); (case k7 => first | exact rfl | k_asm); (case k8 => k_asm); (case k9 => walk_at "all in"); (case ka => k_asm); (case kb => k_asm); k_whole; intro nd' ps1' h' tk' o' es' ep' pe' pn' pz' pz2' pv' pl' F' N' l1 pd'; (try k_lt l1); (try k_sweep))))
local macro_rules | `(tactic| walk_at "a value") => `(tactic| first | exact vis_none | exact vis_int | exact vis_str | k_asm)
local macro_rules | `(tactic| walk_at "binaryOp Add ref ref") => `(tactic| (k_here; k_dflt (first
  | (refine' U_add2 ?k1 ?k2 ?k3 ?k4 ?k5 ?k6 ?k7 ?k8 ?k9 ?ka ?kb ?kc ?kd ?ke ?_; (case k1 => k_asm); (case k2 => k_asm); (case k3 => k_mem); (case k4 => k_mem); (case k5 => first | exact rfl | k_asm); (case k6 => first | exact rfl | k_asm); (case k7 => first | with_reducible assumption | exact rfl | k_asm); (case k8 => exact rfl); (case k9 => k_asm); (case ka => k_mem); (case kb => k_mem); (case kc => walk_at "a value"); (case kd => walk_at "a value"); (case ke => omega); k_whole; intro D' xs' h' F' N' l1 P'; (try k_lt l1); (try k_sweep))
  | (refine' U_add1 ?k1 ?k2 ?k3 ?k4 ?k5 ?k6 ?k7 ?k8 ?k9 ?ka ?kc ?ke ?_; (case k1 => k_asm); (case k2 => k_asm); (case k3 => k_mem); (case k4 => k_mem); (case k5 => first | exact rfl | k_asm); (case k6 => first | exact rfl | k_asm); (case k7 => first | with_reducible assumption | exact rfl | k_asm); (case k8 => exact rfl); (case k9 => k_asm); (case ka => k_mem); (case kc => walk_at "a value"); (case ke => omega); k_whole; intro D' xs' h' F' N' l1 P'; (try k_lt l1); (try k_sweep)))))
local macro_rules | `(tactic| walk_at "call ref") => `(tactic| (k_here; k_dflt (refine' U_laid1 ?k1 ?k2 ?k3 ?k4 ?k5 ?k6 ?k7 ?k8 ?k9 ?ka ?kb ?kc ?kd ?ke ?kf ?kg ?kh ?_; (case k1 => k_asm); (case k2 => k_asm); (case k3 => k_asm); (case k4 => k_asm); (case k5 => k_asm); (case k6 => k_mem); (case k7 => k_asm); (case k8 => first | with_reducible assumption | (exact nsys (by omega)) | k_asm); (case k9 => first | k_asm | exact List.nodup_nil | exact Law.nd (by k_asm)); (case ka => k_mem); (case kb => exact rfl); (case kc => exact rfl); (case kd => exact rfl); (case ke => k_mem); (case kf => walk_at "a value"); (case kg => k_asm); (case kh => omega); k_whole; intro d' od' es' ep' h' tk' F' N' l1 pd' low'; (try replace l1 := allNe_of l1); (try simp only [AllNe, and_true] at l1); (try k_sweep))))
local macro_rules | `(tactic| walk_at "call ref") => `(tactic| (k_here; k_dflt (first
  | (refine' U_pairs ?k1 ?k2 ?k3 ?k4 ?k5 ?k6 ?k7 ?k8 ?k9 ?ka ?kb ?kc ?kd ?_; (case k1 => k_asm); (case k2 => k_asm); (case k3 => k_asm); (case k4 => k_asm); (case k5 => k_asm); (case k6 => k_asm); (case k7 => k_updF); (case k8 => k_mem); (case k9 => exact rfl); (case ka => k_asm); (case kb => k_asm); (case kc => k_ne); (case kd => exact fun _ => rfl); k_whole; intro h' tk' l' lo' ys' ps' tl' o' n1' F' N' a1 a2 a3 SO' c1' c2' c3' P' tt' pz' pv' pl'; (try dsimp only at N' a1 a3); (try simp only [List.cons_append, List.nil_append] at N'); (try simp only [AllNe, and_true] at a1); (try simp only [AllOff, and_true] at a3); (try k_sweep))
  | (refine' U_is ?k1 ?k2 ?k3 ?k4 ?k5 ?k6 ?k7 ?k8 ?k9 ?ka ?kb ?kc ?kd ?ke ?kf ?kg ?_; (case k1 => k_asm); (case k2 => k_asm); (case k3 => k_asm); (case k4 => k_asm); (case k5 => k_asm); (case k6 => k_mem); (case k7 => k_asm); (case k8 => k_mem); (case k9 => k_mem); (case ka => k_asm); (case kb => first | with_reducible assumption | (exact nsys (by omega)) | k_asm); (case kc => first | with_reducible assumption | (exact nsys (by omega)) | k_asm); (case kd => k_ne); (case ke => k_ne); (case kf => k_ne); (case kg => first | k_asm | omega); k_whole; intro h' tk' F' N'; (try k_sweep))
  | (refine' U_laid ?k1 ?k2 ?k3 ?k4 ?k5 ?k6 ?k7 ?k8 ?k9 ?ka ?kb ?kc ?kd ?ke ?kf ?kg ?kh ?ki ?kj ?_; (case k1 => k_asm); (case k2 => k_asm); (case k3 => k_asm); (case k4 => k_asm); (case k5 => k_asm); (case k6 => k_mem); (case k7 => k_asm); (case k8 => first | with_reducible assumption | (exact nsys (by omega)) | k_asm); (case k9 => first | k_asm | exact List.nodup_nil | exact Law.nd (by k_asm)); (case ka => k_mem); (case kb => first | exact rfl | k_asm); (case kc => first | with_reducible assumption | exact rfl | k_asm); (case kd => first | exact rfl | k_asm); (case ke => (first | k_asm | exact pairs_nil)); (case kf => first | k_asm | walk_at "tups"); (case kg => walk_at "all in"); (case kh => first | k_asm | walk_at "lens"); (case ki => ((try simp only [List.length_cons, List.length_nil, List.length_append]); omega)); (case kj => ((try simp only [List.length_cons, List.length_nil, List.length_append]); omega)); k_whole; intro d' od' es' ep' h' tk' F' N' l1 pd' low'; (try replace l1 := allNe_of l1); (try simp only [AllNe, and_true] at l1); (try k_sweep))
  | (refine' U_new ?k1 ?k2 ?k3 ?k4 ?k5 ?k6 ?k7 ?k8 ?k9 ?ka ?kb ?kc ?_; (case k7 => walk_at "kw is"); (case k1 => k_asm); (case k2 => k_asm); (case k3 => k_asm); (case k4 => k_asm); (case k5 => k_asm); (case k6 => walk_at "is src"); (case k8 => decide +kernel); (case k9 => decide +kernel); (case ka => first | k_asm | walk_at "lens"); (case kb => decide +kernel); (case kc => ((try simp only [List.length_cons, List.length_nil]); omega)); k_whole; intro x' dx' o' es' ep' h' tk' F' N' l1 l2 td'; (try k_lt l1); (try k_sweep))
  | (refine' U_upd ?k1 ?k2 ?k3 ?k4 ?k5 ?k6 ?k7 ?k8 ?k9 ?ka ?kb ?kc ?kd ?ke ?kf ?kg ?kh ?ki ?kj ?_; (case kd => walk_at "kw is"); (case k1 => k_asm); (case k2 => k_asm); (case k3 => k_asm); (case k4 => k_asm); (case k5 => k_asm); (case k6 => k_updF); (case k7 => k_mem); (case k8 => k_asm); (case k9 => first | with_reducible assumption | (exact nsys (by omega)) | k_asm); (case ka => k_ne); (case kb => k_ne); (case kc => walk_at "is src"); (case ke => decide +kernel); (case kf => decide +kernel); (case kg => decide +kernel); (case kh => first | k_asm | walk_at "lens"); (case ki => decide +kernel); (case kj => ((try simp only [List.length_cons, List.length_nil]); omega)); k_whole; intro h' tk' o' es' ep' F' N' td'; (try dsimp only at N'); (try k_sweep)))))
theorem absurd_lk {k : Str} {D : DD} {u : V} {P : Prop} (h1 : lk k D = none) (h2 : lk k D = some u) : P := by rw [h1] at h2; cases h2
theorem it_t {c : Prop} [Decidable c] {P Q : Prop} (h : c) (p : P) : ite c P Q := by rw [if_pos h]; exact p
theorem it_f {c : Prop} [Decidable c] {P Q : Prop} (h : ¬c) (p : Q) : ite c P Q := by rw [if_neg h]; exact p
local macro_rules | `(tactic| walk_at "ite") => `(tactic| first | (with_reducible refine' it_t ?k1 ?_; (case k1 => with_reducible assumption)) | (with_reducible refine' it_f ?k1 ?_; (case k1 => with_reducible assumption)))
local macro_rules | `(tactic| walk_at "compareOp NotEq") => `(tactic| (k_here; (with_reducible show wpAny _ _ (compareOp CmpOp.NotEq _ _) _ _ _); k_dflt (refine' ne_V ?k1 ?k2 ?k3 ?_; (case k1 => walk_at "a value"); (case k2 => walk_at "a value"); (case k3 => first | exact rfl | assumption); k_whole)))
local macro_rules | `(tactic| walk_at "call ref") => `(tactic| (k_here; k_dflt (first
  | (refine' U_setdefault1 ?k1 ?k2 ?k3 ?k4 ?k5 ?k6 ?k7 ?k8 ?k9 ?ka ?kb ?kd ?ke ?h1 ?h2; (case k1 => k_asm); (case k2 => k_asm); (case k3 => k_asm); (case k4 => k_asm); (case k5 => first | with_reducible assumption | exact Room.in1 (by with_reducible assumption) | k_asm); (case k6 => k_mem); (case k7 => k_asm); (case k8 => k_mem); (case k9 => k_asm); (case ka => first | with_reducible assumption | (exact nsys (by omega)) | k_asm); (case kb => k_ne); (case kd => k_updF); (case ke => k_asm); (case' h2 => intro h' tk' o' es' ep' hl' F' N' td'; (try dsimp only at N'); (try k_sweep); (try (exact absurd_lk hl' (by assumption)))); (case' h1 => intro h' tk' u' v' hl' F' N' hv'; (try k_sweep); (try (exact absurd_lk (by assumption) hl'))))
  | (refine' U_pop1 ?k1 ?k2 ?k3 ?k4 ?k5 ?k6 ?k7 ?k8 ?k9 ?ka ?kb ?kd ?h1 ?h2; (case k1 => k_asm); (case k2 => k_asm); (case k3 => k_asm); (case k4 => k_asm); (case k5 => first | with_reducible assumption | exact Room.in1 (by with_reducible assumption) | k_asm); (case k6 => k_mem); (case k7 => k_asm); (case k8 => k_mem); (case k9 => k_asm); (case ka => first | with_reducible assumption | (exact nsys (by omega)) | k_asm); (case kb => k_ne); (case kd => k_updF); (case' h2 => intro h' tk' hl' F' N'; (try k_sweep); (try (exact absurd_lk hl' (by assumption)))); (case' h1 => intro h' tk' o' es' ep' u' v' hl' hv' F' N' td'; (try dsimp only at N'); (try k_sweep); (try (exact absurd_lk (by assumption) hl'))))
  | (refine' U_setdefault ?k1 ?k2 ?k3 ?k4 ?k5 ?k6 ?k7 ?k8 ?k9 ?ka ?kb ?kc ?kd ?ke ?h1 ?h2; (case k1 => k_asm); (case k2 => k_asm); (case k3 => k_asm); (case k4 => k_asm); (case k5 => first | with_reducible assumption | exact Room.in1 (by with_reducible assumption) | k_asm); (case k6 => k_mem); (case k7 => k_asm); (case k8 => k_mem); (case k9 => k_asm); (case ka => first | with_reducible assumption | (exact nsys (by omega)) | k_asm); (case kb => k_ne); (case kc => first | k_asm | exact vis_none | exact vis_int | exact vis_str); (case kd => k_updF); (case ke => k_asm); (case' h2 => intro h' tk' o' es' ep' hl' F' N' td'; (try dsimp only at N'); (try k_sweep); (try (exact absurd_lk hl' (by assumption)))); (case' h1 => intro h' tk' u' v' hl' F' N' hv'; (try k_sweep); (try (exact absurd_lk (by assumption) hl'))))
  | (refine' U_pop ?k1 ?k2 ?k3 ?k4 ?k5 ?k6 ?k7 ?k8 ?k9 ?ka ?kb ?kc ?kd ?h1 ?h2; (case k1 => k_asm); (case k2 => k_asm); (case k3 => k_asm); (case k4 => k_asm); (case k5 => first | with_reducible assumption | exact Room.in1 (by with_reducible assumption) | k_asm); (case k6 => k_mem); (case k7 => k_asm); (case k8 => k_mem); (case k9 => k_asm); (case ka => first | with_reducible assumption | (exact nsys (by omega)) | k_asm); (case kb => k_ne); (case kc => first | k_asm | exact vis_none | exact vis_int | exact vis_str); (case kd => k_updF); (case' h2 => intro h' tk' hl' F' N'; (try k_sweep); (try (exact absurd_lk hl' (by assumption)))); (case' h1 => intro h' tk' o' es' ep' u' v' hl' hv' F' N' td'; (try dsimp only at N'); (try k_sweep); (try (exact absurd_lk (by assumption) hl')))))))
theorem filt_put {D : DD} {f : Str × V → Bool} {i : Nat} {k : Str} {u : V} (hn : (Keys D).Nodup) (h : D[i]? = some (k, u)) (hf : f (k, u) = true) : put k u ((D.take i).filter f) = (D.take (i + 1)).filter f := by
  rw [List.take_add_one, h, List.filter_append]
  have e : ([(k, u)] : DD).filter f = [(k, u)] := by simp [hf]
  show put k u ((D.take i).filter f) = (D.take i).filter f ++ ([(k, u)] : DD).filter f
  rw [e]
  refine put_new fun hk => ?_
  obtain ⟨v, hv⟩ := mem_keys.mp hk
  have hv' := (List.mem_filter.mp hv).1
  obtain ⟨j, hj, e2⟩ := List.getElem_of_mem hv'
  have hji : j < i := by rw [List.length_take] at hj; omega
  have hjl : j < D.length := by rw [List.length_take] at hj; omega
  have hil : i < D.length := by
    rcases Nat.lt_or_ge i D.length with q | q
    · exact q
    · rw [List.getElem?_eq_none q] at h; cases h
  have a1 : (Keys D)[j]'(by simpa [Keys] using hjl) = k := by
    have : D[j] = (k, v) := by rw [← e2]; simp
    simp [Keys, this]
  have a2 : (Keys D)[i]'(by simpa [Keys] using hil) = k := by
    have : D[i] = (k, u) := by have := List.getElem?_eq_getElem hil; rw [h] at this; exact (Option.some.inj this).symm
    simp [Keys, this]
  exact List.pairwise_iff_getElem.mp hn j i (by simpa [Keys] using hjl) (by simpa [Keys] using hil) hji (a1.trans a2.symm)
theorem filt_skip {D : DD} {f : Str × V → Bool} {i : Nat} {p : Str × V} (h : D[i]? = some p) (hf : f p = false) : (D.take i).filter f = (D.take (i + 1)).filter f := by
  rw [List.take_add_one, h, List.filter_append]
  have e : ([p] : DD).filter f = [] := by simp [hf]
  show _ = (D.take i).filter f ++ ([p] : DD).filter f
  rw [e, List.append_nil]
theorem mem_at {D : DD} {i : Nat} {p : Str × V} (h : D[i]? = some p) : p ∈ D := List.mem_of_getElem? h
theorem take_le {D : DD} {f : Str × V → Bool} {i : Nat} : ((D.take i).filter f).length ≤ i := Nat.le_trans (List.length_filter_le ..) (List.length_take_le ..)
section
variable {prog : Program} {w : World} {A : Around} {s : Shared} {env : Env} {G : Heap} {L : Addr} {m : Str → Option Value} {news : List (Addr × Obj)} {Q : Value → Shared → Prop}
/-- {one: held[one] for one in held if one != great} -/
theorem without_block {one held great : Str} {iter : PySem.Expr} {p1 p2 p3 p4 p5 p6 p7 p8 p9 : Pos} {scope : Scope} {cl : List (Str × Addr)} {I H cG cH : Addr} {oh oG oH : Obj} {D : DD} {es : List DictEntry} {ep n : Nat} {g : Str} {tg : Tok} (RM : Room n A)
    (hcell : ∀ y ∈ scope.names, y.2 ≠ .cell) (hkind : scope.kind = .function) (hx : scope.names.lookup one = some .local) (hloc : env.locals = L)
    (F : Fr G L s.heap m) (N : News G L s.heap ((I, keyIt H D.length ep) :: news)) (hH : (H, oh) ∈ news) (pd : PD oh D es ep) (hsH : (H == sysModules) = false) (hn : (Keys D).Nodup) (hl : D.length ≤ 900)
    (mG : (cG, oG) ∈ news) (dG : oG.data = .cell (some (.str g tg))) (mH : (cH, oH) ∈ news) (dH : oH.data = .cell (some (.ref H))) (lt : ∀ q ∈ news, q.1 < I)
    (k1 : ∀ C, (compEnvC scope cl C env).kindOf one = some .local) (k2 : ∀ C, (compEnvC scope cl C env).kindOf great = some .cell) (k3 : ∀ C, (compEnvC scope cl C env).kindOf held = some .cell)
    (k4 : ∀ C, (compEnvC scope cl C env).cells.lookup great = some cG) (k5 : ∀ C, (compEnvC scope cl C env).cells.lookup held = some cH) (k6 : ∀ C, (compEnvC scope cl C env).scope.kind = .function)
    (b1 : (one == ("__debug__" : Str)) = false) (b2 : (great == ("__debug__" : Str)) = false) (b3 : (held == ("__debug__" : Str)) = false)
    (done : ∀ d h tk lD es' ep', (∀ q ∈ news, q.1 < d) → Fr G L h m → News G L h ((d, lD) :: news) → PD lD (era g D) es' ep' → Q (.ref d) { s with heap := h, toks := tk }) :
    wpAny (model prog w) A newDict (fun acc s₃ => wpAny (model prog w) A (newFunctionEnv scope env.globals cl [] env.qual none .none (some env)) (fun cenv s₄ =>
      codeAny (model prog w) A (.compStart (.DictComp (.Name one p1) (.Subscript (.Name held p2) (.Name one p3) p4) [⟨.Name one p5, iter, [.Compare (.Name one p6) [.NotEq] [.Name great p7] p8], 0⟩] scope p9) 0 (.ref I) acc { cenv with scope := relabel scope env }) (compPost (model prog w) A NoE none Q acc cenv.locals) s₄) NoE s₃) NoE s := by
  refine dc_block (keep := [(H, oh)]) hcell hkind hx hl hloc F N (iter_keys RM.hd pd.isd (Nat.ne_of_lt (lt _ hH))) ⟨rfl, rfl⟩ ?a (fun q hq => Nat.ne_of_lt (lt q hq)) (fun i ys nw => nw = news ∧ ys = (D.take i).filter (fun p => !(p.1 == g))) ⟨rfl, by simp⟩ ?b ?c (fun _ _ _ _ _ _ p _ => p) ?turn ?fin
  case a => intro q hq; rw [List.mem_singleton.mp hq]; exact Nat.ne_of_lt (lt _ hH)
  case b => rintro i ys nw ⟨_, rfl⟩; exact take_le
  case c => rintro i ys nw ⟨rfl, _⟩ q hq; rw [List.mem_singleton.mp hq]; exact .inl hH
  case turn =>
    rintro D2 C i v ys nw h tk oI' lD oL m₁ lD1 lD2 lDC hi ⟨k, u, hk, t, rfl⟩ ⟨rfl, rfl⟩ ho F5 N5
    have mm : ∀ q ∈ nw, q ∈ (I, oI') :: (D2, lD) :: (L, oL) :: nw := fun q hq => .tail _ (.tail _ (.tail _ hq))
    have fin : ∀ (tk' : Nat) (ys' : DD), ys' = (D.take (i + 1)).filter (fun p => !(p.1 == g)) → CEnd G C I D2 L oI' lD oL (fun nw' => nw' = nw ∧ ys' = (D.take (i + 1)).filter (fun p => !(p.1 == g))) { s with heap := h, toks := tk } { s with heap := h, toks := tk' } := fun tk' ys' e =>
      ⟨h, tk', _, _, nw, rfl, F5, N5, .head _, .tail _ (.head _), .tail _ (.tail _ (.head _)), mm, ho, rfl, e⟩
    refine test1 (wpAny_isTrue_Compare1 ?_ (by with_unfolding_all rfl))
    refine nameE_L (v := .str k t) F5 (by simp) ?_ (k6 C) (k1 C) b1
    refine nameE_C N5 (k4 C) (mm _ mG) dG ?_ (k6 C) (k2 C) b2
    refine SeqAt.RcNeAt.str_str k t g tg prog w NoE _ ?_
    refine wpAny_truthy_bool ?_
    by_cases e : k = g
    · have eb : (!(k == g)) = false := by simp [e]
      rw [eb, if_neg Bool.false_ne_true]
      exact fin tk _ (filt_skip hk (by simp [e]))
    · have eb : (!(k == g)) = true := by simp [e]
      rw [eb, if_pos rfl]
      refine nameE_L (v := .str k t) F5 (by simp) ?_ (k6 C) (k1 C) b1
      refine Subscript_ ?_
      refine nameE_C N5 (k5 C) (mm _ mH) dH ?_ (k6 C) (k3 C) b3
      refine nameE_L (v := .str k t) F5 (by simp) ?_ (k6 C) (k1 C) b1
      refine p_tail (N5 _ (mm _ hH)).1 pd (mem_lk hn (mem_at hk)) fun v tk' hv => ?_
      exact ⟨k, t, u, rfl, hv, fin tk' _ (filt_put hn hk (by simp [e]))⟩
  case fin =>
    rintro d h tk lD ys nw ld ⟨rfl, rfl⟩ F5 N5 nd ⟨es', ep', pd'⟩
    rw [List.take_length, ← era_filter hn] at pd'
    exact done d h tk lD es' ep' (fun q hq => ld q (.tail _ hq)) F5 N5 pd'
end
section
variable {E : Value → Shared → Prop} {Q : Value → Shared → Prop} {w : World} {A : Around} {s : Shared} {G : Heap} {L : Addr} {m : Str → Option Value} {news : List (Addr × Obj)} {prog : Program}
theorem U_star {t0 t1 t2 : Sem Value} {H : Addr} {oh : Obj} {D : DD} {es : List DictEntry} {ep : Nat} {g : Str} {u : V} (F : Fr G L s.heap m) (N : News G L s.heap news) (hH : (H, oh) ∈ news) (pd : PD oh D es ep) (hsH : (H == sysModules) = false) (hn : (Keys D).Nodup) (hl : D.length ≤ 800) (hL : @LT.lt Nat _ 1 L)
    (e0 : ∀ h tk, Fr G L h m → News G L h news → wpAny (model prog w) A t0 (fun v s' => v = .ref H ∧ ∃ tk', s' = { s with heap := h, toks := tk' }) NoE { s with heap := h, toks := tk })
    (e1 : ∀ h tk, Fr G L h m → News G L h news → wpAny (model prog w) A t1 (fun v s' => (∃ tg, v = .str g tg) ∧ ∃ tk', s' = { s with heap := h, toks := tk' }) NoE { s with heap := h, toks := tk })
    (e2 : ∀ h tk, Fr G L h m → News G L h news → wpAny (model prog w) A t2 (fun v s' => VIs u v ∧ ∃ tk', s' = { s with heap := h, toks := tk' }) NoE { s with heap := h, toks := tk })
    (hQ : ∀ d h' tk' od es' ep', Fr G L h' m → News G L h' ((d, od) :: news) → (∀ p ∈ news, p.1 < d) → @LT.lt Nat _ L d → PD od (put g u D) es' ep' → Q (.ref d) { s with heap := h', toks := tk' }) :
    wpAny (model prog w) A (dictDisplay [(none, t0), (some t1, t2)]) Q NoE s := by
  have hHs := (N _ hH).1
  have hHlt : H < s.heap.objs.size := Heap.lt_size hHs
  unfold dictDisplay
  refine wpAny_bind ?_
  rw [List.forIn_cons]
  dsimp only
  simp only [List.isEmpty_nil, if_true, pure_bind, bind_assoc]
  refine wpAny_bind (wpAny_alloc ?_)
  have g1 : (s.heap.push { cls := .type "dict", data := .dict #[] }).get? s.heap.objs.size = some { cls := .type "dict", data := .dict #[] } := Heap.get?_push_size _ rfl
  have F1 : Fr G L (s.heap.push { cls := .type "dict", data := .dict #[] }) m := F.push _
  have x1 : Ext [] s.heap (s.heap.push { cls := .type "dict", data := .dict #[] }) := fun b o _ e => Heap.get?_push_of_some _ e
  generalize hd : s.heap.objs.size = d at *
  generalize s.heap.push { cls := .type "dict", data := .dict #[] } = H1 at *
  refine wpAny_bind (wpAny_holding (wpAny_mono (e0 H1 s.toks F1 (news0 N x1)) (fun v s' hv => ?_) fun _ _ x => x.elim))
  obtain ⟨rfl, tk2, rfl⟩ := hv
  refine wpAny_bind (wpAny_onRaise (wpAny_tryCatch (wpAny_onRaise (wpAny_holding (wpAny_mono (merge_PD (E := NoE) (s := { s with heap := H1, toks := tk2 }) g1 (D0 := []) (pd_empty rfl rfl rfl) (x1 _ _ List.not_mem_nil hHs) pd (Nat.ne_of_lt hHlt) hsH (fun h => by cases h) (by simp only [List.length_nil]; omega) fun h2 tk3 od2 es2 ep2 ex2 g2 p2 => ?_) (fun _ _ x => x) (fun _ _ x => x.elim))))))
  rw [puts1_nil hn] at p2
  have old : ∀ b o, s.heap.get? b = some o → b ≠ d := fun b o e => Nat.ne_of_lt (hd ▸ Heap.lt_size e)
  have x2 : Ext [] s.heap h2 := fun b o _ e => ex2.one (old b o e) (x1 b o List.not_mem_nil e)
  rw [List.forIn_cons]
  dsimp only
  rw [if_neg (by simp)]
  refine wpAny_bind (wpAny_pure ?_)
  dsimp only
  rw [List.forIn_nil]
  refine wpAny_pure ?_
  dsimp only
  rw [if_neg (by simp)]
  simp only [List.nil_append, bind_assoc, pure_bind]
  have F2 := fr0 F x2
  have g3 : (h2.push { cls := .type "dict", data := .dict #[] }).get? h2.objs.size = some { cls := .type "dict", data := .dict #[] } := Heap.get?_push_size _ rfl
  have x3 : Ext [] h2 (h2.push { cls := .type "dict", data := .dict #[] }) := fun b o _ e => Heap.get?_push_of_some _ e
  have dlt : d < h2.objs.size := Heap.lt_size g2
  refine wpAny_bind (wpAny_holding ?_)
  unfold subDict
  refine wpAny_bind (wpAny_alloc ?_)
  generalize hsub : h2.objs.size = sub at *
  generalize h2.push { cls := .type "dict", data := .dict #[] } = H3 at *
  have F3 := fr0 F2 x3
  have N3 := news0 (news0 N x2) x3
  refine wpAny_bind (wpAny_holding ?_)
  rw [if_pos (by simp)]
  refine wpAny_bind ?_
  unfold evalPairs
  refine wpAny_bind (wpAny_mono (e1 _ _ F3 N3) (fun v s' hv => ?_) fun _ _ x => x.elim)
  obtain ⟨⟨tg, rfl⟩, tk4, rfl⟩ := hv
  refine wpAny_bind (wpAny_holding (wpAny_mono (e2 _ _ F3 N3) (fun v s' hv => ?_) fun _ _ x => x.elim))
  obtain ⟨hvu, tk5, rfl⟩ := hv
  refine wpAny_bind (wpAny_holding (wpAny_pure (wpAny_pure (wpAny_holding ?_))))
  rw [List.forIn_cons]
  have pe : PD ({ cls := .type "dict", data := .dict #[] } : Obj) [] [] 0 := pd_empty rfl rfl rfl
  refine wpAny_bind (wpAny_bind ?_)
  dsimp only
  refine wpAny_bind (set_D (s := { s with heap := H3, toks := tk5 }) g3 pe.isd hvu (by simp [put]) fun h4 tk6 c => wpAny_pure ?_)
  obtain ⟨es4, ep4, g4, I4⟩ := c.2
  have x4 := changed_ext c
  dsimp only at x4 g4 ⊢
  rw [List.forIn_nil]
  refine wpAny_pure (wpAny_pure (wpAny_pure ?_))
  have dsub : d ≠ sub := Nat.ne_of_lt dlt
  have g5 : h4.get? d = some od2 := x4.one dsub (x3 _ _ List.not_mem_nil g2)
  have p4 := pe.with I4
  have Llt : L < d := hd ▸ F.ns.lt
  refine wpAny_bind (wpAny_onRaise (wpAny_holding (wpAny_mono (merge_PD (E := NoE) (s := { s with heap := h4, toks := tk6 }) g5 p2 g4 p4 (Ne.symm dsub) (nsys (Nat.lt_trans hL (Nat.lt_trans Llt dlt))) (fun h => by cases h) (by simp only [put, List.length_cons, List.length_nil]; omega) fun h6 tk7 od6 es6 ep6 ex6 g6 p6 => ?_) (fun _ _ x => x) (fun _ _ x => x.elim))))
  dsimp only at ex6 ⊢
  have x6 : Ext [] s.heap h6 := fun b o _ e => by
    have q2 := x2 b o List.not_mem_nil e
    have bs : b ≠ sub := Nat.ne_of_lt (hsub ▸ Heap.lt_size q2)
    exact ex6.one (old b o e) (x4.one bs (x3 b o List.not_mem_nil q2))
  refine wpAny_pure ?_
  have gn : G.get? d = none := Heap.get?_none_of_le (Nat.le_trans F.above (Nat.le_of_lt Llt))
  refine hQ d h6 tk7 od6 es6 ep6 (fr0 F x6) (fun q hq => ?_) (fun p hp => hd ▸ Heap.lt_size (N p hp).1) Llt p6
  rcases List.mem_cons.mp hq with rfl | hq
  · exact ⟨g6, Nat.ne_of_gt Llt, gn⟩
  · exact news0 N x6 q hq
theorem U_star_eval {kx v0 v1 : PySem.Expr} {pos : Pos} {env : Env} {H : Addr} {oh : Obj} {D : DD} {es : List DictEntry} {ep : Nat} {g : Str} {u : V} (F : Fr G L s.heap m) (N : News G L s.heap news) (hH : (H, oh) ∈ news) (pd : PD oh D es ep) (hsH : (H == sysModules) = false) (hn : (Keys D).Nodup) (hl : D.length ≤ 800) (hL : @LT.lt Nat _ 1 L)
    (e0 : ∀ h tk, Fr G L h m → News G L h news → wpAny (model prog w) A (eval v0 env) (fun v s' => v = .ref H ∧ ∃ tk', s' = { s with heap := h, toks := tk' }) NoE { s with heap := h, toks := tk })
    (e1 : ∀ h tk, Fr G L h m → News G L h news → wpAny (model prog w) A (eval kx env) (fun v s' => (∃ tg, v = .str g tg) ∧ ∃ tk', s' = { s with heap := h, toks := tk' }) NoE { s with heap := h, toks := tk })
    (e2 : ∀ h tk, Fr G L h m → News G L h news → wpAny (model prog w) A (eval v1 env) (fun v s' => VIs u v ∧ ∃ tk', s' = { s with heap := h, toks := tk' }) NoE { s with heap := h, toks := tk })
    (hQ : ∀ d h' tk' od es' ep', Fr G L h' m → News G L h' ((d, od) :: news) → (∀ p ∈ news, p.1 < d) → @LT.lt Nat _ L d → PD od (put g u D) es' ep' → Q (.ref d) { s with heap := h', toks := tk' }) :
    wpAny (model prog w) A (eval (.Dict [none, some kx] [v0, v1] pos) env) Q NoE s := by
  rw [arm_eval_Dict]
  refine wpAny_bind (wpAny_standAt ?_)
  exact U_star F N hH pd hsH hn hl hL (fun h tk F' N' => wpAny_bind (wpAny_mono (e0 h tk F' N') (fun v s' hv => wpAny_bind (wpAny_standAt (wpAny_pure hv))) fun _ _ x => x)) e1 (fun h tk F' N' => wpAny_bind (wpAny_mono (e2 h tk F' N') (fun v s' hv => wpAny_bind (wpAny_standAt (wpAny_pure hv))) fun _ _ x => x)) hQ
end
theorem era_none {k : Str} : ∀ {D : DD}, lk k D = none → era k D = D
  | [], _ => rfl
  | (x, v) :: D, h => by
    by_cases e : x = k
    · simp [lk, e] at h
    · simp only [lk, if_neg e] at h
      simp only [era, if_neg e, era_none h]
theorem put_same {k : Str} {u : V} {D : DD} (h : lk k D = none) : k ∉ Keys D := fun hk => by
  obtain ⟨v, hv⟩ := lk_some hk
  rw [h] at hv; cases hv
local macro_rules | `(tactic| walk_at "without") => `(tactic| (
  k_dflt (refine' U_dictcomp ?hc ?hk ?hn ?_ ?hs);
  (case hc => with_unfolding_all rfl); (case hk => with_unfolding_all rfl); (case hn => decide); (case hs => intro _; with_unfolding_all rfl);
  (repeat' ((fail_if_success (with_reducible show wpAny _ _ (pyIter _) _ _ _)); first | walk1 | (dsimp only; walk1)));
  refine' U_iter_dict ?F ?N ?s ?g ?T ?_; (case F => k_asm); (case N => k_asm); (case g => exact PyProof.Rows.News.get (by k_asm) (by k_mem)); (case T => k_asm); (case s => first | with_reducible assumption | exact nsys (by assumption));
  intro I' h' F' N' l1 l2;
  k_dflt (refine' without_block ?RM ?b1 ?b2 ?b3 ?b4 F' N' ?mH ?pd ?hsH ?hn ?hl ?mG ?dG ?mC ?dH l1 ?k1 ?k2 ?k3 ?k4 ?k5 ?k6 ?d1 ?d2 ?d3 ?_);
  (case RM => k_asm); (case k4 => exact fun _ => rfl); (case k5 => exact fun _ => rfl); (case b1 => decide); (case b2 => with_unfolding_all rfl); (case b3 => with_unfolding_all rfl); (case b4 => with_unfolding_all rfl);
  (case mH => k_mem); (case pd => k_asm); (case hsH => first | with_reducible assumption | exact nsys (by assumption)); (case hn => k_asm); (case hl => k_asm); (case mG => k_mem); (case mC => k_mem); (case dG => first | rfl | assumption); (case dH => first | rfl | assumption);
  (case k1 => exact fun _ => by with_unfolding_all rfl); (case k2 => exact fun _ => by with_unfolding_all rfl); (case k3 => exact fun _ => by with_unfolding_all rfl); (case k6 => exact fun _ => by with_unfolding_all rfl); (case d1 => decide); (case d2 => decide); (case d3 => decide);
  clear F' N' l1 l2;
  intro d' h' tk' od' es' ep' l1 F' N' pd'; k_lt l1))
theorem StrsAre.snoc {vs : List Value} {ks : List Str} {k : Str} {t : Tok} (h : StrsAre vs ks) : StrsAre (vs ++ [.str k t]) (ks ++ [k]) := by
  refine ⟨by simp [h.1], fun i k' hi => ?_⟩
  rcases Nat.lt_or_ge i ks.length with q | q
  · rw [List.getElem?_append_left q] at hi
    obtain ⟨t', e⟩ := h.2 i k' hi
    exact ⟨t', by rw [List.getElem?_append_left (by rw [h.1]; exact q)]; exact e⟩
  · rw [List.getElem?_append_right q] at hi
    have hz : i - ks.length = 0 := by
      rcases Nat.eq_zero_or_pos (i - ks.length) with z | z
      · exact z
      · rw [List.getElem?_eq_none (by simp only [List.length_cons, List.length_nil]; omega)] at hi; cases hi
    rw [hz] at hi
    have e : k' = k := by simpa using hi.symm
    subst e
    exact ⟨t, by rw [List.getElem?_append_right (by rw [h.1]; exact q), h.1, hz]; rfl⟩
section
variable {prog : Program} {w : World} {A : Around} {s : Shared} {env : Env} {G : Heap} {L : Addr} {m : Str → Option Value} {news : List (Addr × Obj)} {Q : Value → Shared → Prop}
/-- [x for x in texts if test] -/
theorem sel_block {x : Str} {iter : PySem.Expr} {px p1 pos : Pos} {ifs : List PySem.Expr} {scope : Scope} {cl : List (Str × Addr)} {I : Addr} {oI : Obj} {S : Nat → Obj → Prop} {keep : List (Addr × Obj)} {ks : List Str} (f : Str → Bool)
    (hcell : ∀ y ∈ scope.names, y.2 ≠ .cell) (hkind : scope.kind = .function) (hx : scope.names.lookup x = some .local) (hloc : env.locals = L) (hn : ks.length ≤ 900)
    (F : Fr G L s.heap m) (N : News G L s.heap ((I, oI) :: news)) (IT : Iter prog w A I ks.length S keep (fun i v _ => ∃ k t, ks[i]? = some k ∧ v = .str k t)) (hS : S 0 oI) (hIk : ∀ q ∈ keep, q.1 ≠ I) (hoff : ∀ q ∈ news, q.1 ≠ I) (hkeep : ∀ q ∈ keep, q ∈ news ∨ G.get? q.1 = some q.2)
    (k1 : ∀ C, (compEnvC scope cl C env).kindOf x = some .local) (k6 : ∀ C, (compEnvC scope cl C env).scope.kind = .function) (b1 : (x == ("__debug__" : Str)) = false)
    (test : ∀ C k t h tk own (m₁ : Str → Option Value), k ∈ ks → Fr G C h (fun y => if y = x then some (.str k t) else m₁ y) → News G C h own → (∀ q ∈ news, q ∈ own) →
      wpAny (model prog w) A (forIn ifs true fun c r => if r = true then do let ok ← isTrue c (compEnvC scope cl C env) (eval c (compEnvC scope cl C env)); pure (ForInStep.yield ok) else pure (ForInStep.yield r)) (fun ok s' => ok = f k ∧ ∃ tk', s' = { s with heap := h, toks := tk' }) NoE { s with heap := h, toks := tk })
    (done : ∀ D h tk lD ys n, (∀ q ∈ news, q.1 < D) → Fr G L h m → News G L h ((D, lD) :: news) → lD.cls = .type "list" → lD.dict = none → lD.data = .seq ys.toArray n → StrsAre ys (ks.filter f) → Q (.ref D) { s with heap := h, toks := tk }) :
    wpAny (model prog w) A (newList []) (fun acc s₃ => wpAny (model prog w) A (newFunctionEnv scope env.globals cl [] env.qual none .none (some env)) (fun cenv s₄ =>
      codeAny (model prog w) A (.compStart (.ListComp (.Name x p1) [⟨.Name x px, iter, ifs, 0⟩] scope pos) 0 (.ref I) acc { cenv with scope := relabel scope env }) (compPost (model prog w) A NoE none Q acc cenv.locals) s₄) NoE s₃) NoE s := by
  refine lc_block (keep := keep) hcell hkind hx hn hloc F N IT hS hIk hoff (fun i ys nw => nw = news ∧ StrsAre ys ((ks.take i).filter f)) ⟨rfl, by simpa using StrsAre.nil⟩ ?b ?c (fun _ _ _ _ _ _ p _ => p) ?turn ?fin
  case b =>
    rintro i ys nw ⟨_, S'⟩
    rw [S'.1]; exact Nat.le_trans (List.length_filter_le ..) (List.length_take_le ..)
  case c => rintro i ys nw ⟨rfl, _⟩ q hq; exact hkeep q hq
  case turn =>
    rintro D2 C i v ys nw h tk oI' lD oL m₁ lD1 lD2 lDC hi ⟨k, t, hk, rfl⟩ ⟨rfl, SA⟩ ho F5 N5
    have mm : ∀ q ∈ nw, q ∈ (I, oI') :: (D2, lD) :: (L, oL) :: nw := fun q hq => .tail _ (.tail _ (.tail _ hq))
    refine wpAny_mono (test C k t h tk _ m₁ (List.mem_of_getElem? hk) F5 N5 mm) (fun ok s' h' => ?_) fun _ _ x => x
    obtain ⟨rfl, tk', rfl⟩ := h'
    have e0 : ((ks.take (i + 1)).filter f) = (ks.take i).filter f ++ if f k then [k] else [] := take_succ_filter f ks i k hk
    cases hf : f k with
    | true =>
      simp only [if_true]
      refine nameE_L (v := .str k t) F5 (by simp) ?_ (k6 C) (k1 C) b1
      refine ⟨h, tk', _, _, nw, rfl, F5, N5, .head _, .tail _ (.head _), .tail _ (.tail _ (.head _)), mm, ho, rfl, ?_⟩
      rw [e0, hf]; simpa using SA.snoc
    | false =>
      simp only [Bool.false_eq_true, if_false]
      refine ⟨h, tk', _, _, nw, rfl, F5, N5, .head _, .tail _ (.head _), .tail _ (.tail _ (.head _)), mm, ho, rfl, ?_⟩
      rw [e0, hf]; simpa using SA
  case fin =>
    rintro D h tk lD ys nw ld ⟨rfl, SA⟩ F5 N5 nd ⟨c1, c2, n, c3⟩
    rw [List.take_length] at SA
    exact done D h tk lD ys n (fun q hq => ld q (.tail _ hq)) F5 N5 c1 c2 c3 SA
end
/-- the places of texts -/
def idxD (js : List Str) : DD := js.zipIdx.map fun p => (p.1, V.int (p.2 : Int))
theorem keys_idxD (js : List Str) : Keys (idxD js) = js := by
  unfold Keys idxD
  rw [List.map_map]
  exact List.zipIdx_map_fst 0 js
theorem idxD_len (js : List Str) : (idxD js).length = js.length := by simp [idxD]
theorem idxD_put {js : List Str} {i : Nat} {k : Str} (hn : js.Nodup) (h : js[i]? = some k) : put k (.int (i : Int)) (idxD (js.take i)) = idxD (js.take (i + 1)) := by
  have hi : i < js.length := by
    rcases Nat.lt_or_ge i js.length with q | q
    · exact q
    · rw [List.getElem?_eq_none q] at h; cases h
  rw [put_new]
  · rw [List.take_add_one, h]
    simp only [idxD, Option.toList_some, List.zipIdx_append, List.map_append, List.length_take, Nat.min_eq_left (Nat.le_of_lt hi)]
    simp
  · rw [keys_idxD]
    intro hk
    obtain ⟨j, hj, e2⟩ := List.getElem_of_mem hk
    have hji : j < i := by rw [List.length_take] at hj; omega
    have hjl : j < js.length := by omega
    have a1 : js[j] = k := by rw [← e2]; simp
    have a2 : js[i] = k := by have := List.getElem?_eq_getElem hi; rw [h] at this; exact (Option.some.inj this).symm
    exact List.pairwise_iff_getElem.mp hn j i hjl hi hji (a1.trans a2.symm)
section
variable {prog : Program} {w : World} {A : Around} {s : Shared} {G : Heap}
/-- the turns of a dict comprehension, its target a row of names -/
theorem dcT {R : Result → Shared → Prop} {kx vx iter : PySem.Expr} {elts : List PySem.Expr} {x1 : Nat} {tp : Pos} {scope : Scope} {pos : Pos} {it : Value} {D : Addr} {env : Env} (I : Nat → Shared → Prop)
    (turn : ∀ n s, I n s → wpAny (model prog w) A (pyNext it) (fun r s₁ => match r with
      | none => R (.ok .next) s₁
      | some v => wpAny (model prog w) A (letOwnedTupleGo (.Tuple elts x1 tp) it v) (fun _ s₂ => wpAny (model prog w) A (assign (.Tuple elts x1 tp) env v) (fun _ s₃ =>
          wpAny (model prog w) A (eval kx env) (fun kv s₄ => wpAny (model prog w) A (eval vx env) (fun vv s₅ =>
              wpAny (model prog w) A (dictSet D kv vv) (fun _ s₆ => ∃ m, m < n ∧ I m s₆) NoE s₅) NoE s₄) NoE s₃) NoE s₂) NoE s₁) NoE s)
    (n : Nat) (h : I n s) : codeAny (model prog w) A (.compLoop (.DictComp kx vx [⟨.Tuple elts x1 tp, iter, [], 0⟩] scope pos) 0 it (.ref D) env) R s := by
  refine codeAny_loop rfl I (fun n s hI => ?_) n h
  show wpAny _ A ((compTurn (.DictComp kx vx [⟨.Tuple elts x1 tp, iter, [], 0⟩] scope pos) 0 it (.ref D) env).onRaise (fun x => do noteFrame x env; theTreesLotGoes x)) _ _ s
  refine wpAny_noted ?_
  rw [compTurn_dict]
  refine wpAny_bind (wpAny_standAt (wpAny_bind (wpAny_mono (turn n s hI) (fun r s₁ h₁ => ?_) fun _ _ x => x.elim)))
  cases r with
  | none => exact wpAny_pure h₁
  | some v =>
    refine wpAny_bind (wpAny_mono h₁ (fun _ s₂ h₂ => wpAny_bind (wpAny_mono h₂ (fun _ s₃ h₃ => ?_) fun _ _ x => x.elim)) fun _ _ x => x.elim)
    refine wpAny_bind (wpAny_mono (Q := fun ok s' => ok = true ∧ s' = s₃) (wpAny_pure ⟨rfl, rfl⟩) (fun ok s' h' => ?_) fun _ _ x => x)
    obtain ⟨rfl, rfl⟩ := h'
    refine wpAny_bind (wpAny_bind (wpAny_mono h₃ (fun kv s₄ h₄ => wpAny_bind (wpAny_holding (wpAny_mono h₄ (fun vv s₅ h₅ => wpAny_bind (wpAny_standAt (wpAny_holding (wpAny_mono h₅ (fun _ s₆ h₆ => ?_) fun _ _ x => x.elim)))) fun _ _ x => x.elim))) fun _ _ x => x.elim))
    exact wpAny_pure ⟨rfl, h₆⟩
theorem en_loop {R : Result → Shared → Prop} {kn inn : Str} {p1 p2 pi pk tp pos : Pos} {x1 : Nat} {iter : PySem.Expr} {scope : Scope} {cenv : Env} {e it l D : Addr} {lo oD : Obj} {vs : List Value} {js : List Str} {epl : Nat} {es0 : List DictEntry} {ep0 : Nat} {nw : List (Addr × Obj)} {mC : Str → Option Value}
    (hh : A.handled = none) (hkl : cenv.kindOf kn = some .local) (hil : cenv.kindOf inn = some .local) (hkk : cenv.scope.kind = .function) (hne : kn ≠ inn) (d1 : (kn == ("__debug__" : Str)) = false) (d2 : (inn == ("__debug__" : Str)) = false)
    (hjs : js.Nodup) (hn : js.length ≤ 900)
    (F : Fr G cenv.locals s.heap mC) (N : News G cenv.locals s.heap nw) (hl : (l, lo) ∈ nw) (hlc : lo.cls = .type "list") (hld : lo.data = .seq vs.toArray epl) (S : StrsAre vs js)
    (he : IsEnum s.heap e it 0 .none) (hit : s.heap.IsListIter it l 0) (hD : s.heap.get? D = some oD) (hPD : PD oD [] es0 ep0)
    (fr : ∀ a ∈ [e, it, D], G.get? a = none ∧ a ≠ cenv.locals ∧ ∀ q ∈ nw, q.1 ≠ a) (hei : e ≠ it) (heD : D ≠ e) (hiD : D ≠ it)
    (done : ∀ h tk m' oD es ep, Fr G cenv.locals h m' → News G cenv.locals h nw → h.get? D = some oD → PD oD (idxD js) es ep → R (.ok .next) { s with heap := h, toks := tk }) :
    codeAny (model prog w) A (.compLoop (.DictComp (.Name kn p1) (.Name inn p2) [⟨.Tuple [.Name inn pi, .Name kn pk] x1 tp, iter, [], 0⟩] scope pos) 0 (.ref e) (.ref D) cenv) R s := by
  obtain ⟨g1, c1, n1⟩ := fr e (by simp)
  obtain ⟨g2, c2, n2⟩ := fr it (by simp)
  obtain ⟨g3, c3, n3⟩ := fr D (by simp)
  have hp : (cenv.scope.kind == .class || (cenv.scope.kind == .module && cenv.locals != cenv.globals)) = false := by rw [hkk]; rfl
  let JJ : Nat → Shared → Prop := fun k s' => ∃ i, i ≤ js.length ∧ k = js.length - i ∧ ∃ h tk m' old oD es ep, s' = { s with heap := h, toks := tk } ∧ Fr G cenv.locals h m' ∧ News G cenv.locals h nw ∧ IsEnum h e it i old ∧ h.IsListIter it l i ∧ h.get? D = some oD ∧ PD oD (idxD (js.take i)) es ep
  refine dcT JJ ?_ js.length ⟨0, Nat.zero_le _, rfl, s.heap, s.toks, mC, .none, oD, _, _, rfl, F, N, he, hit, hD, hPD⟩
  rintro k s' ⟨i, hi, rfl, h, tk, m', old, oD, es, ep, rfl, F₁, N₁, he₁, hit₁, hD₁, P₁⟩
  have hls : h.IsList l vs.toArray := ⟨lo, (N₁ _ hl).1, hlc, epl, hld⟩
  by_cases hlt : i < js.length
  · obtain ⟨t, ex⟩ := S.get hlt
    refine wpAny_pyNext_enum_item (s := { s with heap := h, toks := tk }) he₁ hit₁ hls (x := .str js[i] t) (by simpa using ex) hei fun h' he' hit' ht' hsz hk => ?_
    have E1 : Ext [e, it] h h' := fun b o nb eb => hk b o (fun x => nb (by simp [x])) (fun x => nb (by simp [x])) eb
    have F₂ := fr_ext F₁ E1 (by simp [Ne.symm c1, Ne.symm c2]) (fun a ha => by rcases List.mem_cons.mp ha with rfl | ha; exact g1; rw [List.mem_singleton.mp ha]; exact g2)
    have N₂ := news_ext N₁ E1 fun q hq => by simp [n1 q hq, n2 q hq]
    have D₂ : h'.get? D = some oD := E1 _ _ (by simp [heD, hiD]) hD₁
    refine wpAny_letOwnedTupleGo_enum he' fun h₂ he₂ hs₂ => ?_
    have E2 : Ext [e] h' h₂ := fun b o nb eb => (hs₂.2 b (by simpa using nb)).trans eb
    have F₃ := fr_ext F₂ E2 (by simpa using Ne.symm c1) (fun a ha => by rw [List.mem_singleton.mp ha]; exact g1)
    have N₃ := news_ext N₂ E2 fun q hq => by simpa using n1 q hq
    have D₃ : h₂.get? D = some oD := E2.one heD D₂
    have hte : h.objs.size ≠ e := Nat.ne_of_gt (Heap.lt_size he₁)
    have ht₂ := E2.one hte ht'
    have hit₂ : h₂.IsListIter it l (i + 1) := by
      obtain ⟨o, a, b⟩ := hit'
      exact ⟨o, E2.one (Ne.symm hei) a, b⟩
    refine wpAny_assign_Tuple hh (items := #[.int i tk, .str js[i] t]) ⟨_, ht₂, rfl, _, rfl⟩ rfl rfl fun h₃ hx₃ => ?_
    have hx : Ext [] h₂ h₃ := fun b o _ e => hx₃ b o (Nat.ne_of_lt (Heap.lt_size e)) e
    have F₄ := fr0 F₃ hx
    have N₄ := news0 N₃ hx
    have D₄ := hx _ _ List.not_mem_nil D₃
    have he₄ := hx _ _ List.not_mem_nil he₂
    have hit₄ : h₃.IsListIter it l (i + 1) := by
      obtain ⟨o, a, b⟩ := hit₂
      exact ⟨o, hx _ _ List.not_mem_nil a, b⟩
    show wpAny _ _ (do holding [.str js[i] t] (assign (.Name inn pi) cenv (.int i tk)); do holding [] (assign (.Name kn pk) cenv (.str js[i] t)); pure ()) _ _ _
    refine wpAny_bind (wpAny_holding (wpAny_assign_Name (wpAny_storeName_local hil F₄.ns (fun h₅ hn₅ hs₅ => ?_) hp)))
    have F₅ := F₄.set hn₅ hs₅
    have N₅ := N₄.set hs₅
    refine wpAny_bind (wpAny_holding (wpAny_assign_Name (wpAny_storeName_local hkl F₅.ns (fun h₆ hn₆ hs₆ => wpAny_pure ?_) hp)))
    have F₆ := F₅.set hn₆ hs₆
    have N₆ := N₅.set hs₆
    have st : ∀ b o, b ≠ cenv.locals → h₃.get? b = some o → h₆.get? b = some o := fun b o nb eb => (hs₆.2 b nb).trans ((hs₅.2 b nb).trans eb)
    refine nameE_L (v := .str js[i] t) F₆ (by simp) ?_ hkk hkl d1
    refine nameE_L (v := .int i tk) F₆ (by simp [Ne.symm hne]) ?_ hkk hil d2
    have D₆ := st _ _ c3 D₄
    have hz : (put js[i] (.int (i : Int)) (idxD (js.take i))) = idxD (js.take (i + 1)) := idxD_put hjs (by simp [hlt])
    refine set_D (u := .int (i : Int)) D₆ P₁.isd ⟨tk, rfl⟩ (by rw [hz, idxD_len, List.length_take]; omega) fun h₇ tk₇ c => ?_
    obtain ⟨es2, ep2, gD, I2⟩ := c.2
    have eD : Ext [D] h₆ h₇ := changed_ext c
    rw [hz] at I2
    refine ⟨js.length - (i + 1), by omega, i + 1, hlt, rfl, _, tk₇, _, .str js[i] t, _, _, _, rfl, fr_ext F₆ eD (by simpa using Ne.symm c3) (fun a ha => by rw [List.mem_singleton.mp ha]; exact g3), news_ext N₆ eD fun q hq => by simpa using n3 q hq, ?_, ?_, gD, P₁.with I2⟩
    · exact eD.one (Ne.symm heD) (st _ _ c1 he₄)
    · obtain ⟨o, a, b⟩ := hit₄
      exact ⟨o, eD.one (Ne.symm hiD) (st _ _ c2 a), b⟩
  · have hin : i = js.length := by omega
    subst hin
    refine wpAny_pyNext_enum_end (s := { s with heap := h, toks := tk }) hh he₁ hit₁ hls (by simp [S.1]) fun h' hx => ?_
    have E1 : Ext [it] h h' := fun b o nb eb => hx b o (by simpa using nb) eb
    rw [List.take_length] at P₁
    exact done h' tk m' oD es ep (fr_ext F₁ E1 (by simpa using Ne.symm c2) (fun a ha => by rw [List.mem_singleton.mp ha]; exact g2)) (news_ext N₁ E1 fun q hq => by simpa using n2 q hq) (E1.one hiD hD₁) P₁
end
section
variable {prog : Program} {w : World} {A : Around} {E : Value → Shared → Prop} {s : Shared} {env : Env} {G : Heap} {L : Addr} {m : Str → Option Value} {news : List (Addr × Obj)} {Q : Value → Shared → Prop}
theorem U_enum {l : Addr} {lo : Obj} {vs : List Value} {epl : Nat} (F : Fr G L s.heap m) (N : News G L s.heap news) (hl : (l, lo) ∈ news) (hlc : lo.cls = .type "list") (hld : lo.data = .seq vs.toArray epl)
    (h : ∀ e it h', Fr G L h' m → News G L h' news → IsEnum h' e it 0 .none → h'.IsListIter it l 0 → (∀ q ∈ news, q.1 < it) → @LT.lt Nat _ L it → @LT.lt Nat _ it e → Q (.ref e) { s with heap := h' }) :
    wpAny (model prog w) A (call (.type "enumerate") [.ref l]) Q E s := by
  refine call_enumerate_list (items := vs.toArray) ⟨lo, (N _ hl).1, hlc, epl, hld⟩ fun h' he hit hsz hk => ?_
  have e : Ext [] s.heap h' := fun b o _ x => hk b o x
  exact h _ _ h' (fr0 F e) (news0 N e) he hit (fun q hq => Heap.lt_size (N q hq).1) F.ns.lt (Nat.lt_succ_self _)
theorem en_block {kn inn : Str} {p1 p2 pi pk tp pos : Pos} {x1 : Nat} {iter : PySem.Expr} {scope : Scope} {cl : List (Str × Addr)} {e it l : Addr} {lo : Obj} {vs : List Value} {js : List Str} {epl : Nat}
    (hh : A.handled = none) (hcell : ∀ y ∈ scope.names, y.2 ≠ .cell) (hkind : scope.kind = .function) (hk : scope.names.lookup kn = some .local) (hi : scope.names.lookup inn = some .local) (hne : kn ≠ inn) (d1 : (kn == ("__debug__" : Str)) = false) (d2 : (inn == ("__debug__" : Str)) = false) (hloc : env.locals = L) (hjs : js.Nodup) (hn : js.length ≤ 900)
    (F : Fr G L s.heap m) (N : News G L s.heap news) (hl : (l, lo) ∈ news) (hlc : lo.cls = .type "list") (hld : lo.data = .seq vs.toArray epl) (S : StrsAre vs js) (he : IsEnum s.heap e it 0 .none) (hit : s.heap.IsListIter it l 0) (l1 : ∀ q ∈ news, q.1 < it) (l2 : @LT.lt Nat _ L it) (l3 : @LT.lt Nat _ it e)
    (done : ∀ d h tk lD es ep, (∀ q ∈ news, q.1 < d) → Fr G L h m → News G L h ((d, lD) :: news) → PD lD (idxD js) es ep → Q (.ref d) { s with heap := h, toks := tk }) :
    wpAny (model prog w) A newDict (fun acc s₃ => wpAny (model prog w) A (newFunctionEnv scope env.globals cl [] env.qual none .none (some env)) (fun cenv s₄ =>
      codeAny (model prog w) A (.compStart (.DictComp (.Name kn p1) (.Name inn p2) [⟨.Tuple [.Name inn pi, .Name kn pk] x1 tp, iter, [], 0⟩] scope pos) 0 (.ref e) acc { cenv with scope := relabel scope env }) (compPost (model prog w) A NoE none Q acc cenv.locals) s₄) NoE s₃) NoE s := by
  subst hloc
  obtain ⟨oL, esL, epL, hL, rL⟩ := id F.ns
  refine wpAny_newObj_type (wpAny_newFunctionEnv hcell (by intro y hy; simp at hy) (fun h₁ hns₁ hsb₁ => ?_) hkind)
  dsimp only at hns₁ hsb₁ ⊢
  generalize hH2 : s.heap.push { cls := .type "dict", dict := none, data := .dict #[] } = H2 at hns₁ hsb₁ ⊢
  have hC : H2.objs.size = s.heap.objs.size + 1 := by rw [← hH2, Heap.size_push]
  have hDC : s.heap.objs.size ≠ H2.objs.size := by rw [hC]; exact Nat.ne_of_lt (Nat.lt_succ_self _)
  have old : ∀ b o, s.heap.get? b = some o → h₁.get? b = some o := fun b o e => hsb₁.extBut b o (by rw [hC]; exact Nat.ne_of_lt (Nat.lt_succ_of_lt (Heap.lt_size e))) (Heap.get?_push_of_some _ (hH2 ▸ Heap.get?_push_of_some _ e))
  have gn : ∀ a, @LT.lt Nat _ env.locals a → G.get? a = none := fun a ha => Heap.get?_none_of_le (Nat.le_trans F.above (Nat.le_of_lt ha))
  have ltL : env.locals < s.heap.objs.size := Heap.lt_size hL
  have lte : e < s.heap.objs.size := Heap.lt_size he
  have ltit : it < s.heap.objs.size := Nat.lt_trans l3 lte
  have ltN : ∀ q ∈ news, q.1 < s.heap.objs.size := fun q hq => Heap.lt_size (N q hq).1
  have FC : Fr G H2.objs.size h₁ (fun _ => none) := ⟨by simpa using hns₁, fun b o e => old b o (F.keep b o e), by
    rw [hC]; exact Nat.le_succ_of_le (Nat.le_of_lt (Nat.lt_of_le_of_lt F.above ltL))⟩
  have hDobj : h₁.get? s.heap.objs.size = some { cls := .type "dict", dict := none, data := .dict #[] } := hsb₁.extBut _ _ hDC (Heap.get?_push_of_some _ (hH2 ▸ Heap.get?_push_size _ rfl))
  have NC : News G H2.objs.size h₁ ((env.locals, oL) :: news) := fun q hq => by
    rcases List.mem_cons.mp hq with rfl | hq
    · refine ⟨old _ _ hL, by rw [hC]; exact Nat.ne_of_lt (Nat.lt_succ_of_lt ltL), ?_⟩
      cases z : G.get? env.locals with
      | none => rfl
      | some o => exact absurd (Heap.lt_size z) (Nat.not_lt.mpr F.above)
    · have z := N q hq
      exact ⟨old _ _ z.1, by rw [hC]; exact Nat.ne_of_lt (Nat.lt_succ_of_lt (ltN q hq)), z.2.2⟩
  have lLe : @LT.lt Nat _ env.locals e := Nat.lt_trans l2 l3
  have loop : codeAny (model prog w) A (.compLoop (.DictComp (.Name kn p1) (.Name inn p2) [⟨.Tuple [.Name inn pi, .Name kn pk] x1 tp, iter, [], 0⟩] scope pos) 0 (.ref e) (.ref s.heap.objs.size) (compEnvC scope cl H2.objs.size env))
        (compPost (model prog w) A NoE none Q (.ref s.heap.objs.size) H2.objs.size) { s with heap := h₁, toks := s.toks + ([] : List (Str × Value)).length } := by
    refine en_loop (s := { s with heap := h₁, toks := s.toks + ([] : List (Str × Value)).length }) (cenv := compEnvC scope cl H2.objs.size env) (nw := (env.locals, oL) :: news) hh (lookup_relabel_local hk) (lookup_relabel_local hi) (by simp [compEnvC, relabel, hkind]) hne d1 d2 hjs hn FC NC (.tail _ hl) hlc hld S (old _ _ he) ?_ hDobj ⟨rfl, rfl, rfl, .nil, Nat.zero_le _⟩ ?_ (Nat.ne_of_gt l3) (Nat.ne_of_gt lte) (Nat.ne_of_gt ltit) ?_
    · obtain ⟨o, a, b⟩ := hit
      exact ⟨o, old _ _ a, b⟩
    · intro a ha
      simp only [List.mem_cons, List.not_mem_nil, or_false] at ha
      have far : ∀ b, b < s.heap.objs.size → b ≠ (compEnvC scope cl H2.objs.size env).locals := fun b hb => Nat.ne_of_lt (show b < H2.objs.size from by rw [hC]; exact Nat.lt_succ_of_lt hb)
      rcases ha with rfl | rfl | rfl
      · refine ⟨gn _ lLe, far _ lte, fun q hq => ?_⟩
        rcases List.mem_cons.mp hq with rfl | hq
        · exact Nat.ne_of_lt lLe
        · exact Nat.ne_of_lt (Nat.lt_trans (l1 q hq) l3)
      · refine ⟨gn _ l2, far _ ltit, fun q hq => ?_⟩
        rcases List.mem_cons.mp hq with rfl | hq
        · exact Nat.ne_of_lt l2
        · exact Nat.ne_of_lt (l1 q hq)
      · refine ⟨gn _ ltL, hDC, fun q hq => ?_⟩
        rcases List.mem_cons.mp hq with rfl | hq
        · exact Nat.ne_of_lt ltL
        · exact Nat.ne_of_lt (ltN q hq)
    · intro h tk m' oD es ep F₁ N₁ hD P
      refine ⟨m', F₁.ns, fun h'' sb => ?_⟩
      have NN : News G H2.objs.size h ((s.heap.objs.size, oD) :: (env.locals, oL) :: news) := fun q hq => by
        rcases List.mem_cons.mp hq with rfl | hq
        · exact ⟨hD, hDC, gn _ ltL⟩
        · exact N₁ q hq
      obtain ⟨F₂, N₂⟩ := comp_back (s := s) F hL F₁ NN (gn _ (by rw [hC]; exact Nat.lt_succ_of_lt ltL)) sb (fun q hq => (N q hq).2.1) (Nat.ne_of_gt ltL)
      exact done _ h'' tk oD es ep ltN F₂ N₂ P
  exact codeAny_compStart_dict loop (wpAny_pyIter_enum (s := { s with heap := h₁, toks := s.toks + ([] : List (Str × Value)).length }) (old _ _ he) loop)
theorem U_dictcompT {kx vx iter : PySem.Expr} {elts : List PySem.Expr} {x1 : Nat} {tp pos : Pos} {ifs : List PySem.Expr} {scope : Scope} {cl : List (Str × Addr)}
    (hclos : closureFor scope env = pure cl) (hkind : scope.kind = .function) (hnames : ∀ y ∈ scope.names, y.2 = .local → scope.names.lookup y.1 = some .local)
    (h : wpAny (model prog w) A (eval iter env) (fun xv s₁ => wpAny (model prog w) A (pyIter xv) (fun it s₂ => wpAny (model prog w) A newDict (fun acc s₃ => wpAny (model prog w) A (newFunctionEnv scope env.globals cl [] env.qual none .none (some env)) (fun cenv s₄ =>
      codeAny (model prog w) A (.compStart (.DictComp kx vx [⟨.Tuple elts x1 tp, iter, ifs, 0⟩] scope pos) 0 it acc { cenv with scope := relabel scope env }) (compPost (model prog w) A NoE none Q acc cenv.locals) s₄) NoE s₃) NoE s₂) NoE s₁) NoE s)
    (hs : ∀ x, foldedSetIterable iter env x = pure x := by intro _; rfl) :
    wpAny (model prog w) A (eval (.DictComp kx vx [⟨.Tuple elts x1 tp, iter, ifs, 0⟩] scope pos) env) Q NoE s := by
  rw [arm_eval_DictComp]
  exact wpAny_comprehension_free (use := none) rfl hs hclos hkind hnames h
end
theorem filt_all {α : Type} (l : List α) : l.filter (fun _ => true) = l := List.filter_eq_self.mpr fun _ _ => rfl
theorem keys_len (D : DD) : (Keys D).length = D.length := by simp [Keys]
theorem strs_list {lD : Obj} {ys : List Value} {n : Nat} (c : lD.cls = .type "list") (d : lD.data = .seq ys.toArray n) : True := trivial
section
variable {prog : Program} {w : World} {A : Around} {s : Shared} {env : Env} {G : Heap} {L : Addr} {m : Str → Option Value} {news : List (Addr × Obj)} {Q : Value → Shared → Prop}
theorem iter_keysK (hh : A.handled = none) {I d : Addr} {o : Obj} {D : DD} {es : List DictEntry} {ep : Nat} (T : IsD o D es ep) (hne : d ≠ I) :
    Iter prog w A I (Keys D).length (SKeys d D.length ep) [(d, o)] (fun i v _ => ∃ k t, (Keys D)[i]? = some k ∧ v = .str k t) := by
  rw [keys_len]
  refine Iter.map (iter_keys hh T hne) (fun i v h p => ?_) fun i v h h' p _ => p
  obtain ⟨k, u, e, t, rfl⟩ := p
  exact ⟨k, t, by simp [Keys, e], rfl⟩
theorem tst_in {x held : Str} {p2 p3 p4 : Pos} {cenv : Env} {C : Addr} {k : Str} {t : Tok} {h : Heap} {tk : Nat} {own : List (Addr × Obj)} {m₁ : Str → Option Value} {H cH : Addr} {oh oH : Obj} {D : DD} {es : List DictEntry} {ep : Nat}
    (hC : cenv.locals = C) (F : Fr G C h (fun y => if y = x then some (.str k t) else m₁ y)) (N : News G C h own) (hH : (H, oh) ∈ own) (pd : PD oh D es ep) (hsH : (H == sysModules) = false) (mH : (cH, oH) ∈ own) (dH : oH.data = .cell (some (.ref H)))
    (k1 : cenv.kindOf x = some .local) (k2 : cenv.kindOf held = some .cell) (k3 : cenv.cells.lookup held = some cH) (k6 : cenv.scope.kind = .function) (b1 : (x == ("__debug__" : Str)) = false) (b2 : (held == ("__debug__" : Str)) = false) :
    wpAny (model prog w) A (forIn [PySem.Expr.Compare (.Name x p2) [.In] [.Name held p3] p4] true fun c r => if r = true then do let ok ← isTrue c cenv (eval c cenv); pure (ForInStep.yield ok) else pure (ForInStep.yield r)) (fun ok s' => ok = (lk k D).isSome ∧ ∃ tk', s' = { s with heap := h, toks := tk' }) NoE { s with heap := h, toks := tk } := by
  subst hC
  refine test1 (wpAny_isTrue_Compare1 ?_ (by with_unfolding_all rfl))
  refine nameE_L (v := .str k t) F (by simp) ?_ k6 k1 b1
  refine nameE_C N k3 mH dH ?_ k6 k2 b2
  refine p_in (N _ hH).1 pd hsH fun tk' => ?_
  exact wpAny_truthy_bool ⟨rfl, tk', rfl⟩
theorem tst_notin {x held : Str} {p2 p3 p4 : Pos} {cenv : Env} {C : Addr} {k : Str} {t : Tok} {h : Heap} {tk : Nat} {own : List (Addr × Obj)} {m₁ : Str → Option Value} {H cH : Addr} {oh oH : Obj} {D : DD} {es : List DictEntry} {ep : Nat}
    (hC : cenv.locals = C) (F : Fr G C h (fun y => if y = x then some (.str k t) else m₁ y)) (N : News G C h own) (hH : (H, oh) ∈ own) (pd : PD oh D es ep) (hsH : (H == sysModules) = false) (mH : (cH, oH) ∈ own) (dH : oH.data = .cell (some (.ref H)))
    (k1 : cenv.kindOf x = some .local) (k2 : cenv.kindOf held = some .cell) (k3 : cenv.cells.lookup held = some cH) (k6 : cenv.scope.kind = .function) (b1 : (x == ("__debug__" : Str)) = false) (b2 : (held == ("__debug__" : Str)) = false) :
    wpAny (model prog w) A (forIn [PySem.Expr.Compare (.Name x p2) [.NotIn] [.Name held p3] p4] true fun c r => if r = true then do let ok ← isTrue c cenv (eval c cenv); pure (ForInStep.yield ok) else pure (ForInStep.yield r)) (fun ok s' => ok = (!(lk k D).isSome) ∧ ∃ tk', s' = { s with heap := h, toks := tk' }) NoE { s with heap := h, toks := tk } := by
  subst hC
  refine test1 (wpAny_isTrue_Compare1 ?_ (by with_unfolding_all rfl))
  refine nameE_L (v := .str k t) F (by simp) ?_ k6 k1 b1
  refine nameE_C N k3 mH dH ?_ k6 k2 b2
  refine p_notin (N _ hH).1 pd hsH fun tk' => ?_
  exact wpAny_truthy_bool ⟨rfl, tk', rfl⟩
theorem tst_notinl {x held : Str} {p2 p3 p4 : Pos} {cenv : Env} {C : Addr} {k : Str} {t : Tok} {h : Heap} {tk : Nat} {own : List (Addr × Obj)} {m₁ : Str → Option Value} {H cH : Addr} {oh oH : Obj} {vs : List Value} {js : List Str} {ep : Nat}
    (hC : cenv.locals = C) (F : Fr G C h (fun y => if y = x then some (.str k t) else m₁ y)) (N : News G C h own) (hH : (H, oh) ∈ own) (hc : oh.cls = .type "list") (hd : oh.data = .seq vs.toArray ep) (S : StrsAre vs js) (mH : (cH, oH) ∈ own) (dH : oH.data = .cell (some (.ref H)))
    (k1 : cenv.kindOf x = some .local) (k2 : cenv.kindOf held = some .cell) (k3 : cenv.cells.lookup held = some cH) (k6 : cenv.scope.kind = .function) (b1 : (x == ("__debug__" : Str)) = false) (b2 : (held == ("__debug__" : Str)) = false) :
    wpAny (model prog w) A (forIn [PySem.Expr.Compare (.Name x p2) [.NotIn] [.Name held p3] p4] true fun c r => if r = true then do let ok ← isTrue c cenv (eval c cenv); pure (ForInStep.yield ok) else pure (ForInStep.yield r)) (fun ok s' => ok = (!(js.any (· == k))) ∧ ∃ tk', s' = { s with heap := h, toks := tk' }) NoE { s with heap := h, toks := tk } := by
  subst hC
  refine test1 (wpAny_isTrue_Compare1 ?_ (by with_unfolding_all rfl))
  refine nameE_L (v := .str k t) F (by simp) ?_ k6 k1 b1
  refine nameE_C N k3 mH dH ?_ k6 k2 b2
  refine notin_list_strs ⟨oh, (N _ hH).1, hc, ep, hd⟩ S.kit ?_
  exact wpAny_truthy_bool ⟨rfl, tk, rfl⟩
/-- {x: held[x] for x in texts} -/
theorem look_block {x held : Str} {iter : PySem.Expr} {px p1 p2 p3 p4 pos : Pos} {scope : Scope} {cl : List (Str × Addr)} {I : Addr} {oI : Obj} {S : Nat → Obj → Prop} {keep : List (Addr × Obj)} {H cH : Addr} {oh oH : Obj} {D D' : DD} {es : List DictEntry} {ep : Nat}
    (hcell : ∀ y ∈ scope.names, y.2 ≠ .cell) (hkind : scope.kind = .function) (hx : scope.names.lookup x = some .local) (hloc : env.locals = L) (hn : (Keys D').length ≤ 900) (hnd : (Keys D').Nodup) (hsub : ∀ p ∈ D', lk p.1 D = some p.2)
    (F : Fr G L s.heap m) (N : News G L s.heap ((I, oI) :: news)) (IT : Iter prog w A I (Keys D').length S keep (fun i v _ => ∃ k t, (Keys D')[i]? = some k ∧ v = .str k t)) (hS : S 0 oI) (hIk : ∀ q ∈ keep, q.1 ≠ I) (hoff : ∀ q ∈ news, q.1 ≠ I) (hkeep : ∀ q ∈ keep, q ∈ news ∨ G.get? q.1 = some q.2)
    (hH : (H, oh) ∈ news) (pd : PD oh D es ep) (mH : (cH, oH) ∈ news) (dH : oH.data = .cell (some (.ref H)))
    (k1 : ∀ C, (compEnvC scope cl C env).kindOf x = some .local) (k2 : ∀ C, (compEnvC scope cl C env).kindOf held = some .cell) (k3 : ∀ C, (compEnvC scope cl C env).cells.lookup held = some cH) (k6 : ∀ C, (compEnvC scope cl C env).scope.kind = .function) (b1 : (x == ("__debug__" : Str)) = false) (b2 : (held == ("__debug__" : Str)) = false)
    (done : ∀ d h tk lD es' ep', (∀ q ∈ news, q.1 < d) → Fr G L h m → News G L h ((d, lD) :: news) → PD lD D' es' ep' → Q (.ref d) { s with heap := h, toks := tk }) :
    wpAny (model prog w) A newDict (fun acc s₃ => wpAny (model prog w) A (newFunctionEnv scope env.globals cl [] env.qual none .none (some env)) (fun cenv s₄ =>
      codeAny (model prog w) A (.compStart (.DictComp (.Name x p1) (.Subscript (.Name held p2) (.Name x p3) p4) [⟨.Name x px, iter, [], 0⟩] scope pos) 0 (.ref I) acc { cenv with scope := relabel scope env }) (compPost (model prog w) A NoE none Q acc cenv.locals) s₄) NoE s₃) NoE s := by
  refine dc_block (keep := keep) hcell hkind hx hn hloc F N IT hS hIk hoff (fun i ys nw => nw = news ∧ ys = D'.take i) ⟨rfl, by simp⟩ ?b ?c (fun _ _ _ _ _ _ p _ => p) ?turn ?fin
  case b => rintro i ys nw ⟨_, rfl⟩; exact List.length_take_le ..
  case c => rintro i ys nw ⟨rfl, _⟩; exact hkeep
  case turn =>
    rintro D2 C i v ys nw h tk oI' lD oL m₁ lD1 lD2 lDC hi ⟨k, t, hk, rfl⟩ ⟨rfl, rfl⟩ ho F5 N5
    have mm : ∀ q ∈ nw, q ∈ (I, oI') :: (D2, lD) :: (L, oL) :: nw := fun q hq => .tail _ (.tail _ (.tail _ hq))
    rw [keys_len] at hi
    have hk' : D'[i].1 = k := by simp only [Keys, List.getElem?_map, List.getElem?_eq_getElem hi, Option.map_some, Option.some.injEq] at hk; exact hk
    have hm : D'[i] ∈ D' := List.getElem_mem hi
    have hu := hsub _ hm
    rw [hk'] at hu
    refine test0 ?_
    simp only [if_true]
    refine nameE_L (v := .str k t) F5 (by simp) ?_ (k6 C) (k1 C) b1
    refine Subscript_ ?_
    refine nameE_C N5 (k3 C) (mm _ mH) dH ?_ (k6 C) (k2 C) b2
    refine nameE_L (v := .str k t) F5 (by simp) ?_ (k6 C) (k1 C) b1
    refine p_tail (N5 _ (mm _ hH)).1 pd hu fun v tk' hv => ?_
    refine ⟨k, t, _, rfl, hv, h, tk', _, _, nw, rfl, F5, N5, .head _, .tail _ (.head _), .tail _ (.tail _ (.head _)), mm, ho, rfl, ?_⟩
    have e := filt_put (f := fun _ => true) (k := k) (u := D'[i].2) hnd (by rw [List.getElem?_eq_getElem hi, ← hk']) rfl
    simpa only [filt_all] using e
  case fin =>
    rintro d h tk lD ys nw ld ⟨rfl, rfl⟩ F5 N5 nd ⟨es', ep', pd'⟩
    rw [keys_len, List.take_length] at pd'
    exact done d h tk lD es' ep' (fun q hq => ld q (.tail _ hq)) F5 N5 pd'
/-- [(x, value) for x in texts] -/
theorem pr_block {x : Str} {vx iter : PySem.Expr} {px p1 p2 pos : Pos} {x1 : Nat} {scope : Scope} {cl : List (Str × Addr)} {I : Addr} {oI : Obj} {S : Nat → Obj → Prop} {keep : List (Addr × Obj)} {ks : List Str} (val : Str → V)
    (hcell : ∀ y ∈ scope.names, y.2 ≠ .cell) (hkind : scope.kind = .function) (hx : scope.names.lookup x = some .local) (hloc : env.locals = L) (hn : ks.length ≤ 900)
    (F : Fr G L s.heap m) (N : News G L s.heap ((I, oI) :: news)) (IT : Iter prog w A I ks.length S keep (fun i v _ => ∃ k t, ks[i]? = some k ∧ v = .str k t)) (hS : S 0 oI) (hIk : ∀ q ∈ keep, q.1 ≠ I) (hlt : ∀ q ∈ news, q.1 < I) (hkeep : ∀ q ∈ keep, q ∈ news ∨ G.get? q.1 = some q.2)
    (k1 : ∀ C, (compEnvC scope cl C env).kindOf x = some .local) (k6 : ∀ C, (compEnvC scope cl C env).scope.kind = .function) (b1 : (x == ("__debug__" : Str)) = false)
    (hst : ∀ env : Env, starEach [vx] env = (false, eval vx env) :: starEach [] env)
    (elem : ∀ C k t h tk own (m₁ : Str → Option Value), k ∈ ks → Fr G C h (fun y => if y = x then some (.str k t) else m₁ y) → News G C h own → (∀ q ∈ news, q ∈ own) →
      wpAny (model prog w) A (eval vx (compEnvC scope cl C env)) (fun v s' => VIs (val k) v ∧ ∃ h' tk', s' = { s with heap := h', toks := tk' } ∧ Fr G C h' (fun y => if y = x then some (.str k t) else m₁ y) ∧ News G C h' own) NoE { s with heap := h, toks := tk })
    (done : ∀ d h tk lD (ys : List Value) n tl, (∀ q ∈ news, q.1 < d) → AllNe d tl → Fr G L h m → News G L h ((d, lD) :: (news ++ tl)) → lD.cls = .type "list" → lD.dict = none → lD.data = .seq ys.toArray n → PairsIn tl ys.toArray (ks.map fun k => (k, val k)) → (∀ q ∈ tl, I < q.1 ∧ q.2.cls = .type "tuple") → Q (.ref d) { s with heap := h, toks := tk }) :
    wpAny (model prog w) A (newList []) (fun acc s₃ => wpAny (model prog w) A (newFunctionEnv scope env.globals cl [] env.qual none .none (some env)) (fun cenv s₄ =>
      codeAny (model prog w) A (.compStart (.ListComp (.Tuple [.Name x p1, vx] x1 p2) [⟨.Name x px, iter, [], 0⟩] scope pos) 0 (.ref I) acc { cenv with scope := relabel scope env }) (compPost (model prog w) A NoE none Q acc cenv.locals) s₄) NoE s₃) NoE s := by
  refine lc_block (keep := keep) hcell hkind hx hn hloc F N IT hS hIk (fun q hq => Nat.ne_of_lt (hlt q hq)) (fun i ys nw => ∃ tl, nw = news ++ tl ∧ PairsIn tl ys.toArray ((ks.take i).map fun k => (k, val k)) ∧ (∀ q ∈ tl, I < q.1 ∧ q.2.cls = .type "tuple")) ⟨[], by simp, pairs_nil, fun _ h => nomatch h⟩ ?b ?c (fun _ _ _ _ _ _ p _ => p) ?turn ?fin
  case b =>
    rintro i ys nw ⟨tl, rfl, P, _⟩
    have := P.1
    simp at this
    omega
  case c =>
    rintro i ys nw ⟨tl, rfl, _⟩ q hq
    exact (hkeep q hq).imp (List.mem_append_left _) id
  case turn =>
    rintro D2 C i v ys nw h tk oI' lD oL m₁ lD1 lD2 lDC hi ⟨k, t, hk, rfl⟩ ⟨tl, rfl, P, tt⟩ ho F5 N5
    have mm : ∀ q ∈ news ++ tl, q ∈ (I, oI') :: (D2, lD) :: (L, oL) :: (news ++ tl) := fun q hq => .tail _ (.tail _ (.tail _ hq))
    refine test0 ?_
    simp only [if_true]
    refine Tuple_ (spliced_more (nameE_L (v := .str k t) F5 (by simp) (spliced_more (wpAny_mono (elem C k t h tk _ m₁ (List.mem_of_getElem? hk) F5 N5 fun q hq => mm q (List.mem_append_left _ hq)) (fun v s' hv => ?_) fun _ _ x => x) (hst _)) (k6 C) (k1 C) b1))
    refine spliced_none ?_
    obtain ⟨hv, h', tk', rfl, F6, N6⟩ := hv
    refine wpAny_newTuple ?_
    obtain ⟨F7, N7, l7⟩ := news_push (s := { s with heap := h', toks := tk' }) (o := tup2 (.str k t) v) F6 N6
    have lI : I < h'.objs.size := l7 _ (.head _)
    refine ⟨_, tk', _, _, (news ++ ((h'.objs.size, tup2 (.str k t) v) :: tl)), rfl, F7, N7, .tail _ (.head _), .tail _ (.tail _ (.head _)), .tail _ (.tail _ (.tail _ (.head _))), fun q hq => ?_, fun q hq => ?_, _, rfl, ?_, ?_⟩
    · rcases List.mem_append.mp hq with hq | hq
      · exact .tail _ (mm q (List.mem_append_left _ hq))
      · rcases List.mem_cons.mp hq with rfl | hq
        · exact .head _
        · exact .tail _ (mm q (List.mem_append_right _ hq))
    · rcases List.mem_append.mp hq with hq | hq
      · exact ho q (List.mem_append_left _ hq)
      · rcases List.mem_cons.mp hq with rfl | hq
        · exact ⟨Nat.ne_of_gt lI, Nat.ne_of_gt (l7 _ (.tail _ (.head _))), Nat.ne_of_gt (l7 _ (.tail _ (.tail _ (.head _))))⟩
        · exact ho q (List.mem_append_right _ hq)
    · have e2 : (ks.take (i + 1)).map (fun k => (k, val k)) = (ks.take i).map (fun k => (k, val k)) ++ [(k, val k)] := by rw [List.take_add_one, hk]; simp
      rw [e2]
      exact PairsIn.snoc P hv
    · intro q hq
      rcases List.mem_cons.mp hq with rfl | hq
      · exact ⟨lI, rfl⟩
      · exact tt q hq
  case fin =>
    rintro d h tk lD ys nw ld ⟨tl, rfl, P, tt⟩ F5 N5 nd ⟨c1, c2, n, c3⟩
    rw [List.take_length] at P
    exact done d h tk lD ys n tl (fun q hq => ld q (.tail _ hq)) (allNe_of fun q hq => nd q (List.mem_append_right _ hq)) F5 N5 c1 c2 c3 P tt
end
theorem lk_keys {k : Str} : ∀ {D : DD}, (lk k D).isSome = true ↔ k ∈ Keys D
  | [] => by simp [lk, Keys]
  | (x, v) :: D => by
    by_cases e : x = k
    · simp [lk, Keys, e]
    · have ih := lk_keys (k := k) (D := D)
      simp only [lk, if_neg e, ih]
      simp [Keys, Ne.symm e]
theorem lk_idx {js : List Str} {k : Str} : (lk k (idxD js)).isSome = js.any (· == k) := by
  rw [Bool.eq_iff_iff, lk_keys, keys_idxD, List.any_eq_true]
  constructor
  · exact fun h => ⟨k, h, by simp⟩
  · rintro ⟨x, hx, e⟩
    have : x = k := by simpa using e
    exact this ▸ hx
def idxOf (js : List Str) (k : Str) : Int := match lk k (idxD js) with | some (.int i) => i | _ => 0
theorem idx_at {js : List Str} (hn : js.Nodup) {i : Nat} (hi : i < js.length) : lk js[i] (idxD js) = some (.int (i : Int)) := by
  refine mem_lk (by rw [keys_idxD]; exact hn) ?_
  unfold idxD
  refine List.mem_map.mpr ⟨(js[i], i), ?_, rfl⟩
  rw [List.mem_zipIdx_iff_getElem?]
  simp [hi]
theorem idxOf_at {js : List Str} (hn : js.Nodup) {i : Nat} (hi : i < js.length) : idxOf js js[i] = i := by
  unfold idxOf; rw [idx_at hn hi]
theorem idx_some {js : List Str} (hn : js.Nodup) {k : Str} (h : (lk k (idxD js)).isSome = true) : lk k (idxD js) = some (.int (idxOf js k)) := by
  rw [lk_keys, keys_idxD] at h
  obtain ⟨i, hi, rfl⟩ := List.getElem_of_mem h
  rw [idxOf_at hn hi]; exact idx_at hn hi
theorem idx_rows {js : List Str} (hn : js.Nodup) : js.Pairwise (fun a b => idxOf js a ≤ idxOf js b) := by
  rw [List.pairwise_iff_getElem]
  intro i j hi hj hij
  rw [idxOf_at hn hi, idxOf_at hn hj]; omega
/-- the texts of an order, in its order -/
theorem head_row {js ks' : List Str} {D : DD} (hn : js.Nodup) (hd : (Keys D).Nodup) (p : ks'.Perm ((Keys D).filter fun k => (lk k (idxD js)).isSome)) (hp : ks'.Pairwise (fun a b => idxOf js a ≤ idxOf js b)) : ks' = js.filter fun k => (lk k D).isSome := by
  have p2 : ((Keys D).filter fun k => (lk k (idxD js)).isSome).Perm (js.filter fun k => (lk k D).isSome) := by
    rw [List.perm_ext_iff_of_nodup (hd.filter _) (hn.filter _)]
    intro k
    rw [List.mem_filter, List.mem_filter, lk_keys, lk_keys, keys_idxD]
    exact And.comm
  refine List.Perm.eq_of_pairwise (le := fun a b => idxOf js a ≤ idxOf js b) (fun x y hx hy h1 h2 => ?_) hp ((idx_rows hn).filter _) (p.trans p2)
  have hy' := (List.mem_filter.mp hy).1
  have hx' := (List.mem_filter.mp ((p.trans p2).mem_iff.mp hx)).1
  obtain ⟨i, hi, rfl⟩ := List.getElem_of_mem hx'
  obtain ⟨j, hj, rfl⟩ := List.getElem_of_mem hy'
  rw [idxOf_at hn hi, idxOf_at hn hj] at h1 h2
  have : i = j := by omega
  subst this; rfl
/-- a dictionary's keys, those of an order first, the others by name -/
def CanonIs (D : DD) (js ks : List Str) : Prop := ∃ t, ks = js.filter (fun k => (lk k D).isSome) ++ t ∧ t.Perm ((Keys D).filter fun k => !(js.any (· == k))) ∧ sortedS t = true
theorem CanonIs.one {D : DD} {js ks ks' : List Str} (a : CanonIs D js ks) (b : CanonIs D js ks') : ks = ks' := by
  obtain ⟨t, rfl, p, h⟩ := a
  obtain ⟨t', rfl, p', h'⟩ := b
  rw [sorted_one (p.trans p'.symm) h h']
theorem CanonIs.plain {D : DD} {ks : List Str} (a : CanonIs D [] ks) : ks.Perm (Keys D) ∧ sortedS ks = true := by
  obtain ⟨t, rfl, p, h⟩ := a
  simpa [filt_all] using And.intro p h
theorem CanonIs.len {D : DD} {js ks : List Str} (a : CanonIs D js ks) : ks.length ≤ js.length + D.length := by
  obtain ⟨t, rfl, p, h⟩ := a
  have h1 := p.length_eq
  have h2 := List.length_filter_le (fun k => !(js.any (· == k))) (Keys D)
  have h3 := List.length_filter_le (fun k => (lk k D).isSome) js
  have h4 := keys_len D
  rw [List.length_append]; omega
theorem CanonIs.mem {D : DD} {js ks : List Str} (a : CanonIs D js ks) : ∀ k ∈ ks, k ∈ Keys D := by
  obtain ⟨t, rfl, p, h⟩ := a
  intro k hk
  rcases List.mem_append.mp hk with q | q
  · exact lk_keys.mp (List.mem_filter.mp q).2
  · exact (List.mem_filter.mp (p.mem_iff.mp q)).1
section
variable {w : World} {A : Around} {s : Shared} {G : Heap} {L : Addr} {m : Str → Option Value} {K : Frag} {prog : Program} {p : Program} {loose : List Str} {mean : ExcName → Option Value} {mg mb : Str → Option Value}
/-- a call of lambda k: table[k] -/
theorem U_lam {n : Nat} {own : List (Addr × Obj)} {name qual : Str} {params : Arguments} {mapN kN : Str} {p1 p2 p3 : Pos} {scope : Scope} {cl : List (Str × Addr)} {pm ctv : Value} {f c' cell d : Addr} {oc oC lD : Obj} {vs : Array Value} {t : Tok} {Dm : DD} {es : List DictEntry} {ep : Nat} {k : Str} {tk : Tok} {i : Int}
    (F : Fr G L s.heap m) (X : K.In G) (N : News G L s.heap own) (T : Top p loose mean mg mb G) (RM : Room (n + 3) A) (mf : (f, kla_obj name qual params (.Subscript (.Name mapN p1) (.Name kN p2) p3) scope cl pm c' ctv) ∈ own) (mc : (c', oc) ∈ own) (dc : oc.data = .fields vs) (vc : vs[1]? = some (.str qual t))
    (mC : (cell, oC) ∈ own) (dC : oC.data = .cell (some (.ref d))) (md : (d, lD) ∈ own) (pd : PD lD Dm es ep) (hk : lk k Dm = some (.int i))
    (hbind : bindArgs (kla_fn name qual params (.Subscript (.Name mapN p1) (.Name kN p2) p3) scope cl pm (.ref c') ctv) ⟨[.str k tk], []⟩ = pure [(kN, .str k tk)])
    (hloc : scope.names.lookup kN = some .local) (hfree : scope.names.lookup mapN = some .free) (hcl : cl.lookup mapN = some cell)
    (k1 : ∀ L', (envX qual scope L' f (.ref c') cl).kindOf kN = some .local) (k2 : ∀ L', (envX qual scope L' f (.ref c') cl).kindOf mapN = some .free) (b1 : (kN == ("__debug__" : Str)) = false) (b2 : (mapN == ("__debug__" : Str)) = false) (b3 : (mapN == ("__classdict__" : Str)) = false)
    (hcell : ∀ x ∈ scope.names, x.2 ≠ .cell) (hco : scope.isCoroutine = false) (hgen : scope.isGenerator = false) (hkd : scope.kind = .function) :
    wpAny (model prog w) A (call (.ref f) [.str k tk]) (KskEnd G L m own i s) NoE s := by
  have hS : ∀ q ∈ [(cell, oC), (d, lD)], s.heap.get? q.1 = some q.2 ∧ G.get? q.1 = none := by
    intro q hq
    rcases List.mem_cons.mp hq with rfl | hq
    · exact ⟨(N _ mC).1, (N _ mC).2.2⟩
    · rw [List.mem_singleton.mp hq]; exact ⟨(N _ md).1, (N _ md).2.2⟩
  refine wpAny_call (call_l (n := n + 2) X T F.keep RM [(cell, oC), (d, lD)] hS (N _ mf).1 ⟨c', oc, vs, t, rfl, (N _ mc).1, dc, vc⟩ hbind (by simpa using hloc) (fun g' L' h₁ SG A1 A2 F' N' X' T' L1 RM' => ?_) hcell hco hgen hkd)
  refine Subscript_ ?_
  refine nameX_F N' hcl (.head _) dC ?_ hkd (k2 L') b2 b3
  refine nameX_L (v := .str k tk) F' (by simp) ?_ hkd (k1 L') b1
  refine p_tail (N' _ (.tail _ (.head _))).1 pd hk fun v tk' hv => ?_
  obtain ⟨t', rfl⟩ := hv
  have e : Ext [] s.heap h₁ := ext_S (A2 _ F'.keep) hS N' fun q hq => hq
  exact ⟨h₁, tk', t', rfl, rfl, fr0 F e, news0 N e⟩
end
section
variable {prog : Program} {w : World} {A : Around} {s : Shared} {env : Env} {G : Heap} {L : Addr} {m : Str → Option Value}
/-- what a comprehension leaves -/
def UseQ (G : Heap) (L : Addr) (m : Str → Option Value) (P : Value → List (Addr × Obj) → Prop) (s : Shared) (v : Value) (s'' : Shared) : Prop :=
  ∃ h tk own, s'' = { s with heap := h, toks := tk } ∧ Fr G L h m ∧ News G L h own ∧ P v own
theorem comp_use1 {M : Model} {y : Str} {py : Pos} {P : Value → List (Addr × Obj) → Prop} {acc : Value} {C : Addr} {s' : Shared} {Q : Shared → Prop}
    (hy : env.kindOf y = some .local) (hp : (env.scope.kind == .class || (env.scope.kind == .module && env.locals != env.globals)) = false) (hloc : env.locals = L)
    (hr : ∃ m', s'.heap.Ns C m' ∧ ∀ h', Heap.SameBut C s'.heap h' → UseQ G L m P s acc { s' with heap := h' })
    (done : ∀ h tk own, Fr G L h (fun z => if z = y then some acc else m z) → News G L h own → P acc own → Q { s with heap := h, toks := tk }) :
    wpAny M A (assign (.Name y py) env acc) (fun _ s'' => ∃ m, s''.heap.Ns C m ∧ ∀ h', Heap.SameBut C s''.heap h' → Q { s'' with heap := h' }) NoE s' := by
  subst hloc
  obtain ⟨m', hn, hq⟩ := hr
  obtain ⟨oC, esC, epC, hoC, _⟩ := id hn
  have hLC : env.locals ≠ C := fun e => by
    obtain ⟨h, tk, own, e1, F, _⟩ := hq (s'.heap.update C fun _ => { cls := .none, data := .cell none }) (Heap.SameBut.update ..)
    have e2 : s'.heap.update C (fun _ => { cls := .none, data := .cell none }) = h := congrArg Shared.heap e1
    obtain ⟨o, es, ep, ho, hd, _⟩ := F.ns
    rw [← e2, e, Heap.get?_update_self _ hoC rfl] at ho
    cases ho
    cases hd
  obtain ⟨h0, tk0, own0, e0, F0, N0, p0⟩ := hq s'.heap (Heap.SameBut.refl _ _)
  have e0' : s' = { s with heap := h0, toks := tk0 } := e0
  subst e0'
  dsimp only at hn hq hoC
  refine wpAny_assign_Name (wpAny_storeName_local hy F0.ns (fun h₂ hn₂ hs₂ => ⟨m', hn.sameBut hs₂ (Ne.symm hLC), fun h3 hs3 => ?_⟩) hp)
  dsimp only at hs3 hs₂ ⊢
  have hn3 := hn₂.sameBut hs3 hLC
  obtain ⟨oL, es, ep, hoL, hdL, _⟩ := id F0.ns
  obtain ⟨oL3, _, _, hoL3, _⟩ := id hn3
  have g4 : (h3.update env.locals fun _ => oL).get? env.locals = some oL := Heap.get?_update_self _ hoL3 (Obj.isFreed_of_dict hdL)
  have sb : Heap.SameBut C h0 (h3.update env.locals fun _ => oL) := by
    refine ⟨(Heap.size_update ..).trans (hs3.1.trans hs₂.1), fun b hb => ?_⟩
    by_cases e : b = env.locals
    · rw [e, g4, hoL]
    · rw [Heap.get?_update_other _ _ (Ne.symm e), hs3.2 b hb, hs₂.2 b e]
  obtain ⟨h4, tk4, own, e4, F4, N4, p4⟩ := hq _ sb
  have e5 : h3.update env.locals (fun _ => oL) = h4 := congrArg Shared.heap e4
  subst e5
  refine done h3 _ own ⟨hn3, fun b o e => ?_, F4.above⟩ (fun q hq' => ?_) p4
  · have hb : b ≠ env.locals := fun x => by
      have := Heap.get?_none_of_le (h := G) F4.above
      rw [x, this] at e; cases e
    have := F4.keep b o e
    rwa [Heap.get?_update_other _ _ (Ne.symm hb)] at this
  · have z := N4 q hq'
    exact ⟨by have := z.1; rwa [Heap.get?_update_other _ _ (Ne.symm z.2.1)] at this, z.2⟩
theorem use_block {newAcc : Sem Value} {scope : Scope} {cl : List (Str × Addr)} {e : PySem.Expr} {it : Value} {y : Str} {py : Pos} {P : Value → List (Addr × Obj) → Prop} {Q : Shared → Prop}
    (hy : env.kindOf y = some .local) (hp : (env.scope.kind == .class || (env.scope.kind == .module && env.locals != env.globals)) = false) (hloc : env.locals = L)
    (B : wpAny (model prog w) A newAcc (fun acc s₃ => wpAny (model prog w) A (newFunctionEnv scope env.globals cl [] env.qual none .none (some env)) (fun cenv s₄ =>
      codeAny (model prog w) A (.compStart e 0 it acc { cenv with scope := relabel scope env }) (compPost (model prog w) A NoE none (UseQ G L m P s) acc cenv.locals) s₄) NoE s₃) NoE s)
    (done : ∀ v h tk own, Fr G L h (fun z => if z = y then some v else m z) → News G L h own → P v own → Q { s with heap := h, toks := tk }) :
    wpAny (model prog w) A newAcc (fun acc s₃ => wpAny (model prog w) A (newFunctionEnv scope env.globals cl [] env.qual none .none (some env)) (fun cenv s₄ =>
      codeAny (model prog w) A (.compStart e 0 it acc { cenv with scope := relabel scope env }) (compPost (model prog w) A NoE (some (assign (.Name y py) env)) (fun _ s' => Q s') acc cenv.locals) s₄) NoE s₃) NoE s := by
  refine wpAny_mono B (fun acc s₃ h₃ => wpAny_mono h₃ (fun cenv s₄ h₄ => codeAny_mono h₄ fun r s' hr => ?_) fun _ _ x => x) fun _ _ x => x
  cases r with
  | ok f => exact comp_use1 hy hp hloc hr (done acc)
  | error x => exact hr
/-- name = list comprehension, on one line -/
theorem A_listcomp {elt iter : PySem.Expr} {x y : Str} {px py pos spos : Pos} {ifs : List PySem.Expr} {scope : Scope} {cl : List (Str × Addr)} {Q : Flow → Shared → Prop}
    (hsw : swapsWith (.ListComp elt [⟨.Name x px, iter, ifs, 0⟩] scope pos) (some (.Name y py)) spos.line env = pure true)
    (hclos : closureFor scope env = pure cl) (hkind : scope.kind = .function) (hnames : ∀ z ∈ scope.names, z.2 = .local → scope.names.lookup z.1 = some .local)
    (h : wpAny (model prog w) A (eval iter env) (fun xv s₁ => wpAny (model prog w) A (pyIter xv) (fun it s₂ => wpAny (model prog w) A (newList []) (fun acc s₃ => wpAny (model prog w) A (newFunctionEnv scope env.globals cl [] env.qual none .none (some env)) (fun cenv s₄ =>
      codeAny (model prog w) A (.compStart (.ListComp elt [⟨.Name x px, iter, ifs, 0⟩] scope pos) 0 it acc { cenv with scope := relabel scope env }) (compPost (model prog w) A NoE (some (assign (.Name y py) env)) (fun _ s' => Q .next s') acc cenv.locals) s₄) NoE s₃) NoE s₂) NoE s₁) NoE s)
    (hs : ∀ x, foldedSetIterable iter env x = pure x := by intro _; rfl) :
    wpAny (model prog w) A (exec (.Assign [.Name y py] (.ListComp elt [⟨.Name x px, iter, ifs, 0⟩] scope pos) spos) env) Q NoE s := by
  rw [exec_Assign_Name_used _ _ _ _ hsw]
  refine wpAny_bind (wpAny_standAt (wpAny_bind ?_))
  show wpAny _ A (do let _ ← comprehension (.ListComp elt [⟨.Name x px, iter, ifs, 0⟩] scope pos) scope env _ (newList []) false (eval iter env) (some (assign (.Name y py) env))) _ _ s
  exact wpAny_bind (wpAny_mono (wpAny_comprehension_free (use := some (assign (.Name y py) env)) (Q := fun _ s' => Q .next s') rfl hs hclos hkind hnames h) (fun _ s' hq => wpAny_pure (wpAny_pure hq)) fun _ _ e => e)
theorem A_dictcomp {kx vx iter : PySem.Expr} {x y : Str} {px py pos spos : Pos} {ifs : List PySem.Expr} {scope : Scope} {cl : List (Str × Addr)} {Q : Flow → Shared → Prop}
    (hsw : swapsWith (.DictComp kx vx [⟨.Name x px, iter, ifs, 0⟩] scope pos) (some (.Name y py)) spos.line env = pure true)
    (hclos : closureFor scope env = pure cl) (hkind : scope.kind = .function) (hnames : ∀ z ∈ scope.names, z.2 = .local → scope.names.lookup z.1 = some .local)
    (h : wpAny (model prog w) A (eval iter env) (fun xv s₁ => wpAny (model prog w) A (pyIter xv) (fun it s₂ => wpAny (model prog w) A newDict (fun acc s₃ => wpAny (model prog w) A (newFunctionEnv scope env.globals cl [] env.qual none .none (some env)) (fun cenv s₄ =>
      codeAny (model prog w) A (.compStart (.DictComp kx vx [⟨.Name x px, iter, ifs, 0⟩] scope pos) 0 it acc { cenv with scope := relabel scope env }) (compPost (model prog w) A NoE (some (assign (.Name y py) env)) (fun _ s' => Q .next s') acc cenv.locals) s₄) NoE s₃) NoE s₂) NoE s₁) NoE s)
    (hs : ∀ x, foldedSetIterable iter env x = pure x := by intro _; rfl) :
    wpAny (model prog w) A (exec (.Assign [.Name y py] (.DictComp kx vx [⟨.Name x px, iter, ifs, 0⟩] scope pos) spos) env) Q NoE s := by
  rw [exec_Assign_Name_used _ _ _ _ hsw]
  refine wpAny_bind (wpAny_standAt (wpAny_bind ?_))
  show wpAny _ A (do let _ ← comprehension (.DictComp kx vx [⟨.Name x px, iter, ifs, 0⟩] scope pos) scope env _ newDict false (eval iter env) (some (assign (.Name y py) env))) _ _ s
  exact wpAny_bind (wpAny_mono (wpAny_comprehension_free (use := some (assign (.Name y py) env)) (Q := fun _ s' => Q .next s') rfl hs hclos hkind hnames h) (fun _ s' hq => wpAny_pure (wpAny_pure hq)) fun _ _ e => e)
end
section
variable {prog : Program} {w : World} {A : Around} {s : Shared} {env : Env} {G : Heap} {L : Addr} {m : Str → Option Value} {news : List (Addr × Obj)}
theorem sel_use {x y : Str} {iter : PySem.Expr} {px py p1 pos : Pos} {ifs : List PySem.Expr} {scope : Scope} {cl : List (Str × Addr)} {I : Addr} {oI : Obj} {S : Nat → Obj → Prop} {keep : List (Addr × Obj)} {ks : List Str} {Q : Shared → Prop} (f : Str → Bool)
    (hy : env.kindOf y = some .local) (hp : (env.scope.kind == .class || (env.scope.kind == .module && env.locals != env.globals)) = false)
    (hcell : ∀ y ∈ scope.names, y.2 ≠ .cell) (hkind : scope.kind = .function) (hx : scope.names.lookup x = some .local) (hloc : env.locals = L) (hn : ks.length ≤ 900)
    (F : Fr G L s.heap m) (N : News G L s.heap ((I, oI) :: news)) (IT : Iter prog w A I ks.length S keep (fun i v _ => ∃ k t, ks[i]? = some k ∧ v = .str k t)) (hS : S 0 oI) (hIk : ∀ q ∈ keep, q.1 ≠ I) (hoff : ∀ q ∈ news, q.1 ≠ I) (hkeep : ∀ q ∈ keep, q ∈ news ∨ G.get? q.1 = some q.2)
    (k1 : ∀ C, (compEnvC scope cl C env).kindOf x = some .local) (k6 : ∀ C, (compEnvC scope cl C env).scope.kind = .function) (b1 : (x == ("__debug__" : Str)) = false)
    (test : ∀ C k t h tk own (m₁ : Str → Option Value), k ∈ ks → Fr G C h (fun y => if y = x then some (.str k t) else m₁ y) → News G C h own → (∀ q ∈ news, q ∈ own) →
      wpAny (model prog w) A (forIn ifs true fun c r => if r = true then do let ok ← isTrue c (compEnvC scope cl C env) (eval c (compEnvC scope cl C env)); pure (ForInStep.yield ok) else pure (ForInStep.yield r)) (fun ok s' => ok = f k ∧ ∃ tk', s' = { s with heap := h, toks := tk' }) NoE { s with heap := h, toks := tk })
    (done : ∀ D h tk lD (ys : List Value) n, (∀ q ∈ news, q.1 < D) → Fr G L h (fun z => if z = y then some (.ref D) else m z) → News G L h ((D, lD) :: news) → lD.cls = .type "list" → lD.dict = none → lD.data = .seq ys.toArray n → StrsAre ys (ks.filter f) → Q { s with heap := h, toks := tk }) :
    wpAny (model prog w) A (newList []) (fun acc s₃ => wpAny (model prog w) A (newFunctionEnv scope env.globals cl [] env.qual none .none (some env)) (fun cenv s₄ =>
      codeAny (model prog w) A (.compStart (.ListComp (.Name x p1) [⟨.Name x px, iter, ifs, 0⟩] scope pos) 0 (.ref I) acc { cenv with scope := relabel scope env }) (compPost (model prog w) A NoE (some (assign (.Name y py) env)) (fun _ s' => Q s') acc cenv.locals) s₄) NoE s₃) NoE s := by
  refine use_block (G := G) (m := m) (P := fun v own => ∃ D lD ys n, v = .ref D ∧ own = (D, lD) :: news ∧ (∀ q ∈ news, q.1 < D) ∧ lD.cls = .type "list" ∧ lD.dict = none ∧ lD.data = .seq (List.toArray ys) n ∧ StrsAre ys (ks.filter f)) hy hp hloc ?_ ?_
  · exact sel_block f hcell hkind hx hloc hn F N IT hS hIk hoff hkeep k1 k6 b1 test fun D h tk lD ys n a F' N' c1 c2 c3 S' => ⟨h, tk, _, rfl, F', N', D, lD, ys, n, rfl, rfl, a, c1, c2, c3, S'⟩
  · rintro v h tk own F' N' ⟨D, lD, ys, n, rfl, rfl, a, c1, c2, c3, S'⟩
    exact done D h tk lD ys n a F' N' c1 c2 c3 S'
theorem look_use {x y held : Str} {iter : PySem.Expr} {px py p1 p2 p3 p4 pos : Pos} {scope : Scope} {cl : List (Str × Addr)} {I : Addr} {oI : Obj} {S : Nat → Obj → Prop} {keep : List (Addr × Obj)} {H cH : Addr} {oh oH : Obj} {D D' : DD} {es : List DictEntry} {ep : Nat} {Q : Shared → Prop}
    (hy : env.kindOf y = some .local) (hp : (env.scope.kind == .class || (env.scope.kind == .module && env.locals != env.globals)) = false)
    (hcell : ∀ y ∈ scope.names, y.2 ≠ .cell) (hkind : scope.kind = .function) (hx : scope.names.lookup x = some .local) (hloc : env.locals = L) (hn : (Keys D').length ≤ 900) (hnd : (Keys D').Nodup) (hsub : ∀ p ∈ D', lk p.1 D = some p.2)
    (F : Fr G L s.heap m) (N : News G L s.heap ((I, oI) :: news)) (IT : Iter prog w A I (Keys D').length S keep (fun i v _ => ∃ k t, (Keys D')[i]? = some k ∧ v = .str k t)) (hS : S 0 oI) (hIk : ∀ q ∈ keep, q.1 ≠ I) (hoff : ∀ q ∈ news, q.1 ≠ I) (hkeep : ∀ q ∈ keep, q ∈ news ∨ G.get? q.1 = some q.2)
    (hH : (H, oh) ∈ news) (pd : PD oh D es ep) (mH : (cH, oH) ∈ news) (dH : oH.data = .cell (some (.ref H)))
    (k1 : ∀ C, (compEnvC scope cl C env).kindOf x = some .local) (k2 : ∀ C, (compEnvC scope cl C env).kindOf held = some .cell) (k3 : ∀ C, (compEnvC scope cl C env).cells.lookup held = some cH) (k6 : ∀ C, (compEnvC scope cl C env).scope.kind = .function) (b1 : (x == ("__debug__" : Str)) = false) (b2 : (held == ("__debug__" : Str)) = false)
    (done : ∀ d h tk lD es' ep', (∀ q ∈ news, q.1 < d) → Fr G L h (fun z => if z = y then some (.ref d) else m z) → News G L h ((d, lD) :: news) → PD lD D' es' ep' → Q { s with heap := h, toks := tk }) :
    wpAny (model prog w) A newDict (fun acc s₃ => wpAny (model prog w) A (newFunctionEnv scope env.globals cl [] env.qual none .none (some env)) (fun cenv s₄ =>
      codeAny (model prog w) A (.compStart (.DictComp (.Name x p1) (.Subscript (.Name held p2) (.Name x p3) p4) [⟨.Name x px, iter, [], 0⟩] scope pos) 0 (.ref I) acc { cenv with scope := relabel scope env }) (compPost (model prog w) A NoE (some (assign (.Name y py) env)) (fun _ s' => Q s') acc cenv.locals) s₄) NoE s₃) NoE s := by
  refine use_block (G := G) (m := m) (P := fun v own => ∃ d lD es' ep', v = .ref d ∧ own = (d, lD) :: news ∧ (∀ q ∈ news, q.1 < d) ∧ PD lD D' es' ep') hy hp hloc ?_ ?_
  · exact look_block hcell hkind hx hloc hn hnd hsub F N IT hS hIk hoff hkeep hH pd mH dH k1 k2 k3 k6 b1 b2 fun d h tk lD es' ep' a F' N' p => ⟨h, tk, _, rfl, F', N', d, lD, es', ep', rfl, rfl, a, p⟩
  · rintro v h tk own F' N' ⟨d, lD, es', ep', rfl, rfl, a, p⟩
    exact done d h tk lD es' ep' a F' N' p
end
theorem U_pop1n {w : World} {G : Heap} {A : Around} {s : Shared} {p : Program} {loose : List Str} {mean : ExcName → Option Value} {mg mb : Str → Option Value} {E : Value → Shared → Prop} {Q : Value → Shared → Prop} {L : Addr} {m : Str → Option Value} {news : List (Addr × Obj)} {f : Obj → List (Addr × Obj)} (F : Fr G L s.heap m) (X : (hd.heap_39 w.params).In G) (N : News G L s.heap news) (T : Top p loose mean mg mb G) {n : Nat} (RM : Room (n + 6) A) {x dx : Addr} {o od : Obj} {D : DD} {es : List DictEntry} {ep : Nat} {k : Str} {tk : Tok}
    (hx : (x, o) ∈ news) (TD1 : TD o dx D es ep) (hdx : (dx, od) ∈ news) (hsys : (x == sysModules) = false) (hlen : k.length ≤ 100) (hne : @Ne Nat dx x)  (U : UpdF x o news f) (hk : lk (Txt.upper k) D = none)
    (h2 : ∀ h' tk', Fr G L h' m → News G L h' news → Q Value.none { s with heap := h', toks := tk' }) : wpAny (model PySem.Challenge.rw_co0001_01.row.prog w) A (call (.ref 116) [.ref x, .str k tk]) Q E s :=
  U_pop1 F X N T RM hx TD1 hdx hsys hlen hne U (fun h' tk' o' es' ep' u' v a => absurd_lk hk a) (fun h' tk' _ => h2 h' tk')
theorem U_pop1s {w : World} {G : Heap} {A : Around} {s : Shared} {p : Program} {loose : List Str} {mean : ExcName → Option Value} {mg mb : Str → Option Value} {E : Value → Shared → Prop} {Q : Value → Shared → Prop} {L : Addr} {m : Str → Option Value} {news : List (Addr × Obj)} {f : Obj → List (Addr × Obj)} (F : Fr G L s.heap m) (X : (hd.heap_39 w.params).In G) (N : News G L s.heap news) (T : Top p loose mean mg mb G) {n : Nat} (RM : Room (n + 6) A) {x dx : Addr} {o od : Obj} {D : DD} {es : List DictEntry} {ep : Nat} {k : Str} {tk : Tok}
    (hx : (x, o) ∈ news) (TD1 : TD o dx D es ep) (hdx : (dx, od) ∈ news) (hsys : (x == sysModules) = false) (hlen : k.length ≤ 100) (hne : @Ne Nat dx x)  (U : UpdF x o news f) {u1 : V} (hk : lk (Txt.upper k) D = some u1)
    (h1 : ∀ h' tk' o' es' ep' v, VIs u1 v → Fr G L h' m → News G L h' (f o') → TD o' dx (era (Txt.upper k) D) es' ep' → Q v { s with heap := h', toks := tk' }) : wpAny (model PySem.Challenge.rw_co0001_01.row.prog w) A (call (.ref 116) [.ref x, .str k tk]) Q E s :=
  U_pop1 F X N T RM hx TD1 hdx hsys hlen hne U (fun h' tk' o' es' ep' u' v a hv' => h1 h' tk' o' es' ep' v (by rw [hk] at a; cases a; exact hv')) (fun h' tk' a => absurd_lk a hk)
theorem U_popn {w : World} {G : Heap} {A : Around} {s : Shared} {p : Program} {loose : List Str} {mean : ExcName → Option Value} {mg mb : Str → Option Value} {E : Value → Shared → Prop} {Q : Value → Shared → Prop} {L : Addr} {m : Str → Option Value} {news : List (Addr × Obj)} {f : Obj → List (Addr × Obj)} (F : Fr G L s.heap m) (X : (hd.heap_39 w.params).In G) (N : News G L s.heap news) (T : Top p loose mean mg mb G) {n : Nat} (RM : Room (n + 6) A) {x dx : Addr} {o od : Obj} {D : DD} {es : List DictEntry} {ep : Nat} {k : Str} {tk : Tok}
    (hx : (x, o) ∈ news) (TD1 : TD o dx D es ep) (hdx : (dx, od) ∈ news) (hsys : (x == sysModules) = false) (hlen : k.length ≤ 100) (hne : @Ne Nat dx x) {u : V} {dv : Value} (hv : VIs u dv) (U : UpdF x o news f) (hk : lk (Txt.upper k) D = none)
    (h2 : ∀ h' tk', Fr G L h' m → News G L h' news → Q dv { s with heap := h', toks := tk' }) : wpAny (model PySem.Challenge.rw_co0001_01.row.prog w) A (call (.ref 116) [.ref x, .str k tk, dv]) Q E s :=
  U_pop F X N T RM hx TD1 hdx hsys hlen hne hv U (fun h' tk' o' es' ep' u' v a => absurd_lk hk a) (fun h' tk' _ => h2 h' tk')
theorem U_pops {w : World} {G : Heap} {A : Around} {s : Shared} {p : Program} {loose : List Str} {mean : ExcName → Option Value} {mg mb : Str → Option Value} {E : Value → Shared → Prop} {Q : Value → Shared → Prop} {L : Addr} {m : Str → Option Value} {news : List (Addr × Obj)} {f : Obj → List (Addr × Obj)} (F : Fr G L s.heap m) (X : (hd.heap_39 w.params).In G) (N : News G L s.heap news) (T : Top p loose mean mg mb G) {n : Nat} (RM : Room (n + 6) A) {x dx : Addr} {o od : Obj} {D : DD} {es : List DictEntry} {ep : Nat} {k : Str} {tk : Tok}
    (hx : (x, o) ∈ news) (TD1 : TD o dx D es ep) (hdx : (dx, od) ∈ news) (hsys : (x == sysModules) = false) (hlen : k.length ≤ 100) (hne : @Ne Nat dx x) {u : V} {dv : Value} (hv : VIs u dv) (U : UpdF x o news f) {u1 : V} (hk : lk (Txt.upper k) D = some u1)
    (h1 : ∀ h' tk' o' es' ep' v, VIs u1 v → Fr G L h' m → News G L h' (f o') → TD o' dx (era (Txt.upper k) D) es' ep' → Q v { s with heap := h', toks := tk' }) : wpAny (model PySem.Challenge.rw_co0001_01.row.prog w) A (call (.ref 116) [.ref x, .str k tk, dv]) Q E s :=
  U_pop F X N T RM hx TD1 hdx hsys hlen hne hv U (fun h' tk' o' es' ep' u' v a hv' => h1 h' tk' o' es' ep' v (by rw [hk] at a; cases a; exact hv')) (fun h' tk' a => absurd_lk a hk)
theorem U_setdefault1n {w : World} {G : Heap} {A : Around} {s : Shared} {p : Program} {loose : List Str} {mean : ExcName → Option Value} {mg mb : Str → Option Value} {E : Value → Shared → Prop} {Q : Value → Shared → Prop} {L : Addr} {m : Str → Option Value} {news : List (Addr × Obj)} {f : Obj → List (Addr × Obj)} (F : Fr G L s.heap m) (X : (hd.heap_39 w.params).In G) (N : News G L s.heap news) (T : Top p loose mean mg mb G) {n : Nat} (RM : Room (n + 6) A) {x dx : Addr} {o od : Obj} {D : DD} {es : List DictEntry} {ep : Nat} {k : Str} {tk : Tok}
    (hx : (x, o) ∈ news) (TD1 : TD o dx D es ep) (hdx : (dx, od) ∈ news) (hsys : (x == sysModules) = false) (hlen : k.length ≤ 100) (hne : @Ne Nat dx x)  (U : UpdF x o news f) (hl : (put (Txt.upper k) .none D).length ≤ 1000) (hk : lk (Txt.upper k) D = none)
    (h2 : ∀ h' tk' o' es' ep', Fr G L h' m → News G L h' (f o') → TD o' dx (put (Txt.upper k) .none D) es' ep' → Q Value.none { s with heap := h', toks := tk' }) : wpAny (model PySem.Challenge.rw_co0001_01.row.prog w) A (call (.ref 107) [.ref x, .str k tk]) Q E s :=
  U_setdefault1 F X N T RM hx TD1 hdx hsys hlen hne U hl (fun h' tk' u' v a => absurd_lk hk a) (fun h' tk' o' es' ep' _ => h2 h' tk' o' es' ep')
theorem U_setdefault1s {w : World} {G : Heap} {A : Around} {s : Shared} {p : Program} {loose : List Str} {mean : ExcName → Option Value} {mg mb : Str → Option Value} {E : Value → Shared → Prop} {Q : Value → Shared → Prop} {L : Addr} {m : Str → Option Value} {news : List (Addr × Obj)} {f : Obj → List (Addr × Obj)} (F : Fr G L s.heap m) (X : (hd.heap_39 w.params).In G) (N : News G L s.heap news) (T : Top p loose mean mg mb G) {n : Nat} (RM : Room (n + 6) A) {x dx : Addr} {o od : Obj} {D : DD} {es : List DictEntry} {ep : Nat} {k : Str} {tk : Tok}
    (hx : (x, o) ∈ news) (TD1 : TD o dx D es ep) (hdx : (dx, od) ∈ news) (hsys : (x == sysModules) = false) (hlen : k.length ≤ 100) (hne : @Ne Nat dx x)  (U : UpdF x o news f) (hl : (put (Txt.upper k) .none D).length ≤ 1000) {u1 : V} (hk : lk (Txt.upper k) D = some u1)
    (h1 : ∀ h' tk' v, Fr G L h' m → News G L h' news → VIs u1 v → Q v { s with heap := h', toks := tk' }) : wpAny (model PySem.Challenge.rw_co0001_01.row.prog w) A (call (.ref 107) [.ref x, .str k tk]) Q E s :=
  U_setdefault1 F X N T RM hx TD1 hdx hsys hlen hne U hl (fun h' tk' u' v a F' N' hv' => h1 h' tk' v F' N' (by rw [hk] at a; cases a; exact hv')) (fun h' tk' o' es' ep' a => absurd_lk a hk)
theorem U_setdefaultn {w : World} {G : Heap} {A : Around} {s : Shared} {p : Program} {loose : List Str} {mean : ExcName → Option Value} {mg mb : Str → Option Value} {E : Value → Shared → Prop} {Q : Value → Shared → Prop} {L : Addr} {m : Str → Option Value} {news : List (Addr × Obj)} {f : Obj → List (Addr × Obj)} (F : Fr G L s.heap m) (X : (hd.heap_39 w.params).In G) (N : News G L s.heap news) (T : Top p loose mean mg mb G) {n : Nat} (RM : Room (n + 6) A) {x dx : Addr} {o od : Obj} {D : DD} {es : List DictEntry} {ep : Nat} {k : Str} {tk : Tok}
    (hx : (x, o) ∈ news) (TD1 : TD o dx D es ep) (hdx : (dx, od) ∈ news) (hsys : (x == sysModules) = false) (hlen : k.length ≤ 100) (hne : @Ne Nat dx x) {u : V} {dv : Value} (hv : VIs u dv) (U : UpdF x o news f) (hl : (put (Txt.upper k) u D).length ≤ 1000) (hk : lk (Txt.upper k) D = none)
    (h2 : ∀ h' tk' o' es' ep', Fr G L h' m → News G L h' (f o') → TD o' dx (put (Txt.upper k) u D) es' ep' → Q dv { s with heap := h', toks := tk' }) : wpAny (model PySem.Challenge.rw_co0001_01.row.prog w) A (call (.ref 107) [.ref x, .str k tk, dv]) Q E s :=
  U_setdefault F X N T RM hx TD1 hdx hsys hlen hne hv U hl (fun h' tk' u' v a => absurd_lk hk a) (fun h' tk' o' es' ep' _ => h2 h' tk' o' es' ep')
theorem U_setdefaults {w : World} {G : Heap} {A : Around} {s : Shared} {p : Program} {loose : List Str} {mean : ExcName → Option Value} {mg mb : Str → Option Value} {E : Value → Shared → Prop} {Q : Value → Shared → Prop} {L : Addr} {m : Str → Option Value} {news : List (Addr × Obj)} {f : Obj → List (Addr × Obj)} (F : Fr G L s.heap m) (X : (hd.heap_39 w.params).In G) (N : News G L s.heap news) (T : Top p loose mean mg mb G) {n : Nat} (RM : Room (n + 6) A) {x dx : Addr} {o od : Obj} {D : DD} {es : List DictEntry} {ep : Nat} {k : Str} {tk : Tok}
    (hx : (x, o) ∈ news) (TD1 : TD o dx D es ep) (hdx : (dx, od) ∈ news) (hsys : (x == sysModules) = false) (hlen : k.length ≤ 100) (hne : @Ne Nat dx x) {u : V} {dv : Value} (hv : VIs u dv) (U : UpdF x o news f) (hl : (put (Txt.upper k) u D).length ≤ 1000) {u1 : V} (hk : lk (Txt.upper k) D = some u1)
    (h1 : ∀ h' tk' v, Fr G L h' m → News G L h' news → VIs u1 v → Q v { s with heap := h', toks := tk' }) : wpAny (model PySem.Challenge.rw_co0001_01.row.prog w) A (call (.ref 107) [.ref x, .str k tk, dv]) Q E s :=
  U_setdefault F X N T RM hx TD1 hdx hsys hlen hne hv U hl (fun h' tk' u' v a F' N' hv' => h1 h' tk' v F' N' (by rw [hk] at a; cases a; exact hv')) (fun h' tk' o' es' ep' a => absurd_lk a hk)
local macro_rules | `(tactic| walk_at "call ref") => `(tactic| (k_here; k_dflt (first
  | (refine' U_pop1n ?zk1 ?zk2 ?zk3 ?zk4 ?zk5 ?zk6 ?zk7 ?zk8 ?zk9 ?zka ?zkb ?zkd ?zkk ?_; (case zkk => with_reducible assumption); (case zk1 => k_asm); (case zk2 => k_asm); (case zk3 => k_asm); (case zk4 => k_asm); (case zk5 => first | with_reducible assumption | exact Room.in1 (by with_reducible assumption) | k_asm); (case zk6 => k_mem); (case zk7 => k_asm); (case zk8 => k_mem); (case zk9 => k_asm); (case zka => first | with_reducible assumption | (exact nsys (by omega)) | k_asm); (case zkb => k_ne); (case zkd => k_updF); k_whole; intro h' tk' F' N'; (try k_sweep))
  | (refine' U_pop1s ?zk1 ?zk2 ?zk3 ?zk4 ?zk5 ?zk6 ?zk7 ?zk8 ?zk9 ?zka ?zkb ?zkd ?zkk ?_; (case zkk => with_reducible assumption); (case zk1 => k_asm); (case zk2 => k_asm); (case zk3 => k_asm); (case zk4 => k_asm); (case zk5 => first | with_reducible assumption | exact Room.in1 (by with_reducible assumption) | k_asm); (case zk6 => k_mem); (case zk7 => k_asm); (case zk8 => k_mem); (case zk9 => k_asm); (case zka => first | with_reducible assumption | (exact nsys (by omega)) | k_asm); (case zkb => k_ne); (case zkd => k_updF); k_whole; intro h' tk' o' es' ep' v' hv' F' N' td'; (try dsimp only at N'); (try k_sweep))
  | (refine' U_popn ?zk1 ?zk2 ?zk3 ?zk4 ?zk5 ?zk6 ?zk7 ?zk8 ?zk9 ?zka ?zkb ?zkc ?zkd ?zkk ?_; (case zkk => with_reducible assumption); (case zk1 => k_asm); (case zk2 => k_asm); (case zk3 => k_asm); (case zk4 => k_asm); (case zk5 => first | with_reducible assumption | exact Room.in1 (by with_reducible assumption) | k_asm); (case zk6 => k_mem); (case zk7 => k_asm); (case zk8 => k_mem); (case zk9 => k_asm); (case zka => first | with_reducible assumption | (exact nsys (by omega)) | k_asm); (case zkb => k_ne); (case zkc => first | k_asm | exact vis_none | exact vis_int | exact vis_str); (case zkd => k_updF); k_whole; intro h' tk' F' N'; (try k_sweep))
  | (refine' U_pops ?zk1 ?zk2 ?zk3 ?zk4 ?zk5 ?zk6 ?zk7 ?zk8 ?zk9 ?zka ?zkb ?zkc ?zkd ?zkk ?_; (case zkk => with_reducible assumption); (case zk1 => k_asm); (case zk2 => k_asm); (case zk3 => k_asm); (case zk4 => k_asm); (case zk5 => first | with_reducible assumption | exact Room.in1 (by with_reducible assumption) | k_asm); (case zk6 => k_mem); (case zk7 => k_asm); (case zk8 => k_mem); (case zk9 => k_asm); (case zka => first | with_reducible assumption | (exact nsys (by omega)) | k_asm); (case zkb => k_ne); (case zkc => first | k_asm | exact vis_none | exact vis_int | exact vis_str); (case zkd => k_updF); k_whole; intro h' tk' o' es' ep' v' hv' F' N' td'; (try dsimp only at N'); (try k_sweep))
  | (refine' U_setdefault1n ?zk1 ?zk2 ?zk3 ?zk4 ?zk5 ?zk6 ?zk7 ?zk8 ?zk9 ?zka ?zkb ?zkd ?zke ?zkk ?_; (case zkk => with_reducible assumption); (case zk1 => k_asm); (case zk2 => k_asm); (case zk3 => k_asm); (case zk4 => k_asm); (case zk5 => first | with_reducible assumption | exact Room.in1 (by with_reducible assumption) | k_asm); (case zk6 => k_mem); (case zk7 => k_asm); (case zk8 => k_mem); (case zk9 => k_asm); (case zka => first | with_reducible assumption | (exact nsys (by omega)) | k_asm); (case zkb => k_ne); (case zkd => k_updF); (case zke => k_asm); k_whole; intro h' tk' o' es' ep' F' N' td'; (try dsimp only at N'); (try k_sweep))
  | (refine' U_setdefault1s ?zk1 ?zk2 ?zk3 ?zk4 ?zk5 ?zk6 ?zk7 ?zk8 ?zk9 ?zka ?zkb ?zkd ?zke ?zkk ?_; (case zkk => with_reducible assumption); (case zk1 => k_asm); (case zk2 => k_asm); (case zk3 => k_asm); (case zk4 => k_asm); (case zk5 => first | with_reducible assumption | exact Room.in1 (by with_reducible assumption) | k_asm); (case zk6 => k_mem); (case zk7 => k_asm); (case zk8 => k_mem); (case zk9 => k_asm); (case zka => first | with_reducible assumption | (exact nsys (by omega)) | k_asm); (case zkb => k_ne); (case zkd => k_updF); (case zke => k_asm); k_whole; intro h' tk' v' F' N' hv'; (try k_sweep))
  | (refine' U_setdefaultn ?zk1 ?zk2 ?zk3 ?zk4 ?zk5 ?zk6 ?zk7 ?zk8 ?zk9 ?zka ?zkb ?zkc ?zkd ?zke ?zkk ?_; (case zkk => with_reducible assumption); (case zk1 => k_asm); (case zk2 => k_asm); (case zk3 => k_asm); (case zk4 => k_asm); (case zk5 => first | with_reducible assumption | exact Room.in1 (by with_reducible assumption) | k_asm); (case zk6 => k_mem); (case zk7 => k_asm); (case zk8 => k_mem); (case zk9 => k_asm); (case zka => first | with_reducible assumption | (exact nsys (by omega)) | k_asm); (case zkb => k_ne); (case zkc => first | k_asm | exact vis_none | exact vis_int | exact vis_str); (case zkd => k_updF); (case zke => k_asm); k_whole; intro h' tk' o' es' ep' F' N' td'; (try dsimp only at N'); (try k_sweep))
  | (refine' U_setdefaults ?zk1 ?zk2 ?zk3 ?zk4 ?zk5 ?zk6 ?zk7 ?zk8 ?zk9 ?zka ?zkb ?zkc ?zkd ?zke ?zkk ?_; (case zkk => with_reducible assumption); (case zk1 => k_asm); (case zk2 => k_asm); (case zk3 => k_asm); (case zk4 => k_asm); (case zk5 => first | with_reducible assumption | exact Room.in1 (by with_reducible assumption) | k_asm); (case zk6 => k_mem); (case zk7 => k_asm); (case zk8 => k_mem); (case zk9 => k_asm); (case zka => first | with_reducible assumption | (exact nsys (by omega)) | k_asm); (case zkb => k_ne); (case zkc => first | k_asm | exact vis_none | exact vis_int | exact vis_str); (case zkd => k_updF); (case zke => k_asm); k_whole; intro h' tk' v' F' N' hv'; (try k_sweep)))))
/-- an iterator over the numbered texts of a row -/
def EnumAt (G : Heap) (L : Addr) (m : Str → Option Value) (news : List (Addr × Obj)) (js : List Str) (s₀ : Shared) (v : Value) (s' : Shared) : Prop :=
  ∃ e it l0 lo0 ws0 n0 h' tk' own, v = .ref e ∧ s' = { s₀ with heap := h', toks := tk' } ∧ Fr G L h' m ∧ News G L h' own ∧ (∀ q ∈ news, q ∈ own) ∧ (l0, lo0) ∈ own ∧ lo0.cls = .type "list" ∧ lo0.data = .seq (List.toArray ws0) n0 ∧ StrsAre ws0 js ∧ IsEnum h' e it 0 .none ∧ h'.IsListIter it l0 0 ∧ (∀ q ∈ own, q.1 < it) ∧ @LT.lt Nat _ L it ∧ @LT.lt Nat _ it e
abbrev lamTab (c' : Addr) : Obj := tabObj #[rawInt 17, rawInt 28, .ref c']
abbrev lamQual : Str := Str.ofString "canonsort_keys.<locals>.<lambda>"
/-- the lambda's function object, told by what its call gives; its code; the table -/
def LamAt (prog : Program) (w : World) (A : Around) (G : Heap) (L : Addr) (m : Str → Option Value) (news SO : List (Addr × Obj)) (hks js : List Str) (s₀ : Shared) (v : Value) (s' : Shared) : Prop :=
  ∃ f c' oc vs t h' tk' own, v = .ref f ∧ s' = { s₀ with heap := h', toks := tk' } ∧ Fr G L h' m ∧ News G L h' own ∧ (∀ q ∈ news, q ∈ own) ∧ (c', oc) ∈ own ∧ oc.data = .fields vs ∧ vs[1]? = some (.str lamQual t) ∧ (32, lamTab c') ∈ own ∧ c' ≠ 32 ∧ ((∀ q ∈ news, q.1 < c') ∨ (c', oc) ∈ SO) ∧
    ∀ k t h tk own2, k ∈ hks → Fr G L h m → News G L h (own ++ own2) → wpAny (model prog w) A.in1.in1 (call (.ref f) [.str k t]) (KskEnd G L m (own ++ own2) (idxOf js k) { s₀ with heap := h, toks := tk }) NoE { s₀ with heap := h, toks := tk }
theorem allLt_lt {d : Addr} : ∀ {tl : List (Addr × Obj)}, AllLt d tl → ∀ q ∈ tl, q.1 < d
  | [], _, _, h => nomatch h
  | x :: r, h, q, hq => by
    rcases List.mem_cons.mp hq with rfl | hq
    · exact h.1
    · exact allLt_lt h.2 q hq
theorem ext_but {S news : List (Addr × Obj)} {a : Addr} {G h h' g' : Heap} {L : Addr} (E : Ext (S.map (·.1)) h h') (c : ∀ q ∈ S, h.get? q.1 = some q.2 ∧ G.get? q.1 = none) (N : News g' L h' news) (m : ∀ q ∈ S, q.1 ≠ a → q ∈ news) : Ext [a] h h' := fun b o nb e => by
  by_cases hb : b ∈ S.map (·.1)
  · obtain ⟨q, hq, rfl⟩ := List.mem_map.mp hb
    have z := (c q hq).1
    rw [e] at z
    cases z
    exact (N q (m q hq (by simpa using nb))).1
  · exact E b o hb e
section
variable {prog : Program} {w : World} {A : Around} {E : Value → Shared → Prop} {s : Shared} {env : Env} {G : Heap} {L : Addr} {m : Str → Option Value} {news : List (Addr × Obj)} {Q : Value → Shared → Prop}
theorem truthy_strs {l : Addr} {lo : Obj} {ws : List Value} {js : List Str} {n : Nat} {Q : Bool → Shared → Prop} (N : News G L s.heap news) (hl : (l, lo) ∈ news) (c1 : lo.cls = .type "list") (c3 : lo.data = .seq ws.toArray n) (S : StrsAre ws js) (hz : js.length ≤ 900) (h : Q (!js.isEmpty) { s with toks := s.toks + 1 + 1 }) : wpAny (model prog w) A (truthy (.ref l)) Q E s := by
  refine wpAny_truthy_list (items := ws.toArray) ⟨lo, (N _ hl).1, c1, n, c3⟩ (by rw [List.size_toArray, S.1]; omega) ?_
  have e : ws.toArray.isEmpty = js.isEmpty := by
    cases ws with
    | nil => cases js with
      | nil => rfl
      | cons _ _ => have := S.1; simp at this
    | cons _ _ => cases js with
      | nil => have := S.1; simp at this
      | cons _ _ => rfl
  rw [e]; exact h
theorem enumAt_mk {l : Addr} {lo : Obj} {ws : List Value} {js : List Str} {n : Nat} {s₀ : Shared} {h : Heap} {tk : Nat} {own : List (Addr × Obj)} (F : Fr G L h m) (N : News G L h own) (hs : ∀ q ∈ news, q ∈ own) (hl : (l, lo) ∈ own) (c1 : lo.cls = .type "list") (c3 : lo.data = .seq ws.toArray n) (S : StrsAre ws js) :
    wpAny (model prog w) A (call (.type "enumerate") [.ref l]) (EnumAt G L m news js s₀) E { s₀ with heap := h, toks := tk } :=
  U_enum (s := { s₀ with heap := h, toks := tk }) F N hl c1 c3 fun e it h' F' N' a b c d e' => ⟨e, it, l, lo, ws, n, h', tk, own, rfl, rfl, F', N', hs, hl, c1, c3, S, a, b, c, d, e'⟩
end
theorem mem_skip6 {α : Type} {a1 a2 a3 a4 a5 a6 b q : α} {S : List α} (h : q ∈ a1 :: a2 :: a3 :: a4 :: a5 :: a6 :: S) : q ∈ a1 :: a2 :: a3 :: a4 :: a5 :: a6 :: b :: S := by
  simp only [List.mem_cons] at h ⊢
  rcases h with h | h | h | h | h | h | h <;> simp [h]
theorem mem_tail9 {α : Type} {a1 a2 a3 a4 a5 a6 a7 a8 b : α} {S : List α} : b ∈ a1 :: a2 :: a3 :: a4 :: a5 :: a6 :: a7 :: a8 :: b :: S := by simp
theorem lam_cut {prog : Program} {w : World} {A : Around} {G : Heap} {L : Addr} {m : Str → Option Value} {news SO : List (Addr × Obj)} {hks js : List Str} {s₀ s : Shared} {t : Sem Value} {Q : Value → Shared → Prop} (h : wpAny (model prog w) A t (LamAt prog w A G L m news SO hks js s₀) NoE s) (k : ∀ v s', LamAt prog w A G L m news SO hks js s₀ v s' → Q v s') : wpAny (model prog w) A t Q NoE s := wpAny_mono h k fun _ _ x => x
set_option maxHeartbeats 0 in
theorem C_canon {w : World} {G : Heap} {A : Around} {s : Shared} {p : Program} {loose : List Str} {mean : ExcName → Option Value} {mg mb : Str → Option Value} {R : Result → Shared → Prop} (X : (hd.heap_39 w.params).In G) (T : Top p loose mean mg mb G) (SG : G.StaysIn s.heap) (RM : Room 40 A) {v x : Addr} {o : Obj} {ov : Value} {D : DD} {es : List DictEntry} {ep : Nat} {js : List Str} {ps : Array Value} {SO : List (Addr × Obj)}
    (hv : At G s.heap v (fieldsO "dict_keys" #[.ref x])) (hx : At G s.heap x o) (ht : At G s.heap 32 (tabObj ps)) (hSO : ∀ q ∈ SO, At G s.heap q.1 q.2) (hS32 : ∀ q ∈ SO, q.1 ≠ 32) (hvt : @Ne Nat v 32) (hxt : @Ne Nat x 32) (hsx : (x == sysModules) = false) (T1 : IsD o D es ep)
    (ho : (ov = .none ∧ js = []) ∨ ∃ l lo ws n, ov = .ref l ∧ (l, lo) ∈ SO ∧ lo.cls = .type "list" ∧ lo.data = .seq (List.toArray ws) n ∧ StrsAre ws js)
    (hp : ps = #[] ∨ ∃ c' oc vs t, ps = #[rawInt 17, rawInt 28, .ref c'] ∧ (c', oc) ∈ SO ∧ c' ≠ 32 ∧ oc.data = .fields vs ∧ vs[1]? = some (.str lamQual t))
    (hjs : js.Nodup) (hjl : js.length ≤ 3) (hn : (Keys D).Nodup) (hl : D.length ≤ 20)
    (hQ : ∀ h' tk' B ys ks c' oc vs t, Ext [32] s.heap h' → h'.get? 32 = some (lamTab c') → h'.get? c' = some oc → oc.data = .fields vs → vs[1]? = some (.str lamQual t) → c' ≠ 32 → (s.heap.get? c' = none ∨ (c', oc) ∈ SO) → s.heap.get? B = none → h'.get? B = some (listOf (List.toArray ys) 0) → B ≠ c' → B ≠ 32 → StrsAre ys ks → CanonIs D js ks → R (.ok (.ret (.ref B))) { s with heap := h', toks := tk' }) :
    codeAny (model PySem.Challenge.rw_co0001_01.row.prog w) A (.call (.ref 35) ⟨[.ref v, ov], []⟩) R s := by
  have hSS : ∀ q ∈ (v, fieldsO "dict_keys" #[.ref x]) :: (x, o) :: (32, tabObj ps) :: SO, s.heap.get? q.1 = some q.2 ∧ G.get? q.1 = none := fun q hq => by
    rcases List.mem_cons.mp hq with rfl | hq
    · exact hv
    · rcases List.mem_cons.mp hq with rfl | hq
      · exact hx
      · rcases List.mem_cons.mp hq with rfl | hq
        · exact ht
        · exact hSO q hq
  k_dflt (refine' call_rc X T SG RM ((v, fieldsO "dict_keys" #[.ref x]) :: (x, o) :: (32, tabObj ps) :: SO) hSS ?k6 ?k7 ?k9 ?kB ?kD ?_ ?c2 ?c3 ?c4)
  case k6 => k_is
  case k7 => k_is
  case k9 => first | exact BindsTo.of_eq rfl | exact binds_K (X.keeps SG) rfl (by k_is) rfl rfl rfl
  case kB => k_dflt exact rfl
  case kD => decide +kernel
  case c2 => k_dflt exact rfl
  case c3 => k_dflt exact rfl
  case c4 => k_dflt exact rfl
  k_whole
  intro g' L' h₁ tk₁ cells₁ SG' A1 A2 F N Y X' T' L1 RM'
  k_lt L1
  k_cells Y
  (try simp only [List.cons_append, List.nil_append] at N)
  clear X T SG RM
  try dsimp only
  try k_fold
  rename_i oC dC0
  replace dC0 : oC.data = .cell none := dC0
  have FM : ∃ mm, Fr g' L' h₁ mm ∧ mm (Str.ofString "keys") = some (.ref v) ∧ mm (Str.ofString "canonical_order") = some ov := ⟨_, F, by with_unfolding_all rfl, by with_unfolding_all rfl⟩
  clear F
  obtain ⟨mm, F, mk, mo⟩ := FM
  repeat' ((fail_if_success (with_reducible show wpAny _ _ (exec (Stmt.Assign _ _ _) _) _ _ _)); first | walk1 | (dsimp only; walk1))
  refine wpAny_Assign_Name ?_
  k_dflt (refine' U_dictcompT ?hc ?hk ?hn ?_ ?hs)
  case hc => with_unfolding_all rfl
  case hk => with_unfolding_all rfl
  case hn => decide
  case hs => intro _; with_unfolding_all rfl
  refine wpAny_mono (Q := EnumAt g' L' mm ((L' + 1, oC) :: (v, fieldsO "dict_keys" #[.ref x]) :: (x, o) :: (32, tabObj ps) :: SO) js s) (E := NoE) ?e0 ?e1 (fun _ _ x => x)
  case e0 =>
    rcases ho with ⟨rfl, rfl⟩ | ⟨l, lo, ws, nl, rfl, ml, c1, c3, S⟩
    · repeat' ((fail_if_success (with_reducible show wpAny _ _ (call _ _ _) _ _ _)); first | walk1 | (dsimp only; walk1))
      rename_i l2 h2 F2 N2 lt2
      exact enumAt_mk F2 N2 (fun q hq => .tail _ hq) (.head _) rfl rfl StrsAre.nil
    · have ml' : (l, lo) ∈ (L' + 1, oC) :: (v, fieldsO "dict_keys" #[.ref x]) :: (x, o) :: (32, tabObj ps) :: SO := .tail _ (.tail _ (.tail _ (.tail _ ml)))
      repeat' ((fail_if_success (with_reducible show wpAny _ _ (truthy _) _ _ _)); first | walk1 | (dsimp only; walk1))
      refine truthy_strs N ml' c1 c3 S (by omega) ?_
      cases js with
      | nil =>
        simp only [List.isEmpty_nil, Bool.not_true, Bool.false_eq_true, if_false]
        repeat' ((fail_if_success (with_reducible show wpAny _ _ (call _ _ _) _ _ _)); first | walk1 | (dsimp only; walk1))
        rename_i l2 h2 F2 N2 lt2
        exact enumAt_mk F2 N2 (fun q hq => .tail _ hq) (.head _) rfl rfl StrsAre.nil
      | cons j0 jr =>
        simp only [List.isEmpty_cons, Bool.not_false, if_true]
        repeat' ((fail_if_success (with_reducible show wpAny _ _ (call _ _ _) _ _ _)); first | walk1 | (dsimp only; walk1))
        exact enumAt_mk F N (fun q hq => hq) ml' c1 c3 S
  case e1 =>
    rintro v' s' ⟨e, it, l0, lo0, ws0, n0, h2, tk2, own, rfl, rfl, F2, N2, sub, ml0, c1, c3, S0, hen, hit, l1, l2, l3⟩
    refine wpAny_pyIter_enum (s := { s with heap := h2, toks := tk2 }) hen ?_
    k_dflt (refine' en_block (s := { s with heap := h2, toks := tk2 }) RM'.hd ?b1 ?b2 ?b3 ?b4 ?b5 ?b6 ?b7 ?b8 hjs ?b9 F2 N2 ml0 c1 c3 S0 hen hit l1 l2 l3 ?_)
    case b1 => decide
    case b2 => with_unfolding_all rfl
    case b3 => with_unfolding_all rfl
    case b4 => with_unfolding_all rfl
    case b5 => decide
    case b6 => decide
    case b7 => decide
    case b8 => with_unfolding_all rfl
    case b9 => omega
    intro d h3 tk3 lD es3 ep3 ld F3 N3 pd
    have N4 : News g' L' h3 ((d, lD) :: (L' + 1, oC) :: (v, fieldsO "dict_keys" #[.ref x]) :: (x, o) :: (32, tabObj ps) :: SO) := fun q hq => N3 q (by
      rcases List.mem_cons.mp hq with rfl | hq
      · exact .head _
      · exact .tail _ (sub q hq))
    have ld1 : ∀ q ∈ (L' + 1, oC) :: (v, fieldsO "dict_keys" #[.ref x]) :: (x, o) :: (32, tabObj ps) :: SO, q.1 < d := fun q hq => ld q (sub q hq)
    have o32 : AllNe 32 SO := allNe_of hS32
    have oL1 : AllNe (L' + 1) SO := allNe_of fun q hq => Nat.ne_of_lt (Nat.lt_succ_of_lt (allLt_lt L1.2.2.2 q hq))
    k_lt ld1
    clear N3 N F2 N2 sub ml0 c1 c3 S0 hen hit l1 l2 l3 ld F
    repeat' ((fail_if_success (with_reducible show wpAny _ _ (exec (Stmt.Assign _ _ _) _) _ _ _)); first | walk1 | (dsimp only; walk1))
    rename_i h4 oC2 F5 N5 dC5
    have lowd : @LT.lt Nat _ 1 d := Nat.lt_trans (Nat.lt_of_lt_of_le (modules_low T'.nolimit) F5.above) (by omega)
    have hsd : (d == sysModules) = false := nsys lowd
    have iC : (L' + 1, oC2) ∈ (d, lD) :: (L' + 1, oC2) :: (v, fieldsO "dict_keys" #[.ref x]) :: (x, o) :: (32, tabObj ps) :: SO := .tail _ (.head _)
    have iD : (d, lD) ∈ (d, lD) :: (L' + 1, oC2) :: (v, fieldsO "dict_keys" #[.ref x]) :: (x, o) :: (32, tabObj ps) :: SO := .head _
    have ix : (x, o) ∈ (d, lD) :: (L' + 1, oC2) :: (v, fieldsO "dict_keys" #[.ref x]) :: (x, o) :: (32, tabObj ps) :: SO := .tail _ (.tail _ (.tail _ (.head _)))
    have iv : (v, fieldsO "dict_keys" #[.ref x]) ∈ (d, lD) :: (L' + 1, oC2) :: (v, fieldsO "dict_keys" #[.ref x]) :: (x, o) :: (32, tabObj ps) :: SO := .tail _ (.tail _ (.head _))
    k_dflt (refine' A_listcomp ?hw ?hc ?hk ?hn ?_ ?hs)
    case hw => with_unfolding_all rfl
    case hc => with_unfolding_all rfl
    case hk => with_unfolding_all rfl
    case hn => decide
    case hs => intro _; with_unfolding_all rfl
    repeat' ((fail_if_success (with_reducible show wpAny _ _ (pyIter _) _ _ _)); first | walk1 | (dsimp only; walk1))
    refine U_iter_keys (o := o) F5 N5 (N5 _ iv).1 (N5 _ ix).1 T1 fun I6 h6 F6 N6 l6 l6x => ?_
    k_dflt (refine' sel_use (keep := [(x, o)]) (ks := Keys D) (fun k => (lk k (idxD js)).isSome) ?c1 ?c2 ?b1 ?b2 ?b3 ?b4 ?b5 ?f1 ?f2 ?f3 ?b6 ?b7 ?b8 ?b9 ?b10 ?b11 ?b12 ?_ ?_)
    case f1 => exact F6
    case f2 => exact N6
    case f3 => exact iter_keysK RM'.hd T1 (Nat.ne_of_lt l6x)
    case c1 => with_unfolding_all rfl
    case c2 => with_unfolding_all rfl
    case b1 => decide
    case b2 => with_unfolding_all rfl
    case b3 => with_unfolding_all rfl
    case b4 => with_unfolding_all rfl
    case b5 => rw [keys_len]; omega
    case b6 => exact ⟨rfl, rfl⟩
    case b7 => intro q hq; rw [List.mem_singleton.mp hq]; exact Nat.ne_of_lt l6x
    case b8 => exact fun q hq => Nat.ne_of_lt (l6 q hq)
    case b9 => intro q hq; rw [List.mem_singleton.mp hq]; exact .inl ix
    case b10 => exact fun _ => by with_unfolding_all rfl
    case b11 => exact fun _ => by with_unfolding_all rfl
    case b12 => decide
    · intro C k t h7 tk7 own m₁ hk7 F7 N7 sub7
      exact tst_in rfl F7 N7 (sub7 _ iD) pd hsd (sub7 _ iC) dC5 (by with_unfolding_all rfl) (by with_unfolding_all rfl) (by with_unfolding_all rfl) (by with_unfolding_all rfl) (by decide) (by decide)
    intro D8 h8 tk8 l8 y8 n8 ld8 F8 N8 c81 c82 c83 S8
    clear N6 F6 l6 l6x
    dsimp only
    repeat' ((fail_if_success (with_reducible show wpAny _ _ (exec (Stmt.Assign _ _ _) _) _ _ _)); first | walk1 | (dsimp only; walk1))
    have iC' := List.mem_cons_of_mem (D8, l8) iC
    have iD' := List.mem_cons_of_mem (D8, l8) iD
    have ix' := List.mem_cons_of_mem (D8, l8) ix
    have iv' := List.mem_cons_of_mem (D8, l8) iv
    k_dflt (refine' A_listcomp ?hw ?hc ?hk ?hn ?_ ?hs)
    case hw => with_unfolding_all rfl
    case hc => with_unfolding_all rfl
    case hk => with_unfolding_all rfl
    case hn => decide
    case hs => intro _; with_unfolding_all rfl
    repeat' ((fail_if_success (with_reducible show wpAny _ _ (pyIter _) _ _ _)); first | walk1 | (dsimp only; walk1))
    refine U_iter_keys (o := o) F8 N8 (N8 _ iv').1 (N8 _ ix').1 T1 fun I9 h9 F9 N9 l9 l9x => ?_
    k_dflt (refine' sel_use (keep := [(x, o)]) (ks := Keys D) (fun k => !(lk k (idxD js)).isSome) ?c1 ?c2 ?b1 ?b2 ?b3 ?b4 ?b5 ?f1 ?f2 ?f3 ?b6 ?b7 ?b8 ?b9 ?b10 ?b11 ?b12 ?_ ?_)
    case f1 => exact F9
    case f2 => exact N9
    case f3 => exact iter_keysK RM'.hd T1 (Nat.ne_of_lt l9x)
    case c1 => with_unfolding_all rfl
    case c2 => with_unfolding_all rfl
    case b1 => decide
    case b2 => with_unfolding_all rfl
    case b3 => with_unfolding_all rfl
    case b4 => with_unfolding_all rfl
    case b5 => rw [keys_len]; omega
    case b6 => exact ⟨rfl, rfl⟩
    case b7 => intro q hq; rw [List.mem_singleton.mp hq]; exact Nat.ne_of_lt l9x
    case b8 => exact fun q hq => Nat.ne_of_lt (l9 q hq)
    case b9 => intro q hq; rw [List.mem_singleton.mp hq]; exact .inl ix'
    case b10 => exact fun _ => by with_unfolding_all rfl
    case b11 => exact fun _ => by with_unfolding_all rfl
    case b12 => decide
    · intro C k t h7 tk7 own m₁ hk7 F7 N7 sub7
      exact tst_notin rfl F7 N7 (sub7 _ iD') pd hsd (sub7 _ iC') dC5 (by with_unfolding_all rfl) (by with_unfolding_all rfl) (by with_unfolding_all rfl) (by with_unfolding_all rfl) (by decide) (by decide)
    intro DA hA tkA lA yA nA ldA FA NA cA1 cA2 cA3 SA
    clear N9 F9 l9 l9x
    dsimp only
    repeat' ((fail_if_success (with_reducible show wpAny _ _ (eval (Expr.Lambda _ _ _ _) _) _ _ _)); first | walk1 | (dsimp only; walk1))
    k_lt ld8
    k_lt ldA
    have FM2 : ∃ mm2, Fr g' L' hA mm2 ∧ mm2 (Str.ofString "tail") = some (.ref DA) := ⟨_, FA, by simp⟩
    obtain ⟨mm2, FB, mt⟩ := FM2
    clear FA
    have hlam : ∀ k ∈ (Keys D).filter (fun k => (lk k (idxD js)).isSome), lk k (idxD js) = some (.int (idxOf js k)) := fun k hk => idx_some hjs (List.mem_filter.mp hk).2
    refine lam_cut (G := g') (L := L') (m := mm2) (news := (DA, lA) :: (D8, l8) :: (d, lD) :: (L' + 1, oC2) :: (v, fieldsO "dict_keys" #[.ref x]) :: (x, o) :: SO) (SO := SO) (hks := (Keys D).filter fun k => (lk k (idxD js)).isSome) (js := js) (s₀ := s) ?l0 ?l1
    case l0 =>
      have C : CodeHd g' 34 32 := codeHd_of_K X' (by kernel_rfl)
      rcases hp with rfl | ⟨c', oc, vs, t, rfl, mc, nc, dc, vc⟩
      · k_dflt (refine' kla_eval ?zd0 ?_; (case zd0 => exact rfl))
        k_dflt (refine' kla_nest FB NA T' C ?zcd ?zU ?zt ?zn ?zcl ?_)
        case zcd => exact rfl
        case zU => k_updF
        case zt => exact True.intro
        case zn => exact rfl
        case zcl => exact rfl
        intro f c' oc vs t ctv hL tkL FL NL d1 d2 l1 l2
        dsimp only at NL
        refine ⟨f, c', oc, vs, t, hL, tkL, _, rfl, rfl, FL, NL, fun q hq => .tail _ (.tail _ (mem_skip6 hq)), .tail _ (.head _), d1, d2, ?_, ?_, .inl ?_, ?_⟩
        · with_unfolding_all exact mem_tail9
        · exact Nat.ne_of_gt (l1 (32, tabObj #[]) (by simp))
        · exact fun q hq => l1 q (mem_skip6 hq)
        · intro k t6 h6 tk6 own2 hk6 F6 N6
          exact U_lam (n := 34) F6 X' N6 T' (Room.in1 (n := 37) (Room.in1 (n := 38) RM')) (.head _) (.tail _ (.head _)) d1 d2 (.tail _ (.tail _ (.tail _ (.tail _ (.tail _ (.head _)))))) dC5 (.tail _ (.tail _ (.tail _ (.tail _ (.head _))))) pd (hlam k hk6) (by with_unfolding_all rfl) (by with_unfolding_all rfl) (by with_unfolding_all rfl) (by with_unfolding_all rfl) (fun _ => by with_unfolding_all rfl) (fun _ => by with_unfolding_all rfl) (by decide) (by decide) (by decide) (by decide) (by with_unfolding_all rfl) (by with_unfolding_all rfl) (by with_unfolding_all rfl)
      · k_dflt (refine' kla_eval ?yd0 ?_; (case yd0 => exact rfl))
        k_dflt (refine' kla_hit (c' := c') FB NA T' C ?ycd ?ym ?yt ?yn ?ycl ?_)
        case ycd => exact rfl
        case ym => exact .tail _ (.tail _ (.tail _ (.tail _ (.tail _ (.tail _ (.head _))))))
        case yt => kn_triples
        case yn => kn_hit
        case ycl => exact rfl
        intro f ctv hL tkL FL NL l1
        refine ⟨f, c', oc, vs, t, hL, tkL, _, rfl, rfl, FL, NL, fun q hq => .tail _ (mem_skip6 hq), .tail _ (.tail _ (.tail _ (.tail _ (.tail _ (.tail _ (.tail _ (.tail _ mc))))))), dc, vc, .tail _ (.tail _ (.tail _ (.tail _ (.tail _ (.tail _ (.tail _ (.head _))))))), nc, .inr mc, ?_⟩
        intro k t6 h6 tk6 own2 hk6 F6 N6
        exact U_lam (n := 34) F6 X' N6 T' (Room.in1 (n := 37) (Room.in1 (n := 38) RM')) (.head _) (List.mem_append_left _ (.tail _ (.tail _ (.tail _ (.tail _ (.tail _ (.tail _ (.tail _ (.tail _ mc))))))))) dc vc (.tail _ (.tail _ (.tail _ (.tail _ (.head _))))) dC5 (.tail _ (.tail _ (.tail _ (.head _)))) pd (hlam k hk6) (by with_unfolding_all rfl) (by with_unfolding_all rfl) (by with_unfolding_all rfl) (by with_unfolding_all rfl) (fun _ => by with_unfolding_all rfl) (fun _ => by with_unfolding_all rfl) (by decide) (by decide) (by decide) (by decide) (by with_unfolding_all rfl) (by with_unfolding_all rfl) (by with_unfolding_all rfl)
    case l1 =>
      rintro vL sL ⟨f, c', oc, vs, t, hL, tkL, own, rfl, rfl, FL, NL, subL, mc, dc, vc, m32, nc, lc, turn⟩
      repeat' ((fail_if_success (with_reducible show wpAny _ _ (call _ _ _) _ _ _)); first | walk1 | (dsimp only; walk1))
      have z1 : ((Keys D).filter fun k => (lk k (idxD js)).isSome).length < 64 := Nat.lt_of_le_of_lt (List.length_filter_le ..) (by rw [keys_len]; omega)
      have z2 : ((Keys D).filter fun k => !(lk k (idxD js)).isSome).length < 64 := Nat.lt_of_le_of_lt (List.length_filter_le ..) (by rw [keys_len]; omega)
      k_dflt (refine' U_sorted_key (idx := idxOf js) FL NL (subL _ (.tail _ (.head _))) c81 c83 S8 z1 turn ?_)
      intro B vsB ksB eB hB tkB FC NC lB SB pB oB
      clear turn
      repeat' ((fail_if_success (with_reducible show wpAny _ _ (call _ _ _) _ _ _)); first | walk1 | (dsimp only; walk1))
      k_dflt (refine' U_sorted_strs FC NC (.tail _ (subL _ (.head _))) cA1 cA3 SA z2 ?_)
      intro B2 vs2 ks2 e2 hB2 FD ND lB2 SB2 pB2 oB2
      k_dflt (refine' U_add_strs FD ND (.tail _ (.head _)) (.head _) rfl rfl rfl rfl SB SB2 ?_ ?_)
      · have q1 := pB.length_eq
        have q2 := pB2.length_eq
        omega
      intro D9 xs h9 F9 N9 l9 S9
      have NO : News g' L' h9 own := fun q hq => N9 q (.tail _ (.tail _ (.tail _ hq)))
      have lO : ∀ q ∈ own, q.1 < D9 := fun q hq => l9 q (.tail _ (.tail _ hq))
      have memS : ∀ q ∈ (v, fieldsO "dict_keys" #[.ref x]) :: (x, o) :: (32, tabObj ps) :: SO, q.1 ≠ 32 → q ∈ own := fun q hq hne => by
        rcases List.mem_cons.mp hq with rfl | hq
        · exact subL _ (.tail _ (.tail _ (.tail _ (.tail _ (.head _)))))
        · rcases List.mem_cons.mp hq with rfl | hq
          · exact subL _ (.tail _ (.tail _ (.tail _ (.tail _ (.tail _ (.head _))))))
          · rcases List.mem_cons.mp hq with rfl | hq
            · exact absurd rfl hne
            · exact subL _ (.tail _ (.tail _ (.tail _ (.tail _ (.tail _ (.tail _ hq))))))
      have l32 : (32 : Nat) < D9 := lO _ m32
      have far : ∀ a : Addr, (∀ q ∈ own, q.1 < a ∨ q.1 = 32) → a ≠ 32 → a ∉ ((v, fieldsO "dict_keys" #[.ref x]) :: (x, o) :: (32, tabObj ps) :: SO).map (·.1) := fun a ha hne hm => by
        obtain ⟨q, hq, rfl⟩ := List.mem_map.mp hm
        rcases ha q (memS q hq hne) with z | z
        · exact Nat.lt_irrefl _ z
        · exact hne z
      refine hQ h9 _ D9 xs _ c' oc vs t (ext_but (A2 _ F9.keep) hSS NO memS) (NO _ m32).1 (NO _ mc).1 dc vc nc ?_ (fresh_of A1 (N9 _ (.head _)).2.2 (far D9 (fun q hq => .inl (lO q hq)) (Nat.ne_of_gt l32))) (N9 _ (.head _)).1 (Nat.ne_of_gt (lO _ mc)) (Nat.ne_of_gt l32) S9 ⟨ks2, ?_, ?_, oB2⟩
      · rcases lc with z | z
        · refine .inl (fresh_of A1 (NO _ mc).2.2 fun hm => ?_)
          obtain ⟨q, hq, e⟩ := List.mem_map.mp hm
          rcases List.mem_cons.mp hq with rfl | hq
          · exact Nat.ne_of_lt (z _ (.tail _ (.tail _ (.tail _ (.tail _ (.head _)))))) e
          · rcases List.mem_cons.mp hq with rfl | hq
            · exact Nat.ne_of_lt (z _ (.tail _ (.tail _ (.tail _ (.tail _ (.tail _ (.head _))))))) e
            · rcases List.mem_cons.mp hq with rfl | hq
              · exact nc e.symm
              · exact Nat.ne_of_lt (z _ (.tail _ (.tail _ (.tail _ (.tail _ (.tail _ (.tail _ hq))))))) e
        · exact .inr z
      · rw [head_row hjs hn pB oB]
      · simpa only [lk_idx] using pB2
theorem U_canon1 {w : World} {G : Heap} {A : Around} {s : Shared} {p : Program} {loose : List Str} {mean : ExcName → Option Value} {mg mb : Str → Option Value} {E : Value → Shared → Prop} {Q : Value → Shared → Prop} {L : Addr} {m : Str → Option Value} {news : List (Addr × Obj)} {f : Obj → List (Addr × Obj)} (F : Fr G L s.heap m) (X : (hd.heap_39 w.params).In G) (N : News G L s.heap news) (T : Top p loose mean mg mb G) {n : Nat} (RM : Room (n + 40) A) {v x l : Addr} {o lo : Obj} {D : DD} {es : List DictEntry} {ep epl : Nat} {js : List Str} {ws : List Value}
    (hv : (v, fieldsO "dict_keys" #[.ref x]) ∈ news) (hx : (x, o) ∈ news) (hlo : (l, lo) ∈ news) (U : UpdF 32 (tabObj #[]) news f) (hvt : @Ne Nat v 32) (hxt : @Ne Nat x 32) (hlt : @Ne Nat l 32) (hsx : (x == sysModules) = false) (T1 : IsD o D es ep) (c1 : lo.cls = .type "list") (c3 : lo.data = .seq ws.toArray epl) (S1 : StrsAre ws js)
    (hjs : js.Nodup) (hjl : js.length ≤ 3) (hn : (Keys D).Nodup) (hl : D.length ≤ 20)
    (h : ∀ h' tk' B ys ks c' oc vs t, Fr G L h' m → News G L h' ((B, PySem.W.listOf (List.toArray ys) 0) :: (c', oc) :: f (lamTab c')) → (∀ q ∈ news, q.1 ≠ B) → (∀ q ∈ news, q.1 ≠ c') → @Ne Nat B c' → oc.data = .fields vs → vs[1]? = some (.str lamQual t) → StrsAre ys ks → CanonIs D js ks → Q (.ref B) { s with heap := h', toks := tk' }) : wpAny (model PySem.Challenge.rw_co0001_01.row.prog w) A (call (.ref 35) [.ref v, .ref l]) Q E s := by
  refine wpAny_call (C_canon (SO := [(l, lo)]) X T F.keep (RM.of (by omega) (by omega)) (News.at N hv) (News.at N hx) (News.at N (updF_mem U)) (fun q hq => by rw [List.mem_singleton.mp hq]; exact News.at N hlo) (fun q hq => by rw [List.mem_singleton.mp hq]; exact hlt) hvt hxt hsx T1 (.inr ⟨l, lo, ws, epl, rfl, .head _, c1, c3, S1⟩) (.inl rfl) hjs hjl hn hl fun h' tk' B ys ks c' oc vs t e g gc dc vc nc fc fB gB nB nB2 S CI => ?_)
  obtain ⟨F', N'⟩ := use1 F N U e g
  have off : ∀ {a : Addr}, s.heap.get? a = none → ∀ q ∈ news, q.1 ≠ a := fun {a} z q hq e => by
    have := (N q hq).1
    rw [e, z] at this; cases this
  obtain ⟨oL, _, _, hoL, _⟩ := F.ns
  have fresh : ∀ {a : Addr}, s.heap.get? a = none → a ≠ L ∧ G.get? a = none := fun {a} z => by
    refine ⟨fun x => (by rw [x, hoL] at z; cases z), ?_⟩
    cases zz : G.get? a with
    | none => rfl
    | some o => rw [F.keep _ _ zz] at z; cases z
  by_cases hc : (c', oc) ∈ [(l, lo)]
  · -- the code object is no list
    have hc' := List.mem_singleton.mp hc
    rw [show oc = lo from congrArg Prod.snd hc', c3] at dc
    cases dc
  · have fc' : s.heap.get? c' = none := fc.elim id fun z => absurd z hc
    refine h h' tk' B ys ks c' oc vs t F' (fun q hq => ?_) (off fB) (off fc') nB dc vc S CI
    rcases List.mem_cons.mp hq with rfl | hq
    · exact ⟨gB, fresh fB⟩
    · rcases List.mem_cons.mp hq with rfl | hq
      · exact ⟨gc, fresh fc'⟩
      · exact N' q hq
theorem U_canon2 {w : World} {G : Heap} {A : Around} {s : Shared} {p : Program} {loose : List Str} {mean : ExcName → Option Value} {mg mb : Str → Option Value} {E : Value → Shared → Prop} {Q : Value → Shared → Prop} {L : Addr} {m : Str → Option Value} {news : List (Addr × Obj)} {f : Obj → List (Addr × Obj)} (F : Fr G L s.heap m) (X : (hd.heap_39 w.params).In G) (N : News G L s.heap news) (T : Top p loose mean mg mb G) {n : Nat} (RM : Room (n + 40) A) {v x c' : Addr} {o oc : Obj} {D : DD} {es : List DictEntry} {ep : Nat} {vs : Array Value} {t : Tok}
    (hv : (v, fieldsO "dict_keys" #[.ref x]) ∈ news) (hx : (x, o) ∈ news) (hc : (c', oc) ∈ news) (U : UpdF 32 (lamTab c') news f) (hvt : @Ne Nat v 32) (hxt : @Ne Nat x 32) (hct : @Ne Nat c' 32) (hsx : (x == sysModules) = false) (T1 : IsD o D es ep) (dc : oc.data = .fields vs) (vc : vs[1]? = some (.str lamQual t))
    (hn : (Keys D).Nodup) (hl : D.length ≤ 20)
    (h : ∀ h' tk' B ys ks c2, Fr G L h' m → News G L h' ((B, PySem.W.listOf (List.toArray ys) 0) :: f (lamTab c2)) → (∀ q ∈ news, q.1 ≠ B) → StrsAre ys ks → CanonIs D [] ks → Q (.ref B) { s with heap := h', toks := tk' }) : wpAny (model PySem.Challenge.rw_co0001_01.row.prog w) A (call (.ref 35) [.ref v, .none]) Q E s := by
  refine wpAny_call (C_canon (SO := [(c', oc)]) X T F.keep (RM.of (by omega) (by omega)) (News.at N hv) (News.at N hx) (News.at N (updF_mem U)) (fun q hq => by rw [List.mem_singleton.mp hq]; exact News.at N hc) (fun q hq => by rw [List.mem_singleton.mp hq]; exact hct) hvt hxt hsx T1 (.inl ⟨rfl, rfl⟩) (.inr ⟨c', oc, vs, t, rfl, .head _, hct, dc, vc⟩) List.nodup_nil (Nat.zero_le _) hn hl fun h' tk' B ys ks c2 oc2 vs2 t2 e g gc dc2 vc2 nc fc fB gB nB nB2 S CI => ?_)
  obtain ⟨F', N'⟩ := use1 F N U e g
  obtain ⟨oL, _, _, hoL, _⟩ := F.ns
  refine h h' tk' B ys ks c2 F' (fun q hq => ?_) (fun q hq e => by have := (N q hq).1; rw [e, fB] at this; cases this) S CI
  rcases List.mem_cons.mp hq with rfl | hq
  · refine ⟨gB, fun e => (by have e' : B = L := e; rw [e', hoL] at fB; cases fB), ?_⟩
    show G.get? B = none
    cases zz : G.get? B with
    | none => rfl
    | some o => rw [F.keep _ _ zz] at fB; cases fB
  · exact N' q hq
set_option maxHeartbeats 0 in
theorem C_items {w : World} {G : Heap} {A : Around} {s : Shared} {p : Program} {loose : List Str} {mean : ExcName → Option Value} {mg mb : Str → Option Value} {R : Result → Shared → Prop} (X : (hd.heap_39 w.params).In G) (T : Top p loose mean mg mb G) (SG : G.StaysIn s.heap) (RM : Room 60 A) {x dx l : Addr} {o lo : Obj} {D : DD} {es : List DictEntry} {ep epl : Nat} {js : List Str} {ws : List Value}
    (hx : At G s.heap x o) (hdx : At G s.heap dx (dictOf [] 0)) (hl0 : At G s.heap l lo) (ht : At G s.heap 32 (tabObj #[])) (hxt : @Ne Nat x 32) (hdt : @Ne Nat dx 32) (hlt : @Ne Nat l 32) (hne : @Ne Nat dx x) (hsx : (x == sysModules) = false) (T1 : TD o dx D es ep) (c1 : lo.cls = .type "list") (c3 : lo.data = .seq ws.toArray epl) (S1 : StrsAre ws js)
    (hjs : js.Nodup) (hjl : js.length ≤ 3) (hn : (Keys D).Nodup) (hl : D.length ≤ 20) (hup : ∀ k ∈ Keys D, Txt.upper k = k ∧ k.length ≤ 100)
    (hQ : ∀ h' tk' d lD ys n tl ks c' oc vs t, Ext [32] s.heap h' → h'.get? 32 = some (lamTab c') → h'.get? c' = some oc → oc.data = .fields vs → vs[1]? = some (.str lamQual t) → s.heap.get? c' = none → s.heap.get? d = none → h'.get? d = some lD → d ≠ c' → lD.cls = .type "list" → lD.dict = none → lD.data = .seq (List.toArray ys) n → PairsIn tl (List.toArray ys) (ks.map fun k => (k, (lk k D).getD .none)) → (∀ q ∈ tl, h'.get? q.1 = some q.2 ∧ q.2.cls = .type "tuple" ∧ s.heap.get? q.1 = none) → CanonIs D js ks → R (.ok (.ret (.ref d))) { s with heap := h', toks := tk' }) :
    codeAny (model PySem.Challenge.rw_co0001_01.row.prog w) A (.call (.ref 41) ⟨[.ref x, .ref l], []⟩) R s := by
  k_dflt (refine' call_rc X T SG RM [(x, o), (dx, dictOf [] 0), (l, lo), (32, tabObj #[])] (at4 hx hdx hl0 ht) ?k6 ?k7 ?k9 ?kB ?kD ?_ ?c2 ?c3 ?c4)
  case k6 => k_is
  case k7 => k_is
  case k9 => first | exact BindsTo.of_eq rfl | exact binds_K (X.keeps SG) rfl (by k_is) rfl rfl rfl
  case kB => k_dflt exact rfl
  case kD => decide +kernel
  case c2 => k_dflt exact rfl
  case c3 => k_dflt exact rfl
  case c4 => k_dflt exact rfl
  k_whole
  intro g' L' h₁ tk₁ cells₁ SG' A1 A2 F N Y X' T' L1 RM'
  k_lt L1
  k_cells Y
  (try simp only [List.cons_append, List.nil_append] at N)
  clear X T SG RM
  try dsimp only
  try k_fold
  rename_i oC dC
  replace dC : oC.data = .cell (some (.ref x)) := dC
  repeat' ((fail_if_success (with_reducible show wpAny _ _ (eval (Expr.ListComp _ _ _ _) _) _ _ _)); first | walk1 | (dsimp only; walk1))
  k_dflt (refine' U_listcomp ?hc ?hk ?hn ?_ ?hs)
  case hc => with_unfolding_all rfl
  case hk => with_unfolding_all rfl
  case hn => decide
  case hs => intro _; with_unfolding_all rfl
  repeat' ((fail_if_success (with_reducible show wpAny _ _ (call (Value.ref 35) _ _) _ _ _)); first | walk1 | (dsimp only; walk1))
  rename_i v2 h2 F2 N2 l2
  k_dflt (refine' U_canon1 (n := 19) (o := o) (lo := lo) (x := x) F2 X' N2 T' RM' (.head _) (.tail _ (.tail _ (.head _))) (.tail _ (.tail _ (.tail _ (.tail _ (.head _))))) ?zU ?zv hxt hlt hsx T1.isd c1 c3 S1 hjs hjl hn hl ?_)
  case zU => k_updF
  case zv => k_ne
  intro h3 tk3 B ys ks c' oc vs t F3 N3 lB lc nBc dc vc SB CS
  try dsimp only at N3
  refine U_iter_list F3 N3 (N3 _ (.head _)).1 rfl rfl fun I h4 F4 N4 l4 l4x => ?_
  k_dflt (refine' pr_block (keep := [(B, PySem.W.listOf (List.toArray ys) 0)]) (ks := ks) (fun k => (lk k D).getD .none) ?b1 ?b2 ?b3 ?b4 ?b5 ?f1 ?f2 ?f3 ?b6 ?b7 ?b8 ?b9 ?b10 ?b11 ?b12 ?b13 ?_ ?_)
  case f1 => exact F4
  case f2 => exact N4
  case f3 => exact iter_strs RM'.hd rfl rfl SB (Nat.ne_of_lt l4x)
  case b1 => decide
  case b2 => with_unfolding_all rfl
  case b3 => with_unfolding_all rfl
  case b4 => with_unfolding_all rfl
  case b5 => have := CS.len; omega
  case b6 => exact ⟨rfl, rfl⟩
  case b7 => intro q hq; rw [List.mem_singleton.mp hq]; exact Nat.ne_of_lt l4x
  case b8 => exact l4
  case b9 => intro q hq; rw [List.mem_singleton.mp hq]; exact .inl (.head _)
  case b10 => exact fun _ => by with_unfolding_all rfl
  case b11 => exact fun _ => by with_unfolding_all rfl
  case b12 => decide
  case b13 => exact fun _ => rfl
  · intro C k t5 h5 tk5 own m₁ hk F5 N5 sub
    have mx : (x, o) ∈ own := sub _ (.tail _ (.tail _ (.tail _ (.tail _ (.head _)))))
    have mdx : (dx, dictOf [] 0) ∈ own := sub _ (.tail _ (.tail _ (.tail _ (.tail _ (.tail _ (.head _))))))
    have mc : (L' + 1, oC) ∈ own := sub _ (.tail _ (.tail _ (.tail _ (.head _))))
    have hu := hup k (CS.mem k hk)
    obtain ⟨u, hlk⟩ := Option.isSome_iff_exists.mp (lk_keys.mpr (CS.mem k hk))
    refine Subscript_ ?_
    refine nameE_C (cenv := compEnvC _ _ C _) N5 (by with_unfolding_all rfl) mc dC ?_ (by with_unfolding_all rfl) (by with_unfolding_all rfl) (by decide)
    refine nameE_L (v := .str k t5) F5 (by simp) ?_ (by with_unfolding_all rfl) (by with_unfolding_all rfl) (by decide)
    have N6 : News g' C h5 [(x, o), (dx, dictOf [] 0)] := news_cons N5 mx (news_cons N5 mdx news_nil)
    have hid : ∃ y : Unit, News g' C h5 own := ⟨(), N5⟩
    clear N5 N4 N3 N2 F4 F3 F2
    repeat' ((fail_if_success (with_reducible show wpAny _ _ (call (Value.ref 65) _ _) _ _ _)); first | walk1 | (dsimp only; walk1))
    obtain ⟨_, N5⟩ := hid
    k_dflt (refine' U_getitem (n := 52) (u := u) (f := fun _ => []) F5 X' N5 T' (Room.in1 (n := 58) RM') mx T1 mdx hsx hu.2 hne (by rw [hu.1]; exact hlk) ?_)
    intro h6 tk6 v6 F6 N6 hv6
    refine ⟨?_, h6, tk6, rfl, F6, N6⟩
    show VIs ((lk k D).getD .none) v6
    rw [hlk]
    exact hv6
  · intro d h6 tk6 lD y6 n6 tl ld nd F6 N6 d1 d2 d3 P tt
    have far4 : ∀ a : Addr, @Ne Nat a x → @Ne Nat a dx → @Ne Nat a l → @Ne Nat a 32 → a ∉ [(x, o), (dx, dictOf [] 0), (l, lo), (32, tabObj #[])].map (·.1) := fun a h1 h2 h3 h4 => by
      simp only [List.map_cons, List.map_nil, List.mem_cons, List.not_mem_nil, or_false, not_or]
      exact ⟨h1, h2, h3, h4⟩
    have ix : (x, o) ∈ (d, lD) :: ([(B, PySem.W.listOf ys.toArray 0), (c', oc), (v2, fieldsO "dict_keys" #[.ref x]), (L' + 1, oC), (x, o), (dx, dictOf [] 0), (l, lo), (32, lamTab c')] ++ tl) := .tail _ (.tail _ (.tail _ (.tail _ (.tail _ (.head _)))))
    refine hQ h6 _ d lD y6 n6 tl ks c' oc vs t (ext_but (A2 _ F6.keep) (at4 hx hdx hl0 ht) N6 ?_) (N6 _ (.tail _ (.tail _ (.tail _ (.tail _ (.tail _ (.tail _ (.tail _ (.tail _ (.head _)))))))))).1 (N6 _ (.tail _ (.tail _ (.head _)))).1 dc vc (fresh_of A1 (N6 _ (.tail _ (.tail _ (.head _)))).2.2 ?_) (fresh_of A1 (N6 _ (.head _)).2.2 ?_) (N6 _ (.head _)).1 ?_ d1 d2 d3 P ?_ CS
    · intro q hq hne
      simp only [List.mem_cons, List.not_mem_nil, or_false] at hq
      rcases hq with rfl | rfl | rfl | rfl
      · exact .tail _ (.tail _ (.tail _ (.tail _ (.tail _ (.head _)))))
      · exact .tail _ (.tail _ (.tail _ (.tail _ (.tail _ (.tail _ (.head _))))))
      · exact .tail _ (.tail _ (.tail _ (.tail _ (.tail _ (.tail _ (.tail _ (.head _)))))))
      · exact absurd rfl hne
    · exact far4 c' (Ne.symm (lc (x, o) (by simp))) (Ne.symm (lc (dx, dictOf [] 0) (by simp))) (Ne.symm (lc (l, lo) (by simp))) (Ne.symm (lc (32, tabObj #[]) (by simp)))
    · exact far4 d (Nat.ne_of_gt (ld (x, o) (by simp))) (Nat.ne_of_gt (ld (dx, dictOf [] 0) (by simp))) (Nat.ne_of_gt (ld (l, lo) (by simp))) (Nat.ne_of_gt (ld (32, lamTab c') (by simp)))
    · exact Nat.ne_of_gt (ld (c', oc) (by simp))
    · intro q hq
      obtain ⟨q1, q2⟩ := tt q hq
      have z := N6 q (.tail _ (List.mem_append_right _ hq))
      refine ⟨z.1, q2, fresh_of A1 z.2.2 (far4 q.1 ?_ ?_ ?_ ?_)⟩
      · exact Nat.ne_of_gt (Nat.lt_trans (l4 (x, o) (by simp)) q1)
      · exact Nat.ne_of_gt (Nat.lt_trans (l4 (dx, dictOf [] 0) (by simp)) q1)
      · exact Nat.ne_of_gt (Nat.lt_trans (l4 (l, lo) (by simp)) q1)
      · exact Nat.ne_of_gt (Nat.lt_trans (l4 (32, lamTab c') (by simp)) q1)
section
variable {prog : Program} {w : World} {A : Around} {E : Value → Shared → Prop} {s : Shared} {x C : Addr} {K : Frag} {ox od : Obj} {name : Str}
/-- a class's own value, none -/
theorem attr_none {Q : Value → Shared → Prop} (X : K.In s.heap) (I : InstAt s.heap x ox C (some od)) (hga : findIn K (.ref C) "__getattribute__" = some (some (.builtin "dict.__getattribute__"))) (hk : findIn K (.ref C) "__getattr__" = some none) (hm : mroIn K C (.type "dict") = some true)
    (hf : findObj K C (some od) name = some (.value .none)) (h : Q .none { s with toks := s.toks + 1 }) : wpAny (model prog w) A (getAttr (.ref x) name true) Q E s := by
  obtain ⟨hh, g, d, t, os⟩ := s
  have L0 := I.type (M := model prog w)
  have L1 := looks_findIn (M := model prog w) X hga
  have L2 := looks_findIn (M := model prog w) X hk
  have L3 := looks_find (M := model prog w) X I hf
  unfold getAttr getAttrBy
  refine wpAny_bind (wpAny_mkText (wpAny_holding (wpAny_bind (L0.at (wpAny_bind (L1.at ?_))))))
  show wpAny _ _ (getAttrByItsOwn (.ref x) (.str name t) (.ref C) (.builtin "dict.__getattribute__") true true) _ _ _
  unfold getAttrByItsOwn hookBefore callGetattribute boundAndCalled
  show wpAny _ _ (typeLookup (.ref C) "__getattr__" >>= _) _ _ _
  refine wpAny_bind (L2.at ?_)
  refine wpAny_bind (wpAny_attempt (wpAny_holding ?_))
  show wpAny _ _ (bindSpecial (.builtin "dict.__getattribute__") (.ref x) >>= _) _ _ _
  refine wpAny_bind (wpAny_of_eq (PySem.F.slot_dict_getattribute.bind _) ?_)
  refine wpAny_call (codeAny_call_builtin TF.plain PySem.F.entry_dict_ga (@check_slot (model prog w) _ _ _ "dict.__getattribute__" "dict" "__getattribute__" (.ref x) [.str name t] [] _ TF.kind TF.split (inst_dict X I hm) (PySem.F.args_dict_getattribute_2 _ _) ?_))
  unfold Builtin.«object.__getattribute__»
  refine wpAny_bind (wpAny_of_eq (a := (Value.ref x, [Value.str name t])) (by first | rfl | kernel_rfl) ?_)
  dsimp only
  refine wpAny_bind (wpAny_of_eq (a := name) (by first | rfl | kernel_rfl) ?_)
  refine wpAny_bind (L0.at (wpAny_bind (L3.at ?_)))
  show wpAny _ _ (ret .none) _ _ _
  exact wpAny_pure (handed_on rfl h)
end
theorem U_attr_none {w : World} {A : Around} {E : Value → Shared → Prop} {s : Shared} {x : Addr} {ox : Obj} {name : Str} {G : Heap} {L : Addr} {m : Str → Option Value} {n : Nat} {prog : Program} {Q : Value → Shared → Prop} (F : Fr G L s.heap m) (X : (hd.heap_39 w.params).In G) (I : InstAt s.heap x ox 169 (some (dictOf [] n)))
    (ha : findIn (hd.heap_39 w.params) (.ref 169) name = some (some .none)) (hgf : specialIn (hd.heap_39 w.params) .none "__get__" = some none) (hc : copiedNames.contains name = false)
    (h : Q .none { s with toks := s.toks + 1 }) : wpAny (model prog w) A (getAttr (.ref x) name true) Q E s := by
  have hh : hasDictIn (hd.heap_39 w.params) 169 = true := by k_dflt k_is
  refine attr_none (X.keeps F.keep) I ?a ?b ?c (findObj_cls hh ha hgf rfl hc (by show lookIn name (dictOf [] n) = _; rw [lookIn_dict]; rfl)) h
  case a => k_dflt k_is
  case b => k_dflt k_is
  case c => k_dflt k_is
set_option maxHeartbeats 0 in
theorem C_skeys {w : World} {G : Heap} {A : Around} {s : Shared} {p : Program} {loose : List Str} {mean : ExcName → Option Value} {mg mb : Str → Option Value} {R : Result → Shared → Prop} (X : (hd.heap_39 w.params).In G) (T : Top p loose mean mg mb G) (SG : G.StaysIn s.heap) (RM : Room 60 A) {x dx c' : Addr} {o oc : Obj} {D : DD} {es : List DictEntry} {ep : Nat} {vs : Array Value} {t : Tok}
    (hx : At G s.heap x o) (hdx : At G s.heap dx (dictOf [] 0)) (hc0 : At G s.heap c' oc) (ht : At G s.heap 32 (lamTab c')) (hxt : @Ne Nat x 32) (hdt : @Ne Nat dx 32) (hct : @Ne Nat c' 32) (hne : @Ne Nat dx x) (hsx : (x == sysModules) = false) (T1 : TD o dx D es ep) (dc : oc.data = .fields vs) (vc : vs[1]? = some (.str lamQual t))
    (hn : (Keys D).Nodup) (hl : D.length ≤ 20)
    (hQ : ∀ h' tk' B ys ks c2, Ext [32] s.heap h' → h'.get? 32 = some (lamTab c2) → s.heap.get? B = none → h'.get? B = some (listOf (List.toArray ys) 0) → StrsAre ys ks → CanonIs D [] ks → R (.ok (.ret (.ref B))) { s with heap := h', toks := tk' }) :
    codeAny (model PySem.Challenge.rw_co0001_01.row.prog w) A (.call (.ref 159) ⟨[.ref x], []⟩) R s := by
  k_dflt (refine' call_r X T SG RM [(x, o), (dx, dictOf [] 0), (c', oc), (32, lamTab c')] (at4 hx hdx hc0 ht) ?k6 ?k7 ?k9 ?kB ?_ ?c5 ?c2 ?c3 ?c4)
  case k6 => k_is
  case k7 => k_is
  case k9 => first | exact BindsTo.of_eq rfl | exact binds_K (X.keeps SG) rfl (by k_is) rfl rfl rfl
  case kB => k_dflt exact locs rfl
  case c5 => k_dflt decide
  case c2 => k_dflt exact rfl
  case c3 => k_dflt exact rfl
  case c4 => k_dflt exact rfl
  k_whole
  intro g' L' h₁ SG' A1 A2 F N X' T' L1 RM'
  k_lt L1
  clear X T SG RM
  try dsimp only
  try k_fold
  repeat' (first | walk1 | (dsimp only; walk1))
  rename_i v2 h2 F2 N2 l2
  k_dflt (refine' U_attr_none (n := 0) (ox := o) F2 X' ?zi ?za ?zb ?zc ?_)
  case zi => k_inst
  case za => k_is
  case zb => k_is
  case zc => decide +kernel
  repeat' ((fail_if_success (with_reducible show wpAny _ _ (call _ _ _) _ _ _)); first | walk1 | (dsimp only; walk1))
  k_dflt (refine' U_canon2 (n := 19) (o := o) (oc := oc) (x := x) F2 X' N2 T' RM' (.head _) (.tail _ (.head _)) (.tail _ (.tail _ (.tail _ (.head _)))) ?zU ?zv hxt hct hsx T1.isd dc vc hn hl ?_)
  case zU => k_updF
  case zv => k_ne
  intro h3 tk3 B ys ks c2 F3 N3 lB SB CS
  try dsimp only at N3
  refine hQ h3 _ B ys ks c2 (ext_but (A2 _ F3.keep) (at4 hx hdx hc0 ht) N3 ?_) (N3 _ (.tail _ (.tail _ (.tail _ (.tail _ (.tail _ (.head _))))))).1 (fresh_of A1 (N3 _ (.head _)).2.2 ?_) (N3 _ (.head _)).1 SB CS
  · intro q hq hne
    simp only [List.mem_cons, List.not_mem_nil, or_false] at hq
    rcases hq with rfl | rfl | rfl | rfl
    · exact .tail _ (.tail _ (.head _))
    · exact .tail _ (.tail _ (.tail _ (.head _)))
    · exact .tail _ (.tail _ (.tail _ (.tail _ (.head _))))
    · exact absurd rfl hne
  · simp only [List.map_cons, List.map_nil, List.mem_cons, List.not_mem_nil, or_false, not_or]
    exact ⟨Ne.symm (lB (x, o) (by simp)), Ne.symm (lB (dx, dictOf [] 0) (by simp)), Ne.symm (lB (c', oc) (by simp)), Ne.symm (lB (32, lamTab c') (by simp))⟩
theorem U_items {w : World} {G : Heap} {A : Around} {s : Shared} {p : Program} {loose : List Str} {mean : ExcName → Option Value} {mg mb : Str → Option Value} {E : Value → Shared → Prop} {Q : Value → Shared → Prop} {L : Addr} {m : Str → Option Value} {news : List (Addr × Obj)} {f : Obj → List (Addr × Obj)} (F : Fr G L s.heap m) (X : (hd.heap_39 w.params).In G) (N : News G L s.heap news) (T : Top p loose mean mg mb G) {n : Nat} (RM : Room (n + 60) A) {x dx l : Addr} {o lo : Obj} {D : DD} {es : List DictEntry} {ep epl : Nat} {js : List Str} {ws : List Value}
    (hx : (x, o) ∈ news) (hdx : (dx, dictOf [] 0) ∈ news) (hlo : (l, lo) ∈ news) (U : UpdF 32 (tabObj #[]) news f) (hxt : @Ne Nat x 32) (hdt : @Ne Nat dx 32) (hlt : @Ne Nat l 32) (hne : @Ne Nat dx x) (hsx : (x == sysModules) = false) (T1 : TD o dx D es ep) (c1 : lo.cls = .type "list") (c3 : lo.data = .seq ws.toArray epl) (S1 : StrsAre ws js)
    (hjs : js.Nodup) (hjl : js.length ≤ 3) (hn : (Keys D).Nodup) (hl : D.length ≤ 20) (hup : ∀ k ∈ Keys D, Txt.upper k = k ∧ k.length ≤ 100)
    (h : ∀ h' tk' d lD ys n tl ks c' oc vs t, Fr G L h' m → News G L h' ((d, lD) :: (c', oc) :: (f (lamTab c') ++ tl)) → (∀ q ∈ news, q.1 ≠ d) → (∀ q ∈ news, q.1 ≠ c') → (∀ p ∈ news, AllNe p.1 tl) → @Ne Nat d c' → oc.data = .fields vs → vs[1]? = some (.str lamQual t) → lD.cls = .type "list" → lD.dict = none → lD.data = .seq (List.toArray ys) n → PairsIn tl (List.toArray ys) (ks.map fun k => (k, (lk k D).getD .none)) → CanonIs D js ks → Q (.ref d) { s with heap := h', toks := tk' }) : wpAny (model PySem.Challenge.rw_co0001_01.row.prog w) A (call (.ref 41) [.ref x, .ref l]) Q E s := by
  refine wpAny_call (C_items X T F.keep (RM.of (by omega) (by omega)) (News.at N hx) (News.at N hdx) (News.at N hlo) (News.at N (updF_mem U)) hxt hdt hlt hne hsx T1 c1 c3 S1 hjs hjl hn hl hup fun h' tk' d lD ys n tl ks c' oc vs t e g gc dc vc fc fd gd ndc d1 d2 d3 P tt CI => ?_)
  obtain ⟨F', N'⟩ := use1 F N U e g
  have off : ∀ {a : Addr}, s.heap.get? a = none → ∀ q ∈ news, q.1 ≠ a := fun {a} z q hq e => by
    have := (N q hq).1
    rw [e, z] at this; cases this
  obtain ⟨oL, _, _, hoL, _⟩ := F.ns
  have fresh : ∀ {a : Addr}, s.heap.get? a = none → a ≠ L ∧ G.get? a = none := fun {a} z => by
    refine ⟨fun x => (by rw [x, hoL] at z; cases z), ?_⟩
    cases zz : G.get? a with
    | none => rfl
    | some o => rw [F.keep _ _ zz] at z; cases z
  refine h h' tk' d lD ys n tl ks c' oc vs t F' (fun q hq => ?_) (off fd) (off fc) (fun p hp => allNe_of fun q hq => Ne.symm (off (tt q hq).2.2 p hp)) ndc dc vc d1 d2 d3 P CI
  rcases List.mem_cons.mp hq with rfl | hq
  · exact ⟨gd, fresh fd⟩
  · rcases List.mem_cons.mp hq with rfl | hq
    · exact ⟨gc, fresh fc⟩
    · rcases List.mem_append.mp hq with hq | hq
      · exact N' q hq
      · exact ⟨(tt q hq).1, fresh (tt q hq).2.2⟩
theorem U_skeys {w : World} {G : Heap} {A : Around} {s : Shared} {p : Program} {loose : List Str} {mean : ExcName → Option Value} {mg mb : Str → Option Value} {E : Value → Shared → Prop} {Q : Value → Shared → Prop} {L : Addr} {m : Str → Option Value} {news : List (Addr × Obj)} {f : Obj → List (Addr × Obj)} (F : Fr G L s.heap m) (X : (hd.heap_39 w.params).In G) (N : News G L s.heap news) (T : Top p loose mean mg mb G) {n : Nat} (RM : Room (n + 60) A) {x dx c' : Addr} {o oc : Obj} {D : DD} {es : List DictEntry} {ep : Nat} {vs : Array Value} {t : Tok}
    (hx : (x, o) ∈ news) (hdx : (dx, dictOf [] 0) ∈ news) (hc : (c', oc) ∈ news) (U : UpdF 32 (lamTab c') news f) (hxt : @Ne Nat x 32) (hdt : @Ne Nat dx 32) (hct : @Ne Nat c' 32) (hne : @Ne Nat dx x) (hsx : (x == sysModules) = false) (T1 : TD o dx D es ep) (dc : oc.data = .fields vs) (vc : vs[1]? = some (.str lamQual t)) (hn : (Keys D).Nodup) (hl : D.length ≤ 20)
    (h : ∀ h' tk' B ys ks c2, Fr G L h' m → News G L h' ((B, PySem.W.listOf (List.toArray ys) 0) :: f (lamTab c2)) → (∀ q ∈ news, q.1 ≠ B) → StrsAre ys ks → CanonIs D [] ks → Q (.ref B) { s with heap := h', toks := tk' }) : wpAny (model PySem.Challenge.rw_co0001_01.row.prog w) A (call (.ref 159) [.ref x]) Q E s := by
  refine wpAny_call (C_skeys X T F.keep (RM.of (by omega) (by omega)) (News.at N hx) (News.at N hdx) (News.at N hc) (News.at N (updF_mem U)) hxt hdt hct hne hsx T1 dc vc hn hl fun h' tk' B ys ks c2 e g fB gB S CI => ?_)
  obtain ⟨F', N'⟩ := use1 F N U e g
  obtain ⟨oL, _, _, hoL, _⟩ := F.ns
  refine h h' tk' B ys ks c2 F' (fun q hq => ?_) (fun q hq e => by have := (N q hq).1; rw [e, fB] at this; cases this) S CI
  rcases List.mem_cons.mp hq with rfl | hq
  · refine ⟨gB, fun e => (by have e' : B = L := e; rw [e', hoL] at fB; cases fB), ?_⟩
    show G.get? B = none
    cases zz : G.get? B with
    | none => rfl
    | some o => rw [F.keep _ _ zz] at fB; cases fB
  · exact N' q hq
theorem U_eq_pT {w : World} {G : Heap} {A : Around} {s : Shared} {p : Program} {loose : List Str} {mean : ExcName → Option Value} {mg mb : Str → Option Value} {E : Value → Shared → Prop} {Q : Value → Shared → Prop} {L : Addr} {m : Str → Option Value} {news : List (Addr × Obj)} (F : Fr G L s.heap m) (X : (hd.heap_39 w.params).In G) (N : News G L s.heap news) (T : Top p loose mean mg mb G) {n : Nat} (RM : Room (n + 20) A) {x dx y dy : Addr} {o oy : Obj} {D Dy : DD} {es ey : List DictEntry} {ep epy : Nat}
    (hx : (x, o) ∈ news) (TD1 : TD o dx D es ep) (hdx : (dx, dictOf [] 0) ∈ news) (hy : (y, oy) ∈ news) (PD1 : PD oy Dy ey epy) (hsys : (x == sysModules) = false) (hsy : (y == sysModules) = false) (hne : @Ne Nat dx x) (hxy : @Ne Nat x y) (hdy : @Ne Nat dx y)
    (hn : (Keys D).Nodup) (hny : (Keys Dy).Nodup) (hl : D.length ≤ 900) (hly : Dy.length ≤ 900)
    {b : Bool} (hb : deq D Dy = b) (h : ∀ h' tk', Fr G L h' m → News G L h' news → Q (.bool b) { s with heap := h', toks := tk' }) : wpAny (model PySem.Challenge.rw_co0001_01.row.prog w) A (call (.ref 145) [.ref x, .ref y]) Q E s :=
  U_eq_p (dy := dy) F X N T RM hx TD1 hdx hy PD1 hsys hsy hne hxy hdy hn hny hl hly (fun h' tk' F' N' => hb ▸ h h' tk' F' N')
theorem U_eq_tT {w : World} {G : Heap} {A : Around} {s : Shared} {p : Program} {loose : List Str} {mean : ExcName → Option Value} {mg mb : Str → Option Value} {E : Value → Shared → Prop} {Q : Value → Shared → Prop} {L : Addr} {m : Str → Option Value} {news : List (Addr × Obj)} (F : Fr G L s.heap m) (X : (hd.heap_39 w.params).In G) (N : News G L s.heap news) (T : Top p loose mean mg mb G) {n : Nat} (RM : Room (n + 20) A) {x dx y dy : Addr} {o oy : Obj} {D Dy : DD} {es ey : List DictEntry} {ep epy : Nat}
    (hx : (x, o) ∈ news) (TD1 : TD o dx D es ep) (hdx : (dx, dictOf [] 0) ∈ news) (hy : (y, oy) ∈ news) (TD2 : TD oy dy Dy ey epy) (hdy' : (dy, dictOf [] 0) ∈ news) (hsys : (x == sysModules) = false) (hsy : (y == sysModules) = false) (hne : @Ne Nat dx x) (hxy : @Ne Nat x y) (hdy : @Ne Nat dx y) (hd1 : @Ne Nat dy x) (hd2 : @Ne Nat dy dx) (hd3 : @Ne Nat dy y)
    (hn : (Keys D).Nodup) (hny : (Keys Dy).Nodup) (hl : D.length ≤ 900) (hly : Dy.length ≤ 900)
    {b : Bool} (hb : deq D Dy = b) (h : ∀ h' tk', Fr G L h' m → News G L h' news → Q (.bool b) { s with heap := h', toks := tk' }) : wpAny (model PySem.Challenge.rw_co0001_01.row.prog w) A (call (.ref 145) [.ref x, .ref y]) Q E s :=
  U_eq_t F X N T RM hx TD1 hdx hy TD2 hdy' hsys hsy hne hxy hdy hd1 hd2 hd3 hn hny hl hly (fun h' tk' F' N' => hb ▸ h h' tk' F' N')
theorem U_ne_pT {w : World} {G : Heap} {A : Around} {s : Shared} {p : Program} {loose : List Str} {mean : ExcName → Option Value} {mg mb : Str → Option Value} {E : Value → Shared → Prop} {Q : Value → Shared → Prop} {L : Addr} {m : Str → Option Value} {news : List (Addr × Obj)} (F : Fr G L s.heap m) (X : (hd.heap_39 w.params).In G) (N : News G L s.heap news) (T : Top p loose mean mg mb G) {n : Nat} (RM : Room (n + 40) A) {x dx y dy : Addr} {o oy : Obj} {D Dy : DD} {es ey : List DictEntry} {ep epy : Nat}
    (hx : (x, o) ∈ news) (TD1 : TD o dx D es ep) (hdx : (dx, dictOf [] 0) ∈ news) (hy : (y, oy) ∈ news) (PD1 : PD oy Dy ey epy) (hsys : (x == sysModules) = false) (hsy : (y == sysModules) = false) (hne : @Ne Nat dx x) (hxy : @Ne Nat x y) (hdy : @Ne Nat dx y)
    (hn : (Keys D).Nodup) (hny : (Keys Dy).Nodup) (hl : D.length ≤ 900) (hly : Dy.length ≤ 900)
    {b : Bool} (hb : deq D Dy = b) (h : ∀ h' tk', Fr G L h' m → News G L h' news → Q (.bool (!b)) { s with heap := h', toks := tk' }) : wpAny (model PySem.Challenge.rw_co0001_01.row.prog w) A (call (.ref 152) [.ref x, .ref y]) Q E s :=
  U_ne_p (dy := dy) F X N T RM hx TD1 hdx hy PD1 hsys hsy hne hxy hdy hn hny hl hly (fun h' tk' F' N' => hb ▸ h h' tk' F' N')
section
variable {prog : Program} {w : World} {A : Around} {E : Value → Shared → Prop} {s : Shared} {G : Heap} {L : Addr} {m : Str → Option Value} {news : List (Addr × Obj)} {Q : Value → Shared → Prop}
theorem d_neT {a b : Addr} {o ob : Obj} {D Db : DD} {es esb : List DictEntry} {ep epb : Nat} {t : Bool} (hu : A.units < cLine) (sa : (a == sysModules) = false) (sb : (b == sysModules) = false) (ha : s.heap.get? a = some o) (Ta : PD o D es ep) (hb : s.heap.get? b = some ob) (Tb : PD ob Db esb epb) (e : deq D Db = t) (h : Q (.bool (!t)) s) :
    wpAny (model prog w) A (compareOp .NotEq (.ref a) (.ref b)) Q E s := d_ne hu sa sb ha Ta hb Tb (by rw [e]; exact h)
theorem StrsAre.rev {vs : List Value} {ks : List Str} (S : StrsAre vs ks) : StrsAre vs.reverse ks.reverse := by
  refine ⟨by simp [S.1], fun i k hi => ?_⟩
  have hl : i < ks.length := by
    rcases Nat.lt_or_ge i ks.length with q | q
    · exact q
    · rw [List.getElem?_eq_none (by simpa using q)] at hi; cases hi
  rw [List.getElem?_reverse hl] at hi
  obtain ⟨t, e⟩ := S.2 _ k hi
  exact ⟨t, by rw [List.getElem?_reverse (by rw [S.1]; exact hl), S.1]; exact e⟩
/-- texts[::-1] -/
theorem U_rev {value slice : PySem.Expr} {l : Addr} {lo : Obj} {vs : List Value} {ks : List Str} {n : Nat} {vk : Value} {ops : List Value} (F : Fr G L s.heap m) (N : News G L s.heap news) (hl : (l, lo) ∈ news) (c : lo.cls = .type "list") (d : lo.data = .seq vs.toArray n) (S : StrsAre vs ks) (hz : ks.length ≤ 900) (pk : IsPart vk (some (-1)))
    (h : ∀ D h', Fr G L h' m → News G L h' ((D, PySem.W.listOf vs.reverse.toArray 0) :: news) → (∀ p ∈ news, p.1 < D) → StrsAre vs.reverse ks.reverse → Q (.ref D) { s with heap := h' })
    (hs : subscripted slice false (.ref l) (.ref s.heap.objs.size) = operate ops (getItem (.ref l) (.ref s.heap.objs.size))) :
    wpAny (model prog w) A (subscriptTail value slice (.ref l) (.ref s.heap.objs.size)) Q E { s with heap := s.heap.push { cls := .type "slice", data := .fields #[.none, .none, vk] } } := by
  have hL : s.heap.IsList l vs.toArray := ⟨lo, (N _ hl).1, c, n, d⟩
  refine tail_any (T := "list") (Heap.IsList.typeIs (s := { s with heap := s.heap.push { cls := .type "slice", data := .fields #[.none, .none, vk] } }) (hL.push _)) list_getitem_lookup (wpAny_getItem_list_slice (hL.push _) (Heap.IsSliceOf.new ..) .none .none pk (by decide) ?_ (by rw [List.size_toArray, S.1, sizeLine_eq]; omega)) hs
  have N1 := News.push (F.push { cls := .type "slice", data := .fields #[.none, .none, vk] }) (N.grown fun _ _ e => Heap.get?_push_of_some _ e) { cls := .type "list", data := .seq (slicePick vs.toArray none none (some (-1))) }
  refine h _ _ ((F.push _).push _) ?_ (fun p hp => ?_) S.rev
  · rw [krv_pick] at N1 ⊢
    exact N1
  · exact Nat.lt_of_lt_of_le (Heap.lt_size (N p hp).1) (by show s.heap.objs.size ≤ (s.heap.push _).objs.size; rw [Heap.size_push]; exact Nat.le_succ _)
theorem pick3 {x y z : Value} {r : Int} (h0 : 0 ≤ r) (h1 : r < 4) : slicePick #[x, y, z] none (some r) none = ([x, y, z].take r.toNat).toArray := by
  have c : r = 0 ∨ r = 1 ∨ r = 2 ∨ r = 3 := by omega
  rcases c with rfl | rfl | rfl | rfl <;> rfl
theorem StrsAre.take {vs : List Value} {ks : List Str} (S : StrsAre vs ks) (n : Nat) : StrsAre (vs.take n) (ks.take n) := by
  refine ⟨by simp [S.1], fun i k hi => ?_⟩
  rw [List.getElem?_take] at hi ⊢
  split at hi
  · rename_i q
    obtain ⟨t, e⟩ := S.2 i k hi
    exact ⟨t, by rw [if_pos q]; exact e⟩
  · cases hi
/-- [a, b, c][:r] -/
theorem U_cut3 {value slice : PySem.Expr} {l : Addr} {lo : Obj} {x y z : Value} {ks : List Str} {n : Nat} {r : Int} {tr : Tok} {ops : List Value} (F : Fr G L s.heap m) (N : News G L s.heap news) (hl : (l, lo) ∈ news) (c : lo.cls = .type "list") (d : lo.data = .seq #[x, y, z] n) (S : StrsAre [x, y, z] ks) (h0 : 0 ≤ r) (h1 : r < 4)
    (h : ∀ D ws h', Fr G L h' m → News G L h' ((D, PySem.W.listOf (List.toArray ws) 0) :: news) → (∀ p ∈ news, p.1 < D) → StrsAre ws (ks.take r.toNat) → Q (.ref D) { s with heap := h' })
    (hs : subscripted slice false (.ref l) (.ref s.heap.objs.size) = operate ops (getItem (.ref l) (.ref s.heap.objs.size))) :
    wpAny (model prog w) A (subscriptTail value slice (.ref l) (.ref s.heap.objs.size)) Q E { s with heap := s.heap.push { cls := .type "slice", data := .fields #[.none, .int r tr, .none] } } := by
  have hL : s.heap.IsList l #[x, y, z] := ⟨lo, (N _ hl).1, c, n, d⟩
  refine tail_any (T := "list") (Heap.IsList.typeIs (s := { s with heap := s.heap.push { cls := .type "slice", data := .fields #[.none, .int r tr, .none] } }) (hL.push _)) list_getitem_lookup (wpAny_getItem_list_slice (hL.push _) (Heap.IsSliceOf.new ..) .none (.int r tr) .none (by decide) ?_ (by rw [sizeLine_eq]; show 3 ≤ _; omega)) hs
  have N1 := News.push (F.push { cls := .type "slice", data := .fields #[.none, .int r tr, .none] }) (N.grown fun _ _ e => Heap.get?_push_of_some _ e) { cls := .type "list", data := .seq (slicePick #[x, y, z] none (some r) none) }
  refine h _ ([x, y, z].take r.toNat) _ ((F.push _).push _) ?_ (fun p hp => ?_) (S.take _)
  · rw [pick3 h0 h1] at N1 ⊢
    exact N1
  · exact Nat.lt_of_lt_of_le (Heap.lt_size (N p hp).1) (by show s.heap.objs.size ≤ (s.heap.push _).objs.size; rw [Heap.size_push]; exact Nat.le_succ _)
end
local macro_rules | `(tactic| walk_at "call ref") => `(tactic| (k_here; k_dflt (first
  | (refine' U_eq_pT (dy := 0) ?zk1 ?zk2 ?zk3 ?zk4 ?zk5 ?zk6 ?zk7 ?zk8 ?zk9 ?zka ?zkb ?zkc ?zkd ?zke ?zkf ?zkg ?zkh ?zki ?zkj ?zbb ?_; (case zk1 => k_asm); (case zk2 => k_asm); (case zk3 => k_asm); (case zk4 => k_asm); (case zk5 => k_asm); (case zk6 => k_mem); (case zk7 => k_asm); (case zk8 => k_mem); (case zk9 => k_mem); (case zka => k_asm); (case zbb => with_reducible assumption); (case zkb => (first | with_reducible assumption | (exact nsys (by omega)) | k_asm)); (case zkc => (first | with_reducible assumption | (exact nsys (by omega)) | k_asm)); (case zkd => k_ne); (case zke => k_ne); (case zkf => k_ne); (case zkg => k_asm); (case zkh => k_asm); (case zki => k_asm); (case zkj => k_asm); k_whole; intro h' tk' F' N'; (try k_sweep))
  | (refine' U_eq_tT ?zk1 ?zk2 ?zk3 ?zk4 ?zk5 ?zk6 ?zk7 ?zk8 ?zk9 ?zka ?zkA ?zkb ?zkc ?zkd ?zke ?zkf ?zkg1 ?zkg2 ?zkg3 ?zkg ?zkh ?zki ?zkj ?zbb ?_; (case zk1 => k_asm); (case zk2 => k_asm); (case zk3 => k_asm); (case zk4 => k_asm); (case zk5 => k_asm); (case zk6 => k_mem); (case zk7 => k_asm); (case zk8 => k_mem); (case zk9 => k_mem); (case zka => k_asm); (case zkA => k_mem); (case zbb => with_reducible assumption); (case zkb => (first | with_reducible assumption | (exact nsys (by omega)) | k_asm)); (case zkc => (first | with_reducible assumption | (exact nsys (by omega)) | k_asm)); (case zkd => k_ne); (case zke => k_ne); (case zkf => k_ne); (case zkg1 => k_ne); (case zkg2 => k_ne); (case zkg3 => k_ne); (case zkg => k_asm); (case zkh => k_asm); (case zki => k_asm); (case zkj => k_asm); k_whole; intro h' tk' F' N'; (try k_sweep))
  | (refine' U_ne_pT (dy := 0) ?zk1 ?zk2 ?zk3 ?zk4 ?zk5 ?zk6 ?zk7 ?zk8 ?zk9 ?zka ?zkb ?zkc ?zkd ?zke ?zkf ?zkg ?zkh ?zki ?zkj ?zbb ?_; (case zk1 => k_asm); (case zk2 => k_asm); (case zk3 => k_asm); (case zk4 => k_asm); (case zk5 => k_asm); (case zk6 => k_mem); (case zk7 => k_asm); (case zk8 => k_mem); (case zk9 => k_mem); (case zka => k_asm); (case zbb => with_reducible assumption); (case zkb => (first | with_reducible assumption | (exact nsys (by omega)) | k_asm)); (case zkc => (first | with_reducible assumption | (exact nsys (by omega)) | k_asm)); (case zkd => k_ne); (case zke => k_ne); (case zkf => k_ne); (case zkg => k_asm); (case zkh => k_asm); (case zki => k_asm); (case zkj => k_asm); k_whole; intro h' tk' F' N'; (try k_sweep)))))
local macro_rules | `(tactic| walk_at "compareOp NotEq ref ref") => `(tactic| (k_here; k_dflt (refine' d_neT ?zk0 ?zk1 ?zk2 ?zk3 ?zk4 ?zk5 ?zk6 ?zbb ?_; (case zk0 => exact Room.units (by k_asm)); (case zk3 => (first | exact PyProof.Rows.News.get (by k_asm) (by k_mem) | exact Fr.keep (by k_asm) _ _ (by assumption))); (case zk4 => k_asm); (case zk5 => (first | exact PyProof.Rows.News.get (by k_asm) (by k_mem) | exact Fr.keep (by k_asm) _ _ (by assumption))); (case zk6 => k_asm); (case zbb => with_reducible assumption); (case zk1 => (first | with_reducible assumption | (exact nsys (by omega)) | k_asm)); (case zk2 => (first | with_reducible assumption | (exact nsys (by omega)) | k_asm)); k_whole)))
section
variable {prog : Program} {w : World} {A : Around} {s : Shared} {env : Env} {G : Heap} {L : Addr} {m : Str → Option Value} {news : List (Addr × Obj)} {Q : Value → Shared → Prop}
/-- [x for x in held] -/
theorem copy_block {n : Nat} {x : Str} {iter : PySem.Expr} {px p1 pos : Pos} {scope : Scope} {cl : List (Str × Addr)} {I H : Addr} {oh : Obj} {D : DD} {es : List DictEntry} {ep : Nat} (RM : Room n A)
    (hcell : ∀ y ∈ scope.names, y.2 ≠ .cell) (hkind : scope.kind = .function) (hx : scope.names.lookup x = some .local) (hloc : env.locals = L) (hl : D.length ≤ 900)
    (F : Fr G L s.heap m) (N : News G L s.heap ((I, keyIt H D.length ep) :: news)) (hH : (H, oh) ∈ news) (pd : PD oh D es ep) (lt : ∀ q ∈ news, q.1 < I)
    (k1 : ∀ C, (compEnvC scope cl C env).kindOf x = some .local) (k6 : ∀ C, (compEnvC scope cl C env).scope.kind = .function) (b1 : (x == ("__debug__" : Str)) = false)
    (done : ∀ D' h tk lD (ys : List Value) n, (∀ q ∈ news, q.1 < D') → Fr G L h m → News G L h ((D', lD) :: news) → lD.cls = .type "list" → lD.dict = none → lD.data = .seq ys.toArray n → StrsAre ys (Keys D) → Q (.ref D') { s with heap := h, toks := tk }) :
    wpAny (model prog w) A (newList []) (fun acc s₃ => wpAny (model prog w) A (newFunctionEnv scope env.globals cl [] env.qual none .none (some env)) (fun cenv s₄ =>
      codeAny (model prog w) A (.compStart (.ListComp (.Name x p1) [⟨.Name x px, iter, [], 0⟩] scope pos) 0 (.ref I) acc { cenv with scope := relabel scope env }) (compPost (model prog w) A NoE none Q acc cenv.locals) s₄) NoE s₃) NoE s := by
  refine sel_block (keep := [(H, oh)]) (ks := Keys D) (fun _ => true) hcell hkind hx hloc (by rw [keys_len]; exact hl) F N (iter_keysK RM.hd pd.isd (Nat.ne_of_lt (lt _ hH))) ⟨rfl, rfl⟩ ?_ (fun q hq => Nat.ne_of_lt (lt q hq)) ?_ k1 k6 b1 ?_ ?_
  · intro q hq; rw [List.mem_singleton.mp hq]; exact Nat.ne_of_lt (lt _ hH)
  · intro q hq; rw [List.mem_singleton.mp hq]; exact .inl hH
  · intro C k t h tk own m₁ hk F5 N5 sub
    exact test0 ⟨rfl, tk, rfl⟩
  · intro D' h tk lD ys n a F5 N5 c1 c2 c3 S
    rw [filt_all] at S
    exact done D' h tk lD ys n a F5 N5 c1 c2 c3 S
/-- [x for x in held if x not in order] -/
theorem rest_block {n : Nat} {x order : Str} {iter : PySem.Expr} {px p1 p2 p3 p4 pos : Pos} {scope : Scope} {cl : List (Str × Addr)} {I H cO l : Addr} {oh oO lo : Obj} {D : DD} {es : List DictEntry} {ep epl : Nat} {vs : List Value} {js : List Str} (RM : Room n A)
    (hcell : ∀ y ∈ scope.names, y.2 ≠ .cell) (hkind : scope.kind = .function) (hx : scope.names.lookup x = some .local) (hloc : env.locals = L) (hl : D.length ≤ 900)
    (F : Fr G L s.heap m) (N : News G L s.heap ((I, keyIt H D.length ep) :: news)) (hH : (H, oh) ∈ news) (pd : PD oh D es ep) (lt : ∀ q ∈ news, q.1 < I)
    (ml : (l, lo) ∈ news) (c1 : lo.cls = .type "list") (c3 : lo.data = .seq vs.toArray epl) (S1 : StrsAre vs js) (mO : (cO, oO) ∈ news) (dO : oO.data = .cell (some (.ref l)))
    (k1 : ∀ C, (compEnvC scope cl C env).kindOf x = some .local) (k2 : ∀ C, (compEnvC scope cl C env).kindOf order = some .cell) (k3 : ∀ C, (compEnvC scope cl C env).cells.lookup order = some cO) (k6 : ∀ C, (compEnvC scope cl C env).scope.kind = .function) (b1 : (x == ("__debug__" : Str)) = false) (b2 : (order == ("__debug__" : Str)) = false)
    (done : ∀ D' h tk lD (ys : List Value) n, (∀ q ∈ news, q.1 < D') → Fr G L h m → News G L h ((D', lD) :: news) → lD.cls = .type "list" → lD.dict = none → lD.data = .seq ys.toArray n → StrsAre ys ((Keys D).filter fun k => !(js.any (· == k))) → Q (.ref D') { s with heap := h, toks := tk }) :
    wpAny (model prog w) A (newList []) (fun acc s₃ => wpAny (model prog w) A (newFunctionEnv scope env.globals cl [] env.qual none .none (some env)) (fun cenv s₄ =>
      codeAny (model prog w) A (.compStart (.ListComp (.Name x p1) [⟨.Name x px, iter, [.Compare (.Name x p2) [.NotIn] [.Name order p3] p4], 0⟩] scope pos) 0 (.ref I) acc { cenv with scope := relabel scope env }) (compPost (model prog w) A NoE none Q acc cenv.locals) s₄) NoE s₃) NoE s := by
  refine sel_block (keep := [(H, oh)]) (ks := Keys D) (fun k => !(js.any (· == k))) hcell hkind hx hloc (by rw [keys_len]; exact hl) F N (iter_keysK RM.hd pd.isd (Nat.ne_of_lt (lt _ hH))) ⟨rfl, rfl⟩ ?_ (fun q hq => Nat.ne_of_lt (lt q hq)) ?_ k1 k6 b1 ?_ done
  · intro q hq; rw [List.mem_singleton.mp hq]; exact Nat.ne_of_lt (lt _ hH)
  · intro q hq; rw [List.mem_singleton.mp hq]; exact .inl hH
  · intro C k t h tk own m₁ hk F5 N5 sub
    exact tst_notinl rfl F5 N5 (sub _ ml) c1 c3 S1 (sub _ mO) dO (k1 C) (k2 C) (k3 C) (k6 C) b1 b2
/-- [x for x in order if x in held] -/
theorem firsts_block {n : Nat} {x held : Str} {iter : PySem.Expr} {px p1 p2 p3 p4 pos : Pos} {scope : Scope} {cl : List (Str × Addr)} {I H cH l : Addr} {oh oH lo : Obj} {D : DD} {es : List DictEntry} {ep epl : Nat} {vs : List Value} {js : List Str} (RM : Room n A)
    (hcell : ∀ y ∈ scope.names, y.2 ≠ .cell) (hkind : scope.kind = .function) (hx : scope.names.lookup x = some .local) (hloc : env.locals = L) (hl : js.length ≤ 900)
    (F : Fr G L s.heap m) (N : News G L s.heap ((I, listIt l 0) :: news)) (hH : (H, oh) ∈ news) (pd : PD oh D es ep) (hsH : (H == sysModules) = false) (lt : ∀ q ∈ news, q.1 < I)
    (ml : (l, lo) ∈ news) (c1 : lo.cls = .type "list") (c3 : lo.data = .seq vs.toArray epl) (S1 : StrsAre vs js) (mH : (cH, oH) ∈ news) (dH : oH.data = .cell (some (.ref H)))
    (k1 : ∀ C, (compEnvC scope cl C env).kindOf x = some .local) (k2 : ∀ C, (compEnvC scope cl C env).kindOf held = some .cell) (k3 : ∀ C, (compEnvC scope cl C env).cells.lookup held = some cH) (k6 : ∀ C, (compEnvC scope cl C env).scope.kind = .function) (b1 : (x == ("__debug__" : Str)) = false) (b2 : (held == ("__debug__" : Str)) = false)
    (done : ∀ D' h tk lD (ys : List Value) n, (∀ q ∈ news, q.1 < D') → Fr G L h m → News G L h ((D', lD) :: news) → lD.cls = .type "list" → lD.dict = none → lD.data = .seq ys.toArray n → StrsAre ys (js.filter fun k => (lk k D).isSome) → Q (.ref D') { s with heap := h, toks := tk }) :
    wpAny (model prog w) A (newList []) (fun acc s₃ => wpAny (model prog w) A (newFunctionEnv scope env.globals cl [] env.qual none .none (some env)) (fun cenv s₄ =>
      codeAny (model prog w) A (.compStart (.ListComp (.Name x p1) [⟨.Name x px, iter, [.Compare (.Name x p2) [.In] [.Name held p3] p4], 0⟩] scope pos) 0 (.ref I) acc { cenv with scope := relabel scope env }) (compPost (model prog w) A NoE none Q acc cenv.locals) s₄) NoE s₃) NoE s := by
  refine sel_block (keep := [(l, lo)]) (ks := js) (fun k => (lk k D).isSome) hcell hkind hx hloc hl F N (iter_strs RM.hd c1 c3 S1 (Nat.ne_of_lt (lt _ ml))) ⟨rfl, rfl⟩ ?_ (fun q hq => Nat.ne_of_lt (lt q hq)) ?_ k1 k6 b1 ?_ done
  · intro q hq; rw [List.mem_singleton.mp hq]; exact Nat.ne_of_lt (lt _ ml)
  · intro q hq; rw [List.mem_singleton.mp hq]; exact .inl ml
  · intro C k t h tk own m₁ hk F5 N5 sub
    exact tst_in rfl F5 N5 (sub _ hH) pd hsH (sub _ mH) dH (k1 C) (k2 C) (k3 C) (k6 C) b1 b2
/-- [(x, held[x]) for x in texts] -/
theorem rows_block {n : Nat} {x held : Str} {iter : PySem.Expr} {px p1 p2 p3 p4 p5 pos : Pos} {x1 : Nat} {scope : Scope} {cl : List (Str × Addr)} {I H cH l : Addr} {oh oH lo : Obj} {D : DD} {es : List DictEntry} {ep epl : Nat} {vs : List Value} {ks : List Str} (RM : Room n A)
    (hcell : ∀ y ∈ scope.names, y.2 ≠ .cell) (hkind : scope.kind = .function) (hx : scope.names.lookup x = some .local) (hloc : env.locals = L) (hl : ks.length ≤ 900) (hks : ∀ k ∈ ks, k ∈ Keys D)
    (F : Fr G L s.heap m) (N : News G L s.heap ((I, listIt l 0) :: news)) (hH : (H, oh) ∈ news) (pd : PD oh D es ep) (lt : ∀ q ∈ news, q.1 < I)
    (ml : (l, lo) ∈ news) (c1 : lo.cls = .type "list") (c3 : lo.data = .seq vs.toArray epl) (S1 : StrsAre vs ks) (mH : (cH, oH) ∈ news) (dH : oH.data = .cell (some (.ref H)))
    (k1 : ∀ C, (compEnvC scope cl C env).kindOf x = some .local) (k2 : ∀ C, (compEnvC scope cl C env).kindOf held = some .cell) (k3 : ∀ C, (compEnvC scope cl C env).cells.lookup held = some cH) (k6 : ∀ C, (compEnvC scope cl C env).scope.kind = .function) (b1 : (x == ("__debug__" : Str)) = false) (b2 : (held == ("__debug__" : Str)) = false)
    (done : ∀ d h tk lD (ys : List Value) n tl, (∀ q ∈ news, q.1 < d) → AllNe d tl → Fr G L h m → News G L h ((d, lD) :: (news ++ tl)) → lD.cls = .type "list" → lD.dict = none → lD.data = .seq ys.toArray n → PairsIn tl ys.toArray (ks.map fun k => (k, (lk k D).getD .none)) → (∀ q ∈ tl, I < q.1 ∧ q.2.cls = .type "tuple") → Q (.ref d) { s with heap := h, toks := tk }) :
    wpAny (model prog w) A (newList []) (fun acc s₃ => wpAny (model prog w) A (newFunctionEnv scope env.globals cl [] env.qual none .none (some env)) (fun cenv s₄ =>
      codeAny (model prog w) A (.compStart (.ListComp (.Tuple [.Name x p1, .Subscript (.Name held p3) (.Name x p4) p5] x1 p2) [⟨.Name x px, iter, [], 0⟩] scope pos) 0 (.ref I) acc { cenv with scope := relabel scope env }) (compPost (model prog w) A NoE none Q acc cenv.locals) s₄) NoE s₃) NoE s := by
  refine pr_block (keep := [(l, lo)]) (ks := ks) (fun k => (lk k D).getD .none) hcell hkind hx hloc hl F N (iter_strs RM.hd c1 c3 S1 (Nat.ne_of_lt (lt _ ml))) ⟨rfl, rfl⟩ ?_ lt ?_ k1 k6 b1 (fun _ => rfl) ?_ done
  · intro q hq; rw [List.mem_singleton.mp hq]; exact Nat.ne_of_lt (lt _ ml)
  · intro q hq; rw [List.mem_singleton.mp hq]; exact .inl ml
  · intro C k t h tk own m₁ hk F5 N5 sub
    obtain ⟨u, hu⟩ := Option.isSome_iff_exists.mp (lk_keys.mpr (hks k hk))
    refine Subscript_ ?_
    refine nameE_C N5 (k3 C) (sub _ mH) dH ?_ (k6 C) (k2 C) b2
    refine nameE_L (v := .str k t) F5 (by simp) ?_ (k6 C) (k1 C) b1
    refine p_tail (N5 _ (sub _ hH)).1 pd hu fun v tk' hv => ?_
    refine ⟨?_, h, tk', rfl, F5, N5⟩
    show VIs ((lk k D).getD .none) v
    rw [hu]; exact hv
end
def LawEnd (G : Heap) (L : Addr) (s₀ : Shared) (f : Flow) (s' : Shared) : Prop :=
  f = .ret (.bool true) ∧ ∃ h' tk m' news ps, s' = { s₀ with heap := h', toks := tk } ∧ Fr G L h' m' ∧ News G L h' news ∧ (32, tabObj ps) ∈ news
theorem room_law {env : Env} : Room 100 (callerA.deeper env) := ⟨by rw [depth_deeper]; decide, by rw [units_deeper]; decide, rfl⟩
theorem news_state {G h : Heap} {L aS aL : Addr} {ti ts : Tok} {n len : Nat} {news : List (Addr × Obj)} (N : News G L h ((aS, PySem.W.listOf #[.ref aL, .int 0 ti, .int 17 ts] n) :: news)) : ∃ o, StO aL len o ∧ News G L h ((aS, o) :: news) := ⟨_, ⟨0, 17, _, _, _, rfl, by decide, by omega, by decide, by decide⟩, N⟩
theorem around_gen {M : Model} {A : Around} {α : Type} {t : Sem α} {Q : α → Shared → Prop} {E : Value → Shared → Prop} {s : Shared} (r : Room 100 A) (h : Room 100 A → wpAny M A t Q E s) : wpAny M A t Q E s := h r
def EndS (G : Heap) (L x dx H aS aL : Addr) (o' oh oO' oH' : Obj) (len : Nat) (ws : List Value) (s₀ s' : Shared) : Prop :=
  ∃ h' tk' m' oS2, s' = { s₀ with heap := h', toks := tk' } ∧ Fr G L h' m' ∧ News G L h' [(x, o'), (dx, dictOf [] 0), (H, oh), (aS, oS2), (aL, PySem.W.listOf ws.toArray 0), (L + 1 + 1 + 1, oO'), (L + 1, oH'), (32, tabObj #[])] ∧ m' (Str.ofString "told") = some (.ref x) ∧ m' (Str.ofString "state") = some (.ref aS) ∧ StO aL len oS2
theorem law_pairs {ps : DD} (h : ∀ p ∈ ps, p.1 ∈ lawKeys ∧ p.2 ∈ lawVals) : ∀ p ∈ ps, Txt.upper p.1 ∈ greats ∧ ∀ x, p.2 ≠ .str x := fun p hp => ⟨up_keys _ (h p hp).1, vals_ok _ (h p hp).2⟩
set_option maxHeartbeats 0 in
theorem whole : PySem.Challenge.rw_co0001_01.Holds := hd (by
  k_go0
  rename_i w s0 s1 mg mb G Y fa o pm cd doc ho hcd hg XX V T B TE TW ns hs hlay0 hL1 hr1 hl2 as1 as2 sl vs as3 hL ra w1 r0 hI hr hc1 hc2 hD h1 tk1 oO oG oH dO dG dH X0 X' T' K' F' N' l0
  refine wpAny_mono (Q := LawEnd (ghostOf s1.heap [(34, 32)]) s1.heap.objs.size s1) (E := NoE) ?_ ?fin (fun _ _ x => x.elim)
  case fin =>
    rintro f s' ⟨rfl, h', tk, m', news, ps, rfl, F, N, hm⟩
    dsimp only
    refine ⟨goodW_bool F hg ?_ ?_, GrownAt.of N hm, trivial⟩
    · exact raisesW_false (by wrow_none_raised)
    · wrow_post
  have hI50 : ns.length ≤ 63 := by omega
  clear Y ho hcd hT8 XX V B TE TW hT9 hs hlay0 hL1 hr1 hl2 hL ra w1 r0 hr hc1 hc2 hD X0 K' G T hg
  replace dO : oO.data = .cell none := dO
  replace dG : oG.data = .cell none := dG
  replace dH : oH.data = .cell none := dH
  generalize ghostOf s1.heap [(34, 32)] = G at *
  generalize s1.heap.objs.size = L at *
  dsimp only
  refine around_gen room_law fun RM => ?_
  repeat' ((fail_if_success (with_reducible show wpAny _ _ (execs (Stmt.Assign [Expr.Tuple _ _ _] _ _ :: _) _) _ _ _)); first | walk1 | (dsimp only; walk1))
  rename_i aL ws h2 hIs hCs hLs la1 aS h3 la2 h4 F1 N1
  generalize hns : List.take 50 ns = ns' at hIs hCs hLs
  have hlen : ns'.length ≤ 50 := by rw [← hns]; simp; omega
  obtain ⟨oS, SO, N2⟩ := news_state (len := ns'.length) N1
  clear N1
  clear hns hCs hLs hI hI50 lifted
  repeat' ((fail_if_success (with_reducible show wpAny _ _ (execs (Stmt.Assign [Expr.Name "told" _] _ _ :: _) _) _ _ _)); first | walk1 | (dsimp only; walk1))
  rename_i h5 tk5 pl lo ys ps tl oS1 n1 a2 SO1 c1 c2 c3 PP tt pz pv pl2 a1 a3 h6 tk6 r tr oS2 SO2 r0 r1 Dt h7 lDt h8 h9 h10 F3 N3
  clear SO SO1
  have hup : ∀ p ∈ ps, Txt.upper p.1 ∈ greats ∧ ∀ x, p.2 ≠ .str x := fun p hp => ⟨up_keys _ (pv p hp).1, vals_ok _ (pv p hp).2⟩
  refine cut2 (Stt G L aS aL ns'.length ws s1) ?_ ?_
  · have hr : r = 0 ∨ r = 1 ∨ r = 2 := by omega
    rcases hr with rfl | rfl | rfl
    · repeat' (first | walk1 | (dsimp only; walk1))
      walk_at "is stt"
      case e1 => rfl
      case e2 => rfl
      case law => show Law (puts [] _); exact Law.puts Law.nil hup
    · repeat' (first | walk1 | (dsimp only; walk1))
      walk_at "is stt"
      case e1 => rfl
      case e2 => subst_vars; rfl
      case law =>
        show Law (puts [] _)
        refine Law.puts Law.nil fun p hp => ?_
        subst_vars
        exact hup p ((puts1_mem hp).elim (fun h => nomatch h) fun h => h)
    · repeat' (first | walk1 | (dsimp only; walk1))
      walk_at "is stt"
      case e1 => rfl
      case e2 => exact puts_append _ _ _
      case law => exact Law.puts (Law.puts Law.nil hup) kd_za
  · skip
    clear F3 N3 PP tt pz pv pl2 hup a1 a2 a3 c1 c2 c3 lDt r0 r1 SO2 dO dG dH
    rintro s' ⟨h', tk', m', x, dx, news, rfl, F, N, ⟨H, oO', oG', oH', o', oh, oS', D, es, ep, eh, eph, rfl, ht, hst, dO, ⟨vG, dG⟩, dH, td, pd, SO, law, l3, l4⟩, l1, l2⟩
    have hl8 := law.len
    have hnd := law.nd
    have hl9 : D.length ≤ 900 := by omega
    repeat' ((fail_if_success (with_reducible show wpAny _ _ (exec (Stmt.For _ _ _ _ _) _) _ _ _)); first | walk1 | (dsimp only; walk1))
    refine For_it ?_
    repeat' ((fail_if_success (with_reducible show wpAny _ _ (pyIter _) _ _ _)); first | walk1 | (dsimp only; walk1))
    rename_i h11 tk11 h12 tk12 nI tnI oS3 SO3 n0 n6 rg h13 tk13 t1 t2 t3 F4 N4 lrg
    obtain ⟨n, rfl⟩ := Int.eq_ofNat_of_zero_le n0
    refine U_iter_range F4 N4 (List.Mem.head _) (by omega) fun it h14 F5 N5 lit => ?_
    have lit0 := lit
    k_lt lit
    have N6 : News G L h14 ((it, rangeIt 0 (n : Int) 1) :: [(x, o'), (dx, dictOf [] 0), (H, oh), (aS, oS3), (aL, PySem.W.listOf ws.toArray 0), (L + 1 + 1 + 1, oO'), (L + 1 + 1, oG'), (L + 1, oH'), (32, tabObj #[])]) := fun q hq => N5 q (by
      rcases List.mem_cons.mp hq with rfl | hq
      · exact .head _
      · exact .tail _ (.tail _ hq))
    have hoff0 : ∀ q ∈ [(x, o'), (dx, dictOf [] 0), (H, oh), (aS, oS3), (aL, PySem.W.listOf ws.toArray 0), (L + 1 + 1 + 1, oO'), (L + 1 + 1, oG'), (L + 1, oH'), (32, tabObj #[])], q.1 ≠ it := fun q hq => Nat.ne_of_lt (lit0 q (.tail _ hq))
    refine for_name (iter_range rfl n) (List.forall_mem_nil _) ?c1 ?c2 F5 N6 ?c3 hoff0 (fun i m₁ news₁ => Core L aS aL x dx ns'.length ws m₁ news₁) ?hJ (fun _ _ _ _ => List.forall_mem_nil _) ?turn (fun _ _ _ _ p _ => p) ?done
    case c1 => exact rfl
    case c2 => exact rfl
    case c3 => show _ = _; simp
    case hJ => exact ⟨H, oO', oG', oH', o', oh, oS3, D, es, ep, eh, eph, rfl, ht, hst, dO, ⟨vG, dG⟩, dH, td, pd, SO3, law, l3, l4⟩
    case turn =>
      have z0 : @LT.lt Nat _ 32 L ∧ @LT.lt Nat _ (L + 1 + 1 + 1) aL ∧ @LT.lt Nat _ aL aS ∧ @LT.lt Nat _ aS dx ∧ @LT.lt Nat _ dx x ∧ @LT.lt Nat _ x it := by omega
      clear hoff0 lit0 N6 N5 F5 N4 F4 lrg SO3 SO dH dG dO ht hst td pd law l3 l4 hl8 hnd hl9 lit
      rintro i v m₁ news₁ h tk oI hi ⟨tv, rfl⟩ ⟨H, oO', oG', oH', o', oh, oS', D, es, ep, eh, eph, rfl, ht, hst, dO, ⟨vG, dG⟩, dH, td, pd, SO, law, l3, l4⟩ hoff F N
      have z1 : @LT.lt Nat _ 32 L ∧ @LT.lt Nat _ (L + 1 + 1 + 1) aL ∧ @LT.lt Nat _ aL aS ∧ @LT.lt Nat _ aS dx ∧ @LT.lt Nat _ dx x ∧ @LT.lt Nat _ x it := z0
      have z2 : @Ne Nat H it := hoff (H, oh) (by simp)
      clear hoff la1 la2 l0 l1 l2 z0
      change Fr G L h _ at F
      change News G L h _ at N
      have hl8 := law.len
      have hnd := law.nd
      have hl9 : D.length ≤ 900 := by omega
      repeat' ((fail_if_success (with_reducible show wpAny _ _ (execs (Stmt.Assign [Expr.Name "great" _] _ _ :: _) _) _ _ _)); first | walk1 | (dsimp only; walk1))
      rename_i h20 tk20 deed td20 oS4 SO4 d0 d8 lkA lkB h21 tk21 Sk llk h22 tk22 ik tk23 oS5 SO5 ik0 ik10 k tkk hkk Dk h23 lDk h24 h25 h26 F7 N7
      have hk1 : k.length ≤ 100 := lawKey_len k hkk
      have hku := up_keys k hkk
      have hsx : (x == sysModules) = false := nsys (by omega)
      have hpl : ∀ u, (put (Txt.upper k) u D).length ≤ 1000 := fun u => by have := put_len (Txt.upper k) u D; omega
      have hp0 := hpl .none
      have hp8 := hpl (.int 8)
      have hp6 := hpl (.int 6)
      have N8 : News G L h26 [(it, oI), (x, o'), (dx, dictOf [] 0), (H, oh), (aS, oS5), (aL, PySem.W.listOf ws.toArray 0), (L + 1 + 1 + 1, oO'), (L + 1 + 1, oG'), (L + 1, oH'), (32, tabObj #[])] := fun q hq => N7 q (.tail _ (.tail _ hq))
      clear N7 lDk llk SO4 SO Sk ik0 ik10
      repeat' ((fail_if_success (with_reducible show wpAny _ _ (execs (Stmt.If _ _ _ _ :: _) _) _ _ _)); first | walk1 | (dsimp only; walk1))
      refine cut1 (SttI G L aS aL x dx it oI ns'.length ws s1) ?_ ?_
      · have hdd : deed = 0 ∨ deed = 1 ∨ deed = 2 ∨ deed = 3 ∨ deed = 4 ∨ deed = 5 ∨ deed = 6 ∨ deed = 7 := by omega
        rcases hdd with rfl | rfl | rfl | rfl | rfl | rfl | rfl | rfl
        · repeat' (first | walk1 | (dsimp only; walk1))
          dsimp only
          walk_at "is stt"
          case e1 => rfl
          case e2 => rfl
          case law => show Law (puts D _); exact Law.puts law (law_pairs (by assumption))
  
        · repeat' (first | walk1 | (dsimp only; walk1))
          dsimp only
          walk_at "is stt"
          case e1 => rfl
          case e2 => subst_vars; rfl
          case law =>
            show Law (puts D _)
            refine Law.puts law fun p hp => ?_
            subst_vars
            exact law_pairs (by assumption) p ((puts1_mem hp).elim (fun h => nomatch h) fun h => h)
  
        · repeat' (first | walk1 | (dsimp only; walk1))
          dsimp only
          walk_at "is stt"
          case e1 => rfl
          case e2 => exact puts_append _ _ _
          case law => exact Law.puts (Law.puts law (law_pairs (by assumption))) kd_b
  
        · cases hlk : lk (Txt.upper k) D with
          | none =>
            have hs : ¬((lk (Txt.upper k) D).isSome = true) := by rw [hlk]; exact Bool.false_ne_true
            repeat' ((fail_if_success (with_reducible show wpAny _ _ (eval (Expr.DictComp _ _ _ _ _) _) _ _ _)); (fail_if_success (with_reducible show wpAny _ _ (eval (Expr.Dict _ _ _) _) _ _ _)); first | walk1 | (dsimp only; walk1))
            walk_at "without"
            repeat' (first | walk1 | (dsimp only; walk1))
            dsimp only
            walk_at "is stt"
            case e1 => rfl
            case e2 => exact era_none hlk
            case law => exact law
          | some u =>
            have hs : (lk (Txt.upper k) D).isSome = true := by rw [hlk]; rfl
            repeat' ((fail_if_success (with_reducible show wpAny _ _ (eval (Expr.DictComp _ _ _ _ _) _) _ _ _)); (fail_if_success (with_reducible show wpAny _ _ (eval (Expr.Dict _ _ _) _) _ _ _)); first | walk1 | (dsimp only; walk1))
            walk_at "without"
            repeat' (first | walk1 | (dsimp only; walk1))
            dsimp only
            walk_at "is stt"
            case e1 => rfl
            case e2 => rfl
            case law => exact Law.sub law (era_sub _ _)
  
        · cases hlk : lk (Txt.upper k) D with
          | none =>
            have hs : ¬((lk (Txt.upper k) D).isSome = true) := by rw [hlk]; exact Bool.false_ne_true
            repeat' ((fail_if_success (with_reducible show wpAny _ _ (eval (Expr.DictComp _ _ _ _ _) _) _ _ _)); (fail_if_success (with_reducible show wpAny _ _ (eval (Expr.Dict _ _ _) _) _ _ _)); first | walk1 | (dsimp only; walk1))
            walk_at "without"
            repeat' (first | walk1 | (dsimp only; walk1))
            dsimp only
            walk_at "is stt"
            case e1 => rfl
            case e2 => exact era_none hlk
            case law => exact law
          | some u =>
            have hs : (lk (Txt.upper k) D).isSome = true := by rw [hlk]; rfl
            repeat' ((fail_if_success (with_reducible show wpAny _ _ (eval (Expr.DictComp _ _ _ _ _) _) _ _ _)); (fail_if_success (with_reducible show wpAny _ _ (eval (Expr.Dict _ _ _) _) _ _ _)); first | walk1 | (dsimp only; walk1))
            walk_at "without"
            repeat' (first | walk1 | (dsimp only; walk1))
            dsimp only
            walk_at "is stt"
            case e1 => rfl
            case e2 => rfl
            case law => exact Law.sub law (era_sub _ _)
  
        · cases hlk : lk (Txt.upper k) D with
          | none =>
            have hs : ¬((lk (Txt.upper k) D).isSome = true) := by rw [hlk]; exact Bool.false_ne_true
            repeat' ((fail_if_success (with_reducible show wpAny _ _ (eval (Expr.DictComp _ _ _ _ _) _) _ _ _)); (fail_if_success (with_reducible show wpAny _ _ (eval (Expr.Dict _ _ _) _) _ _ _)); first | walk1 | (dsimp only; walk1))
            k_dflt (refine' U_star_eval (u := .none) (H := H) (g := Txt.upper k) ?zF0 ?zN0 ?zmH0 pd (nsys l3) hnd ?zhl0 ?zhL0 ?ze00 ?ze10 ?ze20 ?_)
            case zF0 => k_asm
            case zN0 => k_asm
            case zmH0 => k_mem
            case zhl0 => omega
            case zhL0 => omega
            case ze00 =>
              intro h30 tk30 F30 N30
              repeat' ((fail_if_success (with_reducible show _ ∧ _)); first | walk1 | (dsimp only; walk1))
              exact ⟨rfl, _, rfl⟩
            case ze10 =>
              intro h30 tk30 F30 N30
              repeat' ((fail_if_success (with_reducible show _ ∧ _)); first | walk1 | (dsimp only; walk1))
              exact ⟨⟨_, rfl⟩, _, rfl⟩
            case ze20 =>
              intro h30 tk30 F30 N30
              repeat' ((fail_if_success (with_reducible show _ ∧ _)); first | walk1 | (dsimp only; walk1))
              exact ⟨by first | exact vis_none | exact vis_int, _, rfl⟩
            intro nd h31 tk31 od31 es31 ep31 F31 N31 lnd lnd2 pd31
            k_lt lnd
            have hkp : lk (Txt.upper k) (put (Txt.upper k) .none D) = some .none := lk_put _ _ _
            have l3' : @LT.lt Nat _ 1 nd := by omega
            repeat' (first | walk1 | (dsimp only; walk1))
            all_goals (try dsimp only)
            walk_at "is stt"
            case e1 => rfl
            case e2 => rfl
            case law => exact Law.put law hku (fun x e => by cases e)
          | some u =>
            have hs : (lk (Txt.upper k) D).isSome = true := by rw [hlk]; rfl
            repeat' (first | walk1 | (dsimp only; walk1))
            all_goals (try dsimp only)
            walk_at "is stt"
            case e1 => rfl
            case e2 => rfl
            case law => exact law
  
        · cases hlk : lk (Txt.upper k) D with
          | none =>
            have hs : ¬((lk (Txt.upper k) D).isSome = true) := by rw [hlk]; exact Bool.false_ne_true
            repeat' ((fail_if_success (with_reducible show wpAny _ _ (eval (Expr.DictComp _ _ _ _ _) _) _ _ _)); (fail_if_success (with_reducible show wpAny _ _ (eval (Expr.Dict _ _ _) _) _ _ _)); first | walk1 | (dsimp only; walk1))
            k_dflt (refine' U_star_eval (u := (.int 8)) (H := H) (g := Txt.upper k) ?zF8 ?zN8 ?zmH8 pd (nsys l3) hnd ?zhl8 ?zhL8 ?ze08 ?ze18 ?ze28 ?_)
            case zF8 => k_asm
            case zN8 => k_asm
            case zmH8 => k_mem
            case zhl8 => omega
            case zhL8 => omega
            case ze08 =>
              intro h30 tk30 F30 N30
              repeat' ((fail_if_success (with_reducible show _ ∧ _)); first | walk1 | (dsimp only; walk1))
              exact ⟨rfl, _, rfl⟩
            case ze18 =>
              intro h30 tk30 F30 N30
              repeat' ((fail_if_success (with_reducible show _ ∧ _)); first | walk1 | (dsimp only; walk1))
              exact ⟨⟨_, rfl⟩, _, rfl⟩
            case ze28 =>
              intro h30 tk30 F30 N30
              repeat' ((fail_if_success (with_reducible show _ ∧ _)); first | walk1 | (dsimp only; walk1))
              exact ⟨by first | exact vis_none | exact vis_int, _, rfl⟩
            intro nd h31 tk31 od31 es31 ep31 F31 N31 lnd lnd2 pd31
            k_lt lnd
            have hkp : lk (Txt.upper k) (put (Txt.upper k) (.int 8) D) = some (.int 8) := lk_put _ _ _
            have l3' : @LT.lt Nat _ 1 nd := by omega
            repeat' (first | walk1 | (dsimp only; walk1))
            all_goals (try dsimp only)
            walk_at "is stt"
            case e1 => rfl
            case e2 => rfl
            case law => exact Law.put law hku (fun x e => by cases e)
          | some u =>
            have hs : (lk (Txt.upper k) D).isSome = true := by rw [hlk]; rfl
            repeat' (first | walk1 | (dsimp only; walk1))
            all_goals (try dsimp only)
            walk_at "is stt"
            case e1 => rfl
            case e2 => rfl
            case law => exact law
  
        · repeat' (first | walk1 | (dsimp only; walk1))
          dsimp only
          walk_at "is stt"
          case e1 => rfl
          case e2 => rfl
          case law => exact Law.put law hku (fun x e => by cases e)
  
      · clear pd td SO5 law ht hst dO dG dH l3 l4 hl8 hnd hl9 z2 hp0 hp8 hp6 hpl hsx
        rintro s' ⟨h', tk', m', news, rfl, F, N, ⟨H, oO', oG', oH', o', oh, oS', D, es, ep, eh, eph, rfl, ht, hst, dO, ⟨vG, dG⟩, dH, td, pd, SO, law, l3, l4⟩, hoff⟩
        have hl8 := law.len
        have hl9 : D.length ≤ 900 := by omega
        have z2 : @Ne Nat H it := hoff (H, oh) (by simp)
        repeat' (first | walk1 | (dsimp only; walk1))
        dsimp only
        exact ⟨_, _, _, _, _, rfl, (by assumption), (by assumption), List.mem_cons_self .., fun q hq => List.mem_cons_of_mem _ hq, hoff, H, oO', oG', oH', o', oh, oS', D, es, ep, eh, eph, rfl, ht, hst, dO, ⟨vG, dG⟩, dH, td, pd, SO, law, l3, l4⟩
    case done =>
      rintro h tk m' news₁ ⟨H, oO', oG', oH', o', oh, oS', D, es, ep, eh, eph, rfl, ht, hst, dO, ⟨vG, dG⟩, dH, td, pd, SO, law, l3, l4⟩ F N
      change Fr G L h m' at F
      change News G L h _ at N
      have hl8 := law.len
      have hnd := law.nd
      have hl9 : D.length ≤ 900 := by omega
      have z0 : @LT.lt Nat _ 32 L ∧ @LT.lt Nat _ (L + 1 + 1 + 1) aL ∧ @LT.lt Nat _ aL aS ∧ @LT.lt Nat _ aS dx ∧ @LT.lt Nat _ dx x := by omega
      have hsx : (x == sysModules) = false := nsys (by omega)
      clear la1 la2 l0 l1 l2 hoff0 lit0 N6 N5 F5 N4 F4 lrg lit
      have hpl : ∀ k u, (put k u D).length ≤ 1000 := fun k u => by have := put_len k u D; omega
      have hpm := hpl (Str.ofString "MORE") .none
      dsimp only
      repeat' ((fail_if_success (with_reducible show wpAny _ _ (exec (Stmt.Assign [Expr.Name "alike" _] _ _) _ ) _ _ _)); first | walk1 | (dsimp only; walk1))
      rename_i n1 g1 u1 o1 e1 p1 q1 pd1 lt1 n2 g2 u2 o2 e2 p2 q2 pd2 lt2 n3 g3 u3 o3 e3 p3 q3 pd3 lt3 n4 g4 u4 o4 e4 p4 q4 pd4 lt4 Dt g5 lt5 g6 g7 g8 g9 g10 g11 u11 oM eM pM FM NM pdM
      have z1 : @LT.lt Nat _ x n1 ∧ @LT.lt Nat _ H n1 ∧ @LT.lt Nat _ n1 n2 ∧ @LT.lt Nat _ n2 n3 ∧ @LT.lt Nat _ n3 n4 := by omega
      clear lt1 lt2 lt3 lt4 lt5 q1 q2 q3 q4 pd3
      have FX : ∃ mm, Fr G L g11 mm ∧ mm (Str.ofString "told") = some (.ref x) ∧ mm (Str.ofString "state") = some (.ref aS) ∧ mm (Str.ofString "turned") = some (.ref n1) ∧ mm (Str.ofString "other") = some (.ref n2) ∧ mm (Str.ofString "more") = some (.ref n3) ∧ mm (Str.ofString "less") = some (.ref n4) := ⟨_, FM, by with_unfolding_all exact ht, by with_unfolding_all exact hst, by with_unfolding_all rfl, by with_unfolding_all rfl, by with_unfolding_all rfl, by with_unfolding_all rfl⟩
      clear FM ht hst
      obtain ⟨mm, F, ht, hst, mt1, mt2, mt3, mt4⟩ := FX
      have N : News G L g11 [(n4, o4), (n3, oM), (n2, o2), (n1, o1), (x, o'), (dx, dictOf [] 0), (H, oh), (aS, oS'), (aL, PySem.W.listOf ws.toArray 0), (L + 1 + 1 + 1, oO'), (L + 1, oH'), (32, tabObj #[])] := fun q hq => NM q (by
        simp only [List.mem_cons, List.not_mem_nil, or_false] at hq ⊢
        rcases hq with h | h | h | h | h | h | h | h | h | h | h | h <;> simp [h])
      clear NM
      have r0 : deq D D.reverse = true := deq_rev law
      have r1 : (Keys D.reverse).Nodup := law.rev.nd
      have r3 : D.reverse.length ≤ 8 := by simpa using hl8
      have r2 : D.reverse.length ≤ 900 := by omega
      have r4 : ∀ p ∈ D.reverse, p.1.length ≤ 100 := fun p hp => len_greats _ (law.rev.ks p.1 (mem_keys.mpr ⟨p.2, hp⟩))
      have rs : puts (puts [] D.reverse) [] = D.reverse := law.rev.self
      have r5 : deq D (puts (puts [] D.reverse) []) = true := by rw [rs]; exact r0
      have r6 : (Keys (puts (puts [] D.reverse) [])).Nodup := by rw [rs]; exact r1
      have r7 : (puts (puts [] D.reverse) []).length ≤ 900 := by rw [rs]; exact r2
      have hmk : Str.ofString "MORE" ∉ Keys D := fun h => absurd (law.ks _ h) (by decide +kernel)
      have m0 : deq D (put (Str.ofString "MORE") .none D) = false := deq_more hmk
      have m1 : (Keys (put (Str.ofString "MORE") .none D)).Nodup := nodup_put hnd
      have m3 : (put (Str.ofString "MORE") .none D).length ≤ 9 := by have := put_len (Str.ofString "MORE") .none D; omega
      have m2 : (put (Str.ofString "MORE") .none D).length ≤ 900 := by omega
      have mk : ∀ p ∈ put (Str.ofString "MORE") .none D, Txt.upper p.1 = p.1 ∧ p.1.length ≤ 100 := fun p hp => (mem_put hp).elim (fun h => ⟨law.up (mem_keys.mpr ⟨p.2, h⟩), len_greats _ (law.ks p.1 (mem_keys.mpr ⟨p.2, h⟩))⟩) fun h => by rw [h]; decide +kernel
      have m4 : ∀ p ∈ put (Str.ofString "MORE") .none D, p.1.length ≤ 100 := fun p hp => (mk p hp).2
      have ms : puts (puts [] (put (Str.ofString "MORE") .none D)) [] = put (Str.ofString "MORE") .none D := by show puts [] _ = _; rw [puts_up fun p hp => (mk p hp).1, puts1_nil m1]
      have m5 : deq D (puts (puts [] (put (Str.ofString "MORE") .none D)) []) = false := by rw [ms]; exact m0
      have m6 : (Keys (puts (puts [] (put (Str.ofString "MORE") .none D)) [])).Nodup := by rw [ms]; exact m1
      have m7 : (puts (puts [] (put (Str.ofString "MORE") .none D)) []).length ≤ 900 := by rw [ms]; exact m2
      k_dflt (refine' A_dictcomp ?hw ?hc ?hk ?hn ?_ ?hs)
      case hw => with_unfolding_all rfl
      case hc => with_unfolding_all rfl
      case hk => with_unfolding_all rfl
      case hn => decide
      case hs => intro _; with_unfolding_all rfl
      refine Subscript_ ?_
      k_dflt (refine' U_listcomp ?ihc ?ihk ?ihn ?_ ?ihs)
      case ihc => with_unfolding_all rfl
      case ihk => with_unfolding_all rfl
      case ihn => decide
      case ihs => intro _; with_unfolding_all rfl
      repeat' ((fail_if_success (with_reducible show wpAny _ _ (pyIter _) _ _ _)); first | walk1 | (dsimp only; walk1))
      refine U_iter_dict (o := oh) F N (nsys l3) (N _ (.tail _ (.tail _ (.tail _ (.tail _ (.tail _ (.tail _ (.head _)))))))).1 pd fun I21 h21 F21 N21 l21 l21x => ?_
      k_dflt (refine' copy_block (n := 100) (oh := oh) (H := H) RM ?jb1 ?jb2 ?jb3 ?jb4 hl9 ?jF ?jN ?jH pd ?jl ?jk1 ?jk6 ?jb5 ?_)
      case jF => exact F21
      case jN => exact N21
      case jH => k_mem
      case jl => exact l21
      case jb1 => decide
      case jb2 => with_unfolding_all rfl
      case jb3 => with_unfolding_all rfl
      case jb4 => with_unfolding_all rfl
      case jk1 => exact fun _ => by with_unfolding_all rfl
      case jk6 => exact fun _ => by with_unfolding_all rfl
      case jb5 => decide
      intro d22 h22 k22 L22 y22 c22 l22 F22 N22 ca cb cc S22
      clear N21 F21 l21 l21x N F
      repeat' ((fail_if_success (with_reducible show wpAny _ _ (subscriptTail _ _ _ _) _ _ _)); first | walk1 | (dsimp only; walk1))
      k_dflt (refine' U_rev (s := ⟨h22, _, _, _, _⟩) F22 N22 (.head _) ca cc S22 (by rw [keys_len]; exact hl9) (IsPart.int _ _) ?_ ?js)
      case js => with_unfolding_all rfl
      intro d23 h23 F23 N23 l23 S23
      rw [show (Keys D).reverse = Keys D.reverse by simp [Keys]] at S23
      have N24 : News G L h23 ((d23, PySem.W.listOf y22.reverse.toArray 0) :: [(n4, o4), (n3, oM), (n2, o2), (n1, o1), (x, o'), (dx, dictOf [] 0), (H, oh), (aS, oS'), (aL, PySem.W.listOf ws.toArray 0), (L + 1 + 1 + 1, oO'), (L + 1, oH'), (32, tabObj #[])]) := fun q hq => N23 q (by
        rcases List.mem_cons.mp hq with rfl | hq
        · exact .head _
        · exact .tail _ (.tail _ hq))
      clear N23 N22 F22
      refine U_iter_list F23 N24 (N24 _ (.head _)).1 rfl rfl fun I24 h24 F24 N25 l24 l24x => ?_
      k_dflt (refine' look_use (keep := [(d23, PySem.W.listOf y22.reverse.toArray 0)]) (H := H) (oh := oh) (D := D) (D' := D.reverse) ?kc1 ?kc2 ?kb1 ?kb2 ?kb3 ?kb4 (by rw [keys_len]; exact r2) r1 (fun p hp => mem_lk hnd (by simpa using hp)) ?kF ?kN ?kI ?kS ?kd1 (fun q hq => Nat.ne_of_lt (l24 q hq)) ?kd2 ?kH pd ?kM dH ?kk1 ?kk2 ?kk3 ?kk6 ?kb5 ?kb6 ?_)
      case kF => exact F24
      case kN => exact N25
      case kI => exact iter_strs RM.hd rfl rfl S23 (Nat.ne_of_lt l24x)
      case kS => exact ⟨rfl, rfl⟩
      case kd1 => intro q hq; rw [List.mem_singleton.mp hq]; exact Nat.ne_of_lt l24x
      case kd2 => intro q hq; rw [List.mem_singleton.mp hq]; exact .inl (.head _)
      case kH => k_mem
      case kM => k_mem
      case kc1 => with_unfolding_all rfl
      case kc2 => with_unfolding_all rfl
      case kb1 => decide
      case kb2 => with_unfolding_all rfl
      case kb3 => with_unfolding_all rfl
      case kb4 => with_unfolding_all rfl
      case kk1 => exact fun _ => by with_unfolding_all rfl
      case kk2 => exact fun _ => by with_unfolding_all rfl
      case kk3 => exact fun _ => by with_unfolding_all rfl
      case kk6 => exact fun _ => by with_unfolding_all rfl
      case kb5 => decide
      case kb6 => decide
      intro dA hA kA lA eA pA ldA FA NA pdA
      have N26 : News G L hA ((dA, lA) :: [(n4, o4), (n3, oM), (n2, o2), (n1, o1), (x, o'), (dx, dictOf [] 0), (H, oh), (aS, oS'), (aL, PySem.W.listOf ws.toArray 0), (L + 1 + 1 + 1, oO'), (L + 1, oH'), (32, tabObj #[])]) := fun q hq => NA q (by
        rcases List.mem_cons.mp hq with rfl | hq
        · exact .head _
        · exact .tail _ (.tail _ hq))
      have l26 : @LT.lt Nat _ n4 dA := ldA (n4, o4) (by simp)
      clear NA ldA N25 N24 F24 F23 l24 l24x S23 S22 ca cb cc l22
      have FX2 : ∃ mn, Fr G L hA mn ∧ mn (Str.ofString "told") = some (.ref x) ∧ mn (Str.ofString "state") = some (.ref aS) ∧ mn (Str.ofString "turned") = some (.ref n1) ∧ mn (Str.ofString "other") = some (.ref n2) ∧ mn (Str.ofString "more") = some (.ref n3) ∧ mn (Str.ofString "less") = some (.ref n4) ∧ mn (Str.ofString "alike") = some (.ref dA) := ⟨_, FA, by with_unfolding_all exact ht, by with_unfolding_all exact hst, by with_unfolding_all exact mt1, by with_unfolding_all exact mt2, by with_unfolding_all exact mt3, by with_unfolding_all exact mt4, by with_unfolding_all rfl⟩
      clear FA ht hst mt1 mt2 mt3 mt4
      obtain ⟨mn, FA, ht, hst, mt1, mt2, mt3, mt4, mt5⟩ := FX2
      dsimp only
      repeat' ((fail_if_success (with_reducible show wpAny _ _ (execs (Stmt.If (Expr.Compare _ _ _ _) _ _ _ :: _) _) _ _ _)); first | walk1 | (dsimp only; walk1))
      dsimp only
      rename_i h27 tk27 F27 N27
      have N28 : News G L h27 [(n4, o4), (n2, o2), (n1, o1), (x, o'), (dx, dictOf [] 0), (H, oh), (aS, oS'), (aL, PySem.W.listOf ws.toArray 0), (L + 1 + 1 + 1, oO'), (L + 1, oH'), (32, tabObj #[])] := fun q hq => N27 q (by
        simp only [List.mem_cons, List.not_mem_nil, or_false] at hq ⊢
        rcases hq with h | h | h | h | h | h | h | h | h | h | h <;> simp [h])
      clear N27 r0 r1 r2 r3 r4 rs r5 r6 r7 hmk m0 m1 m2 m3 mk m4 ms m5 m6 m7 pdA pdM
      refine cut1 (EndS G L x dx H aS aL o' oh oO' oH' ns'.length ws s1) ?_ ?_
      · by_cases hD0 : D = []
        · have e0 : deq D [] = true := by rw [hD0]; rfl
          repeat' (first | walk1 | (dsimp only; walk1))
          rename_i dE hE FE NE lE2 pdE lE1
          refine ⟨_, _, _, oS', rfl, FE, fun q hq => NE q ?_, ht, hst, SO⟩
          simp only [List.mem_cons, List.not_mem_nil, or_false] at hq ⊢
          rcases hq with h | h | h | h | h | h | h | h <;> simp [h]
        · have e0 : deq D [] = false := deq_len (by simpa using hD0)
          have hpos : 0 < List.length D := List.length_pos_iff.mpr hD0
          repeat' ((fail_if_success (with_reducible show wpAny _ _ (eval (Expr.ListComp _ _ _ _) _) _ _ _)); first | walk1 | (dsimp only; walk1))
          rename_i dE hE FE NE lE2 pdE lE1
          have N30 : News G L hE [(n4, o4), (n2, o2), (n1, o1), (x, o'), (dx, dictOf [] 0), (H, oh), (aS, oS'), (aL, PySem.W.listOf ws.toArray 0), (L + 1 + 1 + 1, oO'), (L + 1, oH'), (32, tabObj #[])] := fun q hq => NE q (.tail _ hq)
          clear NE lE2 pdE lE1
          k_dflt (refine' U_listcomp ?lhc ?lhk ?lhn ?_ ?lhs)
          case lhc => with_unfolding_all rfl
          case lhk => with_unfolding_all rfl
          case lhn => decide
          case lhs => intro _; with_unfolding_all rfl
          repeat' ((fail_if_success (with_reducible show wpAny _ _ (pyIter _) _ _ _)); first | walk1 | (dsimp only; walk1))
          refine U_iter_dict (o := oh) FE N30 (nsys l3) (N30 _ (.tail _ (.tail _ (.tail _ (.tail _ (.tail _ (.head _))))))).1 pd fun I31 h31 F31 N31 l31 l31x => ?_
          k_dflt (refine' copy_block (n := 100) (oh := oh) (H := H) RM ?mb1 ?mb2 ?mb3 ?mb4 hl9 ?mF ?mN ?mH pd ?ml ?mk1 ?mk6 ?mb5 ?_)
          case mF => exact F31
          case mN => exact N31
          case mH => k_mem
          case ml => exact l31
          case mb1 => decide
          case mb2 => with_unfolding_all rfl
          case mb3 => with_unfolding_all rfl
          case mb4 => with_unfolding_all rfl
          case mk1 => exact fun _ => by with_unfolding_all rfl
          case mk6 => exact fun _ => by with_unfolding_all rfl
          case mb5 => decide
          intro d32 h32 k32 L32 y32 c32 l32 F32 N32 ca cb cc S32
          clear N31 F31 l31 l31x N30 FE
          k_lt l32
          repeat' ((fail_if_success (with_reducible show wpAny _ _ (subscriptTail _ _ _ _) _ _ _)); first | walk1 | (dsimp only; walk1))
          rename_i h33 k33 r33 t33 o33 F33 N33 SO33 r330 r331
          refine item_strs (ks := Keys D) N33 (.head _) ca cc S32 r330 (by rw [keys_len]; exact r331) (by rw [keys_len]; omega) (fun kf tf hkf => ?_) ?ms
          case ms => with_unfolding_all rfl
          obtain ⟨uf, huf⟩ := lk_some hkf
          have N34 : News G L h33 [(n4, o4), (n2, o2), (n1, o1), (x, o'), (dx, dictOf [] 0), (H, oh), (aS, o33), (aL, PySem.W.listOf ws.toArray 0), (L + 1 + 1 + 1, oO'), (L + 1, oH'), (32, tabObj #[])] := fun q hq => N33 q (.tail _ hq)
          clear N33 S32 ca cb cc l32
          have f0 : deq D (put kf (.str (Str.ofString "turned")) D) = false := deq_turned law hkf
          have f1 : (Keys (put kf (.str (Str.ofString "turned")) D)).Nodup := nodup_put hnd
          have f3 : (put kf (.str (Str.ofString "turned")) D).length ≤ 1000 := hpl _ _
          have f2 : (put kf (.str (Str.ofString "turned")) D).length ≤ 900 := by have := put_len kf (.str (Str.ofString "turned")) D; omega
          have g0 : deq D (era kf D) = false := deq_less hkf
          have g1 : (Keys (era kf D)).Nodup := (law.sub (era_sub kf D)).nd
          have g3 : (era kf D).length ≤ 8 := Nat.le_trans (era_sub kf D).length_le hl8
          have g2 : (era kf D).length ≤ 900 := by omega
          have hyo : Str.ofString "OTHER" ≠ kf := fun e => absurd (law.ks _ hkf) (by rw [← e]; decide +kernel)
          have w0 : deq D (put (Str.ofString "OTHER") uf (era kf D)) = false := deq_other law hkf hyo
          have w1 : (Keys (put (Str.ofString "OTHER") uf (era kf D))).Nodup := nodup_put g1
          have w2 : (put (Str.ofString "OTHER") uf (era kf D)).length ≤ 900 := by have := put_len (Str.ofString "OTHER") uf (era kf D); omega
          have w3 : (put (Str.ofString "OTHER") uf (era kf D)).length ≤ 1000 := by omega
          repeat' (first | walk1 | (dsimp only; walk1))
          dsimp only
          rename_i FE2 NE2
          refine ⟨_, _, _, o33, rfl, FE2, fun q hq => NE2 q ?_, by with_unfolding_all exact ht, by with_unfolding_all exact hst, SO33⟩
          simp only [List.mem_cons, List.not_mem_nil, or_false] at hq ⊢
          rcases hq with h | h | h | h | h | h | h | h <;> simp [h]
      · clear F27 N28 SO ht hst mt1 mt2 mt3 mt4 mt5 pd1 pd2 pd4 z1 l26
        rintro s' ⟨h40, k40, m40, oS2, rfl, F, N, ht, hst, SO⟩
        repeat' ((fail_if_success (with_reducible show wpAny _ _ (subscriptTail _ _ _ _) _ _ _)); first | walk1 | (dsimp only; walk1))
        rename_i h41 k41 r41 t41 o41 F41 N41 SO41 r410 r411
        k_dflt (refine' U_cut3 (s := ⟨h41, _, _, _, _⟩) F41 N41 (.head _) rfl rfl (StrsAre.cons (StrsAre.cons (StrsAre.cons StrsAre.nil))) r410 r411 ?_ ?ns)
        case ns => with_unfolding_all rfl
        intro dO wO hO FO NO lO SOr
        have hjs := List.Nodup.sublist (List.take_sublist r41.toNat _) (by decide +kernel : ([Str.ofString "Z9", Str.ofString "É", Str.ofString "B-C"] : List Str).Nodup)
        have hjl : (List.take r41.toNat ([Str.ofString "Z9", Str.ofString "É", Str.ofString "B-C"] : List Str)).length ≤ 3 := List.length_take_le' ..
        generalize List.take r41.toNat ([Str.ofString "Z9", Str.ofString "É", Str.ofString "B-C"] : List Str) = js at hjs hjl SOr
        have N42 : News G L hO [(dO, PySem.W.listOf wO.toArray 0), (x, o'), (dx, dictOf [] 0), (H, oh), (aS, o41), (aL, PySem.W.listOf ws.toArray 0), (L + 1 + 1 + 1, oO'), (L + 1, oH'), (32, tabObj #[])] := fun q hq => NO q (by
          rcases List.mem_cons.mp hq with rfl | hq
          · exact .head _
          · exact .tail _ (.tail _ hq))
        have lO2 : @LT.lt Nat _ x dO ∧ @LT.lt Nat _ H dO := ⟨lO (x, o') (by simp), lO (H, oh) (by simp)⟩
        clear NO lO N41 F41
        repeat' ((fail_if_success (with_reducible show wpAny _ _ (eval (Expr.ListComp _ _ _ _) _) _ _ _)); first | walk1 | (dsimp only; walk1))
        rename_i h43 oO2 F43 N43 dO2
        k_dflt (refine' U_listcomp ?ohc ?ohk ?ohn ?_ ?ohs)
        case ohc => with_unfolding_all rfl
        case ohk => with_unfolding_all rfl
        case ohn => decide
        case ohs => intro _; with_unfolding_all rfl
        repeat' ((fail_if_success (with_reducible show wpAny _ _ (pyIter _) _ _ _)); first | walk1 | (dsimp only; walk1))
        refine U_iter_list F43 N43 (N43 _ (.head _)).1 rfl rfl fun I44 h44 F44 N44 l44 l44x => ?_
        k_dflt (refine' firsts_block (n := 100) (H := H) (oh := oh) (l := dO) (lo := PySem.W.listOf wO.toArray 0) (D := D) RM ?ob1 ?ob2 ?ob3 ?ob4 (Nat.le_trans hjl (by decide)) ?oF ?oN ?oH pd (nsys l3) ?ol ?om rfl rfl SOr ?omH dH ?ok1 ?ok2 ?ok3 ?ok6 ?ob5 ?ob6 ?_)
        case oF => exact F44
        case oN => exact N44
        case oH => k_mem
        case ol => exact l44
        case om => k_mem
        case omH => k_mem
        case ob1 => decide
        case ob2 => with_unfolding_all rfl
        case ob3 => with_unfolding_all rfl
        case ob4 => with_unfolding_all rfl
        case ok1 => exact fun _ => by with_unfolding_all rfl
        case ok2 => exact fun _ => by with_unfolding_all rfl
        case ok3 => exact fun _ => by with_unfolding_all rfl
        case ok6 => exact fun _ => by with_unfolding_all rfl
        case ob5 => decide
        case ob6 => decide
        intro dF hF kF LF yF cF lF FF NF fa1 fa2 fa3 SF
        clear N44 F44 l44 l44x N43 F43
        repeat' ((fail_if_success (with_reducible show wpAny _ _ (eval (Expr.ListComp _ _ _ _) _) _ _ _)); first | walk1 | (dsimp only; walk1))
        k_dflt (refine' U_listcomp ?phc ?phk ?phn ?_ ?phs)
        case phc => with_unfolding_all rfl
        case phk => with_unfolding_all rfl
        case phn => decide
        case phs => intro _; with_unfolding_all rfl
        repeat' ((fail_if_success (with_reducible show wpAny _ _ (pyIter _) _ _ _)); first | walk1 | (dsimp only; walk1))
        refine U_iter_dict (o := oh) FF NF (nsys l3) (NF _ (.tail _ (.tail _ (.tail _ (.tail _ (.head _)))))).1 pd fun I45 h45 F45 N45 l45 l45x => ?_
        k_dflt (refine' rest_block (n := 100) (H := H) (oh := oh) (l := dO) (lo := PySem.W.listOf wO.toArray 0) (D := D) RM ?pb1 ?pb2 ?pb3 ?pb4 hl9 ?pF ?pN ?pH pd ?pl ?pm rfl rfl SOr ?pmO dO2 ?pk1 ?pk2 ?pk3 ?pk6 ?pb5 ?pb6 ?_)
        case pF => exact F45
        case pN => exact N45
        case pH => k_mem
        case pl => exact l45
        case pm => k_mem
        case pmO => k_mem
        case pb1 => decide
        case pb2 => with_unfolding_all rfl
        case pb3 => with_unfolding_all rfl
        case pb4 => with_unfolding_all rfl
        case pk1 => exact fun _ => by with_unfolding_all rfl
        case pk2 => exact fun _ => by with_unfolding_all rfl
        case pk3 => exact fun _ => by with_unfolding_all rfl
        case pk6 => exact fun _ => by with_unfolding_all rfl
        case pb5 => decide
        case pb6 => decide
        intro dR hR kR LR yR cR lR FR NR ra1 ra2 ra3 SR
        clear N45 F45 l45 l45x
        repeat' ((fail_if_success (with_reducible show wpAny _ _ (call _ _ _) _ _ _)); first | walk1 | (dsimp only; walk1))
        have zR : ((Keys D).filter fun k => !(js.any (· == k))).length < 64 := Nat.lt_of_le_of_lt (List.length_filter_le ..) (by rw [keys_len]; omega)
        k_dflt (refine' U_sorted_strs FR NR (.head _) ra1 ra3 SR zR ?_)
        intro dS yS kS eS hS FS NS lS SS pS oS9
        have zF : (js.filter fun k => (lk k D).isSome).length ≤ 3 := Nat.le_trans (List.length_filter_le ..) hjl
        have zS : kS.length ≤ 63 := by rw [pS.length_eq]; omega
        k_dflt (refine' U_add_strs FS NS (.tail _ (.tail _ (.head _))) (.head _) fa1 rfl fa3 rfl SF SS (by omega) ?_)
        intro dD yD hD FD ND lD SD
        have CD : CanonIs D js (js.filter (fun k => (lk k D).isSome) ++ kS) := ⟨kS, rfl, pS, oS9⟩
        generalize js.filter (fun k => (lk k D).isSome) ++ kS = dk at SD CD
        have N50 : News G L hD [(dD, PySem.W.listOf yD.toArray 0), (dO, PySem.W.listOf wO.toArray 0), (x, o'), (dx, dictOf [] 0), (H, oh), (L + 1 + 1 + 1, oO2), (L + 1, oH'), (32, tabObj #[])] := fun q hq => ND q (by
          simp only [List.mem_cons, List.not_mem_nil, or_false] at hq ⊢
          rcases hq with h | h | h | h | h | h | h | h <;> simp [h])
        have lD2 : @LT.lt Nat _ dO dD ∧ @LT.lt Nat _ H dD ∧ @LT.lt Nat _ x dD := ⟨lD _ (.tail _ (.tail _ (.tail _ (.head _)))), lD _ (.tail _ (.tail _ (.tail _ (.tail _ (.tail _ (.tail _ (.head _))))))), lD _ (.tail _ (.tail _ (.tail _ (.tail _ (.head _)))))⟩
        clear ND lD NS FS lS NR FR lR NF FF lF SS SF SR pS oS9 zR zF zS fa1 fa2 fa3 ra1 ra2 ra3
        have hup : ∀ k ∈ Keys D, Txt.upper k = k ∧ k.length ≤ 100 := fun k hk => ⟨law.up hk, len_greats k (law.ks k hk)⟩
        repeat' ((fail_if_success (with_reducible show wpAny _ _ (call (Value.ref 41) _ _) _ _ _)); first | walk1 | (dsimp only; walk1))
        rename_i h51 F51 N51
        have hx32 : @Ne Nat x 32 := by omega
        have hd32 : @Ne Nat dx 32 := by omega
        have ho32 : @Ne Nat dO 32 := by omega
        have hdx : @Ne Nat dx x := by omega
        k_dflt (refine' U_items (n := 40) (o := o') (lo := PySem.W.listOf wO.toArray 0) F51 X' N51 T' RM (.tail _ (.tail _ (.head _))) (.tail _ (.tail _ (.tail _ (.head _)))) (.tail _ (.head _)) ?qU hx32 hd32 ho32 hdx hsx td rfl rfl SOr hjs hjl hnd (by omega) hup ?_)
        case qU => k_updF
        intro hI kI dI LI yI cI tlI ksI c9 oc9 vs9 t9 FI NI i1 i2 i3 i4 i5 i6 i7 i8 i9 PI CI
        try dsimp only at NI
        have eks : ksI = dk := CI.one CD
        subst eks
        have NI2 : News G L hI ((dI, LI) :: (c9, oc9) :: (dD, PySem.W.listOf yD.toArray 0) :: (dO, PySem.W.listOf wO.toArray 0) :: (x, o') :: (dx, dictOf [] 0) :: (H, oh) :: (L + 1 + 1 + 1, oO2) :: (L + 1, oH') :: (32, lamTab c9) :: tlI) := NI
        clear NI N51 F51
        repeat' ((fail_if_success (with_reducible show wpAny _ _ (eval (Expr.ListComp _ _ _ _) _) _ _ _)); first | walk1 | (dsimp only; walk1))
        k_dflt (refine' U_listcomp ?rhc ?rhk ?rhn ?_ ?rhs)
        case rhc => with_unfolding_all rfl
        case rhk => with_unfolding_all rfl
        case rhn => decide
        case rhs => intro _; with_unfolding_all rfl
        repeat' ((fail_if_success (with_reducible show wpAny _ _ (pyIter _) _ _ _)); first | walk1 | (dsimp only; walk1))
        have gD : hI.get? dD = some (PySem.W.listOf yD.toArray 0) := (NI2 (dD, PySem.W.listOf yD.toArray 0) (.tail _ (.tail _ (.head _)))).1
        refine U_iter_list (l := dD) (lo := PySem.W.listOf yD.toArray 0) FI NI2 gD rfl rfl fun I60 h60 F60 N60 l60 l60x => ?_
        k_dflt (refine' rows_block (n := 100) (H := H) (oh := oh) (l := dD) (lo := PySem.W.listOf yD.toArray 0) (D := D) RM ?rb1 ?rb2 ?rb3 ?rb4 (by have := CD.len; omega) CD.mem ?rF ?rN ?rH pd ?rl ?rm rfl rfl SD ?rmH dH ?rk1 ?rk2 ?rk3 ?rk6 ?rb5 ?rb6 ?_)
        case rF => exact F60
        case rN => exact N60
        case rH => k_mem
        case rl => exact l60
        case rm => k_mem
        case rmH => k_mem
        case rb1 => decide
        case rb2 => with_unfolding_all rfl
        case rb3 => with_unfolding_all rfl
        case rb4 => with_unfolding_all rfl
        case rk1 => exact fun _ => by with_unfolding_all rfl
        case rk2 => exact fun _ => by with_unfolding_all rfl
        case rk3 => exact fun _ => by with_unfolding_all rfl
        case rk6 => exact fun _ => by with_unfolding_all rfl
        case rb5 => decide
        case rb6 => decide
        intro dP hP kP LP yP cP tlP lP nP FP NP p1 p2 p3 PP tP
        have NP2 : News G L hP ((dP, LP) :: (dI, LI) :: (c9, oc9) :: (dD, PySem.W.listOf yD.toArray 0) :: (dO, PySem.W.listOf wO.toArray 0) :: (x, o') :: (dx, dictOf [] 0) :: (H, oh) :: (L + 1 + 1 + 1, oO2) :: (L + 1, oH') :: (32, lamTab c9) :: (tlI ++ tlP)) := NP
        clear NP N60 F60 NI2 FI
        repeat' ((fail_if_success (with_reducible show wpAny _ _ (compareOp _ _ _) _ _ _)); first | walk1 | (dsimp only; walk1))
        k_dflt (refine' lists_eq NP2 RM (.tail _ (.head _)) (.head _) i7 p1 i9 p3 PI PP rfl (fun q hq => .tail _ (.tail _ (.tail _ (.tail _ (.tail _ (.tail _ (.tail _ (.tail _ (.tail _ (.tail _ (.tail _ (List.mem_append_left _ hq)))))))))))) (fun q hq => .tail _ (.tail _ (.tail _ (.tail _ (.tail _ (.tail _ (.tail _ (.tail _ (.tail _ (.tail _ (.tail _ (List.mem_append_right _ hq)))))))))))) ?_)
        have N61 : News G L hP [(c9, oc9), (x, o'), (dx, dictOf [] 0), (H, oh), (L + 1, oH'), (32, lamTab c9)] := fun q hq => NP2 q (by
          simp only [List.mem_cons, List.not_mem_nil, or_false] at hq ⊢
          rcases hq with h | h | h | h | h | h <;> simp [h])
        have hc32 : @Ne Nat c9 32 := Ne.symm (i2 (32, tabObj #[]) (by simp))
        have hcx : @Ne Nat x c9 := i2 (x, o') (by simp)
        have hcd : @Ne Nat dx c9 := i2 (dx, dictOf [] 0) (by simp)
        have hcH : @Ne Nat H c9 := i2 (H, oh) (by simp)
        have hcL : @Ne Nat (L + 1) c9 := i2 (L + 1, oH') (by simp)
        clear NP2 PP PI tP nP lP p1 p2 p3 i1 i2 i3 i4 i7 i8 i9
        repeat' ((fail_if_success (with_reducible show wpAny _ _ (callWith _ _ _ _ _) _ _ _)); first | walk1 | (dsimp only; walk1))
        k_dflt (refine' callWith_K0 ?uk1 ?uk2 ?_)
        case uk1 => exact X'.keeps FP.keep
        case uk2 => k_is
        show wpAny _ _ (call (Value.ref 159) [Value.ref x]) _ _ _
        k_dflt (refine' U_skeys (n := 40) (o := o') (oc := oc9) FP X' N61 T' RM (.tail _ (.head _)) (.tail _ (.tail _ (.head _))) (.head _) ?qV hx32 hd32 hc32 hdx hsx td i5 i6 hnd (by omega) ?_)
        case qV => k_updF
        intro hK kK dK yK ksK c10 FK NK ldK SK CK
        try dsimp only at NK
        have NK2 : News G L hK [(dK, PySem.W.listOf yK.toArray 0), (H, oh), (L + 1, oH'), (32, lamTab c10)] := fun q hq => NK q (by
          simp only [List.mem_cons, List.not_mem_nil, or_false] at hq ⊢
          rcases hq with h | h | h | h <;> simp [h])
        clear NK N61 FP
        repeat' ((fail_if_success (with_reducible show wpAny _ _ (call (Value.builtin "sorted") _ _) _ _ _)); first | walk1 | (dsimp only; walk1))
        k_dflt (refine' U_sorted_dict (k := 100) FK NK2 RM (NK2 _ (.tail _ (.head _))).1 pd (nsys l3) (by omega) ?_)
        intro dT yT ksT eT hT kT FT NT lT ST pT oT
        repeat' ((fail_if_success (with_reducible show wpAny _ _ (compareOp _ _ _) _ _ _)); first | walk1 | (dsimp only; walk1))
        k_dflt (refine' strs_eq NT RM (.tail _ (.head _)) (.head _) rfl rfl rfl rfl SK ST (sorted_one (CK.plain.1.trans pT.symm) CK.plain.2 oT) ?_)
        repeat' (first | walk1 | (dsimp only; walk1))
        exact ⟨rfl, _, _, _, _, _, rfl, FT, NT, .tail _ (.tail _ (.tail _ (.tail _ (.head _))))⟩)
end Mine
theorem PySem.Challenge.cw_co0001_01_holds : PySem.Challenge.rw_co0001_01.Holds :=
  Mine.whole

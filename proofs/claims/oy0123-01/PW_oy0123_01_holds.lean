import PyProof.Rows.All
import Wide.All
import OpenK.AllK
import Wide.FinOn
import PyProof.Rows.StrClose5
import PyProof.StrLawsIn
import PySem.Challenge.RW_oy0123_01
set_option Elab.async false
section
namespace Mine
theorem hide {P : Prop} (h : ∀ P' : Prop, (P → P') → P') : P := h P id
end Mine
end
section
open PySem PySem.W PyProof.Rows
set_option Elab.async false
namespace Mine
section
local macro_rules | `(tactic| refine $f:ident (q := $q) (loose := $l) (Xt := $x) (XP := $xp) (Yf := $yf) (Ya := $ya) (YP := $yp) (N := $n) ?$h $as*) => `(tactic| refine $f:ident (q := $q) (loose := $l) (Xt := $x) (XP := $xp) (Yf := $yf) (Ya := $ya) (YP := $yp) (N := $n) (fun _ => by kernel_rfl) $as*)
set_option maxRecDepth 100000 in
set_option maxHeartbeats 8000000 in
open_top hd for PySem.Challenge.rw_oy0123_01
end
end Mine
end
section
open PySem PySem.W PyProof.Rows
set_option Elab.async false
namespace Mine
open PySem.Builtin PySem.Builtin.Str in
theorem gives_index3 (x y : Str) (i : Int) (t u v : Tok) (k : Nat) (rest : List Nat) (h : occurrences x y (fromIndex x.length i) x.length 1 = k :: rest) : Gives («str.index» ⟨[.str x t, .str y u, .int i v], []⟩) (.int k) := by
  show Gives (match occurrences x y (fromIndex x.length i) (min x.length x.length) 1 with | i :: _ => retInt i | [] => (do rule "str.index.not-found"; raiseError "ValueError" "substring not found")) _
  rw [Nat.min_self, h]
  exact .of_eq rfl
open PySem.Builtin PySem.Builtin.Str in
theorem raises_index3 (x y : Str) (i : Int) (t u v : Tok) (h : occurrences x y (fromIndex x.length i) x.length 1 = []) : Meets («str.index» ⟨[.str x t, .str y u, .int i v], []⟩) (raisesNew "ValueError") := by
  intro prog w A R s hS
  show wpAny _ _ (match occurrences x y (fromIndex x.length i) (min x.length x.length) 1 with | i :: _ => retInt i | [] => _) _ _ s
  rw [Nat.min_self, h]
  first
    | exact wpAny_bind (wpAny_rule (by exact_raiseError plainExc_ValueError hS.1 hS.2))
    | exact wpAny_bind (wpAny_rule (wpAny_bind (by exact_raiseError plainExc_ValueError hS.1 hS.2)))
theorem index3_or {prog : Program} {w : World} {A : Around} {E : Value → Shared → Prop} {s : Shared} {x y : Str} {t u v : Tok} {i : Int} {Q : Value → Shared → Prop} (hA : A.handled = none)
    (h0 : Txt.find3 x y i = -1 → ∀ h' tk e, Heap.NewExc s.heap h' e "ValueError" → E (.ref e) { s with heap := h', toks := tk })
    (h1 : 0 ≤ Txt.find3 x y i → Q (.int (Txt.find3 x y i) s.toks) { s with toks := s.toks + 1 }) :
    wpAny (model prog w) A (call (.builtin "str.index") [.str x t, .str y u, .int i v]) Q E s := by
  cases ho : PySem.Builtin.Str.occurrences x y (PySem.fromIndex x.length i) x.length 1 with
  | nil =>
    have e : Txt.find3 x y i = -1 := by simp [Txt.find3, ho]
    exact call_meets F.slot_str_index (typeIs_str _ _ _) F.entry_str_index (F.args_str_index_3 _ _ _) (raises_index3 x y i t u v ho) ⟨hA, h0 e⟩
  | cons k rest =>
    have e : Txt.find3 x y i = (k : Int) := by simp [Txt.find3, ho]
    refine call_gives F.slot_str_index (typeIs_str _ _ _) F.entry_str_index (F.args_str_index_3 _ _ _) (gives_index3 x y i t u v k rest ho) ?_
    have h := h1 (by rw [e]; exact Int.natCast_nonneg k)
    rw [e] at h
    exact h
end Mine
end
section
open PySem PySem.W PyProof.Rows
set_option Elab.async false
namespace Mine
theorem entry_unchain : entryFor table "proto.unchain" = some Builtin.«proto.unchain» := entryFor_of_fast (by kernel_rfl)
section
variable {prog : Program} {w : World} {A : Around} {E : Value → Shared → Prop} {s : Shared}
theorem raiseNew_ctx {α : Type} {e h : Addr} {oe oh : Obj} {vs ws : Array Value} {Q : α → Shared → Prop} (hh : A.handled = some (.ref h)) (hne : h ≠ e)
    (hoh : s.heap.get? h = some oh) (hd : oh.data = .fields ws) (h2 : ws[2]? = some .none) (hoe : s.heap.get? e = some oe) (hde : oe.data = .fields vs) (hsz : 2 < vs.size)
    (hE : E (.ref e) { s with heap := s.heap.update e (Obj.mapFields (·.setIfInBounds 2 (.ref h))) }) : wpAny (model prog w) A (raiseNew (.ref e) : Sem α) Q E s := by
  unfold raiseNew
  refine wpAny_bind (wpAny_handled ?_)
  rw [hh]
  dsimp only
  have hb : (Value.ref h != Value.ref e) = true := by simp [hne]
  rw [if_pos hb]
  refine wpAny_bind (wpAny_holding (wpAny_runValue (codeAny_builtin entry_unchain ?_)))
  unfold Builtin.«proto.unchain»
  dsimp only
  refine wpAny_bind (wpAny_field hoh hd h2 ?_)
  rw [if_pos (by rfl)]
  refine wpAny_pure ?_
  show wpAny _ _ (setField (.ref e) 2 (.ref h) >>= _) _ _ _
  refine wpAny_bind (wpAny_setField hoe hde hsz ?_)
  exact wpAny_throw hE
end
section
variable {prog : Program} {w : World} {A : Around} {E : Value → Shared → Prop} {env : Env}
variable {nm q : Str} {C N : Addr} {bs bm : List Value} {hdct : Bool} {sn : List Str} {sub : List Value} {ab : Bool} {col : Option Bool} {dd : Option Addr} {k0 k1 k2 k3 k5 : Option Value} {newId : String}
theorem raiseStmt_from {s : Shared} {x c : Sem Value} {Q : Flow → Shared → Prop} {hx : Addr} (hbase : bm.contains (.type "BaseException") = true) (hh : A.handled = some (.ref hx))
    (hc : ∀ (s : Shared) (Q : Value → Shared → Prop) (E : Value → Shared → Prop), Q .none s → wpAny (model prog w) A c Q E s)
    (h : wpAny (model prog w) A x (fun v s₁ => ∃ e t oh ws, v = .ref e ∧ hx ≠ e ∧ s₁.heap.get? hx = some oh ∧ oh.data = .fields ws ∧ ws[2]? = some .none ∧ s₁.heap.get? C = some (excClassObj nm q C N bs bm hdct sn sub ab col dd k0 k1 k2 k3 k5 newId) ∧
      s₁.heap.get? e = some { cls := .ref C, data := .fields #[.ref t, .none, .none, .none, .bool false, .none] } ∧
      ∀ h', h'.get? e = some { cls := .ref C, data := .fields #[.ref t, .none, .ref hx, .none, .bool true, .none] } → Heap.SameBut e s₁.heap h' → E (.ref e) { s₁ with heap := h' }) E s) :
    wpAny (model prog w) A (raiseStmt env (some x) (some c)) Q E s := by
  have hcB : (Value.ref C :: bm).contains (.type "BaseException") = true := by rw [List.contains_cons, hbase, Bool.or_true]
  unfold raiseStmt
  refine wpAny_bind (wpAny_mono h (fun v s₁ h₁ => ?_) fun _ _ x => x)
  refine hide fun P' hP' => ?_
  obtain ⟨e, t, oh, ws, rfl, hne, hoh, hohd, hoh2, hC, he, hE⟩ := h₁
  obtain ⟨hp, g, d, tk, os⟩ := s₁
  refine hP' ?_
  clear hP'
  repeat (first | with_reducible refine wpAny_loadPart_at he ?_ | with_reducible refine wpAny_loadPart_at hC ?_ | (with_reducible refine wpAny_isSubtype_exc hC ?_; rw [hcB]) | with_reducible refine hc _ _ _ ?_ | wp_step)
  have hCe : e ≠ C := fun q => by
    have he' := he
    subst q
    rw [hC] at he'
    cases he'
  have hxe : e ≠ hx := fun q => hne q.symm
  have he1 := Heap.get?_update_self (Obj.mapFields (·.setIfInBounds 3 Value.none)) he rfl
  have he2 := Heap.get?_update_self (Obj.mapFields (·.setIfInBounds 4 (Value.bool true))) he1 rfl
  have hC2 := (Heap.get?_update_other (hp.update e (Obj.mapFields (·.setIfInBounds 3 Value.none))) (Obj.mapFields (·.setIfInBounds 4 (Value.bool true))) hCe).trans ((Heap.get?_update_other hp (Obj.mapFields (·.setIfInBounds 3 Value.none)) hCe).trans hC)
  have hx2 := (Heap.get?_update_other (hp.update e (Obj.mapFields (·.setIfInBounds 3 Value.none))) (Obj.mapFields (·.setIfInBounds 4 (Value.bool true))) hxe).trans ((Heap.get?_update_other hp (Obj.mapFields (·.setIfInBounds 3 Value.none)) hxe).trans hoh)
  refine wpAny_loadPart_at hC2 ?_
  refine wpAny_pure ?_
  rw [if_pos (by rfl)]
  refine wpAny_pure ?_
  show wpAny _ _ (setFlight (.ref e) none >>= _) _ _ _
  unfold setFlight
  refine wpAny_bind (wpAny_bind (wpAny_field he2 rfl (x := .none) rfl ?_))
  rw [if_neg (by decide)]
  refine wpAny_pure ?_
  refine raiseNew_ctx hh hne hx2 hohd hoh2 he2 rfl (by simp) ?_
  have he3 := Heap.get?_update_self (Obj.mapFields (·.setIfInBounds 2 (Value.ref hx))) he2 rfl
  exact hE _ he3 (((Heap.SameBut.update ..).trans (Heap.SameBut.update ..)).trans (Heap.SameBut.update ..))
end
end Mine
end
section
open PySem PySem.W PyProof.Rows
set_option Elab.async false
namespace Mine
section
variable {M : Model} {A : Around} {E : Value → Shared → Prop} {s : Shared}
/-- an exception that has no traceback yet is noted in its own frame; the record is known but for its second field -/
theorem note_first {base : Heap} {env : Env} {outer : List Env} {L e : Addr} {oe : Obj} {vs : Array Value} {Q : Unit → Shared → Prop}
    (hfr : A.frames = some (env :: outer)) (hl : s.heap.FunFrames base (env :: outer)) (hf : env.frame = some L)
    (he : s.heap.get? e = some oe) (hkb : base.StaysIn s.heap) (hen : base.get? e = none) (hd : oe.data = .fields vs) (h1 : vs[1]? = some .none)
    (h : ∀ h' T oT ts, base.StaysIn h' → h'.FunFrames base (env :: outer) → h'.get? e = some (Obj.mapFields (·.setIfInBounds 1 (.ref T)) oe) → base.get? T = none → T ≠ e →
      h'.get? T = some oT → oT.data = .fields ts → ts[3]? = some (rawInt L) → s.heap.UpToSlots h' → Q () { s with heap := h' }) :
    wpAny M A (noteFrame (.ref e) env) Q E s := by
  have hene : e ∉ (env :: outer).filterMap (·.frame) := fun hm => by
    refine hide fun P' hP' => ?_
    obtain ⟨_, o, ho, hnf⟩ := hl.mem hm
    refine hP' ?_
    clear hP'
    rw [he] at ho; injection ho with ho; subst ho; exact hnf vs hd
  have hsz : 1 < vs.size := (Array.getElem?_eq_some_iff.mp h1).1
  unfold noteFrame
  simp only [hf]
  refine wpAny_bind (wpAny_field he hd h1 ?_)
  rw [if_neg (by decide)]
  refine wpAny_bind (wpAny_frameOf_fun hfr hl hf fun h₁ hs₁ => ?_)
  refine wpAny_bind (wpAny_entryPlaceOf fun pl hpl => ?_)
  unfold EntryCells.newEntry newFields
  refine wpAny_bind (wpAny_newObj_type ?_ (hpl.sizeOk5 _ _ _ _ _))
  have he₁ : h₁.get? e = some oe := (hs₁.2.1 e hene).trans he
  have kb₁ : base.StaysIn h₁ := fun b o hbo => (hs₁.2.1 b fun hm => by rw [(hl.mem hm).1] at hbo; cases hbo).trans (hkb b o hbo)
  have he₂ := Heap.get?_push_of_some (h := h₁) { cls := .type "traceback", dict := none, data := .fields ([Value.none, .ref L, .none, rawInt L, .none] ++ (if pl.isEmpty then List.replicate 6 Value.none else pl)).toArray } he₁
  have hTe : h₁.objs.size ≠ e := Nat.ne_of_gt (Heap.lt_size he₁)
  have hd₃ := Obj.data_mapFields hd (·.setIfInBounds 1 (Value.ref h₁.objs.size))
  have he₃ := Heap.get?_update_self (Obj.mapFields (·.setIfInBounds 1 (Value.ref h₁.objs.size))) he₂ (Obj.isFreed_of_fields hd₃)
  have hT₃ := (Heap.get?_update_other (h₁.push { cls := .type "traceback", dict := none, data := .fields ([Value.none, .ref L, .none, rawInt L, .none] ++ (if pl.isEmpty then List.replicate 6 Value.none else pl)).toArray })
    (Obj.mapFields (·.setIfInBounds 1 (Value.ref h₁.objs.size))) (Ne.symm hTe)).trans (Heap.get?_push_size h₁ rfl)
  have keep : ∀ b o, b ≠ e → h₁.get? b = some o →
      ((h₁.push { cls := .type "traceback", dict := none, data := .fields ([Value.none, .ref L, .none, rawInt L, .none] ++ (if pl.isEmpty then List.replicate 6 Value.none else pl)).toArray }).update e (Obj.mapFields (·.setIfInBounds 1 (Value.ref h₁.objs.size)))).get? b = some o :=
    fun b o hbe hb => by
      rw [Heap.get?_update_other _ _ (Ne.symm hbe)]
      exact Heap.get?_push_of_some _ hb
  have noRecord : ∀ b o, s.heap.get? b = some o → (∀ vs, o.data ≠ .fields vs) → b ≠ e := fun b o hb hnf q => by
    rw [q, he] at hb; injection hb with hb; subst hb; exact hnf vs hd
  refine wpAny_setField he₂ hd hsz (h _ h₁.objs.size _ _ (fun b o hbo => keep b o (fun q => by rw [q, hen] at hbo; cases hbo) (kb₁ b o hbo))
    (hl.of_keeps fun b o hb hnf => ?_) he₃ kb₁.fresh hTe hT₃ rfl (by first | (simp; done) | (rcases hpl with rfl | ⟨_, _, _, _, _, _, _, rfl⟩ <;> simp)) fun b o hb hnf => ?_)
  · obtain ⟨sl, hs⟩ := hs₁.2.2 b o hb
    exact ⟨_, keep b _ (noRecord b o hb hnf) hs, rfl⟩
  · obtain ⟨sl, hs⟩ := hs₁.2.2 b o hb
    exact ⟨sl, keep b _ (noRecord b o hb hnf) hs⟩
/-- landing: the entry's mark goes -/
theorem land_exact {base : Heap} {l : List Env} {e T : Addr} {oe oT : Obj} {vs ts : Array Value} {Q : Unit → Shared → Prop}
    (hkb : base.StaysIn s.heap) (hl : s.heap.FunFrames base l) (he : s.heap.get? e = some oe) (hd : oe.data = .fields vs) (h1 : vs[1]? = some (.ref T)) (hnT : base.get? T = none) (hTe : T ≠ e)
    (hT : s.heap.get? T = some oT) (hdT : oT.data = .fields ts) (h3 : 3 < ts.size)
    (h : ∀ h' oT' ts', base.StaysIn h' → h'.FunFrames base l → h'.get? e = some oe → h'.get? T = some oT' → oT'.data = .fields ts' → 3 < ts'.size → ts'[3]? = some .none → s.heap.UpToSlots h' → Q () { s with heap := h' }) :
    wpAny M A (setFlight (.ref e) none) Q E s := by
  have other : ∀ b, b ≠ T → (s.heap.update T (Obj.mapFields (·.setIfInBounds 3 ((none : Option Addr).elim Value.none fun f => rawInt f)))).get? b = s.heap.get? b :=
    fun b hb => Heap.get?_update_other _ _ (Ne.symm hb)
  have noRecord : ∀ b o, s.heap.get? b = some o → (∀ vs, o.data ≠ .fields vs) → b ≠ T := fun b o hb hnf q => by
    rw [q, hT] at hb; injection hb with hb; subst hb; exact hnf ts hdT
  unfold setFlight
  refine wpAny_bind (wpAny_field he hd h1 ?_)
  rw [if_pos (show (Value.ref T != Value.none) = true from by simp)]
  refine wpAny_setField hT hdT h3 (h _ _ _ (fun b o hbo => (other b fun q => by rw [q, hnT] at hbo; cases hbo).trans (hkb b o hbo))
    (hl.of_keeps fun b o hb hnf => ⟨o, (other b (noRecord b o hb hnf)).trans hb, rfl⟩) ((other e (Ne.symm hTe)).trans he)
    (Heap.get?_update_self _ hT (Obj.isFreed_of_fields (Obj.data_mapFields hdT _))) (Obj.data_mapFields hdT _) (by simpa using h3) (by simp [h3]) fun b o hb hnf => ⟨o.slots, (other b (noRecord b o hb hnf)).trans hb⟩)
end
end Mine
end
section
open PySem PySem.W PyProof.Rows
set_option Elab.async false
namespace Mine
section
variable {prog : Program} {w : World} {A₀ : Around} {E : Value → Shared → Prop} {s' : Shared} {base g h : Heap} {outer : List Env} {L a e : Addr} {m : Str → Option Value} {name : Str} {scope : Scope} {cd : Value}
  {b₀ : Stmt} {suite : List Stmt} {pos np : Pos} {rest : List ExceptHandler} {Q : Flow → Shared → Prop} {news : List (Addr × Obj)} {KF : Frag}
  {p : Program} {loose : List Str} {mean : ExcName → Option Value} {mg mb : Str → Option Value} {x : Str} {X T' : String}
/-- a built-in exception that the frame's own try body has raised, met by the first clause -/
theorem catch_new (K : Below A₀ base outer g) (F : Fr g L h m) (N : News g L h news) (hx : Heap.NewExc h s'.heap e X) (XB : KF.In base) (TB : Top p loose mean mg mb base)
    (ex : nsIn KF mainGlobals x = some none) (hv : bootBuiltins x = some (.type T')) (hn' : x ≠ "__name__")
    (hexc : isSubtype (.type T') (.type "BaseException") = pure true) (hnt : isSubtype (.type ((Manifest.find? T').elim "type" fun y => y.metatype)) (.type "tuple") = pure false)
    (hsub : isSubtype (.type X) (.type T') = pure true)
    (k : ∀ h' g' oe ws, KtsTurn (outer.filterMap (·.frame)) g g' → Fr g' L h' m → News g' L h' ((e, oe) :: news) → oe.data = .fields ws → ws[2]? = some .none →
      Below A₀ base outer g' → KF.In g' → Top p loose mean mg mb g' →
      wpAny (model prog w) ((A₀.deeper (envOf name scope L a cd)).mark (some (.ref e))) (execs (b₀ :: suite) (envOf name scope L a cd)) Q E { s' with heap := h' })
    (hk : scope.kind = .function := by rfl) (hxk : (envOf name scope L a cd).kindOf x = some .globalImplicit := by rfl) (hd : (x == ("__debug__" : Str)) = false := by decide)
    (hE : PassesOwnAt (model prog w) ((A₀.deeper (envOf name scope L a cd)).mark (some (.ref e))) (A₀.deeper (envOf name scope L a cd)) (envOf name scope L a cd) E := by passes_own) :
    wpAny (model prog w) (A₀.deeper (envOf name scope L a cd)) (noteFrame (.ref e) (envOf name scope L a cd))
      (fun _ s₂ => wpAny (model prog w) (A₀.deeper (envOf name scope L a cd)) (setFlight (.ref e) none) (fun _ s₃ =>
        wpAny (model prog w) (A₀.deeper (envOf name scope L a cd)) (handleBy (.ref e) (envOf name scope L a cd) (.ExceptHandler (some (.Name x np)) none (b₀ :: suite) pos :: rest)) Q E s₃) E s₂) E s' := by
  have K' := K.push (name := name) (a := a) (cd := cd) F hk
  have hin : ∀ env ∈ (envOf name scope L a cd :: outer), ∀ b, env.frame = some b → b ∈ (envOf name scope L a cd :: outer).filterMap (·.frame) := fun env he b hb => List.mem_filterMap.mpr ⟨env, he, hb⟩
  refine hide fun P' hP' => ?_
  obtain ⟨oe, t, he, hec, hed⟩ := hx.there
  refine hP' ?_
  clear hP'
  -- the heap without the frames stays
  have hFF : s'.heap.FunFrames (hideAll h ((envOf name scope L a cd :: outer).filterMap (·.frame))) (envOf name scope L a cd :: outer) :=
    (funFrames_hide K'.frames hin).of_keeps fun b o q _ => ⟨o, hx.keeps b o q, rfl⟩
  have hBs : (hideAll h ((envOf name scope L a cd :: outer).filterMap (·.frame))).StaysIn s'.heap := fun b o q => hx.keeps b o (of_hideAll _ q)
  have hBe : (hideAll h ((envOf name scope L a cd :: outer).filterMap (·.frame))).get? e = none := kts_none (fun b o q => of_hideAll _ q) hx.new
  have hBG : ∀ b o, h.get? b = some o → b ∉ (envOf name scope L a cd :: outer).filterMap (·.frame) → (hideAll h ((envOf name scope L a cd :: outer).filterMap (·.frame))).get? b = some o :=
    fun b o q nm => hideAll_get _ q nm
  have hge : g.get? e = none := kts_none F.keep hx.new
  refine note_first (Around.frames_deeper K.stack) hFF rfl he hBs hBe hed (by simp) fun h₁ T oT ts b1 b2 b3 b4 b5 b6 b7 b8 b9 => ?_
  have hsz3 : 3 < ts.size := (Array.getElem?_eq_some_iff.mp b8).1
  have hed₁ := Obj.data_mapFields hed (·.setIfInBounds 1 (Value.ref T))
  refine land_exact b1 b2 b3 hed₁ (by simp) b4 b5 b6 b7 hsz3 fun h₂ oT₂ ts₂ c1 c2 c3 c4 c5 c6 _ c7 => ?_
  have up₂ : h.UpToSlots h₂ := ((Heap.UpToSlots.of_keeps hx.keeps).trans b9).trans c7
  refine hide fun P' hP' => ?_
  obtain ⟨g₂, T₂, F₂, K₂⟩ := kts_ground (name := name) (scope := scope) (a := a) (cd := cd) K F hBG c1 up₂
  refine hP' ?_
  clear hP'
  have X₂ : KF.In g₂ := XB.keeps K₂.stays
  have P₂ : TopRead p loose mg mb g₂ := topRead_of (TB.keeps K₂.stays)
  refine wpAny_handleBy_builtin (X := X) (T := T') (b := true) hexc hnt hsub (wpAny_passesOwnAt hE (name_B F₂ X₂ P₂ ex hv hn' ⟨rfl, ⟨_, c3, ?_⟩, ?_⟩ hk hxk hd))
  · exact (Obj.cls_mapFields ..).trans hec
  rw [if_pos rfl]
  refine land_exact c1 c2 c3 hed₁ (by simp) b4 b5 c4 c5 c6 fun h₃ oT₃ ts₃ d1 d2 d3 d4 d5 d6 _ d7 => ?_
  have up₃ : h.UpToSlots h₃ := up₂.trans d7
  refine hide fun P' hP' => ?_
  obtain ⟨g₃, T₃, F₃, K₃⟩ := kts_ground (name := name) (scope := scope) (a := a) (cd := cd) K F hBG d1 up₃
  refine hP' ?_
  clear hP'
  have hL : (hideAll h ((envOf name scope L a cd :: outer).filterMap (·.frame))).get? L = none := hideAll_none _ (hin _ (.head _) L rfl)
  have Nl : News g₃ L h₃ news := fun q hq => by
    refine hide fun P' hP' => ?_
    obtain ⟨n1, n2, n3⟩ := N q hq
    refine hP' ?_
    clear hP'
    have hB : (hideAll h ((envOf name scope L a cd :: outer).filterMap (·.frame))).get? q.1 = some q.2 := hBG _ _ n1 fun hm => by
      rcases kts_mem hm with z | z
      · exact n2 z
      · refine hide fun P' hP' => ?_
        obtain ⟨_, o, ho, _⟩ := K.frames.mem z
        refine hP' ?_
        clear hP'
        rw [n3] at ho; cases ho
    exact ⟨d1 _ _ hB, n2, T₃.none_ _ n3⟩
  refine wpAny_passesOwnAt hE (k h₃ g₃ _ _ T₃ F₃ (News.more F₃ Nl d3 (fun es n q => by rw [hed₁] at q; cases q) (T₃.none_ _ hge)) hed₁ (by simp) K₃ (XB.keeps K₃.stays) (TB.keeps K₃.stays))
end
end Mine
end
section
open PySem PySem.W PyProof.Rows
set_option Elab.async false
namespace Mine
abbrev prg : Program := Challenge.rw_oy0123_01.row.prog

section
variable {prog : Program} {w : World} {A : Around} {s : Shared} {K : Frag} {R : Result → Shared → Prop} {name qual : Str} {params : Arguments} {body : List Stmt} {scope : Scope} {dV kV doc pm cdv ct oc : Value} {an od : Option Addr} {osl : Array (Option Value)} {f : Addr} {args : Args} {binds : List (Str × Value)}
/-- a def of the written part is entered; all that stood before stays -/
theorem enterK (hroom : A.depth < recursionLimit) (X : K.In s.heap) (hlim : s.heap.NoLimit)
    (ho : K.lookup f = some ⟨oc, od, .func (fnOf name qual params body scope dV kV doc pm an cdv ct), osl⟩) (hcd : codeIn K cdv qual = true)
    (hbind : BindsTo s (fnOf name qual params body scope dV kV doc pm an cdv ct) args binds) (hloc : ∀ y ∈ binds, scope.names.lookup y.1 = some .local)
    (h : ∀ h₁, h₁.Ns s.heap.objs.size (fun y => binds.reverse.lookup y) → s.heap.StaysIn h₁ →
      wpAny (model prog w) (A.deeper (envOf qual scope s.heap.objs.size f cdv)) (execs body (envOf qual scope s.heap.objs.size f cdv))
        (fun fl s' => R (.ok (.ret (match fl with | .ret v => v | _ => .none))) s')
        (fun e s' => wpAny (model prog w) (A.deeper (envOf qual scope s.heap.objs.size f cdv)) (leaving (envOf qual scope s.heap.objs.size f cdv) e) (fun _ s'' => R (.error e) s'') (fun e' s'' => R (.error e') s'') s')
        { s with heap := h₁, toks := s.toks + binds.length })
    (hco : scope.isCoroutine = false) (hgen : scope.isGenerator = false) (hk : scope.kind = .function)
    (hcell : ∀ x ∈ scope.names, x.2 ≠ .cell) : codeAny (model prog w) A (.call (.ref f) args) R s :=
  codeAny_call_def (fd := fnOf name qual params body scope dV kV doc pm an cdv ct) (body := body) (binds := binds) hroom (X _ _ ho) rfl hlim (codeRec_of X hcd) rfl hbind hcell hloc (fun h₁ hns hk₁ => h h₁ hns hk₁) hco hgen hk
end

/-- the ground of a callee: the caller's heap without the addresses S -/
theorem ground_fr {h h₁ : Heap} {m : Str → Option Value} {S : List Addr} (hns : h₁.Ns h.objs.size m) (hk : h.StaysIn h₁) : Fr (hideAll h S) h.objs.size h₁ m :=
  ⟨hns, fun b o e => hk b o (of_hideAll _ e), Nat.le_of_eq (hideAll_size _ _)⟩
theorem ground_one {h h₁ : Heap} {S : List Addr} {a : Addr} {o : Obj} (hk : h.StaysIn h₁) (ho : h.get? a = some o) (ha : a ∈ S) : h₁.get? a = some o ∧ a ≠ h.objs.size ∧ (hideAll h S).get? a = none :=
  ⟨hk _ _ ho, Nat.ne_of_lt (Heap.lt_size ho), hideAll_none _ ha⟩
theorem ground_stays {base h : Heap} {S : List Addr} (st : base.StaysIn h) (hn : ∀ a ∈ S, base.get? a = none) : base.StaysIn (hideAll h S) := fun b o e =>
  hideAll_get _ (st b o e) fun hb => by rw [hn b hb] at e; cases e
theorem ground_below {A : Around} {base h : Heap} {S : List Addr} {envs : List Env} (hA : A.frames = some envs) (st : base.StaysIn h) (ff : h.FunFrames base envs) (hn : ∀ a ∈ S, base.get? a = none) (hS : ∀ env ∈ envs, ∀ a ∈ S, env.frame ≠ some a) : Below A base envs (hideAll h S) :=
  ⟨hA, ground_stays st hn, funFrames_hideAll ff hS⟩

/-- the table of the nested def's code -/
def TabOk (base h : Heap) : Prop := h.get? 36 = some (tabObj #[]) ∨ ∃ c oc vs t, base.get? c = none ∧ h.get? 36 = some (tabObj #[rawInt 18, rawInt 4, .ref c]) ∧ h.get? c = some oc ∧ oc.data = .fields vs ∧ vs[1]? = some (.str "suffixed_err.<locals>.coord_repr" t)

structure Top0 (w : World) (loose : List Str) (mean : ExcName → Option Value) (mg mb : Str → Option Value) (base : Heap) : Prop where
  X : (Mine.hd.heap_39 w.params).In base
  T : Top topProg loose mean mg mb base
  C : CodeHd base 40 36
  n36 : base.get? 36 = none

structure Here (base : Heap) (envs : List Env) (A : Around) (h : Heap) : Prop where
  fr : A.frames = some envs
  st : base.StaysIn h
  ff : h.FunFrames base envs
  nf : ∀ env ∈ envs, env.frame ≠ some 36
end Mine
end
section
open PySem PySem.W PyProof.Rows
set_option Elab.async false
namespace Mine
abbrev excObj (t : Addr) : Obj := { cls := .ref 24, data := .fields #[.ref t, .none, .none, .none, .bool false, .none] }
section
variable {prog : Program} {w : World} {A : Around} {E : Value → Shared → Prop} {s : Shared} {K : Frag} {h₀ : Heap} {L : Addr} {m mg mb : Str → Option Value} {p : Program} {loose : List Str}
theorem call_toml {Q : Value → Shared → Prop} {vs : List Value} (F : Fr h₀ L s.heap m) (X : K.In h₀) (T : TopRead p loose mg mb h₀)
    (e : nsIn K mainGlobals "TOMLDecodeError" = some (some (.ref 24))) (q : excIn K 24 [.type "ValueError", .type "Exception", .type "BaseException", .type "object"] "ValueError.__new__" = true)
    (hlen : vs.length ≤ sizeLine)
    (h : ∀ e t h', (∀ b o, s.heap.get? b = some o → h'.get? b = some o) → s.heap.get? e = none → s.heap.get? t = none → h'.get? e = some (excObj t) → h'.TupAt t vs → Q (.ref e) { s with heap := h' }) :
    wpAny (model prog w) A (call (.ref 24) vs) Q E s := by
  refine hide fun P' hP' => ?_
  obtain ⟨tl, N, nm, q, bs, hdct, sn, sub, ab, col, dd, k0, k1, k2, k3, k5, mN, hC, hN, hni, TL⟩ := ((own_of_in X T e q).keeps F.keep).obj
  obtain ⟨hp, g, d, tk, os⟩ := s
  refine hP' ?_
  clear hP'
  refine wpAny_call_exc_subT (hrest := hlen) PySem.F.excBase_ValueError TL hC hN hni fun h' e hm => ?_
  refine hide fun P' hP' => ?_
  obtain ⟨t, he, htn, ht⟩ := hm.there
  refine hP' ?_
  clear hP'
  exact h e t h' hm.keeps hm.new htn he ⟨_, _, ht, rfl, rfl⟩
end
end Mine
end
section
open PySem PySem.W PyProof.Rows
set_option Elab.async false
namespace Mine
local macro_rules | `(tactic| omega) => `(tactic| lia)
def Hold (P : Prop) : Prop := P
theorem Hold.mk {P : Prop} (h : Hold P) : P := h
theorem Hold.of {P : Prop} (h : P) : Hold P := h
theorem len_at : (PySem.Str.ofString " (at ").length = 5 := by decide +kernel
theorem len_eod : (PySem.Str.ofString "end of document").length = 15 := by decide +kernel
theorem len_rp : (PySem.Str.ofString ")").length = 1 := by decide +kernel
theorem len_e : Str.empty.length = 0 := by decide +kernel
def sufMsg (msg : Str) : Str := Str.empty ++ msg ++ Str.ofString " (at " ++ Str.ofString "end of document" ++ Str.ofString ")"
theorem sufMsg_len (msg : Str) (h : msg.length ≤ 1000) : (sufMsg msg).length ≤ sizeLine := by
  unfold sufMsg
  simp only [Str.length_append, len_at, len_eod, len_rp, len_e, sizeLine_eq]; omega
section
local macro_rules | `(tactic| k_room) => `(tactic| ((try simp only [Around.deeper, Around.mark]); omega))
local macro_rules | `(tactic| walk_at "joinParts") => `(tactic| ((with_reducible show wpAny _ _ (joinParts _ (evalEach [] _)) _ _ _); (with_reducible refine joinParts_nilE ?_); (with_reducible refine joinParts_nil ?_ (by assumption))))
local macro_rules | `(tactic| walk_at "call ref") => `(tactic| ((with_reducible show wpAny _ _ (call (Value.ref 24) _) _ _ _); refine Hold.mk ?_))
set_option maxRecDepth 100000 in
set_option maxHeartbeats 1000000 in
theorem suffixed_spec {w : World} {loose : List Str} {mean : ExcName → Option Value} {mg mb : Str → Option Value} {base : Heap} {envs : List Env} {A : Around} {s : Shared} {Q E : Value → Shared → Prop} {x msg : Str} {n : Int} {t u v : Tok}
    (T0 : Top0 w loose mean mg mb base) (H : Here base envs A s.heap) (hroom : A.depth + 2 < recursionLimit) (hunits : A.units + 20 < cLine) (tab : TabOk base s.heap) (hx : x.length ≤ 1000) (hmsg : msg.length ≤ 1000) (hn : (x.length : Int) ≤ n)
    (ret : ∀ h' tk' e t u, (∀ b o, s.heap.get? b = some o → b ≠ 36 → h'.get? b = some o) → TabOk base h' → s.heap.get? e = none → s.heap.get? t = none → h'.get? e = some (excObj t) → h'.TupAt t [.str (sufMsg msg) u] →
      Q (.ref e) { s with heap := h', toks := tk' }) :
    wpAny (model prg w) A (call (.ref 41) [.str x t, .int n u, .str msg v]) Q E s := by
  refine hide fun P' hP' => ?_
  obtain ⟨ha, dp, fr, gd, un⟩ := A
  obtain rfl : fr = some envs := H.fr
  refine hP' ?_
  clear hP'
  dsimp only at hroom hunits
  have X : (Mine.hd.heap_39 w.params).In s.heap := T0.X.keeps H.st
  revert X
  unfold prg
  k_fill
  intro X
  have hz := sufMsg_len msg hmsg
  unfold sufMsg at ret hz
  have t36 : ∃ o, s.heap.get? 36 = some o := by
    rcases tab with t1 | ⟨c, oc, vs, tt, _, t1, _⟩
    · exact ⟨_, t1⟩
    · exact ⟨_, t1⟩
  refine wpAny_call ?_
  k_dflt (refine' enterK (K := Mine.hd.heap_39 w.params) ?k1 ?k2 ?k3 ?k4 ?k5 ?k6 ?k7 ?_ ?c1 ?c2 ?c3 ?c4; (case k1 => (show dp < _; omega)); (case k2 => exact X); (case k3 => exact T0.T.nolimit.keeps H.st); (case k4 => k_is); (case k5 => k_is); (case k6 => exact BindsTo.of_eq rfl); (case k7 => exact locs rfl); (case c1 => exact rfl); (case c2 => exact rfl); (case c3 => exact rfl); (case c4 => decide); k_whole)
  intro h₁ hns hk₁
  rcases tab with t1 | ⟨c, oc, vs, tt, hc, t1, t2, t3, t4⟩
  · have F := ground_fr (S := [36]) hns hk₁
    have N : News (hideAll s.heap [36]) s.heap.objs.size h₁ [(36, tabObj #[])] := fun p hp => by
      rcases List.mem_singleton.mp hp with rfl
      exact ground_one hk₁ t1 (.head _)
    have n36 : ∀ a ∈ [36], base.get? a = none := fun a ha => by rw [List.mem_singleton.mp ha]; exact T0.n36
    have B := ground_below (S := [36]) H.fr H.st H.ff n36 (fun env he a ha => by rw [List.mem_singleton.mp ha]; exact H.nf env he)
    have X' : (Mine.hd.heap_39 w.params).In (hideAll s.heap [36]) := T0.X.keeps B.stays
    have T' := T0.T.keeps B.stays
    have C' := T0.C.keeps B.stays
    have hg : ∀ b o, s.heap.get? b = some o → b ≠ 36 → (hideAll s.heap [36]).get? b = some o := fun b o e hb => hideAll_get _ e (by simpa using hb)
    generalize hideAll s.heap [36] = g at *
    generalize s.heap.objs.size = L at *
    w_strict (k_steps)
    refine Hold.of ?_
    rename Fr _ _ _ _ => kF
    rename News _ _ _ _ => kN
    refine call_toml kF X' (topRead_of T') (by k_is) (by k_exc) (by rw [sizeLine_eq]; exact Nat.le_of_ble_eq_true rfl) ?_
    intro e t h' kk1 kk2 kk3 kk4 kk5
    have keep : ∀ b o, s.heap.get? b = some o → b ≠ 36 → h'.get? b = some o := fun b o hb hne => kk1 _ _ (kF.keep _ _ (hg b o hb hne))
    have kT := kN (36, _) (by k_mem)
    have fresh : ∀ b, _ → s.heap.get? b = none := fun b (hb : Heap.get? _ b = none) => by
      cases hq : s.heap.get? b with
      | none => rfl
      | some o =>
        by_cases h36 : b = 36
        · rw [h36] at hb
          rw [kT.1] at hb; cases hb
        · rw [kF.keep _ _ (hg b o hq h36)] at hb; cases hb
    refine ret h' _ e t _ keep ?_ (fresh e kk2) (fresh t kk3) kk4 kk5
    have kC := kN _ (List.Mem.tail _ (List.Mem.head _))
    exact .inr ⟨_, _, _, _, kts_none B.stays kC.2.2, kk1 _ _ kT.1, kk1 _ _ kC.1, by assumption, by assumption⟩
  · have F := ground_fr (S := [36, c]) hns hk₁
    have N : News (hideAll s.heap [36, c]) s.heap.objs.size h₁ [(36, tabObj #[rawInt 18, rawInt 4, .ref c]), (c, oc)] := fun p hp => by
      rcases List.mem_cons.mp hp with rfl | hp
      · exact ground_one hk₁ t1 (.head _)
      rcases List.mem_singleton.mp hp with rfl
      exact ground_one hk₁ t2 (.tail _ (.head _))
    have n36 : ∀ a ∈ [36, c], base.get? a = none := fun a ha => by
      rcases List.mem_cons.mp ha with rfl | ha
      · exact T0.n36
      · rw [List.mem_singleton.mp ha]; exact hc
    have B := ground_below (S := [36, c]) H.fr H.st H.ff n36 (fun env he a ha => by
      rcases List.mem_cons.mp ha with rfl | ha
      · exact H.nf env he
      · rw [List.mem_singleton.mp ha]
        intro hq
        refine hide fun P' hP' => ?_
        obtain ⟨_, o, ho, hnf⟩ := H.ff.mem (List.mem_filterMap.mpr ⟨env, he, hq⟩)
        refine hP' ?_
        clear hP'
        rw [t2] at ho; cases ho
        exact hnf _ t3)
    have X' : (Mine.hd.heap_39 w.params).In (hideAll s.heap [36, c]) := T0.X.keeps B.stays
    have T' := T0.T.keeps B.stays
    have C' := T0.C.keeps B.stays
    have hg : ∀ b o, s.heap.get? b = some o → b ≠ 36 → b ≠ c → (hideAll s.heap [36, c]).get? b = some o := fun b o e hb hc => hideAll_get _ e (by simp [hb, hc])
    generalize hideAll s.heap [36, c] = g at *
    generalize s.heap.objs.size = L at *
    w_strict (k_steps)
    refine Hold.of ?_
    rename Fr _ _ _ _ => kF
    rename News _ _ _ _ => kN
    refine call_toml kF X' (topRead_of T') (by k_is) (by k_exc) (by rw [sizeLine_eq]; exact Nat.le_of_ble_eq_true rfl) ?_
    intro e t h' kk1 kk2 kk3 kk4 kk5
    have kT := kN (36, _) (by k_mem)
    have kC := kN (c, _) (by k_mem)
    have keep0 : ∀ b o, s.heap.get? b = some o → b ≠ 36 → Heap.get? _ b = some o := fun b o hb hne => by
      by_cases hbc : b = c
      · subst hbc
        rw [t2] at hb; cases hb
        exact kC.1
      · exact kF.keep _ _ (hg b o hb hne hbc)
    have fresh : ∀ b, _ → s.heap.get? b = none := fun b (hb : Heap.get? _ b = none) => by
      cases hq : s.heap.get? b with
      | none => rfl
      | some o =>
        by_cases h36 : b = 36
        · rw [h36] at hb
          rw [kT.1] at hb; cases hb
        · rw [keep0 b o hq h36] at hb; cases hb
    refine ret h' _ e t _ (fun b o hb hne => kk1 _ _ (keep0 b o hb hne)) ?_ (fresh e kk2) (fresh t kk3) kk4 kk5
    exact .inr ⟨_, _, _, _, hc, kk1 _ _ kT.1, kk1 _ _ kC.1, t3, t4⟩
end
end Mine
end
section
open PySem PySem.W PyProof.Rows
set_option Elab.async false
set_option maxRecDepth 100000
namespace Mine
theorem slot_fz_init : Slot "frozenset" "__init__" "object.__init__" :=
  .of (owner := "object") (n := "__init__") (by rw [typeLookup_type, builtinLookup_eq_fast]; kernel_rfl) (by decide +kernel) (by decide +kernel) (by decide +kernel)
    (by first | exact .inl (by decide +kernel) | exact .inr (by decide +kernel)) (by rw [isSubtype_type]; kernel_rfl)
theorem mro_fz : mroOf (.type "frozenset") = pure [.type "frozenset", .type "object"] := by rw [mroOf_type]; kernel_rfl
theorem lookup_fz_new : typeLookup (.type "frozenset") "__new__" = pure (some (.builtin "frozenset.__new__")) := by rw [typeLookup_type, builtinLookup_eq_fast]; kernel_rfl
theorem called_fz : TypeCalled "frozenset" "frozenset.__new__" "object.__init__" :=
  ⟨by decide +kernel, by decide +kernel, ⟨_, _, mro_fz⟩, madeBy_type mro_fz lookup_fz_new (by decide +kernel), by decide +kernel, by rw [isSubtype_type]; kernel_rfl, slot_fz_init⟩
theorem typeCall_fz_0 : checkTypeCall "frozenset" ⟨[], []⟩ = pure () := by kernel_rfl
theorem newCall_fz_0 : checkBuiltinCall "frozenset.__new__" ⟨[.type "frozenset"], []⟩ = pure () := by kernel_rfl
theorem entry_fz_new : entryFor table "frozenset.__new__" = some Builtin.«frozenset.__new__» := entryFor_of_tree (by kernel_rfl)
theorem sub_fz_self : isSubtype (.type "frozenset") (.type "frozenset") = pure true := by rw [isSubtype_type]; kernel_rfl
theorem init_fz_lookup : typeLookup (.type "frozenset") "__init__" = pure (some (.builtin "object.__init__")) := slot_fz_init.lookup
theorem madeHere_fz : Bind.madeHere "frozenset.__new__" (.type "frozenset") = pure () := by
  unfold Bind.madeHere
  have e : Bind.staticBase (.type "frozenset") = pure (.type "frozenset") := by first | rfl | kernel_rfl
  rw [e]
  simp only [pure_bind, called_fz.made]
  first | rfl | kernel_rfl | (simp; rfl)
abbrev fzObj (led : Bool) : Obj := { cls := .type "frozenset", dict := none, data := .set #[] 0 (.fresh 0 0 led) }
theorem meets_fz_new : Meets (Builtin.«frozenset.__new__» ⟨[.type "frozenset"], []⟩) (fun _ R s => ∀ led : Bool, R (.ok (.ret (.ref s.heap.objs.size))) { s with heap := s.heap.push (fzObj led) }) :=
  .of_wp fun prog w A R s h => by
    refine hide fun P' hP' => ?_
    obtain ⟨hp, g, d, tk, os⟩ := s
    refine hP' ?_
    clear hP'
    have hsub := sub_fz_self
    have hinit := init_fz_lookup
    have hmh := madeHere_fz
    unfold Builtin.«frozenset.__new__»
    dsimp only
    wp_walk
    refine wpAny_askSetting (wpAny_pure ?_)
    dsimp only
    simp only [newObj]
    refine wpAny_bind (wpAny_alloc (wpAny_pure ?_))
    exact wpAny_pure ⟨_, rfl, h _⟩
section
variable {prog : Program} {w : World} {A : Around} {E : Value → Shared → Prop} {s : Shared}
theorem call_fz {Q : Value → Shared → Prop} (h : ∀ led : Bool, Q (.ref s.heap.objs.size) { s with heap := s.heap.push (fzObj led) }) : wpAny (model prog w) A (call (.type "frozenset") []) Q E s :=
  callType_new called_fz (by decide) typeCall_fz_0 newCall_fz_0 (fun obj => F.args_object_init_1 obj) entry_fz_new meets_fz_new
    fun led => ⟨⟨_, Heap.get?_push_size _ rfl, rfl⟩, h led⟩
end
theorem plainAttrs_fz : PlainAttrs "frozenset" :=
  ⟨⟨"object.__getattribute__", by rw [typeLookup_type, builtinLookup_eq_fast]; kernel_rfl, by decide +kernel⟩, by rw [typeLookup_type, builtinLookup_eq_fast]; kernel_rfl⟩
theorem slot_fz_dis : Slot "frozenset" "isdisjoint" "frozenset.isdisjoint" :=
  .of (owner := "frozenset") (n := "isdisjoint") (by rw [typeLookup_type, builtinLookup_eq_fast]; kernel_rfl) (by decide +kernel) (by decide +kernel) (by decide +kernel)
    (by first | exact .inl (by decide +kernel) | exact .inr (by decide +kernel)) (by rw [isSubtype_type]; kernel_rfl)
theorem type_fz_dis : typeOf (.builtin "frozenset.isdisjoint") = pure (.type "method_descriptor") := by show builtinType _ = _; rw [builtinType_eq_fast]; kernel_rfl
theorem entry_fz_dis : entryFor table "frozenset.isdisjoint" = some Builtin.«frozenset.isdisjoint» := entryFor_of_tree (by kernel_rfl)
theorem entry_fz_loop : entryFor table "frozenset.isdisjoint.loop" = some Builtin.«frozenset.isdisjoint.loop» := entryFor_of_tree (by kernel_rfl)
theorem args_fz_dis (a b : Value) : argsOk "frozenset.isdisjoint" ⟨[a, b], []⟩ := by unfold argsOk; kernel_rfl
section
variable {prog : Program} {w : World} {A : Around} {E : Value → Shared → Prop} {s : Shared} {z : Addr} {led : Bool}
theorem getMethod_fz {pl : Sem Bool} {Q : Value × List Value → Shared → Prop} (hz : s.heap.get? z = some (fzObj led)) (h : Q (.builtin "frozenset.isdisjoint", [.ref z]) s) :
    wpAny (model prog w) A (getMethod (.ref z) "isdisjoint" pl) Q E s :=
  getMethod_builtin ⟨_, hz, rfl⟩ plainAttrs_fz slot_fz_dis type_fz_dis (fun a e => by cases e; exact ⟨_, hz, rfl⟩) h
theorem fz_contains {x : Str} {t : Tok} {Q : Bool → Shared → Prop} (hz : s.heap.get? z = some (fzObj led)) (h : Q false { s with toks := s.toks + 1 }) :
    wpAny (model prog w) A (setContains z (.str x t)) Q E s := by
  unfold setContains
  refine wpAny_holding (wpAny_bind (wpAny_pyHash_str ?_))
  unfold setFind setFindIn
  refine wpAny_bind (wpAny_bind ?_)
  unfold setState
  refine wpAny_bind (wpAny_load hz ?_)
  dsimp only
  rw [if_neg (by simp [SetTable.fresh, SetTable.fill])]
  refine wpAny_pure ?_
  dsimp only
  rw [if_pos (by simp [byScan, Value.scannable, scanBound])]
  refine wpAny_bind (wpAny_rule (wpAny_bind ?_))
  unfold setScan
  dsimp only
  rw [if_pos (by simp)]
  unfold setScanStrs
  rw [show Array.findIdx? (fun e : Int × Value => e.2.isStr x) #[] = none from by simp]
  exact wpAny_pure (wpAny_pure (wpAny_pure h))
theorem plain_fz_loop : plainId "frozenset.isdisjoint.loop" = true := by decide +kernel
theorem dis_loop {R : Result → Shared → Prop} {I : Addr} {n : Nat} {x : Str} {St : Nat → Heap → Prop} (W : Walks prog w A.in1 I [I] [I] n (SignAt x) St) (h0 : Heap) (hz0 : h0.get? z = some (fzObj led)) (hI0 : h0.get? I = none)
    (k : ∀ (s' : Shared) h' tk', s' = { s with heap := h', toks := tk' } → h0.StaysIn h' → R (.ok (.ret (.bool true))) s') :
    ∀ (m i : Nat) (h₁ : Heap) (tk : Nat), i + m = n → St i h₁ → h0.StaysIn h₁ → codeAny (model prog w) A (.builtin "frozenset.isdisjoint.loop" ⟨[.ref z, .ref I], []⟩) R { s with heap := h₁, toks := tk } := by
  have keepI : ∀ {h₁ h' : Heap}, h0.StaysIn h₁ → (∀ b o, b ∉ [I] → h₁.get? b = some o → h'.get? b = some o) → h0.StaysIn h' := fun st hk b o e => hk b o (fun hb => by rw [List.mem_singleton.mp hb, hI0] at e; cases e) (st b o e)
  intro m
  induction m with
  | zero =>
    intro i h₁ tk hi hst st
    refine codeAny_builtin entry_fz_loop ?_
    rw [Around.under_plainId plain_fz_loop _]
    unfold Builtin.«frozenset.isdisjoint.loop»
    dsimp only
    obtain rfl : i = n := by omega
    refine wpAny_bind (W.done _ _ _ hst fun h' tk' hk => ?_)
    exact wpAny_pure (k _ h' tk' rfl (keepI st hk))
  | succ m ih =>
    intro i h₁ tk hi hst st
    refine codeAny_builtin entry_fz_loop ?_
    rw [Around.under_plainId plain_fz_loop _]
    unfold Builtin.«frozenset.isdisjoint.loop»
    dsimp only
    refine wpAny_bind (W.item i _ _ _ (by omega) hst fun v h' tk' hv hst' hk => ?_)
    refine hide fun P' hP' => ?_
    obtain ⟨c, u, hc, rfl⟩ := hv
    refine hP' ?_
    clear hP'
    dsimp only
    refine wpAny_bind (wpAny_holding (fz_contains (s := { s with heap := h', toks := tk' }) (led := led) (keepI st hk _ _ hz0) ?_))
    rw [if_neg (by decide)]
    exact wpAny_pure ⟨plainId_quiet plain_fz_loop _, ih (i + 1) h' _ (by omega) hst' (keepI st hk)⟩
/-- an empty frozenset is disjoint from a text -/
theorem call_dis {y : Str} {u : Tok} {Q : Value → Shared → Prop} (hh : A.handled = none) (hz : s.heap.get? z = some (fzObj led)) (h : ∀ h' tk', s.heap.StaysIn h' → Q (.bool true) { s with heap := h', toks := tk' }) :
    wpAny (model prog w) A (call (.builtin "frozenset.isdisjoint") [.ref z, .str y u]) Q E s := by
  refine wpAny_call (codeAny_call_builtin slot_fz_dis.plain entry_fz_dis (slot_fz_dis.check _ _ _ _ _ _ _ _ ⟨_, hz, rfl⟩ (args_fz_dis _ _) ?_))
  unfold Builtin.«frozenset.isdisjoint» Builtin.Frozenset.oneOther
  simp only [List.isEmpty_nil, bind_assoc]
  unfold Builtin.Frozenset.addrOf
  refine wpAny_bind (wpAny_pure ?_)
  try dsimp only
  refine wpAny_bind (wpAny_pure ?_)
  try dsimp only
  rw [if_neg (by simp)]
  refine wpAny_bind (m := typeOf (.str y u)) (wpAny_of_eq (a := .type "str") rfl ?_)
  rw [if_neg (by decide)]
  refine wpAny_bind (wpAny_pyIter_str fun o St W hst => ?_)
  refine wpAny_pure ⟨plainId_quiet plain_fz_loop _, ?_⟩
  exact dis_loop (s := s) (led := led) (W _ hh) s.heap hz (Heap.get?_none_of_le (Nat.le_refl _)) (fun s' h' tk' e st => by subst e; exact h h' tk' st)
    y.cps.size 0 _ s.toks (by omega) hst (fun b o e => Heap.get?_push_of_some _ e)
end
end Mine
end
section
open PySem PySem.W PyProof.Rows
set_option Elab.async false
namespace Mine
abbrev excObj2 (t hx : Addr) : Obj := { cls := .ref 24, data := .fields #[.ref t, .none, .ref hx, .none, .bool true, .none] }
section
variable {prog : Program} {w : World} {A : Around} {E : Value → Shared → Prop} {s : Shared} {K : Frag} {h₀ : Heap} {mg mb : Str → Option Value} {p : Program} {loose : List Str} {env : Env}
theorem raise_toml_from {Q : Flow → Shared → Prop} {xe : Expr} {k : Nat} {cp pos : Pos} {hx : Addr} (X : K.In h₀) (T : TopRead p loose mg mb h₀)
    (e : nsIn K mainGlobals "TOMLDecodeError" = some (some (.ref 24))) (q : excIn K 24 [.type "ValueError", .type "Exception", .type "BaseException", .type "object"] "ValueError.__new__" = true)
    (hh : A.handled = some (.ref hx))
    (h : wpAny (model prog w) A (eval xe env) (fun v s₁ => ∃ e t oh ws, h₀.StaysIn s₁.heap ∧ v = .ref e ∧ hx ≠ e ∧ s₁.heap.get? hx = some oh ∧ oh.data = .fields ws ∧ ws[2]? = some .none ∧
      s₁.heap.get? e = some (excObj t) ∧ ∀ h', h'.get? e = some (excObj2 t hx) → Heap.SameBut e s₁.heap h' → E (.ref e) { s₁ with heap := h' }) E s) :
    wpAny (model prog w) A (exec (.Raise (some xe) (some (.Constant .none k cp)) pos) env) Q E s := by
  refine hide fun P' hP' => ?_
  obtain ⟨tl, N, nm, q, bs, hdct, sn, sub, ab, col, dd, k0, k1, k2, k3, k5, mN, hC, hN, hni, TL⟩ := (own_of_in X T e q).obj
  refine hP' ?_
  clear hP'
  rw [arm_exec_Raise]
  refine wpAny_bind (wpAny_standAt ?_)
  simp only [evalOpt, Option.map]
  refine raiseStmt_from (C := 24) (nm := nm) (q := q) (N := N) (bs := bs) (bm := tl) (hdct := hdct) (sn := sn) (sub := sub) (ab := ab) (col := col) (dd := dd) (k0 := k0) (k1 := k1) (k2 := k2) (k3 := k3) (k5 := k5) (newId := "ValueError.__new__")
    (TL.hasType rfl) hh (fun s Q E hq => ?_) (wpAny_bind (wpAny_mono h (fun v s₁ h₁ => wpAny_bind (wpAny_standAt (wpAny_pure ?_))) fun _ _ x => x))
  · show wpAny _ _ (do let v ← (pure Value.none : Sem Value); standAt pos; pure v) _ _ _
    exact wpAny_bind (wpAny_pure (wpAny_bind (wpAny_standAt (wpAny_pure hq))))
  · refine hide fun P' hP' => ?_
    obtain ⟨e, t, oh, ws, st, rfl, hne, ho, hd, h2, he, hE⟩ := h₁
    refine hP' ?_
    clear hP'
    exact ⟨e, t, oh, ws, rfl, hne, ho, hd, h2, st _ _ hC, he, hE⟩
end
theorem TabOk.keeps {base h h' : Heap} (x : TabOk base h) (h36 : ∀ o, h.get? 36 = some o → h'.get? 36 = some o) (k : ∀ b o vs q t, h.get? b = some o → o.data = .fields vs → vs[1]? = some (.str q t) → b ≠ 36 → h'.get? b = some o) : TabOk base h' := by
  rcases x with t1 | ⟨c, oc, vs, t, n, t1, t2, t3, t4⟩
  · exact .inl (h36 _ t1)
  · refine .inr ⟨c, oc, vs, t, n, h36 _ t1, k c oc vs _ t t2 t3 t4 (fun q => ?_), t3, t4⟩
    subst q
    rw [t1] at t2
    cases t2
    cases t3
    simp [rawInt] at t4
end Mine
end
section
open PySem PySem.W PyProof.Rows
set_option Elab.async false
namespace Mine
structure SkipRaised (base : Heap) (envs : List Env) (h h' : Heap) (e t : Addr) (msg : Str) : Prop where
  up : h.UpToSlots h'
  fly : ∃ B, base.StaysIn B ∧ (∀ b o, h.get? b = some o → b ∉ envs.filterMap (·.frame) → b ≠ 36 → B.get? b = some o) ∧ TabOk base B ∧ Heap.FlyingW B envs e (.ref 24) (.ref t) h' ∧ B.get? t = none
  tup : ∃ u, h'.TupAt t [.str msg u]
  eN : h.get? e = none
  tN : h.get? t = none
theorem leave_toml {M : Model} {A : Around} {E : Value → Shared → Prop} {s : Shared} {Q : Unit → Shared → Prop} {base h : Heap} {env : Env} {envs : List Env} {L e t hx : Addr} {msg : Str} {u : Tok}
    (hfr : A.frames = some (env :: envs)) (hf : env.frame = some L) (ff : s.heap.FunFrames base (env :: envs)) (st : base.StaysIn s.heap) (he : s.heap.get? e = some (excObj2 t hx)) (htup : s.heap.TupAt t [.str msg u])
    (tab : TabOk base s.heap) (keep : ∀ b o, h.get? b = some o → b ∉ envs.filterMap (·.frame) → b ≠ 36 → s.heap.get? b = some o) (keepF : h.UpToSlots s.heap)
    (eN : h.get? e = none) (tN : h.get? t = none) (LN : h.get? L = none) (eB : base.get? e = none) (tB : base.get? t = none) (nf : ∀ b ∈ (env :: envs).filterMap (·.frame), b ≠ 36)
    (hQ : ∀ h', SkipRaised base envs h h' e t msg → Q () { s with heap := h' }) : wpAny M A (leaving env (.ref e)) Q E s := by
  have hmem : ∀ b, b ∈ e :: t :: (env :: envs).filterMap (·.frame) → b = e ∨ b = t ∨ b = L ∨ b ∈ envs.filterMap (·.frame) := fun b hb => by
    rcases List.mem_cons.mp hb with q | hb
    · exact .inl q
    rcases List.mem_cons.mp hb with q | hb
    · exact .inr (.inl q)
    refine hide fun P' hP' => ?_
    obtain ⟨env', he', hf'⟩ := List.mem_filterMap.mp hb
    refine hP' ?_
    clear hP'
    rcases List.mem_cons.mp he' with rfl | he'
    · rw [hf] at hf'
      exact .inr (.inr (.inl (Option.some.inj hf').symm))
    · exact .inr (.inr (.inr (List.mem_filterMap.mpr ⟨env', he', hf'⟩)))
  refine hide fun P' hP' => ?_
  obtain ⟨ot, nt, hot, hotc, hotd⟩ := id htup
  refine hP' ?_
  clear hP'
  have hB : ∀ b o, s.heap.get? b = some o → b ≠ e → b ≠ t → b ∉ (env :: envs).filterMap (·.frame) → (hideAll s.heap (e :: t :: (env :: envs).filterMap (·.frame))).get? b = some o :=
    fun b o q n1 n2 n3 => hideAll_get _ q fun hb => by
      rcases List.mem_cons.mp hb with z | hb
      · exact n1 z
      rcases List.mem_cons.mp hb with z | hb
      · exact n2 z
      · exact n3 hb
  have stB : base.StaysIn (hideAll s.heap (e :: t :: (env :: envs).filterMap (·.frame))) := fun b o q =>
    hB b o (st b o q) (fun z => by rw [z, eB] at q; cases q) (fun z => by rw [z, tB] at q; cases q) (fun hm => by rw [(ff.mem hm).1] at q; cases q)
  refine wpAny_leaving_firstW (base := hideAll s.heap (e :: t :: (env :: envs).filterMap (·.frame))) (a0 := .ref t) hfr
    (funFrames_hide ff fun env' he' a ha => List.mem_cons_of_mem _ (List.mem_cons_of_mem _ (List.mem_filterMap.mpr ⟨env', he', ha⟩))) hf he (fun b o q => of_hideAll _ q)
    (hideAll_none _ (.head _)) rfl (by simp) (by simp) fun h' hL => hQ h' ?_
  refine hide fun P' hP' => ?_
  obtain ⟨k1, ⟨_, _, k2⟩, k3, k4⟩ := hL
  refine hP' ?_
  clear hP'
  refine ⟨keepF.trans k4, ⟨_, stB, fun b o q n1 n36 => ?_, ?_, ⟨k1, hideAll_none _ (.head _), k2, k3⟩, hideAll_none _ (.tail _ (.head _))⟩, ⟨u, htup.of_slots k4⟩, eN, tN⟩
  · refine hideAll_get _ (keep b o q n1 n36) fun hb => ?_
    rcases hmem b hb with z | z | z | z
    · rw [z, eN] at q; cases q
    · rw [z, tN] at q; cases q
    · rw [z, LN] at q; cases q
    · exact n1 z
  · refine tab.keeps (fun o q => ?_) fun b o vs qn qt q hd hs n36 => ?_
    · refine hB 36 o q ?_ ?_ fun hm => nf _ hm rfl
      · rintro rfl
        rcases tab with t1 | ⟨_, _, _, _, _, t1, _⟩ <;> rw [he] at t1 <;> cases t1
      · rintro rfl
        rcases tab with t1 | ⟨_, _, _, _, _, t1, _⟩ <;> rw [hot] at t1 <;> cases t1 <;> cases hotd
    · refine hB b o q ?_ ?_ fun hm => ?_
      · rintro rfl
        rw [he] at q; cases q; cases hd; simp at hs
      · rintro rfl
        rw [hot] at q; cases q; rw [hotd] at hd; cases hd
      · refine hide fun P' hP' => ?_
        obtain ⟨_, o', ho', hn⟩ := ff.mem hm
        refine hP' ?_
        clear hP'
        rw [q] at ho'; cases ho'
        exact hn _ hd
end Mine
end
section
open PySem PySem.W PyProof.Rows
set_option Elab.async false
set_option maxRecDepth 100000
namespace Mine
open PySem.Builtin PySem.Builtin.Str
theorem lk_ve_str : typeLookup (.type "ValueError") "__str__" = pure (some (.builtin "BaseException.__str__")) := by rw [typeLookup_type, builtinLookup_eq_fast]; kernel_rfl
section
variable {prog : Program} {w : World} {A : Around} {E : Value → Shared → Prop} {h : Heap} {g : Array GenState} {d : Drawn} {tk : Nat} {os : OsState} {e t0 : Addr} {oe : Obj} {vs : Array Value}
  {nm q : Str} {C N : Addr} {bs bm : List Value} {hdct : Bool} {sn : List Str} {sub : List Value} {ab : Bool} {col : Option Bool} {dd : Option Addr} {k0 k1 k2 k3 k5 : Option Value} {newId : String} {mN : Str → Option Value}
theorem strOf_own (hC : h.get? C = some (excClassObj nm q C N bs bm hdct sn sub ab col dd k0 k1 k2 k3 k5 newId)) (hN : h.Ns N mN) (hns : mN "__str__" = none) (hbm : mroOf (.type "ValueError") = pure bm) (hbB : bm.contains (.type "BaseException") = true)
    (he : h.get? e = some oe) (hc : oe.cls = .ref C) (hd : oe.data = .fields vs) (h0 : vs[0]? = some (.ref t0)) {m : Str} {u : Tok} (ht : h.TupAt t0 [.str m u]) (hu : A.units < cLine) {Q : Value → Shared → Prop}
    (hq : Q (.str m u) ⟨h, g, d, tk, os⟩) : wpAny (model prog w) A (PySem.Builtin.Str.strOf (.ref e)) Q E ⟨h, g, d, tk, os⟩ := by
  have hcB : (Value.ref C :: bm).contains (.type "BaseException") = true := by rw [List.contains_cons, hbB, Bool.or_true]
  unfold PySem.Builtin.Str.strOf
  repeat (first | with_reducible refine wpAny_cRoomFor hu ?_ | (with_reducible refine wpAny_loadPart_at he ?_; rw [hc]) | (with_reducible refine wpAny_typeLookup_exc hC hN hbm lk_ve_str ?_; rw [hns]) | (with_reducible refine wpAny_isSubtype_exc hC ?_; rw [hcB]) | wp_step)
  refine wpAny_of_eq (PySem.F.excStr_ValueError.str.bind (.ref e)) ?_
  dsimp only
  refine wpAny_bind (wpAny_call (codeAny_call_builtin PySem.F.excStr_ValueError.str.plain PySem.F.entry_bexc_str ?_))
  have hk : builtinKind "BaseException.__str__" = some .slot := by decide +kernel
  have hsplit : splitId "BaseException.__str__" = some ("BaseException", "__str__") := by decide +kernel
  have ha := PySem.F.args_bexc_str (.ref e)
  simp only [checkBuiltinCall, hk, hsplit]
  refine wpAny_bind ?_
  unfold isInstance
  repeat (first | (with_reducible refine wpAny_loadPart_at he ?_; rw [hc]) | (with_reducible refine wpAny_isSubtype_exc hC ?_; rw [hcB]) | wp_step)
  rw [hd]
  refine wpAny_pure ?_
  rw [h0]
  refine wpAny_pure ?_
  refine hide fun P' hP' => ?_
  obtain ⟨ot, k, hto, _, htd⟩ := ht
  refine hP' ?_
  clear hP'
  refine wpAny_bind (wpAny_seqItems hto htd ?_)
  repeat wp_step
  exact hq
theorem meets_dummy : True := trivial
/-- str() of an object of the own exception class -/
theorem str_own (hC : h.get? C = some (excClassObj nm q C N bs bm hdct sn sub ab col dd k0 k1 k2 k3 k5 newId)) (hN : h.Ns N mN) (hns : mN "__str__" = none) (hbm : mroOf (.type "ValueError") = pure bm) (hbB : bm.contains (.type "BaseException") = true)
    (he : h.get? e = some oe) (hc : oe.cls = .ref C) (hd : oe.data = .fields vs) (h0 : vs[0]? = some (.ref t0)) {m : Str} {u : Tok} (ht : h.TupAt t0 [.str m u]) (hu : A.units + 2 < cLine) {Q : Value → Shared → Prop}
    (hq : Q (.str m u) ⟨h, g, d, tk, os⟩) : wpAny (model prog w) A (call (.type "str") [.ref e]) Q E ⟨h, g, d, tk, os⟩ :=
  callType_new F.called_str (by decide) (F.typeCall_str_1 _) (F.newCall_str_1 _) (fun obj => F.args_object_init_2 obj _) F.entry_str_new
    (meets_str_new (S := fun A' R s' => A'.units + 1 < cLine ∧ s' = ⟨h, g, d, tk, os⟩ ∧ R (.ok (.ret (.str m u))) s')
      fun _ _ A' _ _ hq => by
        refine hide fun P' hP' => ?_
        obtain ⟨h1, rfl, h2⟩ := hq
        refine hP' ?_
        clear hP'
        exact strOf_own (A := A'.in1) hC hN hns hbm hbB he hc hd h0 ht h1 h2)
    ⟨(show A.units + 1 + 1 < cLine from hu), rfl, typeIs_str _ _ _, hq⟩
end
end Mine
end
section
open PySem PySem.W PyProof.Rows
set_option Elab.async false
namespace Mine
local macro_rules | `(tactic| omega) => `(tactic| lia)
section
variable {prog : Program} {w : World} {A : Around} {E : Value → Shared → Prop} {s : Shared} {z L : Addr} {led : Bool} {g : Heap} {m : Str → Option Value} {news : List (Addr × Obj)}
theorem getMethod_fzN {pl : Sem Bool} {Q : Value × List Value → Shared → Prop} (F : Fr g L s.heap m) (hz : g.get? z = some (fzObj led)) (h : Q (.builtin "frozenset.isdisjoint", [.ref z]) s) :
    wpAny (model prog w) A (getMethod (.ref z) "isdisjoint" pl) Q E s := getMethod_fz (F.keep _ _ hz) h
theorem call_disN {y : Str} {u : Tok} {Q : Value → Shared → Prop} (hh : A.handled = none) (F : Fr g L s.heap m) (N : News g L s.heap news) (hz : g.get? z = some (fzObj led))
    (h : ∀ h' tk', Fr g L h' m → News g L h' news → Q (.bool true) { s with heap := h', toks := tk' }) :
    wpAny (model prog w) A (call (.builtin "frozenset.isdisjoint") [.ref z, .str y u]) Q E s :=
  call_dis hh (F.keep _ _ hz) fun h' tk' st => h h' tk' (F.kept st) (fun p hp => ⟨st _ _ (N p hp).1, (N p hp).2⟩)
end
theorem len_expected : (PySem.Str.ofString "Expected ").length = 9 := by decide +kernel
section
local macro_rules | `(tactic| walk_at $k:str) => if ["noteFrame ref", "exec Raise some some"].contains k.getString then `(tactic| (refine Hold.mk ?_)) else Lean.Macro.throwUnsupported
local macro_rules | `(tactic| k_room) => `(tactic| ((try simp only [Around.deeper, Around.mark]); omega))
local macro_rules | `(tactic| walk_at "call builtin:str.index") => `(tactic| (refine index3_or (by rfl) ?_ ?_; all_goals intros))
local macro_rules | `(tactic| walk_at "call ref") => `(tactic| ((with_reducible show wpAny _ _ (call (Value.ref 41) _) _ _ _); refine Hold.mk ?_))
local macro_rules | `(tactic| walk_at "pyReprObj") => `(tactic| (refine pyReprObj_str ?_ (by assumption)))
local macro_rules | `(tactic| walk_at "joinParts") => `(tactic| ((with_reducible show wpAny _ _ (joinParts _ (evalEach [] _)) _ _ _); (with_reducible refine joinParts_nilE ?_); (with_reducible refine joinParts_nil ?_ (by assumption))))
local macro_rules | `(tactic| walk_at "getMethod ref") => `(tactic| (refine getMethod_fzN (by assumption) (by assumption) ?_))
local macro_rules | `(tactic| walk_at "call builtin:frozenset.isdisjoint") => `(tactic| (refine call_disN (by rfl) (by assumption) (by assumption) (by assumption) ?_; intro h' tk' F' N'; (try k_sweep)))
set_option maxRecDepth 100000 in
set_option maxHeartbeats 1000000 in
theorem skip_spec {w : World} {loose : List Str} {mean : ExcName → Option Value} {mg mb : Str → Option Value} {base : Heap} {envs : List Env} {A : Around} {s : Shared} {Q E : Value → Shared → Prop} {x c : Str} {i : Int} {t u v : Tok} {z : Addr} {led : Bool}
    (T0 : Top0 w loose mean mg mb base) (H : Here base envs A s.heap) (hh : A.handled = none) (hroom : A.depth + 5 < recursionLimit) (hunits : A.units + 40 < cLine) (tab : TabOk base s.heap) (hz : s.heap.get? z = some (fzObj led))
    (hc : (reprText c).length ≤ 100) (hx : x.length ≤ 500) (hi0 : 0 ≤ i) (hi1 : i ≤ x.length)
    (ok : 0 ≤ Txt.find3 x c i → ∀ h' tk' t', s.heap.StaysIn h' → Q (.int (Txt.find3 x c i) t') { s with heap := h', toks := tk' })
    (no : Txt.find3 x c i = -1 → ∀ h' tk' e t, SkipRaised base envs s.heap h' e t (sufMsg (Str.empty ++ Str.ofString "Expected " ++ reprText c)) → E (.ref e) { s with heap := h', toks := tk' }) :
    wpAny (model prg w) A (call (.ref 34) [.str x t, .int i u, .str c v] [("error_on", .ref z), ("error_on_eof", .bool true)]) Q E s := by
  refine hide fun P' hP' => ?_
  obtain ⟨ha, dp, fr, gd, un⟩ := A
  obtain rfl : fr = some envs := H.fr
  obtain rfl : ha = none := hh
  refine hP' ?_
  clear hP'
  dsimp only at hroom hunits
  have X : (Mine.hd.heap_39 w.params).In s.heap := T0.X.keeps H.st
  revert X
  unfold prg
  k_fill
  intro X
  refine hide fun P' hP' => ?_
  obtain ⟨o36, t36, t36d⟩ : ∃ o, s.heap.get? 36 = some o ∧ ∃ vs, o.data = .fields vs := by
    rcases tab with t1 | ⟨c, oc, vs, tt, _, t1, _⟩
    · exact ⟨_, t1, _, rfl⟩
    · exact ⟨_, t1, _, rfl⟩
  refine hP' ?_
  clear hP'
  have hc1 : (reprText c).length ≤ sizeLine := by rw [sizeLine_eq]; omega
  have hc2 : (Str.empty ++ Str.ofString "Expected " ++ reprText c).length ≤ sizeLine := by
    simp only [Str.length_append, len_e, len_expected, sizeLine_eq]; omega
  refine wpAny_call ?_
  k_dflt (refine' enterK (K := Mine.hd.heap_39 w.params) ?k1 ?k2 ?k3 ?k4 ?k5 ?k6 ?k7 ?_ ?c1 ?c2 ?c3 ?c4; (case k1 => (show dp < _; omega)); (case k2 => exact X); (case k3 => exact T0.T.nolimit.keeps H.st); (case k4 => k_is); (case k5 => k_is); (case k6 => exact BindsTo.of_eq rfl); (case k7 => exact locs rfl); (case c1 => exact rfl); (case c2 => exact rfl); (case c3 => exact rfl); (case c4 => decide); k_whole)
  intro h₁ hns hk₁
  have F := ground_fr (S := [36]) hns hk₁
  have N : News (hideAll s.heap [36]) s.heap.objs.size h₁ [(36, o36)] := fun p hp => by
    rcases List.mem_singleton.mp hp with rfl
    exact ground_one hk₁ t36 (.head _)
  have n36 : ∀ a ∈ [36], base.get? a = none := fun a ha => by rw [List.mem_singleton.mp ha]; exact T0.n36
  have B := ground_below (S := [36]) H.fr H.st H.ff n36 (fun env he a ha => by rw [List.mem_singleton.mp ha]; exact H.nf env he)
  have X' : (Mine.hd.heap_39 w.params).In (hideAll s.heap [36]) := T0.X.keeps B.stays
  have T' := T0.T.keeps B.stays
  have C' := T0.C.keeps B.stays
  have hg : ∀ b o, s.heap.get? b = some o → b ≠ 36 → (hideAll s.heap [36]).get? b = some o := fun b o e hb => hideAll_get _ e (by simpa using hb)
  have hLf : ∀ b o, s.heap.get? b = some o → b < s.heap.objs.size := fun b o e => Heap.lt_size e
  have hzg := hg z _ hz (fun q => by rw [q, t36] at hz; cases hz; obtain ⟨_, q⟩ := t36d; cases q)
  generalize hideAll s.heap [36] = g at *
  generalize s.heap.objs.size = L at *
  w_strict (k_steps)
  · refine Hold.of ?_
    rename Heap.NewExc _ _ _ _ => hx1
    refine catch_new (KF := Mine.hd.heap_39 w.params) (T' := "ValueError") B F N hx1 T0.X T0.T (by k_is) (by decide +kernel) (by decide) (isSubtype_of_subB (by decide +kernel)) (isSubtype_of_subB (by decide +kernel)) (isSubtype_of_subB (by decide +kernel)) ?_
    intro h' g' oe ws T1 F1 N1 d1 d2 B1 X1 P1
    clear F N B X' T' C'
    w_strict (k_steps)
    refine Hold.of ?_
    rename Fr _ _ _ _ => F2
    rename News _ _ _ _ => N2
    refine raise_toml_from X1 (topRead_of P1) (by k_is) (by k_exc) rfl ?_
    w_strict (k_steps)
    refine Hold.of ?_
    have kE := N2 _ (List.Mem.head _)
    have k36 := N2 _ (List.Mem.tail _ (List.Mem.head _))
    have L36 : 36 < L := hLf _ _ t36
    -- what stood before the call stands, the frames but for their slots
    have keepF : ∀ b o, s.heap.get? b = some o → b ≠ 36 → ∃ sl, Heap.get? _ b = some { o with slots := sl } := fun b o q n36 => by
      obtain ⟨sl, hs⟩ := T1.up (hg b o q n36)
      exact ⟨sl, F2.keep _ _ hs⟩
    have keepO : ∀ b o, s.heap.get? b = some o → b ∉ envs.filterMap (·.frame) → b ≠ 36 → Heap.get? _ b = some o := fun b o q nm n36 => F2.keep _ _ (T1.other b o (hg b o q n36) nm)
    have nfL : ∀ env₀ : Env, env₀.frame = some L → ∀ env ∈ env₀ :: envs, env.frame ≠ some 36 := fun env₀ h₀ env he q => by
      rcases List.mem_cons.mp he with rfl | he
      · rw [h₀] at q; cases q; exact absurd L36 (Nat.lt_irrefl _)
      · exact H.nf env he q
    have tabc : TabOk base _ := tab.keeps (fun o q => by rw [t36] at q; cases q; exact k36.1) (fun b o vs _ _ q hd _ n36 => keepO b o q (fun hm => by
      refine hide fun P' hP' => ?_
      obtain ⟨_, o', ho', hn⟩ := H.ff.mem hm
      refine hP' ?_
      clear hP'
      rw [q] at ho'; cases ho'
      exact hn _ hd) n36)
    refine suffixed_spec T0 ⟨rfl, fun b o q => F2.keep _ _ (B1.stays b o q), ?ff, nfL _ rfl⟩ ?_ ?_ tabc (by omega) ?_ (Int.le_refl _) ?_
    case ff => exact Below.frames (Below.push B1 F2 rfl)
    · show dp + 1 + 2 < _; omega
    · show un + 3 + 20 < _; omega
    · simp only [Str.length_append, len_e, len_expected]; omega
    intro h3 tk3 e3 t3 u3 kk tab3 e3n t3n he3 ht3
    refine ⟨e3, t3, oe, ws, fun b o q => kk b o (F2.keep b o q) (fun z => by rw [z] at q; have := k36.2.2; rw [q] at this; cases this), rfl, ?_, kk _ _ kE.1 ?_, d1, d2, he3, fun h4 he4 sb => ?_⟩
    · rintro rfl; rw [kE.1] at e3n; cases e3n
    · intro z
      have := hx1.new
      rw [z] at this
      have h36 := hk₁ _ _ t36
      rw [show Heap.get? h₁ 36 = none from this] at h36
      cases h36
    have ne3 : ∀ {b : Addr} {o : Obj}, Heap.get? _ b = some o → b ≠ e3 := fun q z => by rw [z, e3n] at q; cases q
    have keep34 : ∀ b o, Heap.get? _ b = some o → b ≠ 36 → h4.get? b = some o := fun b o q n => (sb.2 b (ne3 q)).trans (kk b o q n)
    have fresh : ∀ b, _ → s.heap.get? b = none := fun b (hb : Heap.get? _ b = none) => by
      cases hq : s.heap.get? b with
      | none => rfl
      | some o =>
        by_cases h36 : b = 36
        · rw [h36, k36.1] at hb; cases hb
        · obtain ⟨sl, hs⟩ := keepF b o hq h36
          rw [hs] at hb; cases hb
    have nb36 : ∀ {b : Addr} {o : Obj}, s.heap.get? b = some o → (∀ vs, o.data ≠ .fields vs) → b ≠ 36 := fun q hn z => by
      rw [z, t36] at q; cases q
      obtain ⟨vs, hv⟩ := t36d
      exact hn vs hv
    refine leave_toml (h := s.heap) (L := L) (base := base) (u := u3) (msg := sufMsg (Str.empty ++ Str.ofString "Expected " ++ reprText c)) rfl rfl ?ff2 ?_ he4 ?_ ?_ ?_ ?_ ?_ ?_ ?_ ?_ ?_ ?_ ?_
    case ff2 =>
      refine Heap.FunFrames.of_keeps (fun b o q hn => ⟨o, keep34 b o q (fun z => ?_), rfl⟩) (Below.frames (Below.push B1 F2 rfl))
      rw [z, k36.1] at q; cases q
      obtain ⟨vs, hv⟩ := t36d
      exact hn vs hv
    · exact fun b o q => keep34 b o (F2.keep _ _ (B1.stays b o q)) (fun z => by rw [z, T0.n36] at q; cases q)
    · refine hide fun P' hP' => ?_
      obtain ⟨ot, nt, hot, hc1, hd1⟩ := ht3
      refine hP' ?_
      clear hP'
      refine ⟨ot, nt, (sb.2 t3 (fun z => ?_)).trans hot, hc1, hd1⟩
      rw [z, he3] at hot; cases hot; cases hd1
    · refine tab3.keeps (fun o q => (sb.2 36 (fun z => ?_)).trans q) (fun b o vs qn qt q hd hs n36 => (sb.2 b (fun z => ?_)).trans q)
      · rw [z, he3] at q; cases q
        rcases tab3 with t1 | ⟨_, _, _, _, _, t1, _⟩ <;> rw [z, he3] at t1 <;> cases t1
      · rw [z, he3] at q; cases q; cases hd; simp at hs
    · exact fun b o q nm n36 => keep34 b o (keepO b o q nm n36) n36
    · intro b o q hn
      have n36 := nb36 q hn
      obtain ⟨sl, hs⟩ := keepF b o q n36
      exact ⟨sl, keep34 b _ hs n36⟩
    · exact fresh _ e3n
    · exact fresh _ t3n
    · cases hq : s.heap.get? L with
      | none => rfl
      | some o => exact absurd (hLf _ _ hq) (Nat.lt_irrefl _)
    · exact kts_none (fun b o q => F2.keep _ _ (B1.stays b o q)) e3n
    · exact kts_none (fun b o q => F2.keep _ _ (B1.stays b o q)) t3n
    · intro b hb z
      refine hide fun P' hP' => ?_
      obtain ⟨env', he', hf'⟩ := List.mem_filterMap.mp hb
      refine hP' ?_
      clear hP'
      exact nfL _ rfl env' he' (z ▸ hf')
    · intro h5 SR
      exact no (by assumption) _ _ _ _ SR
  · exact ok (by assumption) _ _ _ (fun b o e => by
      rename Fr _ _ _ _ => kF
      rename News _ _ _ _ => kN
      by_cases hb : b = 36
      · subst hb
        rw [t36] at e; cases e
        exact (kN _ (.head _)).1
      · exact kF.keep _ _ (hg b o e hb))
end
end Mine
end
section
open PySem PySem.W PyProof.Rows
set_option Elab.async false
namespace Mine
/-- all that stood stands: the frames on the stack up to their slots; object 36 aside -/
structure Kept (envs : List Env) (h h' : Heap) : Prop where
  out : ∀ b o, h.get? b = some o → b ∉ envs.filterMap (·.frame) → b ≠ 36 → h'.get? b = some o
  inn : ∀ b o, h.get? b = some o → b ∈ envs.filterMap (·.frame) → ∃ sl, h'.get? b = some { o with slots := sl }
theorem Kept.refl (envs : List Env) (h : Heap) : Kept envs h h := ⟨fun _ _ e _ _ => e, fun _ o e _ => ⟨o.slots, e⟩⟩
theorem Kept.trans {envs : List Env} {h₁ h₂ h₃ : Heap} (x : Kept envs h₁ h₂) (y : Kept envs h₂ h₃) : Kept envs h₁ h₃ :=
  ⟨fun b o e n n36 => y.out b o (x.out b o e n n36) n n36, fun b o e hm => by
    refine hide fun P' hP' => ?_
    obtain ⟨sl, hs⟩ := x.inn b o e hm
    obtain ⟨sl', hs'⟩ := y.inn b _ hs hm
    refine hP' ?_
    clear hP'
    exact ⟨sl', hs'⟩⟩
theorem Kept.up {envs : List Env} {h h' : Heap} (x : Kept envs h h') {b : Addr} {o : Obj} (e : h.get? b = some o) (n36 : b ≠ 36) : ∃ sl, h'.get? b = some { o with slots := sl } := by
  by_cases hm : b ∈ envs.filterMap (·.frame)
  · exact x.inn b o e hm
  · exact ⟨o.slots, x.out b o e hm n36⟩

def cut (h : Heap) (n : Nat) : Heap := ⟨h.objs.take n, h.life⟩
theorem cut_get {h : Heap} {n b : Nat} : (cut h n).get? b = if b < n then h.get? b else none := by
  unfold cut Heap.get?
  simp only [Array.take_eq_extract, Array.getElem?_extract]
  by_cases hb : b < n
  · simp only [hb, if_true, Nat.zero_add, Nat.sub_zero]
    by_cases hs : b < min n h.objs.size
    · rw [if_pos hs]
    · rw [if_neg hs]
      have : h.objs[b]? = none := Array.getElem?_eq_none (by omega)
      rw [this]
  · have : ¬ b < min n h.objs.size - 0 := by omega
    rw [if_neg this, if_neg hb]
theorem cut_size {h : Heap} {n : Nat} : (cut h n).objs.size ≤ n := by
  unfold cut
  simp only [Array.take_eq_extract, Array.size_extract]
  omega
def groundAt (h : Heap) (L : Nat) : Heap := hideAll (cut h L) [36]
theorem groundAt_of {h : Heap} {L b : Nat} {o : Obj} (e : (groundAt h L).get? b = some o) : h.get? b = some o ∧ b < L := by
  have := of_hideAll _ e
  rw [cut_get] at this
  split at this
  · exact ⟨this, by assumption⟩
  · cases this
theorem groundAt_get {h : Heap} {L b : Nat} {o : Obj} (e : h.get? b = some o) (hb : b < L) (n36 : b ≠ 36) : (groundAt h L).get? b = some o :=
  hideAll_get _ (by rw [cut_get, if_pos hb]; exact e) (by simpa using n36)
theorem groundAt_none {h : Heap} {L b : Nat} (hb : L ≤ b) : (groundAt h L).get? b = none := by
  cases q : (groundAt h L).get? b with
  | none => rfl
  | some o => exact absurd (groundAt_of q).2 (Nat.not_lt.mpr hb)
theorem groundAt_36 {h : Heap} {L : Nat} : (groundAt h L).get? 36 = none := hideAll_none _ (.head _)
section
variable {A : Around} {base h0 h : Heap} {envs : List Env} {L : Addr} {m : Str → Option Value}
theorem reground_fr (hns : h.Ns L m) : Fr (groundAt h L) L h m := ⟨hns, fun b o e => (groundAt_of e).1, by unfold groundAt; rw [hideAll_size]; exact cut_size⟩
theorem reground_below (H : Here base envs A h0) (n36 : base.get? 36 = none) (tab : TabOk base h0) (hL : L = h0.objs.size) (K : Kept envs h0 h) : Below A base envs (groundAt h L) := by
  have lt : ∀ {b o}, h0.get? b = some o → b < L := fun e => hL ▸ Heap.lt_size e
  refine ⟨H.fr, fun b o e => ?_, H.ff.of_keeps fun b o e hn => ?_⟩
  · have h36 : b ≠ 36 := fun z => by rw [z, n36] at e; cases e
    have e0 := H.st b o e
    refine groundAt_get (K.out b o e0 (fun hm => ?_) h36) (lt e0) h36
    rw [(H.ff.mem hm).1] at e; cases e
  · by_cases h36 : b = 36
    · subst h36
      exfalso
      rcases tab with t1 | ⟨_, _, _, _, _, t1, _⟩ <;> rw [e] at t1 <;> cases t1 <;> exact hn _ rfl
    · obtain ⟨sl, hs⟩ := K.up e h36
      exact ⟨_, groundAt_get hs (lt e) h36, rfl⟩
theorem Kept.on {h' : Heap} {m' : Str → Option Value} (H : Here base envs A h0) (hL : L = h0.objs.size) (K : Kept envs h0 h) (F : Fr (groundAt h L) L h' m') : Kept envs h0 h' := by
  have lt : ∀ {b o}, h0.get? b = some o → b < L := fun e => hL ▸ Heap.lt_size e
  refine ⟨fun b o e n n36 => F.keep _ _ (groundAt_get (K.out b o e n n36) (lt e) n36), fun b o e hm => ?_⟩
  refine hide fun P' hP' => ?_
  obtain ⟨sl, hs⟩ := K.inn b o e hm
  obtain ⟨env, he, hf⟩ := List.mem_filterMap.mp hm
  refine hP' ?_
  clear hP'
  exact ⟨sl, F.keep _ _ (groundAt_get hs (lt e) (fun z => H.nf env he (z ▸ hf)))⟩
end

/-- the rest of the heap above the frame, as a ledger -/
def restOf (h : Heap) (L : Nat) (S : List Addr) : List (Addr × Obj) := (List.range h.objs.size).filterMap fun b => if L < b ∧ b ∉ S then (h.get? b).map (b, ·) else none
theorem mem_restOf {h : Heap} {L : Nat} {S : List Addr} {p : Addr × Obj} : p ∈ restOf h L S ↔ h.get? p.1 = some p.2 ∧ L < p.1 ∧ p.1 ∉ S := by
  unfold restOf
  rw [List.mem_filterMap]
  constructor
  · intro rx1
    refine hide fun P' hP' => ?_
    obtain ⟨b, hb, e⟩ := rx1
    refine hP' ?_
    clear hP'
    split at e
    · rename_i hc
      cases hq : h.get? b with
      | none => rw [hq] at e; cases e
      | some o => rw [hq] at e; cases e; exact ⟨hq, hc⟩
    · cases e
  · intro rx2
    obtain ⟨e, hc⟩ := rx2
    refine ⟨p.1, List.mem_range.mpr (Heap.lt_size e), ?_⟩
    rw [if_pos hc, e]; rfl
theorem news_rest {h : Heap} {L : Addr} {S : List Addr} : News (groundAt h L) L h (restOf h L S) := fun p hp => by
  refine hide fun P' hP' => ?_
  obtain ⟨e, hl, _⟩ := mem_restOf.mp hp
  refine hP' ?_
  clear hP'
  exact ⟨e, Nat.ne_of_gt hl, groundAt_none (Nat.le_of_lt hl)⟩

section
variable {prog : Program} {w : World} {A : Around} {R : Result → Shared → Prop} {target : Expr} {body orelse : List Stmt} {env : Env}
/-- a for loop over an iterator that is known to walk, by what holds of the heap between the turns -/
theorem for_walks {I : Addr} {fp wr : List Addr} {n : Nat} {P : Nat → Value → Prop} {St : Nat → Heap → Prop} (W : Walks prog w A I fp wr n P St) (s₀ : Shared) (INV : Nat → Heap → Prop)
    (frame : ∀ i h h', St i h → INV i h → (∀ b o, b ∉ wr → h.get? b = some o → h'.get? b = some o) → INV i h')
    (turn : ∀ i v h tk, i < n → P i v → St (i + 1) h → INV i h →
      wpAny (model prog w) A (letOwnedTupleGo target (.ref I) v) (fun _ s₁ => wpAny (model prog w) A (assign target env v) (fun _ s₂ => wpAny (model prog w) A (execs body env) (fun f s₃ => match f with
          | .next | .cont => ∃ h' tk', s₃ = { s₀ with heap := h', toks := tk' } ∧ St (i + 1) h' ∧ INV (i + 1) h'
          | .brk => R (.ok .next) s₃
          | .ret v => R (.ok (.ret v)) s₃) (notedBy (model prog w) A env fun e s' => R (.error e) s') s₂) (notedBy (model prog w) A env fun e s' => R (.error e) s') s₁) (notedBy (model prog w) A env fun e s' => R (.error e) s')
        { s₀ with heap := h, toks := tk })
    (done : ∀ h tk, INV n h → wpAny (model prog w) A (execs orelse env) (fun f s₃ => R (.ok f) s₃) (notedBy (model prog w) A env fun e s' => R (.error e) s') { s₀ with heap := h, toks := tk })
    {h₁ : Heap} {tk₁ : Nat} (hst : St 0 h₁) (hinv : INV 0 h₁) : codeAny (model prog w) A (.forLoop target (.ref I) body orelse env) R { s₀ with heap := h₁, toks := tk₁ } := by
  refine codeAny_forLoop_any (fun k s => ∃ i h tk, s = { s₀ with heap := h, toks := tk } ∧ i ≤ n ∧ k = n - i ∧ St i h ∧ INV i h) ?_ n ⟨0, h₁, tk₁, rfl, Nat.zero_le _, by omega, hst, hinv⟩
  intro k s rx3
  refine hide fun P' hP' => ?_
  obtain ⟨i, h, tk, rfl, hi, rfl, hst, hinv⟩ := rx3
  refine hP' ?_
  clear hP'
  rcases Nat.lt_or_ge i n with hlt | hge
  · refine W.item i _ _ _ hlt hst fun v h' tk' hv hst' hk => ?_
    dsimp only
    refine wpAny_mono (turn i v h' tk' hlt hv hst' (frame i h h' hst hinv hk)) (fun _ s₁ q => wpAny_mono q (fun _ s₂ q => wpAny_mono q (fun f s₃ q => ?_) fun _ _ x => x) fun _ _ x => x) fun _ _ x => x
    cases f with
    | next => obtain ⟨h'', tk'', rfl, a, b⟩ := q; exact ⟨n - (i + 1), by omega, i + 1, h'', tk'', rfl, hlt, rfl, a, b⟩
    | cont => obtain ⟨h'', tk'', rfl, a, b⟩ := q; exact ⟨n - (i + 1), by omega, i + 1, h'', tk'', rfl, hlt, rfl, a, b⟩
    | brk => exact q
    | ret v => exact q
  · obtain rfl : i = n := Nat.le_antisymm hi hge
    refine W.done _ _ _ hst fun h' tk' hk => ?_
    dsimp only
    exact done h' tk' (frame i h h' hst hinv hk)
end
end Mine
end
section
open PySem PySem.W PyProof.Rows
set_option Elab.async false
namespace Mine
/-- an iterator's record: its second field is no text -/
def IterObj (h : Heap) (I : Addr) : Prop := ∃ o vs, h.get? I = some o ∧ o.data = .fields vs ∧ ∀ q t, vs[1]? ≠ some (.str q t)
theorem IterObj.list {h : Heap} {I l i : Nat} (x : h.IsListIter I l i) : IterObj h I := let ⟨o, ho, _, hd⟩ := x; ⟨o, _, ho, hd, by simp⟩
theorem IterObj.str {h : Heap} {I : Addr} {ty : String} {x : Str} {t : Tok} {i : Nat} (y : h.IsStrIter I ty x t i) : IterObj h I := let ⟨o, ho, _, hd⟩ := y; ⟨o, _, ho, hd, by simp⟩
theorem IterObj.range {h : Heap} {I : Addr} {a n c : Int} (y : IsRangeIter h I a n c) : IterObj h I := ⟨_, _, y, rfl, by simp [rawInt]⟩
/-- all but the iterator stays -/
def UpdI (I : Addr) (h h' : Heap) : Prop := ∀ b o, b ∉ [I] → h.get? b = some o → h'.get? b = some o
theorem UpdI.get {I : Addr} {h h' : Heap} (u : UpdI I h h') {b : Addr} {o : Obj} (n : b ≠ I) (e : h.get? b = some o) : h'.get? b = some o := u b o (by simpa using n) e
theorem IterObj.ne {h : Heap} {I b : Addr} {o : Obj} (x : IterObj h I) (e : h.get? b = some o) (hd : ∀ vs, o.data ≠ .fields vs) : b ≠ I := fun z => by
  refine hide fun P' hP' => ?_
  obtain ⟨oi, vs, ho, hv, _⟩ := x
  refine hP' ?_
  clear hP'
  rw [z, ho] at e; cases e
  exact hd vs hv
theorem UpdI.tab {I : Addr} {base h h' : Heap} (u : UpdI I h h') (x : IterObj h I) (n36 : 36 ≠ I) (tab : TabOk base h) : TabOk base h' :=
  tab.keeps (fun o e => u.get n36 e) fun b o vs q t e hd hs _ => u.get (fun z => by
    refine hide fun P' hP' => ?_
    obtain ⟨oi, ws, ho, hv, hn⟩ := x
    refine hP' ?_
    clear hP'
    rw [z, ho] at e; cases e
    rw [hv] at hd; cases hd
    exact hn q t hs) e
theorem UpdI.kept {I : Addr} {envs : List Env} {h₀ h h' : Heap} (u : UpdI I h h') (hI : h₀.objs.size ≤ I) (k : Kept envs h₀ h) : Kept envs h₀ h' :=
  ⟨fun b o e n n36 => u.get (Nat.ne_of_lt (Nat.lt_of_lt_of_le (Heap.lt_size e) hI)) (k.out b o e n n36), fun b o e hm => by
    obtain ⟨sl, hs⟩ := k.inn b o e hm
    exact ⟨sl, u.get (Nat.ne_of_lt (Nat.lt_of_lt_of_le (Heap.lt_size e) hI)) hs⟩⟩
theorem UpdI.ns {I : Addr} {h h' : Heap} {L : Addr} {m : Str → Option Value} (u : UpdI I h h') (x : IterObj h I) (n : h.Ns L m) : h'.Ns L m := by
  refine hide fun P' hP' => ?_
  obtain ⟨o, es, ep, ho, hd, r⟩ := n
  refine hP' ?_
  clear hP'
  exact ⟨o, es, ep, u.get (x.ne ho fun vs q => by rw [hd] at q; cases q) ho, hd, r⟩
abbrev pairObj (w : Str) (p : Int) (t u : Tok) : Obj := { cls := .type "tuple", data := .seq #[.str w t, .int p u] }
def PairAt (h : Heap) (v : Value) (d : Str × Int) : Prop := ∃ a t u, v = .ref a ∧ h.get? a = some (pairObj d.1 d.2 t u)
inductive PairsAre (h : Heap) : List Value → List (Str × Int) → Prop
  | nil : PairsAre h [] []
  | cons {v : Value} {d : Str × Int} {vs : List Value} {ds : List (Str × Int)} : PairAt h v d → PairsAre h vs ds → PairsAre h (v :: vs) (d :: ds)
theorem PairAt.keeps {h h' : Heap} {v : Value} {d : Str × Int} (x : PairAt h v d) (k : ∀ b t u w p, h.get? b = some (pairObj w p t u) → h'.get? b = some (pairObj w p t u)) : PairAt h' v d :=
  let ⟨a, t, u, e, ho⟩ := x; ⟨a, t, u, e, k _ _ _ _ _ ho⟩
theorem PairsAre.keeps {h h' : Heap} (k : ∀ b t u w p, h.get? b = some (pairObj w p t u) → h'.get? b = some (pairObj w p t u)) : ∀ {vs : List Value} {ds : List (Str × Int)}, PairsAre h vs ds → PairsAre h' vs ds
  | _, _, .nil => .nil
  | _, _, .cons x r => .cons (x.keeps k) (r.keeps k)
theorem PairsAre.length {h : Heap} : ∀ {vs : List Value} {ds : List (Str × Int)}, PairsAre h vs ds → vs.length = ds.length
  | _, _, .nil => rfl
  | _, _, .cons _ r => congrArg (· + 1) r.length
theorem PairsAre.get {h : Heap} {vs : List Value} {ds : List (Str × Int)} (r0 : PairsAre h vs ds) : ∀ {i : Nat} {v : Value}, vs[i]? = some v → ∃ d, ds[i]? = some d ∧ PairAt h v d := by
  induction r0 with
  | nil => intro i v e; simp at e
  | cons x r ih =>
    intro i v e
    cases i with
    | zero => cases e; exact ⟨_, rfl, x⟩
    | succ i => exact ih (i := i) e
theorem PairsAre.snoc {h : Heap} {v : Value} {d : Str × Int} (x : PairAt h v d) : ∀ {vs : List Value} {ds : List (Str × Int)}, PairsAre h vs ds → PairsAre h (vs ++ [v]) (ds ++ [d])
  | _, _, .nil => .cons x .nil
  | _, _, .cons y r => .cons y (r.snoc x)
theorem UpdI.pairs {I : Addr} {h h' : Heap} (u : UpdI I h h') (x : IterObj h I) {vs : List Value} {ds : List (Str × Int)} (p : PairsAre h vs ds) : PairsAre h' vs ds :=
  p.keeps fun b t uu w q e => u.get (x.ne e fun vs q => by cases q) e
theorem keep_rest {h h'' : Heap} {L : Addr} {S : List Addr} {m'' : Str → Option Value} (F : Fr (groundAt h L) L h'' m'') (N : ∀ p ∈ restOf h L S, h''.get? p.1 = some p.2) {b : Addr} {o : Obj} (e : h.get? b = some o) (n36 : b ≠ 36) (nL : b ≠ L) (nS : b ∉ S) :
    h''.get? b = some o := by
  rcases Nat.lt_or_gt_of_ne nL with hb | hb
  · exact F.keep _ _ (groundAt_get e hb n36)
  · exact N (b, o) (mem_restOf.mpr ⟨e, hb, nS⟩)
/-- the pure side of _law_words -/
def sg (c : Nat) : Str := ⟨#[c]⟩
def signs : List Nat := [45, 114, 119, 120]
def stepOne (x : Str) (d : Str × Int) (c : Nat) : Option (Str × Int) := if Txt.find3 x (sg c) d.2 = -1 then none else some (d.1 ++ sg c, Txt.find3 x (sg c) d.2 + 1)
def stepAll (x : Str) (d : Str × Int) : List (Str × Int) := signs.filterMap (stepOne x d)
def levelAt (x : Str) : Nat → List (Str × Int)
  | 0 => [(Str.ofString "", 0)]
  | k + 1 => (levelAt x k).flatMap (stepAll x)
def wordsTo (x : Str) : Nat → List Str
  | 0 => []
  | k + 1 => wordsTo x k ++ (levelAt x (k + 1)).map (·.1)
end Mine
end
section
open PySem PySem.W PyProof.Rows
set_option Elab.async false
namespace Mine
section
variable {prog : Program} {w : World} {A₀ : Around} {E : Value → Shared → Prop} {s' : Shared} {base hc : Heap} {envs : List Env} {L a e t : Addr} {m : Str → Option Value} {name : Str} {scope : Scope} {cd : Value} {msg : Str}
  {n : Str} {b₀ : Stmt} {suite : List Stmt} {pos np : Pos} {rest : List ExceptHandler} {Q : Flow → Shared → Prop} {KF : Frag} {p : Program} {loose : List Str} {mean : ExcName → Option Value} {mg mb : Str → Option Value} {x : Str}
/-- the own exception that a callee has let fly, met by «except TOMLDecodeError as n» -/
theorem catch_toml (hfr : A₀.frames = some envs) (hn : hc.Ns L m) (SR : SkipRaised base (envOf name scope L a cd :: envs) hc s'.heap e t msg) (ff : hc.FunFrames base (envOf name scope L a cd :: envs))
    (XB : KF.In base) (TB : Top p loose mean mg mb base) (hbL : ∀ b o, base.get? b = some o → b < L) (n36 : base.get? 36 = none)
    (ex : nsIn KF mainGlobals x = some (some (.ref 24))) (q : excIn KF 24 [.type "ValueError", .type "Exception", .type "BaseException", .type "object"] "ValueError.__new__" = true)
    (k : ∀ (E1 E2 : Value → Shared → Prop) h₆ u, Kept (envOf name scope L a cd :: envs) hc h₆ → TabOk base h₆ → base.StaysIn h₆ → (∃ oe ws, h₆.get? e = some oe ∧ oe.cls = .ref 24 ∧ oe.data = .fields ws ∧ ws[0]? = some (.ref t)) → h₆.TupAt t [.str msg u] →
      wpAny (model prog w) ((A₀.deeper (envOf name scope L a cd)).mark (some (.ref e))) (storeName (envOf name scope L a cd) n (.ref e)) (fun _ s₂ =>
        wpAny (model prog w) ((A₀.deeper (envOf name scope L a cd)).mark (some (.ref e))) (execs (b₀ :: suite) (envOf name scope L a cd))
          (fun f s₃ => wpAny (model prog w) (A₀.deeper (envOf name scope L a cd)) (do bindName (envOf name scope L a cd) n .none; unbindBehindTheSuite (envOf name scope L a cd) n pos) (fun _ s₅ => Q f s₅) E s₃) E1 s₂) E2 { s' with heap := h₆ })
    (hk : scope.kind = .function := by rfl) (hx : (envOf name scope L a cd).kindOf x = some .globalImplicit := by rfl) (hd : (x == ("__debug__" : Str)) = false := by decide) :
    wpAny (model prog w) (A₀.deeper (envOf name scope L a cd)) (noteFrame (.ref e) (envOf name scope L a cd))
      (fun _ s₂ => wpAny (model prog w) (A₀.deeper (envOf name scope L a cd)) (setFlight (.ref e) none) (fun _ s₃ =>
        wpAny (model prog w) (A₀.deeper (envOf name scope L a cd)) (handleBy (.ref e) (envOf name scope L a cd) (.ExceptHandler (some (.Name x np)) (some n) (b₀ :: suite) pos :: rest)) Q E s₃) E s₂) E s' := by
  refine hide fun P' hP' => ?_
  obtain ⟨up, ⟨B, hB, hBG, hTab, hfl, hnt⟩, ⟨u, htup⟩, _, _⟩ := SR
  refine hP' ?_
  clear hP'
  refine wpAny_looks_onW (Around.frames_deeper hfr) rfl hfl fun h₄ hheld₄ hsm₄ => ?_
  refine wpAny_landsW hheld₄ fun h₅ hfl₅ hsm₅ => ?_
  have up₅ : hc.UpToSlots h₅ := (up.trans hsm₄).trans hsm₅
  have F₅ := reground_fr (up₅.ns hn)
  have st₅ : base.StaysIn h₅ := fun b o e => hfl₅.1 b o (hB b o e)
  have sg₅ : base.StaysIn (groundAt h₅ L) := fun b o e => groundAt_get (st₅ b o e) (hbL b o e) (fun z => by rw [z, n36] at e; cases e)
  have X₅ : KF.In (groundAt h₅ L) := XB.keeps sg₅
  have P₅ : TopRead p loose mg mb (groundAt h₅ L) := topRead_of (TB.keeps sg₅)
  refine hide fun P' hP' => ?_
  obtain ⟨ob, hob, hobc⟩ := hfl₅.there
  obtain ⟨tl, N, nm, q, bs, hdct, sn, sub, ab, col, dd, k0, k1, k2, k3, k5, mN, hC, hN, hni, TL⟩ := ((own_of_in XB (topRead_of TB) ex q).keeps st₅).obj
  refine hP' ?_
  clear hP'
  refine wpAny_handleBy_cons (codeAny_handlers_test (name_K F₅ X₅ P₅ ex ?_ hk hx hd)) (by intro q; cases q)
  refine wpAny_excMatches_sub_self hC hob hobc (TL.hasType rfl) (codeAny_handlers_suite_as ?_)
  refine lands_againW hfl₅ fun h₆ hfl₆ hsm₆ => ?_
  have up₆ : hc.UpToSlots h₆ := up₅.trans hsm₆
  refine hide fun P' hP' => ?_
  obtain ⟨oe, ws, hoe, hoec, hoed, hoe0⟩ := hfl₆.first
  refine hP' ?_
  clear hP'
  refine k _ _ h₆ u ⟨fun b o e nm n36 => hfl₆.1 _ _ (hBG b o e nm n36), fun b o e hm => ?_⟩ (hTab.keeps (fun o e => hfl₆.1 _ _ e) fun b o vs q t e _ _ _ => hfl₆.1 _ _ e) (fun b o e => hfl₆.1 b o (hB b o e))
    ⟨oe, ws, hoe, hoec, hoed, hoe0⟩ (((htup.of_slots hsm₄).of_slots hsm₅).of_slots hsm₆)
  refine hide fun P' hP' => ?_
  obtain ⟨_, o', ho', hd'⟩ := ff.mem hm
  refine hP' ?_
  clear hP'
  rw [e] at ho'; cases ho'
  exact up₆ b o e hd'
end
end Mine
end
section
open PySem PySem.W PyProof.Rows
set_option Elab.async false
namespace Mine
/-- all that stood stands: the frames on the stack up to their slots; the objects of S aside -/
structure KeptB (envs : List Env) (S : List Addr) (h h' : Heap) : Prop where
  out : ∀ b o, h.get? b = some o → b ∉ envs.filterMap (·.frame) → b ∉ S → h'.get? b = some o
  inn : ∀ b o, h.get? b = some o → b ∈ envs.filterMap (·.frame) → ∃ sl, h'.get? b = some { o with slots := sl }
theorem KeptB.refl (envs : List Env) (S : List Addr) (h : Heap) : KeptB envs S h h := ⟨fun _ _ e _ _ => e, fun _ o e _ => ⟨o.slots, e⟩⟩
theorem KeptB.trans {envs : List Env} {S : List Addr} {h₁ h₂ h₃ : Heap} (x : KeptB envs S h₁ h₂) (y : KeptB envs S h₂ h₃) : KeptB envs S h₁ h₃ :=
  ⟨fun b o e n nS => y.out b o (x.out b o e n nS) n nS, fun b o e hm => by
    refine hide fun P' hP' => ?_
    obtain ⟨sl, hs⟩ := x.inn b o e hm
    obtain ⟨sl', hs'⟩ := y.inn b _ hs hm
    refine hP' ?_
    clear hP'
    exact ⟨sl', hs'⟩⟩
theorem KeptB.more {envs : List Env} {S S' : List Addr} {h h' : Heap} (x : KeptB envs S h h') (hS : ∀ b ∈ S, b ∈ S') : KeptB envs S' h h' :=
  ⟨fun b o e n nS => x.out b o e n (fun q => nS (hS b q)), x.inn⟩
theorem KeptB.drop {envs : List Env} {S S' : List Addr} {h h' : Heap} (x : KeptB envs S' h h') (hS : ∀ b ∈ S', b ∈ S ∨ h.get? b = none) : KeptB envs S h h' :=
  ⟨fun b o e n nS => x.out b o e n (fun q => by
    rcases hS b q with z | z
    · exact nS z
    · rw [z] at e; cases e), x.inn⟩
theorem KeptB.of_stays {envs : List Env} {S : List Addr} {h h' : Heap} (x : h.StaysIn h') : KeptB envs S h h' := ⟨fun b o e _ _ => x b o e, fun b o e _ => ⟨o.slots, x b o e⟩⟩
theorem KeptB.kept {envs : List Env} {S : List Addr} {h h' : Heap} (x : KeptB envs S h h') (hS : ∀ b ∈ S, b = 36 ∨ h.get? b = none) : Kept envs h h' :=
  let y := x.drop (S := [36]) fun b hb => (hS b hb).imp (fun q => by simp [q]) id
  ⟨fun b o e n n36 => y.out b o e n (by simpa using n36), y.inn⟩
theorem Kept.toB {envs : List Env} {h h' : Heap} (x : Kept envs h h') : KeptB envs [36] h h' := ⟨fun b o e n n36 => x.out b o e n (by simpa using n36), x.inn⟩
/-- what holds no record stays -/
def NF (h h' : Heap) : Prop := ∀ b o, h.get? b = some o → (∀ vs, o.data ≠ .fields vs) → h'.get? b = some o
theorem NF.of_upd {I : Addr} {h h' : Heap} (u : UpdI I h h') (x : IterObj h I) : NF h h' := fun _ _ e hd => u.get (x.ne e hd) e
theorem NF.of_stays {h h' : Heap} (x : h.StaysIn h') : NF h h' := fun b o e _ => x b o e
theorem NF.ns {h h' : Heap} {L : Addr} {m : Str → Option Value} (u : NF h h') (n : h.Ns L m) : h'.Ns L m := by
  refine hide fun P' hP' => ?_
  obtain ⟨o, es, ep, ho, hd, r⟩ := n
  refine hP' ?_
  clear hP'
  exact ⟨o, es, ep, u _ _ ho (fun vs q => by rw [hd] at q; cases q), hd, r⟩
theorem NF.list {h h' : Heap} {l : Addr} {vs : Array Value} (u : NF h h') (n : h.IsList l vs) : h'.IsList l vs := by
  refine hide fun P' hP' => ?_
  obtain ⟨o, ho, hc, k, hd⟩ := n
  refine hP' ?_
  clear hP'
  exact ⟨o, u _ _ ho (fun vs q => by rw [hd] at q; cases q), hc, k, hd⟩
theorem NF.plain {h h' : Heap} {l : Addr} {vs : Array Value} (u : NF h h') (n : h.PlainList l vs) : h'.PlainList l vs := by
  obtain ⟨k, ho⟩ := n
  exact ⟨k, u _ _ ho (fun vs q => by cases q)⟩
theorem NF.pairs {h h' : Heap} (u : NF h h') {vs : List Value} {ds : List (Str × Int)} (p : PairsAre h vs ds) : PairsAre h' vs ds :=
  p.keeps fun _ _ _ _ _ e => u _ _ e (fun vs q => by cases q)

theorem Kept.step {envs : List Env} {S : List Addr} {h0 hs h : Heap} (x : Kept envs h0 hs) (y : KeptB envs S hs h) (hS : ∀ b ∈ S, b = 36 ∨ h0.get? b = none) : Kept envs h0 h := by
  refine ⟨fun b o e n n36 => y.out b o (x.out b o e n n36) n fun q => ?_, fun b o e hm => ?_⟩
  · rcases hS b q with z | z
    · exact n36 z
    · rw [z] at e; cases e
  · refine hide fun P' hP' => ?_
    obtain ⟨sl, hs⟩ := x.inn b o e hm
    obtain ⟨sl', hs'⟩ := y.inn b _ hs hm
    refine hP' ?_
    clear hP'
    exact ⟨sl', hs'⟩
theorem ns_kst {h : Heap} {L : Addr} {m : Str → Option Value} (n : h.Ns L m) (ps : List (Str × Value)) (hp : ∀ p ∈ ps, m p.1 = some p.2) : h.Ns L (kstB m ps) := by
  have e : kstB m ps = m := funext fun z => kstB_eq hp fun _ => rfl
  rw [e]; exact n
/-- the ground of a frame L that was entered at h0, as it stands in h -/
def gnd (h0 h : Heap) (L : Nat) : Heap := hideAll (cut h L) (36 :: (List.range L).filter fun b => (h0.get? b).isNone)
theorem gnd_of {h0 h : Heap} {L b : Nat} {o : Obj} (e : (gnd h0 h L).get? b = some o) : h.get? b = some o ∧ b < L := by
  have := of_hideAll _ e
  rw [cut_get] at this
  split at this
  · exact ⟨this, by assumption⟩
  · cases this
theorem gnd_get {h0 h : Heap} {L b : Nat} {o o' : Obj} (e : h.get? b = some o) (hb : b < L) (e0 : h0.get? b = some o') (n36 : b ≠ 36) : (gnd h0 h L).get? b = some o :=
  hideAll_get _ (by rw [cut_get, if_pos hb]; exact e) (by simp [n36, e0])
theorem gnd_none {h0 h : Heap} {L b : Nat} (hb : h0.get? b = none) : (gnd h0 h L).get? b = none := by
  cases q : (gnd h0 h L).get? b with
  | none => rfl
  | some o =>
    have hL := (gnd_of q).2
    have := hideAll_none (h := cut h L) _ (show b ∈ 36 :: (List.range L).filter fun b => (h0.get? b).isNone from List.mem_cons_of_mem _ (List.mem_filter.mpr ⟨List.mem_range.mpr hL, by simp [hb]⟩))
    unfold gnd at q; rw [this] at q; cases q
theorem gnd_36 {h0 h : Heap} {L : Nat} : (gnd h0 h L).get? 36 = none := hideAll_none _ (.head _)
section
variable {A : Around} {base h0 h : Heap} {envs : List Env} {L : Addr} {m : Str → Option Value}
theorem gnd_fr (hns : h.Ns L m) : Fr (gnd h0 h L) L h m := ⟨hns, fun b o e => (gnd_of e).1, by unfold gnd; rw [hideAll_size]; exact cut_size⟩
theorem gnd_below (H : Here base envs A h0) (n36 : base.get? 36 = none) (tab : TabOk base h0) (hL : h0.objs.size = L) (K : Kept envs h0 h) : Below A base envs (gnd h0 h L) := by
  have lt : ∀ {b o}, h0.get? b = some o → b < L := fun e => hL ▸ Heap.lt_size e
  refine ⟨H.fr, fun b o e => ?_, H.ff.of_keeps fun b o e hn => ?_⟩
  · have h36 : b ≠ 36 := fun z => by rw [z, n36] at e; cases e
    have e0 := H.st b o e
    refine gnd_get (K.out b o e0 (fun hm => ?_) h36) (lt e0) e0 h36
    rw [(H.ff.mem hm).1] at e; cases e
  · by_cases h36 : b = 36
    · subst h36
      exfalso
      rcases tab with t1 | ⟨_, _, _, _, _, t1, _⟩ <;> rw [e] at t1 <;> cases t1 <;> exact hn _ rfl
    · obtain ⟨sl, hs⟩ := K.up e h36
      exact ⟨_, gnd_get hs (lt e) e h36, rfl⟩
theorem gnd_stays (H : Here base envs A h0) (n36 : base.get? 36 = none) (K : Kept envs h0 h) : base.StaysIn h := fun b o e =>
  K.out b o (H.st b o e) (fun hm => by rw [(H.ff.mem hm).1] at e; cases e) fun z => by rw [z, n36] at e; cases e
/-- the rest of the heap that is new since h0, as a ledger -/
def restN (h0 h : Heap) (L : Nat) (S : List Addr) : List (Addr × Obj) := (List.range h.objs.size).filterMap fun b => if (h0.get? b).isNone ∧ b ≠ L ∧ b ∉ S then (h.get? b).map (b, ·) else none
theorem mem_restN {S : List Addr} {p : Addr × Obj} : p ∈ restN h0 h L S ↔ h.get? p.1 = some p.2 ∧ h0.get? p.1 = none ∧ p.1 ≠ L ∧ p.1 ∉ S := by
  unfold restN
  rw [List.mem_filterMap]
  constructor
  · intro rx1
    refine hide fun P' hP' => ?_
    obtain ⟨b, hb, e⟩ := rx1
    refine hP' ?_
    clear hP'
    split at e
    · rename_i hc
      cases hq : h.get? b with
      | none => rw [hq] at e; cases e
      | some o => rw [hq] at e; cases e; exact ⟨hq, by simpa using hc.1, hc.2⟩
    · cases e
  · intro rx2
    refine hide fun P' hP' => ?_
    obtain ⟨e, hc, hd⟩ := rx2
    refine hP' ?_
    clear hP'
    refine ⟨p.1, List.mem_range.mpr (Heap.lt_size e), ?_⟩
    rw [if_pos ⟨by simpa using hc, hd⟩, e]; rfl
theorem news_restN {S : List Addr} : News (gnd h0 h L) L h (restN h0 h L S) := fun p hp => by
  refine hide fun P' hP' => ?_
  obtain ⟨e, hl, hn, _⟩ := mem_restN.mp hp
  refine hP' ?_
  clear hP'
  exact ⟨e, hn, gnd_none hl⟩
theorem news_one {a : Addr} {o : Obj} {l : List (Addr × Obj)} (e : h.get? a = some o) (hn : h0.get? a = none) (hL : a ≠ L) (N : News (gnd h0 h L) L h l) : News (gnd h0 h L) L h ((a, o) :: l) := fun p hp => by
  rcases List.mem_cons.mp hp with rfl | hp
  · exact ⟨e, hL, gnd_none hn⟩
  · exact N p hp
theorem newsAt {h₀ : Heap} {a : Addr} {o : Obj} {l : List (Addr × Obj)} (N : News h₀ L h l) (hm : (a, o) ∈ l) : h.get? a = some o ∧ a ≠ L ∧ h₀.get? a = none := N _ hm
/-- what a walk from h with the rest in its ledger has kept -/
theorem keptB_of {h' : Heap} {m' : Str → Option Value} {S : List Addr} {l : List (Addr × Obj)} (hL : h0.objs.size = L) (hfr : ∀ b ∈ envs.filterMap (·.frame), ∃ o, h0.get? b = some o ∧ b ≠ 36) (F : Fr (gnd h0 h L) L h' m') (N : News (gnd h0 h L) L h' l) (h36 : 36 ∈ S) (hLS : L ∈ S)
    (hN : ∀ p ∈ restN h0 h L S, p ∈ l) : KeptB envs S h h' := by
  have lt : ∀ {b o}, h0.get? b = some o → b < L := fun e => hL ▸ Heap.lt_size e
  refine ⟨fun b o e n nS => ?_, fun b o e hm => ?_⟩
  · cases q : h0.get? b with
    | some o' => exact F.keep _ _ (gnd_get e (lt q) q fun z => nS (z ▸ h36))
    | none => exact (N (b, o) (hN _ (mem_restN.mpr ⟨e, q, fun z => nS (by have z' : b = L := z; rw [z']; exact hLS), nS⟩))).1
  · refine hide fun P' hP' => ?_
    obtain ⟨o', q, n36⟩ := hfr b hm
    refine hP' ?_
    clear hP'
    exact ⟨o.slots, F.keep _ _ (gnd_get e (lt q) q n36)⟩
theorem kept_of {h1 h' : Heap} {m' : Str → Option Value} (hL : h0.objs.size = L) (hfr : ∀ b ∈ envs.filterMap (·.frame), ∃ o, h0.get? b = some o ∧ b ≠ 36) (K : Kept envs h0 h1) (F : Fr (gnd h0 h1 L) L h' m') : Kept envs h0 h' := by
  have lt : ∀ {b o}, h0.get? b = some o → b < L := fun e => hL ▸ Heap.lt_size e
  refine ⟨fun b o e n n36 => F.keep _ _ (gnd_get (K.out b o e n n36) (lt e) e n36), fun b o e hm => ?_⟩
  obtain ⟨sl, hs⟩ := K.inn b o e hm
  exact ⟨sl, F.keep _ _ (gnd_get hs (lt e) e (hfr b hm).choose_spec.2)⟩
theorem tab_of {h' : Heap} (H : Here base envs A h0) (tab : TabOk base h0) (K : Kept envs h0 h') (e36 : ∀ o, h0.get? 36 = some o → h'.get? 36 = some o) : TabOk base h' :=
  tab.keeps e36 fun b o vs _ _ e hd _ n36 => K.out b o e (fun hm => by
    refine hide fun P' hP' => ?_
    obtain ⟨_, o', ho', hn⟩ := H.ff.mem hm
    refine hP' ?_
    clear hP'
    rw [e] at ho'; cases ho'
    exact hn _ hd) n36
theorem here_fr (H : Here base envs A h0) : ∀ b ∈ envs.filterMap (·.frame), ∃ o, h0.get? b = some o ∧ b ≠ 36 := fun b hm => by
  refine hide fun P' hP' => ?_
  obtain ⟨_, o, ho, _⟩ := H.ff.mem hm
  refine hP' ?_
  clear hP'
  refine ⟨o, ho, fun z => ?_⟩
  refine hide fun P' hP' => ?_
  obtain ⟨env, he, hf⟩ := List.mem_filterMap.mp hm
  refine hP' ?_
  clear hP'
  exact H.nf env he (z ▸ hf)
end
theorem tab_step {base : Heap} {envs : List Env} {A : Around} {h0 h h' : Heap} {S : List Addr} (H : Here base envs A h0) (Kh : Kept envs h0 h) (ht : TabOk base h) (e36 : ∀ o, h.get? 36 = some o → h'.get? 36 = some o) (K : KeptB envs S h h')
    (hS : ∀ b ∈ S, b = 36 ∨ ∃ o, h.get? b = some o ∧ ∀ vs, o.data ≠ .fields vs) : TabOk base h' :=
  ht.keeps e36 fun b o vs _ _ e hd _ n36 => K.out b o e (fun hm => by
    refine hide fun P' hP' => ?_
    obtain ⟨_, o', ho', hn⟩ := H.ff.mem hm
    obtain ⟨sl, hs⟩ := Kh.inn b o' ho' hm
    refine hP' ?_
    clear hP'
    rw [e] at hs; cases hs
    exact hn _ hd) fun hb => by
      rcases hS b hb with z | ⟨o', ho', hn⟩
      · exact n36 z
      · rw [e] at ho'; cases ho'
        exact hn _ hd
theorem news_push {g h : Heap} {L : Addr} {m : Str → Option Value} {l : List (Addr × Obj)} (F : Fr g L h m) (N : News g L h l) (o : Obj) (hf : o.isFreed = false) : News g L (h.push o) ((h.objs.size, o) :: l) := fun p hp => by
  rcases List.mem_cons.mp hp with rfl | hp
  · exact ⟨Heap.get?_push_size _ hf, Nat.ne_of_gt F.ns.lt, Heap.get?_none_of_le (Nat.le_trans F.above (Nat.le_of_lt F.ns.lt))⟩
  · exact ⟨Heap.get?_push_of_some _ (N p hp).1, (N p hp).2⟩
theorem fr_but {g h h' : Heap} {L a : Addr} {m : Str → Option Value} (F : Fr g L h m) (hs : Heap.SameBut a h h') (ha : g.get? a = none) (hL : L ≠ a) : Fr g L h' m :=
  ⟨F.ns.sameBut hs hL, fun b o e => (hs.2 b (fun z => by rw [z, ha] at e; cases e)).trans (F.keep b o e), F.above⟩
theorem news_but {g h h' : Heap} {L a : Addr} {l l' : List (Addr × Obj)} (N : News g L h l) (hs : Heap.SameBut a h h') (hl : ∀ p ∈ l', p ∈ l ∧ p.1 ≠ a) : News g L h' l' := fun p hp =>
  ⟨(hs.2 p.1 (hl p hp).2).trans (N p (hl p hp).1).1, (N p (hl p hp).1).2⟩
theorem ns_rec {h : Heap} {L : Addr} {m : Str → Option Value} (n : h.Ns L m) : ∃ o, h.get? L = some o ∧ ∀ vs, o.data ≠ .fields vs := by
  refine hide fun P' hP' => ?_
  obtain ⟨o, es, ep, ho, hd, _⟩ := n
  refine hP' ?_
  clear hP'
  exact ⟨o, ho, fun vs q => by rw [hd] at q; cases q⟩
theorem mem2 {α : Type} {P : α → Prop} {a b : α} (h1 : P a) (h2 : P b) : ∀ x ∈ [a, b], P x := fun x hx => by
  rcases List.mem_cons.mp hx with rfl | hx
  · exact h1
  · rw [List.mem_singleton.mp hx]; exact h2
theorem mem3 {α : Type} {P : α → Prop} {a b c : α} (h1 : P a) (h2 : P b) (h3 : P c) : ∀ x ∈ [a, b, c], P x := fun x hx => by
  rcases List.mem_cons.mp hx with rfl | hx
  · exact h1
  · exact mem2 h2 h3 x hx
theorem mem4 {α : Type} {P : α → Prop} {a b c d : α} (h1 : P a) (h2 : P b) (h3 : P c) (h4 : P d) : ∀ x ∈ [a, b, c, d], P x := fun x hx => by
  rcases List.mem_cons.mp hx with rfl | hx
  · exact h1
  · exact mem3 h2 h3 h4 x hx
theorem mem6 {α : Type} {P : α → Prop} {a b c d e f : α} (h1 : P a) (h2 : P b) (h3 : P c) (h4 : P d) (h5 : P e) (h6 : P f) : ∀ x ∈ [a, b, c, d, e, f], P x := fun x hx => by
  rcases List.mem_cons.mp hx with rfl | hx
  · exact h1
  rcases List.mem_cons.mp hx with rfl | hx
  · exact h2
  · exact mem4 h3 h4 h5 h6 x hx
/-- at a heap that has kept what the frame was entered with, the walk may begin anew -/
structure Reg (w : World) (loose : List Str) (mean : ExcName → Option Value) (mg mb : Str → Option Value) (base : Heap) (envs : List Env) (A : Around) (h0 h : Heap) (L : Addr) (q36 : Obj) : Prop where
  B : Below A base envs (gnd h0 h L)
  X : (Mine.hd.heap_39 w.params).In (gnd h0 h L)
  T : Top topProg loose mean mg mb (gnd h0 h L)
  C : CodeHd (gnd h0 h L) 40 36
  q : h.get? 36 = some q36
  N : ∀ l S, News (gnd h0 h L) L h l → News (gnd h0 h L) L h (l ++ (36, q36) :: restN h0 h L S)
  new0 : ∀ {b}, (gnd h0 h L).get? b = none → b ≠ 36 → h0.get? b = none
  st : base.StaysIn h
theorem regr {w : World} {loose : List Str} {mean : ExcName → Option Value} {mg mb : Str → Option Value} {base : Heap} {envs : List Env} {A : Around} {h0 h : Heap} {L : Addr} (T0 : Top0 w loose mean mg mb base) (H : Here base envs A h0) (tab : TabOk base h0) (hL : h0.objs.size = L) (L36 : 36 < L) (K : Kept envs h0 h) (ht : TabOk base h) :
    ∃ q36, Reg w loose mean mg mb base envs A h0 h L q36 := by
  have B := gnd_below H T0.n36 tab hL K
  obtain ⟨q36, hq36⟩ : ∃ o, h.get? 36 = some o := by
    rcases ht with t1 | ⟨_, _, _, _, _, t1, _⟩ <;> exact ⟨_, t1⟩
  refine ⟨q36, B, T0.X.keeps B.stays, T0.T.keeps B.stays, T0.C.keeps B.stays, hq36, fun l S N p hp => ?_, fun {b} e n => ?_, gnd_stays H T0.n36 K⟩
  · rcases List.mem_append.mp hp with hp | hp
    · exact N p hp
    rcases List.mem_cons.mp hp with rfl | hp
    · exact ⟨hq36, Nat.ne_of_lt L36, gnd_36⟩
    · exact news_restN p hp
  · cases q : h0.get? b with
    | none => rfl
    | some o =>
      obtain ⟨sl, hs⟩ := K.up q n
      rw [gnd_get hs (hL ▸ Heap.lt_size q) q n] at e; cases e
section
variable (prog : Program) (w : World) (A : Around) (env : Env) (target : Expr) (body : List Stmt) (Q : Flow → Shared → Prop) (E : Value → Shared → Prop)
def LoopGo (it : Value) (s₂ : Shared) : Prop :=
  codeAny (model prog w) A (.forLoop target it body [] env) (fun r s' => match r with | .ok f => Q f s' | .error e => cameBackBy (model prog w) A env E e s') s₂
def TurnEnd (base : Heap) (envs : List Env) (S : List Addr) (Spec : Heap → Prop) (s₀ : Shared) (h : Heap) (s₃ : Shared) : Prop :=
  ∃ h' tk', s₃ = { s₀ with heap := h', toks := tk' } ∧ KeptB envs S h h' ∧ TabOk base h' ∧ Spec h'
def TurnPost (base : Heap) (envs : List Env) (S : List Addr) (Spec : Heap → Prop) (s₀ : Shared) (h : Heap) : Flow → Shared → Prop
  | .next, s₃ => TurnEnd base envs S Spec s₀ h s₃
  | .cont, s₃ => TurnEnd base envs S Spec s₀ h s₃
  | .brk, s₃ => Q .next s₃
  | .ret v, s₃ => Q (.ret v) s₃
end
section
variable {prog : Program} {w : World} {A : Around} {env : Env} {target : Expr} {body : List Stmt} {Q : Flow → Shared → Prop} {E : Value → Shared → Prop} {base : Heap} {envs : List Env} {S : List Addr}
theorem For_go {iter : Expr} {pos : Pos} {s : Shared} (h : wpAny (model prog w) A (eval iter env) (fun x s₁ => wpAny (model prog w) A (pyIter x) (LoopGo prog w A env target body Q E) E s₁) E s)
    (hs : ∀ x, foldedSetIterable iter env x = pure x := by intro _; rfl) : wpAny (model prog w) A (exec (.For target iter body [] pos) env) Q E s := wpAny_For h hs
theorem loop_run {I : Addr} {fp : List Addr} {n : Nat} {P : Nat → Value → Prop} {St : Nat → Heap → Prop} {Spec : Nat → Heap → Prop} {s₀ : Shared} (hs : Heap) (hE : PassesOwn (model prog w) A env E) (W : Walks prog w A I fp [I] n P St) (hit : ∀ i h, St i h → IterObj h I)
    (hI : hs.get? I = none) (n36 : I ≠ 36) (hfp : ∀ b ∈ fp, b ∉ S ∧ b ∉ envs.filterMap (·.frame)) (hfr : I ∉ envs.filterMap (·.frame)) (spec : ∀ i h h', Spec i h → NF h h' → Spec i h')
    (turn : ∀ i v h tk, i < n → P i v → St (i + 1) h → KeptB envs S hs h → TabOk base h → Spec i h →
      wpAny (model prog w) A (letOwnedTupleGo target (.ref I) v) (fun _ s₁ => wpAny (model prog w) A (assign target env v) (fun _ s₂ => wpAny (model prog w) A (execs body env) (TurnPost Q base envs S (Spec (i + 1)) s₀ h) E s₂) E s₁) E { s₀ with heap := h, toks := tk })
    (done : ∀ h tk, KeptB envs S hs h → TabOk base h → Spec n h → Q .next { s₀ with heap := h, toks := tk })
    {h₁ : Heap} {tk₁ : Nat} (st0 : St 0 h₁) (k1 : KeptB envs S hs h₁) (t1 : TabOk base h₁) (s1 : Spec 0 h₁) : LoopGo prog w A env target body Q E (.ref I) { s₀ with heap := h₁, toks := tk₁ } := by
  have upd : ∀ {h h'}, UpdI I h h' → KeptB envs S hs h → KeptB envs S hs h' := fun u k => ⟨fun b o e n nS => u.get (fun z => by rw [z, hI] at e; cases e) (k.out b o e n nS), fun b o e hm => by
      obtain ⟨sl, hsl⟩ := k.inn b o e hm
      exact ⟨sl, u.get (fun z => hfr (z ▸ hm)) hsl⟩⟩
  refine for_walks W s₀ (fun i h => KeptB envs S hs h ∧ TabOk base h ∧ Spec i h) (fun i h h' st inv u => ?_) (fun i v h tk hi hv st inv => ?_) (fun h tk inv => ?_) st0 ⟨k1, t1, s1⟩
  · exact ⟨upd u inv.1, UpdI.tab u (hit i h st) (Ne.symm n36) inv.2.1, spec i h h' inv.2.2 (NF.of_upd u (hit i h st))⟩
  · refine wpAny_mono (wpAny_passesOwn hE (turn i v h tk hi hv st inv.1 inv.2.1 inv.2.2)) (fun _ s₁ q => wpAny_mono (wpAny_passesOwn hE q) (fun _ s₂ q => wpAny_mono (wpAny_passesOwn hE q) (fun f s₃ q => ?_) fun _ _ x => x) fun _ _ x => x) fun _ _ x => x
    have fin : TurnEnd base envs S (Spec (i + 1)) s₀ h s₃ → ∃ h' tk', s₃ = { s₀ with heap := h', toks := tk' } ∧ St (i + 1) h' ∧ KeptB envs S hs h' ∧ TabOk base h' ∧ Spec (i + 1) h' := by
      intro rx3
      refine hide fun P' hP' => ?_
      obtain ⟨h', tk', e, k, t, sp⟩ := rx3
      refine hP' ?_
      clear hP'
      exact ⟨h', tk', e, W.frame _ _ _ st fun b hb o e => k.out b o e (hfp b hb).2 (hfp b hb).1, inv.1.trans k, t, sp⟩
    cases f with
    | next => exact fin q
    | cont => exact fin q
    | brk => exact q
    | ret v => exact q
  · exact wpAny_execs_nil (done h tk inv.1 inv.2.1 inv.2.2)
section
variable {s : Shared} {Spec : Nat → Heap → Prop} (hE : PassesOwn (model prog w) A env E) (hh : A.handled = none) (hfr : ∀ b ∈ envs.filterMap (·.frame), b < s.heap.objs.size) (h36 : 36 < s.heap.objs.size) (tab : TabOk base s.heap)
  (spec : ∀ i h h', Spec i h → NF h h' → Spec i h') (s1 : Spec 0 s.heap)
include hE hh hfr h36 tab spec s1
theorem push_start {o : Obj} (hv : ∀ b o', s.heap.get? b = some o' → b ≠ s.heap.objs.size := fun _ _ e => Nat.ne_of_lt (Heap.lt_size e)) : s.heap.get? s.heap.objs.size = none ∧ s.heap.objs.size ≠ 36 ∧ s.heap.objs.size ∉ envs.filterMap (·.frame) ∧ KeptB envs S s.heap (s.heap.push o) ∧ TabOk base (s.heap.push o) ∧ Spec 0 (s.heap.push o) :=
  ⟨Heap.get?_none_of_le (Nat.le_refl _), (Nat.ne_of_lt h36).symm, fun hm => absurd (hfr _ hm) (Nat.lt_irrefl _), .of_stays fun _ _ e => Heap.get?_push_of_some _ e,
    tab.keeps (fun _ e => Heap.get?_push_of_some _ e) fun _ _ _ _ _ e _ _ _ => Heap.get?_push_of_some _ e, spec 0 _ _ s1 (.of_stays fun _ _ e => Heap.get?_push_of_some _ e)⟩
theorem loop_list {l : Addr} {items : Array Value} (hS : ∀ b ∈ S, b < s.heap.objs.size) (hl : s.heap.IsList l items) (hlS : l ∉ S ∧ l ∉ envs.filterMap (·.frame))
    (turn : ∀ i v h tk I, s.heap.objs.size ≤ I → i < items.size → items[i]? = some v → h.IsListIter I l (i + 1) → KeptB envs S s.heap h → TabOk base h → Spec i h →
      wpAny (model prog w) A (letOwnedTupleGo target (.ref I) v) (fun _ s₁ => wpAny (model prog w) A (assign target env v) (fun _ s₂ => wpAny (model prog w) A (execs body env) (TurnPost Q base envs S (Spec (i + 1)) s h) E s₂) E s₁) E { s with heap := h, toks := tk })
    (done : ∀ h tk, KeptB envs S s.heap h → TabOk base h → Spec items.size h → Q .next { s with heap := h, toks := tk }) :
    wpAny (model prog w) A (pyIter (.ref l)) (LoopGo prog w A env target body Q E) E s := by
  refine hide fun P' hP' => ?_
  obtain ⟨q1, q2, q3, q4, q5, q6⟩ := push_start (S := S) (o := { cls := .type "list_iterator", data := .fields #[.ref l, .int 0 0] }) hE hh hfr h36 tab spec s1
  refine hP' ?_
  clear hP'
  refine wpAny_pyIter_list hl ?_
  have hne : l ≠ s.heap.objs.size := Nat.ne_of_lt (let ⟨_, ho, _⟩ := hl; Heap.lt_size ho)
  refine loop_run (s₀ := s) s.heap hE (Walks.list hh s.heap.objs.size l hne items) (fun i h st => IterObj.list st.1) q1 q2 (fun b hb => ?_) q3 spec (fun i v h tk hi hv st k t sp => turn i v h tk _ (Nat.le_refl _) hi hv st.1 k t sp) done
    ⟨⟨_, Heap.get?_push_size _ rfl, rfl, rfl⟩, hl.at fun _ e => Heap.get?_push_of_some _ e⟩ q4 q5 q6
  rcases List.mem_cons.mp hb with rfl | hb
  · exact ⟨fun q => absurd (hS _ q) (Nat.lt_irrefl _), q3⟩
  · rw [List.mem_singleton.mp hb]; exact hlS
theorem loop_str {x : Str} {t : Tok} (ha : (x.cps.all (· < 128)) = true) (hS : ∀ b ∈ S, b < s.heap.objs.size)
    (turn : ∀ i c u h tk I, x.cps[i]? = some c → KeptB envs S s.heap h → TabOk base h → Spec i h →
      wpAny (model prog w) A (letOwnedTupleGo target (.ref I) (.str ⟨#[c]⟩ u)) (fun _ s₁ => wpAny (model prog w) A (assign target env (.str ⟨#[c]⟩ u)) (fun _ s₂ => wpAny (model prog w) A (execs body env) (TurnPost Q base envs S (Spec (i + 1)) s h) E s₂) E s₁) E { s with heap := h, toks := tk })
    (done : ∀ h tk, KeptB envs S s.heap h → TabOk base h → Spec x.cps.size h → Q .next { s with heap := h, toks := tk }) :
    wpAny (model prog w) A (pyIter (.str x t)) (LoopGo prog w A env target body Q E) E s := by
  refine hide fun P' hP' => ?_
  obtain ⟨q1, q2, q3, q4, q5, q6⟩ := push_start (S := S) (o := { cls := .type "str_ascii_iterator", data := .fields #[.str x t, .int 0 0] }) hE hh hfr h36 tab spec s1
  refine hP' ?_
  clear hP'
  refine wpAny_pyIter_ascii ha ?_
  refine loop_run (s₀ := s) s.heap hE (Walks.strAscii hh s.heap.objs.size x t) (fun i h st => IterObj.str st) q1 q2 (fun b hb => ?_) q3 spec (fun i v h tk hi hv st k t sp => ?_) done
    ⟨_, Heap.get?_push_size _ rfl, rfl, rfl⟩ q4 q5 q6
  · rw [List.mem_singleton.mp hb]
    exact ⟨fun q => absurd (hS _ q) (Nat.lt_irrefl _), q3⟩
  · refine hide fun P' hP' => ?_
    obtain ⟨c, u, hc, rfl⟩ := hv
    refine hP' ?_
    clear hP'
    exact turn i c u h tk _ hc k t sp
theorem loop_range {r : Addr} {a b : Int} {t u v : Tok} {n : Nat} (hr : IsRange s.heap r a b 1 t u v) (hsmall : Builtin.Range.small a b 1 = true) (hn : Builtin.Range.rangeSize a b 1 = (n : Int)) (hS : ∀ b ∈ S, b < s.heap.objs.size)
    (turn : ∀ i u h tk I, i < n → KeptB envs S s.heap h → TabOk base h → Spec i h →
      wpAny (model prog w) A (letOwnedTupleGo target (.ref I) (.int (a + i * 1) u)) (fun _ s₁ => wpAny (model prog w) A (assign target env (.int (a + i * 1) u)) (fun _ s₂ => wpAny (model prog w) A (execs body env) (TurnPost Q base envs S (Spec (i + 1)) s h) E s₂) E s₁) E { s with heap := h, toks := tk })
    (done : ∀ h tk, KeptB envs S s.heap h → TabOk base h → Spec n h → Q .next { s with heap := h, toks := tk }) :
    wpAny (model prog w) A (pyIter (.ref r)) (LoopGo prog w A env target body Q E) E s := by
  refine hide fun P' hP' => ?_
  obtain ⟨q1, q2, q3, q4, q5, q6⟩ := push_start (S := S) (o := { cls := .type "range_iterator", data := .fields #[rawInt a, rawInt (Builtin.Range.rangeSize a b 1), rawInt 1] }) hE hh hfr h36 tab spec s1
  refine hP' ?_
  clear hP'
  refine wpAny_pyIter_range hr hsmall ?_
  refine loop_run (s₀ := s) s.heap hE (Walks.range hh s.heap.objs.size a 1 n) (fun i h st => IterObj.range st) q1 q2 (fun b hb => ?_) q3 spec (fun i v h tk hi hv st k t sp => ?_) done
    (by show IsRangeIter _ _ _ _ _; rw [hn]; simpa using Heap.get?_push_size _ rfl) q4 q5 q6
  · rw [List.mem_singleton.mp hb]
    exact ⟨fun q => absurd (hS _ q) (Nat.lt_irrefl _), q3⟩
  · refine hide fun P' hP' => ?_
    obtain ⟨u, rfl⟩ := hv
    refine hP' ?_
    clear hP'
    exact turn i u h tk _ hi k t sp
end
end
end Mine
end
section
open PySem PySem.W PyProof.Rows
set_option Elab.async false
namespace Mine
theorem kept_pop {env : Env} {envs : List Env} {L : Addr} {h h' : Heap} (hf : env.frame = some L) (k : Kept (env :: envs) h h') : KeptB envs [36, L] h h' := by
  have hm : ∀ b, b ∈ (env :: envs).filterMap (·.frame) ↔ b = L ∨ b ∈ envs.filterMap (·.frame) := fun b => by
    rw [List.filterMap_cons, hf, List.mem_cons]
  refine ⟨fun b o e n nS => k.out b o e (fun q => ?_) fun z => nS (by simp [z]), fun b o e q => k.inn b o e ((hm b).mpr (.inr q))⟩
  rcases (hm b).mp q with z | z
  · exact nS (by simp [z])
  · exact n z
theorem kept_ns {env : Env} {envs : List Env} {L : Addr} {h h' : Heap} {m : Str → Option Value} (hf : env.frame = some L) (k : Kept (env :: envs) h h') (n : h.Ns L m) : h'.Ns L m := by
  refine hide fun P' hP' => ?_
  obtain ⟨o, es, ep, ho, hd, r⟩ := n
  obtain ⟨sl, hs⟩ := k.inn L o ho (by rw [List.filterMap_cons, hf]; exact .head _)
  refine hP' ?_
  clear hP'
  exact ⟨_, es, ep, hs, hd, r⟩
theorem mro_ve : mroOf (.type "ValueError") = pure [.type "ValueError", .type "Exception", .type "BaseException", .type "object"] := by rw [mroOf_type]; kernel_rfl
section
variable {prog : Program} {w : World} {A : Around} {E : Value → Shared → Prop} {s : Shared} {K : Frag} {e t0 N : Addr} {oe : Obj} {ws : Array Value} {nm q : Str} {bs : List Value} {hdct : Bool} {sn : List Str} {sub : List Value} {ab : Bool} {col : Option Bool} {dd : Option Addr} {k0 k1 k2 k3 k5 : Option Value} {newId : String}
theorem str_toml (X : K.In s.heap) (ho : K.lookup 24 = some (excClassObj nm q 24 N bs [.type "ValueError", .type "Exception", .type "BaseException", .type "object"] hdct sn sub ab col dd k0 k1 k2 k3 k5 newId)) (hok : nsOkIn K N = true) (hns : nsIn K N "__str__" = some none)
    (he : ∃ oe ws, s.heap.get? e = some oe ∧ oe.cls = .ref 24 ∧ oe.data = .fields ws ∧ ws[0]? = some (.ref t0)) {m : Str} {u : Tok} (ht : s.heap.TupAt t0 [.str m u]) (hu : A.units + 2 < cLine) {Q : Value → Shared → Prop} (hq : Q (.str m u) s) :
    wpAny (model prog w) A (call (.type "str") [.ref e]) Q E s := by
  refine hide fun P' hP' => ?_
  obtain ⟨hp, g, d, tk, os⟩ := s
  obtain ⟨oe, ws, he, hc, hd, h0⟩ := he
  refine hP' ?_
  clear hP'
  exact str_own (X _ _ ho) (.of_isNs (isNs_of_in X hok)) (nsMap_none_of_in X hok hns) mro_ve (by decide) he hc hd h0 ht hu hq
end
end Mine
end
section
open PySem PySem.W PyProof.Rows
set_option Elab.async false
namespace Mine
theorem ns_pair {h : Heap} {L : Addr} {m : Str → Option Value} (n : h.Ns L m) (w p t u) : h.get? L ≠ some (pairObj w p t u) := fun e => by
  refine hide fun P' hP' => ?_
  obtain ⟨o, es, ep, ho, hd, _⟩ := n
  refine hP' ?_
  clear hP'
  rw [e] at ho; cases ho; cases hd
section
variable {prog : Program} {w : World} {A : Around} {E : Value → Shared → Prop} {R : Result → Shared → Prop} {s : Shared} {env : Env}
theorem codeAny_compLoop_any {elt target iter : Expr} {scope : Scope} {pos : Pos} {it acc : Value} {env : Env} (I : Nat → Shared → Prop)
    (turn : ∀ n s, I n s → wpAny (model prog w) A (pyNext it) (fun r s₁ => match r with
      | none => R (.ok .next) s₁
      | some v => wpAny (model prog w) A (letOwnedTupleGo target it v) (fun _ s₁' => wpAny (model prog w) A (assign target env v) (fun _ s₂ => wpAny (model prog w) A (eval elt env) (fun x s₃ =>
          wpAny (model prog w) A (call (.builtin "list.append") [acc, x]) (fun _ s₄ => ∃ m, m < n ∧ I m s₄) (notedBy (model prog w) A env fun e s' => R (.error e) s') s₃)
          (notedBy (model prog w) A env fun e s' => R (.error e) s') s₂) (notedBy (model prog w) A env fun e s' => R (.error e) s') s₁') (notedBy (model prog w) A env fun e s' => R (.error e) s') s₁) (notedBy (model prog w) A env fun e s' => R (.error e) s') s)
    (n : Nat) (h : I n s) :
    codeAny (model prog w) A (.compLoop (.ListComp elt [⟨target, iter, [], 0⟩] scope pos) 0 it acc env) R s := by
  refine codeAny_loop rfl I (fun n s hI => ?_) n h
  show wpAny _ _ ((compTurn (.ListComp elt [⟨target, iter, [], 0⟩] scope pos) 0 it acc env).onRaise (fun x => do noteFrame x env; theTreesLotGoes x)) _ _ s
  refine wpAny_noted ?_
  rw [compTurn_list1]
  refine wpAny_bind (wpAny_standAt (wpAny_bind (wpAny_mono (turn n s hI) (fun r s₁ h₁ => ?_) fun _ _ h' => h')))
  cases r with
  | none => exact wpAny_pure h₁
  | some v =>
    refine wpAny_bind (wpAny_mono h₁ (fun _ s₁' h₁' => ?_) fun _ _ h' => h')
    exact wpAny_bind (wpAny_mono h₁' (fun _ s₂ h₂ => wpAny_bind (wpAny_bind (wpAny_mono h₂ (fun x s₃ h₃ => wpAny_bind (wpAny_mono h₃
      (fun _ s₄ h₄ => wpAny_pure (wpAny_pure ⟨rfl, h₄⟩)) fun _ _ h' => h')) fun _ _ h' => h'))) fun _ _ h' => h')
theorem strs_snoc {vs : List Value} {ys : List Str} {y : Str} {t : Tok} : StrsAre vs ys → StrsAre (vs ++ [.str y t]) (ys ++ [y])
  | .nil => .cons _ _ .nil
  | .cons a b r => .cons a b (strs_snoc r)
theorem strs_len {vs : List Value} {ys : List Str} : StrsAre vs ys → vs.length = ys.length
  | .nil => rfl
  | .cons _ _ r => congrArg (· + 1) (strs_len r)
theorem compLoop_firsts {x y : Str} {px px' py pt pos : Pos} {k : Nat} {iter : Expr} {scope : Scope} {I l D : Addr} {cenv : Env} {items : List Value} {ds : List (Str × Int)} {m : Str → Option Value}
    (hh : A.handled = none) (hx : cenv.kindOf x = some .local) (hy : cenv.kindOf y = some .local) (hxy : x ≠ y)
    (hld : ∀ (s : Shared) (m : Str → Option Value) (v : Value) (Q E : Value → Shared → Prop), s.heap.Ns cenv.locals m → m x = some v → Q v s → wpAny (model prog w) A (eval (.Name x px) cenv) Q E s)
    (hp : (cenv.scope.kind == .class || (cenv.scope.kind == .module && cenv.locals != cenv.globals)) = false)
    (hDI : D ≠ I) (hDC : D ≠ cenv.locals) (hIC : I ≠ cenv.locals) (hlI : l ≠ I) (hlC : l ≠ cenv.locals) (hlD : l ≠ D)
    (hT : ∀ T a b c d, s.heap.get? T = some (pairObj a b c d) → T ≠ I ∧ T ≠ cenv.locals ∧ T ≠ D)
    (hit : s.heap.IsListIter I l 0) (hl : s.heap.IsList l items.toArray) (hps : PairsAre s.heap items ds) (hacc : s.heap.PlainList D #[]) (hn : s.heap.Ns cenv.locals m)
    (hR : ∀ h' tk m' ys, h'.Ns cenv.locals m' → h'.PlainList D (List.toArray ys) → StrsAre ys (ds.map (·.1)) →
      (∀ b o, b ≠ cenv.locals → b ≠ I → b ≠ D → s.heap.get? b = some o → h'.get? b = some o) → R (.ok .next) { s with heap := h', toks := tk })
    (hsz : items.length ≤ sizeLine) :
    codeAny (model prog w) A (.compLoop (.ListComp (.Name x px) [⟨.Tuple [.Name x px', .Name y py] k pt, iter, [], 0⟩] scope pos) 0 (.ref I) (.ref D) cenv) R s := by
  refine codeAny_compLoop_any
    (fun k s' => ∃ h' tk m' ys i, s' = { s with heap := h', toks := tk } ∧ h'.IsListIter I l i ∧ h'.PlainList D (List.toArray ys) ∧ h'.Ns cenv.locals m' ∧
      StrsAre ys ((ds.take i).map (·.1)) ∧ i ≤ items.length ∧ k = items.length + 1 - i ∧
      ∀ b o, b ≠ cenv.locals → b ≠ I → b ≠ D → s.heap.get? b = some o → h'.get? b = some o) ?_ (items.length + 1)
    ⟨s.heap, s.toks, m, [], 0, rfl, hit, hacc, hn, .nil, Nat.zero_le _, rfl, fun _ _ _ _ _ e => e⟩
  intro k s' rx1
  refine hide fun P' hP' => ?_
  obtain ⟨H, tk, m', ys, i, rfl, hit', hacc', hn', hF, hi, rfl, hk⟩ := rx1
  refine hP' ?_
  clear hP'
  have hl' : H.IsList l items.toArray := hl.at fun o e => hk l o hlC hlI hlD e
  rcases Nat.lt_or_ge i items.length with hlt | hge
  · refine hide fun P' hP' => ?_
    obtain ⟨d, hd, T, t1, u1, hv, hTo⟩ := hps.get (i := i) (v := items[i]) (by simp [hlt])
    obtain ⟨n1, n2, n3⟩ := hT _ _ _ _ _ hTo
    refine hP' ?_
    clear hP'
    refine wpAny_pyNext_list_item hit' hl' (x := .ref T) (by simp [hlt, hv]) fun h₁ hit₁ hs₁ => ?_
    dsimp only
    refine wpAny_letOwnedTupleGo_listiter hit₁ ?_
    have hT₁ : h₁.get? T = some (pairObj d.1 d.2 t1 u1) := hs₁.extBut _ _ n1 (hk T _ n2 n1 n3 hTo)
    refine assign_Tuple_tuple hh (items := #[.str d.1 t1, .int d.2 u1]) ⟨_, hT₁, rfl, _, rfl⟩ rfl rfl fun h₂ he₂ => ?_
    have up₂ : ∀ {b o}, h₁.get? b = some o → h₂.get? b = some o := fun {b o} e => he₂ b o (Nat.ne_of_lt (Heap.lt_size e)) e
    refine wpAny_assignInOrder_more (wpAny_assign_Name (wpAny_storeName_local hx (((hn'.extBut hs₁.extBut (Ne.symm hIC)).at' fun o e => up₂ e)) (fun h₃ hn₃ hs₃ => ?_) hp))
    refine wpAny_assignInOrder_more (wpAny_assign_Name (wpAny_storeName_local hy hn₃ (fun h₄ hn₄ hs₄ => ?_) hp))
    refine wpAny_assignInOrder_none ?_
    refine hld _ _ (.str d.1 t1) _ _ hn₄ (by simp [hxy]) ?_
    have up₄ : ∀ {b o}, b ≠ cenv.locals → b ≠ I → H.get? b = some o → h₄.get? b = some o := fun n1 n2 e => hs₄.extBut _ _ n1 (hs₃.extBut _ _ n1 (up₂ (hs₁.extBut _ _ n2 e)))
    have hlen : ys.length = i := by
      rw [strs_len hF, List.length_map, List.length_take, ← hps.length]; omega
    refine wpAny_list_append_plain (items := ys.toArray) (hsz := by simp [hlen]; omega) (hacc'.at fun o e => up₄ hDC hDI e) fun h₅ hl₅ hs₅ => ?_
    refine ⟨items.length + 1 - (i + 1), by omega, h₅, _, _, ys ++ [.str d.1 t1], i + 1, rfl, ?_, ?_, hn₄.sameBut hs₅ (Ne.symm hDC), ?_, hlt, rfl, fun b o hbC hbI hbD e => hs₅.extBut b o hbD (up₄ hbC hbI (hk b o hbC hbI hbD e))⟩
    · exact ((hit₁.at fun o e => up₂ e).at fun o e => hs₄.extBut _ _ hIC (hs₃.extBut _ _ hIC e)).at fun o e => hs₅.extBut _ _ (Ne.symm hDI) e
    · rw [← List.push_toArray]; exact hl₅
    · rw [List.take_add_one, hd]
      simpa using strs_snoc hF
  · obtain rfl : i = items.length := Nat.le_antisymm hi hge
    refine wpAny_pyNext_list_end hh hit' hl' (by simp) fun h₁ he₁ => ?_
    refine hR h₁ tk m' ys (hn'.extBut he₁ (Ne.symm hIC)) (hacc'.at fun o e => he₁ _ _ hDI e) ?_ fun b o hbC hbI hbD e => he₁ b o hbI (hk b o hbC hbI hbD e)
    rwa [hps.length, List.take_length] at hF
def FirstsOf (s₁ : Shared) (Q : Value → Shared → Prop) (xv : Value) : Prop := ∃ l items ds, xv = .ref l ∧ s₁.heap.IsList l (List.toArray items) ∧ items.length ≤ sizeLine ∧ PairsAre s₁.heap items ds ∧
      ∀ D h' tk ys, s₁.heap.get? D = none → h'.PlainList D (List.toArray ys) → StrsAre ys (ds.map (·.1)) → s₁.heap.StaysIn h' → Q (.ref D) { s₁ with heap := h', toks := tk }
theorem ListComp_firsts {x y : Str} {px px' py pt pos : Pos} {k : Nat} {iter : Expr} {scope : Scope} {Q : Value → Shared → Prop}
    (hh : A.handled = none) (hx : scope.names.lookup x = some .local) (hy : scope.names.lookup y = some .local) (hxy : x ≠ y) (hxd : (x == ("__debug__" : Str)) = false)
    (hfree : ∀ y ∈ scope.names, y.2 ≠ .free) (hcell : ∀ y ∈ scope.names, y.2 ≠ .cell) (hkind : scope.kind = .function)
    (hnames : ∀ y ∈ scope.names, y.2 = .local → scope.names.lookup y.1 = some .local)
    (h : wpAny (model prog w) A (eval iter env) (fun xv s₁ => FirstsOf s₁ Q xv) E s)
    (hs : ∀ x, foldedSetIterable iter env x = pure x := by intro _; rfl) :
    wpAny (model prog w) A (eval (.ListComp (.Name x px) [⟨.Tuple [.Name x px', .Name y py] k pt, iter, [], 0⟩] scope pos) env) Q E s := by
  refine wpAny_ListComp hfree hkind hnames (wpAny_mono h (fun xv s₁ h₁ => ?_) fun _ _ e => e) hs
  refine hide fun P' hP' => ?_
  obtain ⟨l, items, ds, rfl, hl, hsz, hps, hQ⟩ := h₁
  refine hP' ?_
  clear hP'
  have ltl : l < s₁.heap.objs.size := let ⟨_, ho, _⟩ := hl; Heap.lt_size ho
  refine wpAny_pyIter_list hl ?_
  refine wpAny_newObj_type (wpAny_newFunctionEnv hcell (by intro y hy; simp at hy) (fun h₁ hns₁ hsb₁ => ?_) hkind)
  dsimp only at hns₁ hsb₁ ⊢
  generalize hH1 : s₁.heap.push { cls := .type "list_iterator", data := .fields #[.ref l, .int 0 0] } = H1 at hns₁ hsb₁ ⊢
  have hI : H1.objs.size = s₁.heap.objs.size + 1 := by rw [← hH1, Heap.size_push]
  generalize hH2 : H1.push { cls := .type "list", dict := none, data := .seq ([] : List Value).toArray } = H2 at hns₁ hsb₁ ⊢
  have hC : H2.objs.size = s₁.heap.objs.size + 2 := by rw [← hH2, Heap.size_push, hI]
  have old : ∀ b o, s₁.heap.get? b = some o → h₁.get? b = some o := fun b o e => hsb₁.extBut b o (by rw [hC]; exact Nat.ne_of_lt (Nat.lt_of_lt_of_le (Heap.lt_size e) (Nat.le_add_right _ _)))
    (Heap.get?_push_of_some _ (hH2 ▸ Heap.get?_push_of_some _ (hH1 ▸ Heap.get?_push_of_some _ e)))
  have hit : h₁.IsListIter s₁.heap.objs.size l 0 := ⟨_, hsb₁.extBut _ _ (by rw [hC]; exact Nat.ne_of_lt (by omega)) (Heap.get?_push_of_some _ (hH2 ▸ Heap.get?_push_of_some _ (hH1 ▸ Heap.get?_push_size _ rfl))), rfl, rfl⟩
  have hacc : h₁.PlainList H1.objs.size #[] := ⟨_, hsb₁.extBut _ _ (by rw [hC, hI]; exact Nat.ne_of_lt (by omega)) (Heap.get?_push_of_some _ (hH2 ▸ Heap.get?_push_size _ rfl))⟩
  have dI : H1.objs.size ≠ s₁.heap.objs.size := by rw [hI]; exact Nat.ne_of_gt (by omega)
  have dC : H1.objs.size ≠ H2.objs.size := by rw [hI, hC]; exact Nat.ne_of_lt (by omega)
  have iC : s₁.heap.objs.size ≠ H2.objs.size := by rw [hC]; exact Nat.ne_of_lt (by omega)
  have below : ∀ {b o}, s₁.heap.get? b = some o → b ≠ H2.objs.size ∧ b ≠ s₁.heap.objs.size ∧ b ≠ H1.objs.size := fun e => by
    rw [hI, hC]
    exact ⟨Nat.ne_of_lt (Nat.lt_of_lt_of_le (Heap.lt_size e) (Nat.le_add_right _ _)), Nat.ne_of_lt (Heap.lt_size e), Nat.ne_of_lt (Nat.lt_of_lt_of_le (Heap.lt_size e) (Nat.le_add_right _ _))⟩
  have loop : ∀ s₃ : Shared, s₃ = { s₁ with heap := h₁, toks := s₁.toks + ([] : List (Str × Value)).length } →
      codeAny (model prog w) A (.compLoop (.ListComp (.Name x px) [⟨.Tuple [.Name x px', .Name y py] k pt, iter, [], 0⟩] scope pos) 0 (.ref s₁.heap.objs.size) (.ref H1.objs.size) (compEnv scope H2.objs.size env))
        (fun r s' => ∃ m, s'.heap.Ns H2.objs.size m ∧ ∀ h', Heap.SameBut H2.objs.size s'.heap h' →
          match r with | .ok _ => Q (.ref H1.objs.size) { s' with heap := h' } | .error x => wpAny (model prog w) A (passOn "comprehension.variables-let-go" x (compEnv scope H2.objs.size env)) Q E { s' with heap := h' }) s₃ := by
    rintro s₃ rfl
    have nT : ∀ T a b c d, h₁.get? T = some (pairObj a b c d) → T ≠ s₁.heap.objs.size ∧ T ≠ H2.objs.size ∧ T ≠ H1.objs.size := fun T a b c d e => by
      refine ⟨fun z => ?_, fun z => ns_pair hns₁ _ _ _ _ (z ▸ e), fun z => ?_⟩
      · refine hide fun P' hP' => ?_
        obtain ⟨o, ho, _, hd⟩ := hit
        refine hP' ?_
        clear hP'
        rw [← z, e] at ho; cases ho; cases hd
      · obtain ⟨n, ho⟩ := hacc
        rw [← z, e] at ho
        exact absurd (Value.type.inj (congrArg Obj.cls (Option.some.inj ho))) (by decide)
    refine hide fun P' hP' => ?_
    obtain ⟨ol, hol, _⟩ := id hl
    obtain ⟨b1, b2, b3⟩ := below hol
    refine hP' ?_
    clear hP'
    refine compLoop_firsts (cenv := compEnv scope H2.objs.size env) hh hx hy hxy (fun s m v Q E hn hv hq => wpAny_Name (wpAny_loadName_local hkind hx hn hv hq) hxd) (by simp [compEnv, hkind]) dI dC iC b2 b1 b3 nT hit
      (hl.at fun o e => old _ _ e) (hps.keeps fun b t u w q e => old b _ e) hacc hns₁ (fun h' tk m' ys hn hpl hF hk => ?_) hsz
    refine ⟨m', hn, fun h'' hs'' => hQ H1.objs.size h'' tk ys (Heap.get?_none_of_le (by rw [hI]; omega)) (hpl.at fun o e => hs''.extBut _ _ dC e) hF fun b o e => ?_⟩
    refine hide fun P' hP' => ?_
    obtain ⟨c1, c2, c3⟩ := below e
    refine hP' ?_
    clear hP'
    exact hs''.extBut _ _ c1 (hk b o c1 c2 c3 (old b o e))
  exact codeAny_compStart_list (loop _ rfl) (wpAny_pyIter_listiter hit (loop _ rfl))
end
end Mine
end
section
open PySem PySem.W PyProof.Rows
set_option Elab.async false
namespace Mine
theorem noFillI_list : fillsInplaceSlot (.type "list") "add" (Operator.Add == .Add) = pure false := by
  unfold fillsInplaceSlot
  show (typeLookup (.type "list") (dunderI "add") >>= fun fi => pure (fi.isSome && !isSeqSlot fi)) = pure false
  rw [PySem.F.slot_list_iadd.lookup]
  show (pure (true && !isSeqSlot (some (.builtin "list.__iadd__"))) : Sem Bool) = pure false
  rw [show isSeqSlot (some (.builtin "list.__iadd__")) = true from by decide +kernel]; rfl
theorem seqI_list : seqSlot? (.type "list") (dunderI "add") = pure (some (.builtin "list.__iadd__")) := by
  unfold seqSlot?
  rw [PySem.F.slot_list_iadd.lookup]
  simp only [pure_bind]
  rw [show isSeqSlot (some (.builtin "list.__iadd__")) = true from by decide +kernel]
  rfl
section
variable {prog : Program} {w : World} {A : Around} {E : Value → Shared → Prop} {s : Shared}
theorem inplace_list {l b : Addr} {xs ys : Array Value} {n k : Nat} {Q : Value → Shared → Prop} (hl : s.heap.get? l = some { cls := .type "list", data := .seq xs n }) (hb : s.heap.get? b = some { cls := .type "list", data := .seq ys k })
    (hsz : xs.size + ys.size ≤ sizeLine) (h : ∀ h', h'.PlainList l (xs ++ ys) → Heap.SameBut l s.heap h' → Q (.ref l) { s with heap := h' }) : wpAny (model prog w) A (inplaceOp .Add (.ref l) (.ref b)) Q E s := by
  have ta : s.TypeIs (.ref l) "list" := ⟨_, hl, rfl⟩
  have tb : s.TypeIs (.ref b) "list" := ⟨_, hb, rfl⟩
  unfold inplaceOp
  refine wpAny_holding ?_
  refine wpAny_bind (wpAny_typeOf ta (wpAny_bind (wpAny_of_eq noFillI_list ?_)))
  show wpAny _ A (if false = true then _ else _) Q E s
  rw [if_neg Bool.false_ne_true]
  refine wpAny_bind (wpAny_binaryOp1_none (nm := "add") ta tb noFill_list_add ?_)
  refine wpAny_bind (wpAny_of_eq seqI_list ?_)
  refine wpAny_bind (wpAny_rule ?_)
  refine call_meets PySem.F.slot_list_iadd ta PySem.F.entry_list_iadd (PySem.F.args_list_iadd_2 _ _) (AutoSeq1.list___iadd___list_list_0 l xs n b ys k (extend_door hsz) (Nat.le_trans (Nat.le_add_right _ _) hsz)) ⟨hl, hb, ?_⟩
  have ho' : (s.heap.update l (Obj.mapSeq fun x => x ++ ys)).get? l = some { cls := .type "list", data := .seq (xs ++ ys) (if (xs ++ ys).size == xs.size then n else n + 1) } := by
    rw [Heap.get?_update_self _ hl (by rw [mapSeq_app]; rfl), mapSeq_app]
  exact h _ ⟨_, ho'⟩ (Heap.SameBut.update ..)
end
end Mine
end
section
open PySem PySem.W PyProof.Rows
set_option Elab.async false
namespace Mine
section
variable {prog : Program} {w : World} {A : Around} {env : Env} {test : Expr} {body : List Stmt} {Q : Flow → Shared → Prop} {E : Value → Shared → Prop} {s : Shared}
def WhileEnd (J : Nat → Shared → Prop) (n : Nat) (s : Shared) : Prop := ∃ m, m < n ∧ J m s
def WhilePost (Q : Flow → Shared → Prop) (J : Nat → Shared → Prop) (n : Nat) : Flow → Shared → Prop
  | .next, s => WhileEnd J n s
  | .cont, s => WhileEnd J n s
  | .brk, s => Q .next s
  | .ret v, s => Q (.ret v) s
theorem While_inv {pos : Pos} (J : Nat → Shared → Prop)
    (turn : ∀ n s, J n s → wpAny (model prog w) A (isTrue test env (eval test env)) (fun b s₂ => if b = true then wpAny (model prog w) A (execs body env) (WhilePost Q J n) E s₂ else Q .next s₂) E s) (n : Nat) (h : J n s)
    (hE : PassesOwn (model prog w) A env E := by passes_own) : wpAny (model prog w) A (exec (.While test body [] pos) env) Q E s := by
  refine wpAny_While (codeAny_whileLoop J (fun n s hJ => ?_) n h)
  refine wpAny_mono (wpAny_passesOwn hE (turn n s hJ)) (fun b s₂ q => ?_) fun _ _ x => x
  cases b with
  | true =>
    simp only [if_true] at q ⊢
    refine wpAny_mono (wpAny_passesOwn hE q) (fun f s₃ q => ?_) fun _ _ x => x
    cases f <;> exact q
  | false =>
    simp only [Bool.false_eq_true, if_false] at q ⊢
    exact wpAny_execs_nil q
/-- While_inv, what is wanted behind the turn hidden -/
theorem While_seal {pos : Pos} (J : Nat → Shared → Prop)
    (turn : ∀ n s, J n s → ∀ (Q' : Flow → Shared → Prop) (Q0 : Shared → Prop) (E' : Value → Shared → Prop), PassesOwn (model prog w) A env E' → (∀ f s', WhilePost Q J n f s' → Q' f s') → (∀ s', Q .next s' → Q0 s') →
      wpAny (model prog w) A (isTrue test env (eval test env)) (fun b s₂ => if b = true then wpAny (model prog w) A (execs body env) Q' E' s₂ else Q0 s₂) E' s) (n : Nat) (h : J n s)
    (hE : PassesOwn (model prog w) A env E := by passes_own) : wpAny (model prog w) A (exec (.While test body [] pos) env) Q E s :=
  While_inv J (fun n s hJ => turn n s hJ _ _ E hE (fun _ _ x => x) fun _ x => x) n h hE
def NoTurn (Q : Flow → Shared → Prop) (b : Bool) (s₂ : Shared) : Prop := b = false ∧ Q .next s₂
/-- a while whose test is false at once -/
theorem While_none {pos : Pos} (h : wpAny (model prog w) A (isTrue test env (eval test env)) (NoTurn Q) E s) (hE : PassesOwn (model prog w) A env E := by passes_own) :
    wpAny (model prog w) A (exec (.While test body [] pos) env) Q E s := by
  refine While_inv (fun n s' => s' = s) (fun n s' e => ?_) 0 rfl hE
  subst e
  refine wpAny_mono h (fun b s₂ q => ?_) fun _ _ x => x
  refine hide fun P' hP' => ?_
  obtain ⟨rfl, q⟩ := q
  refine hP' ?_
  clear hP'
  simpa using q
end
section
variable {prog : Program} {w : World} {A : Around} {E : Value → Shared → Prop} {s : Shared}
theorem strs_get {vs : List Value} {ss : List Str} (h : StrsAre vs ss) : ∀ {i : Nat} {x : Str}, ss[i]? = some x → ∃ t, vs[i]? = some (.str x t) := by
  induction h with
  | nil => intro i x e; simp at e
  | cons y t r ih =>
    intro i x e
    cases i with
    | zero => cases e; exact ⟨t, rfl⟩
    | succ i => exact ih (i := i) e
/-- an item of a list of texts, its place in bounds -/
theorem item_str {value slice : Expr} {l : Addr} {vs : List Value} {ss : List Str} {k : Int} {u : Tok} {x : Str} {Q : Value → Shared → Prop} (hl : s.heap.IsList l vs.toArray) (hS : StrsAre vs ss) (h0 : 0 ≤ k) (hf : k < 2 ^ 63) (hx : ss[k.toNat]? = some x) (h : ∀ t, Q (.str x t) s)
    (hs : subscripted slice false (.ref l) (.int k u) = operate [.ref l, .int k u] (getItem (.ref l) (.int k u)) := by with_unfolding_all rfl) : wpAny (model prog w) A (subscriptTail value slice (.ref l) (.int k u)) Q E s := by
  obtain ⟨t, ht⟩ := strs_get hS hx
  exact tail_any hl.typeIs slot_list_getitem.lookup (wpAny_getItem_list hl h0 hf (by simpa using ht) (h t)) hs
theorem item_out {value slice : Expr} {l : Addr} {xs : Array Value} {k : Int} {u : Tok} {Q : Value → Shared → Prop} (hA : A.handled = none) (hl : s.heap.IsList l xs) (h0 : (xs.size : Int) ≤ k) (hf : k < 2 ^ 63)
    (hE : ∀ h' tk e, Heap.NewExc s.heap h' e "IndexError" → E (.ref e) { s with heap := h', toks := tk })
    (hs : subscripted slice false (.ref l) (.int k u) = operate [.ref l, .int k u] (getItem (.ref l) (.int k u)) := by with_unfolding_all rfl) : wpAny (model prog w) A (subscriptTail value slice (.ref l) (.int k u)) Q E s :=
  tail_any hl.typeIs slot_list_getitem.lookup (wpAny_getItem_list_out hA hl (.inr h0) (by omega) hf hE) hs
end
theorem kept_all {h0 h h' : Heap} {L : Addr} {m : Str → Option Value} (hL : h0.objs.size = L) (K : KeptB [] [] h0 h) (F : Fr (gnd h0 h L) L h' m) (e36 : ∀ o, h.get? 36 = some o → h'.get? 36 = some o) : KeptB [] [] h0 h' := by
  refine ⟨fun b o e _ _ => ?_, fun b o e hm => nomatch hm⟩
  have e1 := K.out b o e (by simp) (by simp)
  by_cases h36 : b = 36
  · subst h36; exact e36 o e1
  · exact F.keep _ _ (gnd_get e1 (hL ▸ Heap.lt_size e) e h36)
end Mine
end
section
open PySem PySem.W PyProof.Rows
set_option Elab.async false
namespace Mine
/-- an exception at hand: its record, its traceback's first entry -/
structure Flies (g h : Heap) (L e T : Addr) (X : String) (f2 f3 : Value) (news : List (Addr × Obj)) : Prop where
  ex : ∃ oe vs, h.get? e = some oe ∧ oe.cls = .type X ∧ oe.data = .fields vs ∧ vs[1]? = some (.ref T) ∧ vs[2]? = some f2
  en : e ≠ L ∧ g.get? e = none
  tb : ∃ oT ts, h.get? T = some oT ∧ oT.data = .fields ts ∧ ts[3]? = some f3
  tn : T ≠ L ∧ g.get? T = none
  ne : T ≠ e
  off : ∀ p ∈ news, p.1 ≠ T
theorem Flies.grow {g h h' : Heap} {L e T : Addr} {X : String} {f2 f3 : Value} {news : List (Addr × Obj)} (x : Flies g h L e T X f2 f3 news) (he : ∀ o, h.get? e = some o → h'.get? e = some o) (ht : ∀ o, h.get? T = some o → h'.get? T = some o) : Flies g h' L e T X f2 f3 news :=
  ⟨let ⟨oe, vs, a, r⟩ := x.ex; ⟨oe, vs, he _ a, r⟩, x.en, let ⟨oT, ts, a, r⟩ := x.tb; ⟨oT, ts, ht _ a, r⟩, x.tn, x.ne, x.off⟩
section
variable {prog : Program} {w : World} {A₀ : Around} {E : Value → Shared → Prop} {s : Shared} {base g h : Heap} {outer : List Env} {L a e T : Addr} {m : Str → Option Value} {name : Str} {scope : Scope} {cd : Value}
  {news : List (Addr × Obj)} {KF : Frag} {p : Program} {loose : List Str} {mean : ExcName → Option Value} {mg mb : Str → Option Value} {X : String} {f2 : Value}
/-- an exception that has no traceback yet is noted in its own frame -/
theorem note_turn {s' : Shared} {Q : Unit → Shared → Prop} {vs : Array Value} {oe : Obj} (K : Below A₀ base outer g) (F : Fr g L h m) (N : News g L h news) (hk : ∀ b o, h.get? b = some o → s'.heap.get? b = some o) (hn : h.get? e = none) (he : s'.heap.get? e = some oe) (hec : oe.cls = .type X) (hed : oe.data = .fields vs) (h1 : vs[1]? = some .none) (h2 : vs[2]? = some f2)
    (XB : KF.In base) (TB : Top p loose mean mg mb base)
    (k : ∀ h' g' T, KtsTurn (outer.filterMap (·.frame)) g g' → Fr g' L h' m → News g' L h' news → Flies g' h' L e T X f2 (rawInt L) news → Below A₀ base outer g' → KF.In g' → Top p loose mean mg mb g' → Q () { s' with heap := h' })
    (hsk : scope.kind = .function := by rfl) :
    wpAny (model prog w) (A₀.deeper (envOf name scope L a cd)) (noteFrame (.ref e) (envOf name scope L a cd)) Q E s' := by
  have K' := K.push (name := name) (a := a) (cd := cd) F hsk
  have hin : ∀ env ∈ (envOf name scope L a cd :: outer), ∀ b, env.frame = some b → b ∈ (envOf name scope L a cd :: outer).filterMap (·.frame) := fun env he b hb => List.mem_filterMap.mpr ⟨env, he, hb⟩
  have hFF : s'.heap.FunFrames (hideAll h ((envOf name scope L a cd :: outer).filterMap (·.frame))) (envOf name scope L a cd :: outer) :=
    (funFrames_hide K'.frames hin).of_keeps fun b o q _ => ⟨o, hk b o q, rfl⟩
  have hBs : (hideAll h ((envOf name scope L a cd :: outer).filterMap (·.frame))).StaysIn s'.heap := fun b o q => hk b o (of_hideAll _ q)
  have hBe : (hideAll h ((envOf name scope L a cd :: outer).filterMap (·.frame))).get? e = none := kts_none (fun b o q => of_hideAll _ q) hn
  have hBG : ∀ b o, h.get? b = some o → b ∉ (envOf name scope L a cd :: outer).filterMap (·.frame) → (hideAll h ((envOf name scope L a cd :: outer).filterMap (·.frame))).get? b = some o :=
    fun b o q nm => hideAll_get _ q nm
  refine note_first (Around.frames_deeper K.stack) hFF rfl he hBs hBe hed h1 fun h₁ T oT ts b1 b2 b3 b4 b5 b6 b7 b8 b9 => ?_
  refine hide fun P' hP' => ?_
  obtain ⟨g₁, T₁, F₁, K₁⟩ := kts_ground (name := name) (scope := scope) (a := a) (cd := cd) K F hBG b1 ((Heap.UpToSlots.of_keeps hk).trans b9)
  refine hP' ?_
  clear hP'
  have hTf : T ∉ (envOf name scope L a cd :: outer).filterMap (·.frame) := fun hm => by
    refine hide fun P' hP' => ?_
    obtain ⟨_, o, ho, hd⟩ := b2.mem hm
    refine hP' ?_
    clear hP'
    rw [b6] at ho; cases ho
    exact hd _ b7
  have hTn : h.get? T = none := by
    cases q : h.get? T with
    | none => rfl
    | some o => rw [hBG T o q hTf] at b4; cases b4
  have hgT : g.get? T = none := kts_none F.keep hTn
  have hge : g.get? e = none := kts_none F.keep hn
  have neL : ∀ b, h.get? b = none → b ≠ L := fun b hb z => by
    refine hide fun P' hP' => ?_
    obtain ⟨o, _, _, ho, _⟩ := F.ns
    refine hP' ?_
    clear hP'
    rw [← z, hb] at ho; cases ho
  have Nl : News g₁ L h₁ news := fun q hq => by
    refine hide fun P' hP' => ?_
    obtain ⟨n1, n2, n3⟩ := N q hq
    refine hP' ?_
    clear hP'
    have hB := hBG _ _ n1 fun hm => by
      rcases kts_mem hm with z | z
      · exact n2 z
      · refine hide fun P' hP' => ?_
        obtain ⟨_, o, ho, _⟩ := K.frames.mem z
        refine hP' ?_
        clear hP'
        rw [n3] at ho; cases ho
    exact ⟨b1 _ _ hB, n2, T₁.none_ _ n3⟩
  have hsz1 : 1 < vs.size := (Array.getElem?_eq_some_iff.mp h1).1
  exact k h₁ g₁ T T₁ F₁ Nl ⟨⟨_, _, b3, (Obj.cls_mapFields ..).trans hec, Obj.data_mapFields hed _, by simp [hsz1], by simpa using h2⟩, ⟨neL e hn, T₁.none_ _ hge⟩, ⟨oT, ts, b6, b7, b8⟩, ⟨neL T hTn, T₁.none_ _ hgT⟩, b5, fun q hq z => by
    have := (N q hq).1
    rw [z, hTn] at this; cases this⟩ K₁ (XB.keeps K₁.stays) (TB.keeps K₁.stays)
theorem note_same {A : Around} {env : Env} {Q : Unit → Shared → Prop} (D : Flies g s.heap L e T X f2 (rawInt L) news) (hf : env.frame = some L) (hq : Q () s) : wpAny (model prog w) A (noteFrame (.ref e) env) Q E s := by
  refine hide fun P' hP' => ?_
  obtain ⟨oe, vs, he, hec, hed, h1, h2⟩ := D.ex
  obtain ⟨oT, ts, ht, htd, h3⟩ := D.tb
  refine hP' ?_
  clear hP'
  unfold noteFrame
  simp only [hf]
  refine wpAny_bind (wpAny_field he hed h1 ?_)
  rw [if_pos (by simp)]
  refine wpAny_bind (wpAny_field ht htd h3 ?_)
  rw [if_pos (by simp)]
  exact wpAny_pure hq
theorem flight_set {A : Around} {fr : Option Addr} {f3 : Value} {Q : Unit → Shared → Prop} (F : Fr g L s.heap m) (N : News g L s.heap news) (D : Flies g s.heap L e T X f2 f3 news)
    (k : ∀ h', Fr g L h' m → News g L h' news → Flies g h' L e T X f2 (fr.elim .none fun f => rawInt f) news → Q () { s with heap := h' }) : wpAny (model prog w) A (setFlight (.ref e) fr) Q E s := by
  refine hide fun P' hP' => ?_
  obtain ⟨oe, vs, he, hec, hed, h1, h2⟩ := D.ex
  obtain ⟨oT, ts, ht, htd, h3⟩ := D.tb
  refine hP' ?_
  clear hP'
  have hsz3 : 3 < ts.size := (Array.getElem?_eq_some_iff.mp h3).1
  unfold setFlight
  refine wpAny_bind (wpAny_field he hed h1 ?_)
  rw [if_pos (by simp)]
  refine wpAny_setField ht htd hsz3 ?_
  have hs : Heap.SameBut T s.heap (s.heap.update T (Obj.mapFields (·.setIfInBounds 3 (fr.elim .none fun f => rawInt f)))) := Heap.SameBut.update ..
  refine k _ (fr_but F hs D.tn.2 (Ne.symm D.tn.1)) (news_but N hs fun q hq => ⟨hq, D.off q hq⟩) ⟨⟨oe, vs, (hs.2 e (Ne.symm D.ne)).trans he, hec, hed, h1, h2⟩, D.en, ⟨_, _, Heap.get?_update_self _ ht (Obj.isFreed_of_fields (Obj.data_mapFields htd _)), Obj.data_mapFields htd _, by simp [hsz3]⟩, D.tn, D.ne, D.off⟩
theorem pass_on {α : Type} {A : Around} {env : Env} {what : String} {f3 : Value} {Q : α → Shared → Prop} (hf : env.frame = some L) (F : Fr g L s.heap m) (N : News g L s.heap news) (D : Flies g s.heap L e T X f2 f3 news)
    (k : ∀ h', Fr g L h' m → News g L h' news → Flies g h' L e T X f2 (rawInt L) news → E (.ref e) { s with heap := h' }) : wpAny (model prog w) A (PySem.passOn what (.ref e) env : Sem α) Q E s := by
  refine hide fun P' hP' => ?_
  obtain ⟨oe, vs, he, hec, hed, h1, h2⟩ := D.ex
  refine hP' ?_
  clear hP'
  unfold PySem.passOn
  refine wpAny_bind (wpAny_field he hed h1 ?_)
  rw [if_neg (by simp)]
  rw [hf]
  first
    | exact wpAny_bind (flight_set F N D fun h' F' N' D' => wpAny_throw (k h' F' N' D'))
    | exact wpAny_bind (wpAny_pure (wpAny_bind (flight_set F N D fun h' F' N' D' => wpAny_throw (k h' F' N' D'))))
theorem handle_builtin {x : Str} {T' : String} {f3 : Value} {b₀ : Stmt} {suite : List Stmt} {pos np : Pos} {rest : List ExceptHandler} {Q : Flow → Shared → Prop} (F : Fr g L s.heap m) (N : News g L s.heap news) (D : Flies g s.heap L e T X f2 f3 news) (XB : KF.In g) (TB : Top p loose mean mg mb g)
    (ex : nsIn KF mainGlobals x = some none) (hv : bootBuiltins x = some (.type T')) (hn' : x ≠ "__name__")
    (hexc : isSubtype (.type T') (.type "BaseException") = pure true) (hnt : isSubtype (.type ((Manifest.find? T').elim "type" fun y => y.metatype)) (.type "tuple") = pure false)
    (hsub : isSubtype (.type X) (.type T') = pure true)
    (k : ∀ h', Fr g L h' m → News g L h' news → Flies g h' L e T X f2 .none news →
      wpAny (model prog w) ((A₀.deeper (envOf name scope L a cd)).mark (some (.ref e))) (execs (b₀ :: suite) (envOf name scope L a cd)) Q E { s with heap := h' })
    (hk : scope.kind = .function := by rfl) (hxk : (envOf name scope L a cd).kindOf x = some .globalImplicit := by rfl) (hd : (x == ("__debug__" : Str)) = false := by decide)
    (hE : PassesOwnAt (model prog w) ((A₀.deeper (envOf name scope L a cd)).mark (some (.ref e))) (A₀.deeper (envOf name scope L a cd)) (envOf name scope L a cd) E := by passes_own) :
    wpAny (model prog w) (A₀.deeper (envOf name scope L a cd)) (handleBy (.ref e) (envOf name scope L a cd) (.ExceptHandler (some (.Name x np)) none (b₀ :: suite) pos :: rest)) Q E s := by
  refine hide fun P' hP' => ?_
  obtain ⟨oe, vs, he, hec, hed, h1, h2⟩ := D.ex
  refine hP' ?_
  clear hP'
  refine wpAny_handleBy_builtin (X := X) (T := T') (b := true) hexc hnt hsub (wpAny_passesOwnAt hE (name_B F XB (topRead_of TB) ex hv hn' ⟨rfl, ⟨_, he, hec⟩, ?_⟩ hk hxk hd))
  rw [if_pos rfl]
  exact flight_set F N D fun h' F' N' D' => wpAny_passesOwnAt hE (k h' F' N' D')
end
end Mine
end
section
open PySem PySem.W PyProof.Rows
set_option Elab.async false
set_option maxRecDepth 100000
namespace Mine
section
variable {prog : Program} {w : World} {A : Around} {E : Value → Shared → Prop} {s : Shared}
/-- a built-in exception raised while another one is handled -/
theorem raiseErr_ctx {α : Type} {cls msg : String} {hx : Addr} {oh : Obj} {ws : Array Value} {Q : α → Shared → Prop} (hp : PlainExc cls) (hh : A.handled = some (.ref hx)) (hoh : s.heap.get? hx = some oh) (hd : oh.data = .fields ws) (h2 : ws[2]? = some .none)
    (hE : ∀ h' tk e oe vs, (∀ b o, s.heap.get? b = some o → h'.get? b = some o) → s.heap.get? e = none → h'.get? e = some oe → oe.cls = .type cls → oe.data = .fields vs → vs[1]? = some .none → vs[2]? = some (.ref hx) → E (.ref e) { s with heap := h', toks := tk }) :
    wpAny (model prog w) A (raiseErrorWords cls msg : Sem α) Q E s := by
  unfold raiseErrorWords
  refine wpAny_bind (wpAny_mkText (wpAny_bind ?_))
  unfold newExc newTuple
  refine wpAny_bind (wpAny_newObj_type ?_)
  refine wpAny_bind (m := firstArgMember _ _) (wpAny_of_eq (a := Value.none) (by simp only [firstArgMember, hp.first]; rfl) ?_)
  rw [hp.own]
  refine wpAny_newObj_type ?_
  dsimp only
  generalize hH1 : s.heap.push { cls := .type "tuple", data := .seq #[.str (Str.ofString msg) s.toks] } = H1
  have hs1 : H1.objs.size = s.heap.objs.size + 1 := by rw [← hH1, Heap.size_push]
  have old1 : ∀ b o, s.heap.get? b = some o → H1.get? b = some o := fun b o e => hH1 ▸ Heap.get?_push_of_some _ e
  have hne : hx ≠ H1.objs.size := by
    rw [hs1]; exact Nat.ne_of_lt (Nat.lt_succ_of_lt (Heap.lt_size hoh))
  refine raiseNew_ctx (h := hx) (vs := #[.ref s.heap.objs.size, .none, .none, .none, .bool false, .none] ++ #[]) (oe := { cls := .type cls, data := .fields (#[.ref s.heap.objs.size, .none, .none, .none, .bool false, .none] ++ #[]) }) hh hne ?ra hd h2 ?rb ?rc ?rd ?_
  case ra => exact Heap.get?_push_of_some _ (old1 _ _ hoh)
  case rb => exact Heap.get?_push_size _ rfl
  case rc => rfl
  case rd => exact (by decide : 2 < 6)
  refine hE _ _ H1.objs.size _ _ (fun b o e => ?_) (Heap.get?_none_of_le (by rw [hs1]; exact Nat.le_succ _)) (Heap.get?_update_self _ (Heap.get?_push_size _ rfl) rfl) rfl rfl rfl rfl
  have hb : H1.objs.size ≠ b := by
    rw [hs1]; exact Nat.ne_of_gt (Nat.lt_succ_of_lt (Heap.lt_size e))
  rw [Heap.get?_update_other _ _ hb]
  exact Heap.get?_push_of_some _ (old1 _ _ e)
end
section
variable {prog : Program} {w : World} {A : Around} {E : Value → Shared → Prop} {s : Shared}
theorem item_out_ctx {value slice : Expr} {l hx : Addr} {oh : Obj} {ws : Array Value} {xs : Array Value} {k : Int} {u : Tok} {Q : Value → Shared → Prop} (hh : A.handled = some (.ref hx)) (hoh : s.heap.get? hx = some oh) (hd : oh.data = .fields ws) (h2 : ws[2]? = some .none)
    (hl : s.heap.IsList l xs) (h0 : (xs.size : Int) ≤ k) (hf : k < 2 ^ 63)
    (hE : ∀ h' tk e oe vs, (∀ b o, s.heap.get? b = some o → h'.get? b = some o) → s.heap.get? e = none → h'.get? e = some oe → oe.cls = .type "IndexError" → oe.data = .fields vs → vs[1]? = some .none → vs[2]? = some (.ref hx) → E (.ref e) { s with heap := h', toks := tk })
    (hs : subscripted slice false (.ref l) (.int k u) = operate [.ref l, .int k u] (getItem (.ref l) (.int k u)) := by with_unfolding_all rfl) : wpAny (model prog w) A (subscriptTail value slice (.ref l) (.int k u)) Q E s := by
  refine tail_any hl.typeIs slot_list_getitem.lookup ?_ hs
  refine hide fun P' hP' => ?_
  obtain ⟨o, ho, hc, ne, hdd⟩ := id hl
  refine hP' ?_
  clear hP'
  unfold getItem
  try with_reducible refine wpAny_holding ?_
  first | refine wpAny_bind (wpAny_pure ?_) | skip
  refine wpAny_bind (wpAny_sequenceKey hl.typeIs (by decide) ?_)
  refine wpAny_bind (wpAny_callSpecial?_slot (name := Str.ofString "__getitem__") hl.typeIs slot_list_getitem
    (wpAny_call_entry slot_list_getitem hl.typeIs entry_list_getitem ?_ (args_list_getitem _ _)))
  show wpAny _ _ (Builtin.List.listSubscript? (.int k u) >>= _) _ _ s
  refine wpAny_bind (wpAny_listSubscript_int (fitsIndex_both (by omega) hf) ?_)
  clear hf hs
  cases k with
  | negSucc j => exact absurd h0 (by have := Int.negSucc_lt_zero j; omega)
  | ofNat j =>
    have hx : xs[j]? = none := Array.getElem?_eq_none (by have : (xs.size : Int) ≤ (j : Int) := h0; omega)
    show wpAny _ _ ((seqItemAt l j >>= fun r => pure (r.map (j, ·))) >>= _) _ _ s
    refine wpAny_bind (wpAny_bind (wpAny_seqItemAt ho hdd (wpAny_pure ?_)))
    rw [hx]
    first
      | exact wpAny_bind (wpAny_rule (raiseErr_ctx plainExc_IndexError hh hoh hd h2 hE))
      | exact wpAny_bind (wpAny_rule (wpAny_bind (raiseErr_ctx plainExc_IndexError hh hoh hd h2 hE)))
      | exact wpAny_rule (raiseErr_ctx plainExc_IndexError hh hoh hd h2 hE)
end
end Mine
end
section
open PySem PySem.W PyProof.Rows
set_option Elab.async false
set_option maxRecDepth 100000
namespace Mine
theorem pick_from (vs : List Value) (x : Nat) : slicePick vs.toArray (some (x : Int)) none none = (vs.drop x).toArray := by
  have e : sliceBounds (some (x : Int)) none none vs.toArray.size = (((min x vs.toArray.size : Nat) : Int), ((vs.toArray.size : Nat) : Int), 1) := by
    simp only [sliceBounds, Option.getD_none, show (1 : Int) > 0 by decide, if_true, if_neg (show ¬ ((x : Int) < 0) by omega)]
    congr 1
    omega
  rw [kmk_pick_nat _ e]
  congr 1
  show (vs.drop (min x vs.toArray.size)).take (vs.toArray.size - min x vs.toArray.size) = _
  rw [List.size_toArray, kmk_drop_min, List.take_of_length_le (by rw [List.length_drop]; omega)]
theorem strs_drop : ∀ {vs : List Value} {ss : List Str}, StrsAre vs ss → ∀ i, StrsAre (vs.drop i) (ss.drop i)
  | _, _, h, 0 => h
  | _, _, .nil, i + 1 => .nil
  | _, _, .cons _ _ r, i + 1 => strs_drop r i
theorem Flies.sub {g h : Heap} {L e T : Addr} {X : String} {f2 f3 : Value} {news news' : List (Addr × Obj)} (x : Flies g h L e T X f2 f3 news) (hs : ∀ p ∈ news', p ∈ news) : Flies g h L e T X f2 f3 news' :=
  ⟨x.ex, x.en, x.tb, x.tn, x.ne, fun p hp => x.off p (hs p hp)⟩
theorem kept_turn {envs : List Env} {h0 h g' h' : Heap} {L : Addr} {m : Str → Option Value} (hL : h0.objs.size = L) (hfr : ∀ b ∈ envs.filterMap (·.frame), ∃ o, h0.get? b = some o ∧ b ≠ 36) (K : KeptB [] [] h0 h) (KT : KtsTurn (envs.filterMap (·.frame)) (gnd h0 h L) g') (F : Fr g' L h' m) (e36 : ∀ o, h.get? 36 = some o → h'.get? 36 = some o) : KeptB envs [] h0 h' := by
  refine ⟨fun b o e n _ => ?_, fun b o e hm => ?_⟩
  · have e1 := K.out b o e (by simp) (by simp)
    by_cases h36 : b = 36
    · subst h36; exact e36 o e1
    · exact F.keep _ _ (KT.other b o (gnd_get e1 (hL ▸ Heap.lt_size e) e h36) n)
  · have e1 := K.out b o e (by simp) (by simp)
    refine hide fun P' hP' => ?_
    obtain ⟨_, _, h36⟩ := hfr b hm
    obtain ⟨sl, hs⟩ := KT.up (gnd_get e1 (hL ▸ Heap.lt_size e) e h36)
    refine hP' ?_
    clear hP'
    exact ⟨sl, F.keep _ _ hs⟩
theorem new_turn {h0 h g' : Heap} {L b : Addr} {fs : List Addr} (hL : h0.objs.size = L) (K : KeptB [] [] h0 h) (KT : KtsTurn fs (gnd h0 h L) g') (hn : g'.get? b = none) (h36 : b ≠ 36) : h0.get? b = none := by
  cases q : h0.get? b with
  | none => rfl
  | some o =>
    obtain ⟨sl, hs⟩ := KT.up (gnd_get (K.out b o q (by simp) (by simp)) (hL ▸ Heap.lt_size q) q h36)
    rw [hn] at hs; cases hs
theorem gnd_list {h0 h : Heap} {L l : Addr} {xs : Array Value} {o36 : Obj} (hL : h0.objs.size = L) (K : KeptB [] [] h0 h) (hl : h0.PlainList l xs) (t36 : h0.get? 36 = some o36) (d36 : ∃ vs, o36.data = .fields vs) : (gnd h0 h L).PlainList l xs := by
  obtain ⟨n, e⟩ := hl
  refine ⟨n, gnd_get (K.out l _ e (by simp) (by simp)) (hL ▸ Heap.lt_size e) e fun z => ?_⟩
  obtain ⟨vs, hd⟩ := d36
  rw [z, t36] at e; cases e; cases hd
section
variable {prog : Program} {w : World} {A : Around} {E : Value → Shared → Prop} {s : Shared}
theorem extend_raw {l b : Addr} {xs ys : Array Value} {n k : Nat} {Q : Value → Shared → Prop} (hl : s.heap.get? l = some { cls := .type "list", data := .seq xs n }) (hb : s.heap.get? b = some { cls := .type "list", data := .seq ys k })
    (hsz : xs.size + ys.size ≤ sizeLine) (h : ∀ h', h'.PlainList l (xs ++ ys) → Heap.SameBut l s.heap h' → Q .none { s with heap := h' }) : wpAny (model prog w) A (call (.builtin "list.extend") [.ref l, .ref b]) Q E s := by
  refine call_meets PySem.F.slot_list_extend ⟨_, hl, rfl⟩ PySem.F.entry_list_extend (PySem.F.args_list_extend_2 _ _) (AutoSeq1.list_extend_list_list_0 l xs n b ys k (extend_door hsz) (Nat.le_trans (Nat.le_add_right _ _) hsz)) ⟨hl, hb, ?_⟩
  have ho' : (s.heap.update l (Obj.mapSeq fun x => x ++ ys)).get? l = some { cls := .type "list", data := .seq (xs ++ ys) (if (xs ++ ys).size == xs.size then n else n + 1) } := by
    rw [Heap.get?_update_self _ hl (by rw [mapSeq_app]; rfl), mapSeq_app]
  exact h _ ⟨_, ho'⟩ (Heap.SameBut.update ..)
end
end Mine
end
section
open PySem PySem.W PyProof.Rows
set_option Elab.async false
namespace Mine
section
variable {prog : Program} {w : World} {A : Around} {s : Shared} {K : Frag} {R : Result → Shared → Prop} {name qual : Str} {params : Arguments} {body : List Stmt} {scope : Scope} {dV kV doc pm cdv ct oc : Value} {an od : Option Addr} {osl : Array (Option Value)} {f : Addr} {args : Args} {binds : List (Str × Value)}
/-- a def of the written part, some of whose names are cells, is entered; all that stood before stays -/
theorem enterC (hroom : A.depth < recursionLimit) (X : K.In s.heap) (hlim : s.heap.NoLimit)
    (ho : K.lookup f = some ⟨oc, od, .func (fnOf name qual params body scope dV kV doc pm an cdv ct), osl⟩) (hcd : codeIn K cdv qual = true)
    (hbind : BindsTo s (fnOf name qual params body scope dV kV doc pm an cdv ct) args binds)
    (hkind : (binds.all fun y => scope.names.lookup y.1 == some .local || scope.names.lookup y.1 == some .cell) = true) (hnd : ((cellsFrom 0 scope.names []).map (·.1)).Nodup)
    (h : ∀ h₁ tk cells, h₁.Ns s.heap.objs.size (bindL (envOfC qual scope s.heap.objs.size f cdv).kindOf binds fun _ => none) → s.heap.StaysIn h₁ → News s.heap s.heap.objs.size h₁ cells →
      CellsAre (bindC (envOfC qual scope s.heap.objs.size f cdv).kindOf binds fun _ => none) (cellsFrom (s.heap.objs.size + 1) scope.names []) cells →
      wpAny (model prog w) (A.deeper (envOfC qual scope s.heap.objs.size f cdv)) (execs body (envOfC qual scope s.heap.objs.size f cdv))
        (fun fl s' => R (.ok (.ret (match fl with | .ret v => v | _ => .none))) s')
        (fun e s' => wpAny (model prog w) (A.deeper (envOfC qual scope s.heap.objs.size f cdv)) (leaving (envOfC qual scope s.heap.objs.size f cdv) e) (fun _ s'' => R (.error e) s'') (fun e' s'' => R (.error e') s'') s')
        { s with heap := h₁, toks := tk })
    (hco : scope.isCoroutine = false) (hgen : scope.isGenerator = false) (hk : scope.kind = .function) : codeAny (model prog w) A (.call (.ref f) args) R s := by
  refine codeAny_call_function (fd := fnOf name qual params body scope dV kV doc pm an cdv ct) (body := body) hroom (X _ _ ho) rfl hco hgen rfl (codeRec_of X hcd) (hbind _ _ _ _ ?_)
  refine wpAny_newFunctionEnv_cells hk (kindsX hkind _) fun env' he s' x => ?_
  subst he
  refine ⟨hlim.keeps x.toInCall.keep, codeAny_func ?_⟩
  refine hide fun P' hP' => ?_
  obtain ⟨h₁, tk, rfl, _⟩ := x.done
  obtain ⟨cells, NC, Y⟩ := Cl.news (h₀ := s.heap) (Nat.le_refl _) fun n c hm => ⟨x.cell n c (lookup_of_mem_nodup (cellsFrom_names scope.names 0 (s.heap.objs.size + 1) [] [] rfl ▸ hnd) hm), x.above n c hm⟩
  refine hP' ?_
  clear hP'
  exact h h₁ tk cells x.toInCall.ns x.toInCall.keep NC Y
end
end Mine
end
section
open PySem PySem.W PyProof.Rows
set_option Elab.async false
namespace Mine
def EltPost (P : Value → Prop) (s₃ : Shared) (y : Value) (s₄ : Shared) : Prop := P y ∧ Keeps s₃ s₄
def TestPost (b : Bool) (s₃ : Shared) (ok : Bool) (s₄ : Shared) : Prop := ok = b ∧ Keeps s₃ s₄
theorem Paired.at {α β : Type} {F : α → β → Prop} {l₁ : List α} {l₂ : List β} (h : Paired F l₁ l₂) : ∀ {i : Nat} {b : β}, l₂[i]? = some b → ∃ a, l₁[i]? = some a ∧ F a b := by
  induction h with
  | nil => intro i b e; simp at e
  | cons h t ih =>
    intro i b e
    cases i with
    | zero => cases e; exact ⟨_, rfl, h⟩
    | succ i => exact ih (i := i) e
def signTest (p : Nat → Bool) : Value → Bool
  | .str z _ => p (z.cps[0]?.getD 0)
  | _ => false
section
variable {prog : Program} {w : World} {A : Around} {E : Value → Shared → Prop} {s : Shared} {env : Env} {elt iter : Expr} {x : Str} {px pos : Pos} {ifs : List Expr} {scope : Scope} {cl : List (Str × Addr)} {Q : Value → Shared → Prop}
def CompAt (prog : Program) (w : World) (A : Around) (env : Env) (scope : Scope) (cl : List (Str × Addr)) (x : Str) (ifs : List Expr) (elt : Expr) (Q : Value → Shared → Prop) (p : Value → Bool) (F : Value → Value → Prop) (it : Value) (s₂ : Shared) : Prop :=
  ∃ I fp wr n P St, it = .ref I ∧ Walks prog w A I fp wr n P St ∧ n ≤ sizeLine ∧ St 0 s₂.heap ∧ (∀ b ∈ fp, b < s₂.heap.objs.size) ∧
      QuietOnC prog w A env scope cl x ifs elt wr P p F s₂ ∧
      (∀ D h' tk ys (vs : List Value), s₂.heap.get? D = none → h'.IsList D ys → h'.PlainList D ys → vs.length = n → (∀ j v, vs[j]? = some v → P j v) → Paired F (vs.filter p) ys.toList →
        (∀ b o, b ∉ wr → s₂.heap.get? b = some o → h'.get? b = some o) → Q (.ref D) { s₂ with heap := h', toks := tk })
theorem ListComp_at (p : Value → Bool) (F : Value → Value → Prop)
    (hclos : closureFor scope env = pure cl) (hcell : ∀ y ∈ scope.names, y.2 ≠ .cell) (hkind : scope.kind = .function)
    (hnames : ∀ y ∈ scope.names, y.2 = .local → scope.names.lookup y.1 = some .local) (hx : scope.names.lookup x = some .local)
    (h : wpAny (model prog w) A (eval iter env) (fun xv s₁ => wpAny (model prog w) A (pyIter xv) (CompAt prog w A env scope cl x ifs elt Q p F) E s₁) E s)
    (hs : ∀ x, foldedSetIterable iter env x = pure x := by intro _; rfl) :
    wpAny (model prog w) A (eval (.ListComp elt [⟨.Name x px, iter, ifs, 0⟩] scope pos) env) Q E s := wpAny_ListComp_free p F hclos hcell hkind hnames hx h hs
theorem pushed_kept {h h' : Heap} {o : Obj} (k : ∀ b o', b ∉ [h.objs.size] → (h.push o).get? b = some o' → h'.get? b = some o') : h.StaysIn h' := fun b o' e =>
  k b o' (fun hm => absurd (Heap.lt_size e) ((List.mem_singleton.mp hm) ▸ Nat.lt_irrefl _)) (Heap.get?_push_of_some _ e)
/-- a comprehension over range(n), no test -/
theorem range_comp {r : Addr} {t u v : Tok} {n : Nat} {b : Int} (F : Nat → Value → Prop) (hh : A.handled = none) (hr : IsRange s.heap r 0 b 1 t u v) (hsmall : Builtin.Range.small 0 b 1 = true) (hn : Builtin.Range.rangeSize 0 b 1 = (n : Int)) (hsz : n ≤ sizeLine)
    (elt' : ∀ C (k : Nat) t s₃ m₃ E', s.heap.objs.size < C → k < n → s₃.heap.Ns C m₃ → m₃ x = some (.int k t) → s.heap.StaysIn s₃.heap →
      wpAny (model prog w) A (eval elt (compEnvC scope cl C env)) (EltPost (F k) s₃) E' s₃)
    (done : ∀ D h' tk ys, s.heap.get? D = none → h'.PlainList D (List.toArray ys) → ys.length = n → (∀ k y, ys[k]? = some y → F k y) → s.heap.StaysIn h' → Q (.ref D) { s with heap := h', toks := tk }) :
    wpAny (model prog w) A (pyIter (.ref r)) (CompAt prog w A env scope cl x [] elt Q (fun _ => true) (fun v y => ∃ (k : Nat) (t : Tok), v = .int k t ∧ F k y)) E s := by
  refine wpAny_pyIter_range hr hsmall ?_
  have hI : s.heap.get? s.heap.objs.size = none := Heap.get?_none_of_le (Nat.le_refl _)
  refine ⟨_, _, _, n, _, _, rfl, (Walks.range hh s.heap.objs.size 0 1 n).bound, hsz, ?_, ?_, ⟨?_, ?_⟩, ?_⟩
  · show IsRangeIter _ _ _ _ _
    rw [hn]; simpa using Heap.get?_push_size _ rfl
  · intro b hb
    rw [List.mem_singleton.mp hb, Heap.size_push]
    exact Nat.lt_succ_self _
  · intros
    exact wpAny_tests_nil ⟨rfl, ⟨_, _, rfl, fun _ _ e => e⟩⟩
  · intro C i v s₃ m₃ E' hC rx1 _ hn' hm hk _
    refine hide fun P' hP' => ?_
    obtain ⟨hi, t, rfl⟩ := rx1
    refine hP' ?_
    clear hP'
    rw [Heap.size_push] at hC
    have e : (0 : Int) + (i : Int) * 1 = (i : Int) := by omega
    rw [e] at hm ⊢
    exact wpAny_mono (elt' C i t s₃ m₃ E' hC hi hn' hm (pushed_kept hk)) (fun y s₄ q => ⟨⟨i, t, rfl, q.1⟩, q.2⟩) fun _ _ x => x
  · intro D h' tk ys vs hD _ hpl hlen hP hF hk
    have hfl : vs.filter (fun _ => true) = vs := List.filter_eq_self.mpr fun _ _ => rfl
    rw [hfl] at hF
    refine done D h' tk ys.toList ?_ (by simpa using hpl) (by rw [← hF.length, hlen]) (fun k y hy => ?_) (pushed_kept hk)
    · cases q : s.heap.get? D with
      | none => rfl
      | some o => rw [Heap.get?_push_of_some _ q] at hD; cases hD
    · refine hide fun P' hP' => ?_
      obtain ⟨v, hv, k', t, e, hf⟩ := Paired.at hF hy
      obtain ⟨_, t', e'⟩ := hP _ _ hv
      refine hP' ?_
      clear hP'
      rw [e'] at e
      have : (k : Int) = (k' : Int) := by
        injection e with e1 e2
        omega
      have : k = k' := by omega
      subst this
      exact hf
/-- a comprehension over a text's signs that keeps those of a test -/
theorem sign_comp {y : Str} {t : Tok} {c : Expr} {px' : Pos} (p : Nat → Bool) (ha : (y.cps.all (· < 128)) = true) (hh : A.handled = none) (hsz : y.cps.size ≤ sizeLine)
    (hld : ∀ C (s : Shared) (m : Str → Option Value) (v : Value) (Q E : Value → Shared → Prop), s.heap.Ns C m → m x = some v → Q v s → wpAny (model prog w) A (eval (.Name x px') (compEnvC scope cl C env)) Q E s)
    (test : ∀ C (k : Nat) (a : Nat) u s₃ m₃ E', s.heap.objs.size < C → y.cps[k]? = some a → s₃.heap.Ns C m₃ → m₃ x = some (.str ⟨#[a]⟩ u) → s.heap.StaysIn s₃.heap →
      wpAny (model prog w) A (isTrue c (compEnvC scope cl C env) (eval c (compEnvC scope cl C env))) (TestPost (p a) s₃) E' s₃)
    (done : ∀ D h' tk ys, s.heap.get? D = none → h'.PlainList D (List.toArray ys) → StrsAre ys ((y.cps.toList.filter p).map fun a => ⟨#[a]⟩) → s.heap.StaysIn h' → Q (.ref D) { s with heap := h', toks := tk }) :
    wpAny (model prog w) A (pyIter (.str y t)) (CompAt prog w A env scope cl x [c] (.Name x px') Q (signTest p) (fun v y => v = y)) E s := by
  refine wpAny_pyIter_ascii ha ?_
  refine ⟨_, _, _, _, _, _, rfl, Walks.strAscii hh s.heap.objs.size y t, hsz, ⟨_, Heap.get?_push_size _ rfl, rfl, rfl⟩, ?_, ⟨?_, ?_⟩, ?_⟩
  · intro b hb
    rw [List.mem_singleton.mp hb, Heap.size_push]
    exact Nat.lt_succ_self _
  · intro C i v s₃ m₃ E' hC rx2 hn' hm hk _
    refine hide fun P' hP' => ?_
    obtain ⟨a, u, ha', rfl⟩ := rx2
    refine hP' ?_
    clear hP'
    rw [Heap.size_push] at hC
    exact wpAny_tests_one (wpAny_mono (test C i a u s₃ m₃ E' hC ha' hn' hm (pushed_kept hk)) (fun ok s₄ q => ⟨q.1, q.2⟩) fun _ _ x => x)
  · rintro C i v s₃ m₃ E' hC _ _ hn' hm hk _
    exact hld C s₃ m₃ v _ _ hn' hm ⟨rfl, ⟨_, _, rfl, fun _ _ e => e⟩⟩
  · intro D h' tk ys vs hD _ hpl hlen hP hF hk
    refine done D h' tk ys.toList ?_ (by simpa using hpl) ?_ (pushed_kept hk)
    · cases q : s.heap.get? D with
      | none => rfl
      | some o => rw [Heap.get?_push_of_some _ q] at hD; cases hD
    · have hvs : ∀ (l : List Value) (cs : List Nat), l.length = cs.length → (∀ (j : Nat) (v : Value), l[j]? = some v → ∃ (a : Nat) (u : Tok), cs[j]? = some a ∧ v = Value.str ⟨#[a]⟩ u) → StrsAre (l.filter (signTest p)) ((cs.filter p).map fun a => ⟨#[a]⟩) := by
        intro l
        induction l with
        | nil =>
          intro cs hl _
          cases cs with
          | nil => exact .nil
          | cons _ _ => simp at hl
        | cons v l ih =>
          intro cs hl hj
          cases cs with
          | nil => simp at hl
          | cons a cs =>
            refine hide fun P' hP' => ?_
            obtain ⟨a', u, e1, e2⟩ := hj 0 v rfl
            refine hP' ?_
            clear hP'
            cases e1
            subst e2
            have ih' := ih cs (by simpa using hl) fun j v hv => hj (j + 1) v hv
            cases hp : p a with
            | true =>
              rw [List.filter_cons_of_pos (by simpa [signTest] using hp), List.filter_cons_of_pos hp]
              exact .cons _ _ ih'
            | false =>
              rw [List.filter_cons_of_neg (by simpa [signTest] using hp), List.filter_cons_of_neg (by simp [hp])]
              exact ih'
      have := hvs vs y.cps.toList (by rw [hlen]; simp) fun j v hv => by
        refine hide fun P' hP' => ?_
        obtain ⟨a, u, e1, e2⟩ := hP j v hv
        refine hP' ?_
        clear hP'
        exact ⟨a, u, by simpa using e1, e2⟩
      have heq : ∀ {l₁ l₂ : List Value}, Paired (fun v y => v = y) l₁ l₂ → l₁ = l₂ := fun {l₁ l₂} h => by
        induction h with
        | nil => rfl
        | cons e _ ih => rw [e, ih]
      rw [← heq hF]
      exact this
end
section
variable {M : Model} {A : Around} {E : Value → Shared → Prop} {s : Shared} {g : Heap} {env : Env} {scope : Scope} {cl : List (Str × Addr)} {C : Addr} {m : Str → Option Value}
theorem comp_local {y : Str} {pos : Pos} {v : Value} {Q : Value → Shared → Prop} (F : Fr g C s.heap m) (hl : (compEnvC scope cl C env).kindOf y = some .local) (hv : m y = some v) (h : Q v s) (hk : (compEnvC scope cl C env).scope.kind = .function) (hb : (y == ("__debug__" : Str)) = false) :
    wpAny M A (eval (.Name y pos) (compEnvC scope cl C env)) Q E s := wpAny_Name (wpAny_loadName_local hk hl F.ns hv h) hb
end
end Mine
end
section
open PySem PySem.W PyProof.Rows
open PySem.Sem (wp)
open PySem.AutoSeq1 (wpAny_loadPart')
set_option Elab.async false
namespace Mine
section
variable {prog : Program} {w : World} {A : Around} {E : Value → Shared → Prop} {s : Shared}
theorem nextOf_tuple_item {it t : Addr} {i : Nat} {items} {x : Value} {Q : Value → Shared → Prop} (hit : s.heap.IsTupleIter it t i) (ht : s.heap.IsTuple t items) (hx : items[i]? = some x)
    (hQ : ∀ h', h'.IsTupleIter it t (i + 1) → Heap.SameBut it s.heap h' → Q x { s with heap := h' }) : wpAny (model prog w) A (Builtin.SmallTypes.nextOf (.ref it)) Q E s := by
  refine hide fun P' hP' => ?_
  obtain ⟨o, ho, hc, hd⟩ := id hit
  obtain ⟨ol, hol, _, nl, hdl⟩ := ht
  refine hP' ?_
  clear hP'
  unfold Builtin.SmallTypes.nextOf
  refine wpAny_bind (wpAny_callSpecial?_slot (name := Str.ofString "__next__") hit.typeIs F.slot_tuple_iterator_next
    (wpAny_call_entry F.slot_tuple_iterator_next hit.typeIs F.entry_tuple_iterator_next ?_ (F.args_tuple_iterator_next_1 _)))
  show wpAny _ _ (field (.ref it) 0 >>= _) _ _ s
  refine wpAny_bind (wpAny_field ho hd (x := .ref t) rfl ?_)
  show wpAny _ _ (if (Value.ref t == Value.none) = true then _ else _) _ _ s
  rw [if_neg (show ¬ ((Value.ref t == Value.none) = true) from Bool.false_ne_true)]
  show wpAny _ _ (field (.ref it) 1 >>= _) _ _ s
  refine wpAny_bind (wpAny_field ho hd (x := .int i 0) rfl ?_)
  show wpAny _ _ (seqItems? (.ref t) >>= _) _ _ s
  refine wpAny_bind (wpAny_seqItems hol hdl ?_)
  simp only [Int.toNat_natCast, hx]
  refine wpAny_bind (wpAny_setField ho hd (by simp) (wpAny_pure ⟨x, rfl, wpAny_pure (hQ _ ?_ (Heap.SameBut.update ..))⟩))
  exact ⟨_, Heap.get?_update_self _ ho (Obj.isFreed_of_fields (Obj.data_mapFields hd _)), (Obj.cls_mapFields ..).trans hc, by
    rw [Obj.data_mapFields hd]; simp [rawInt]⟩
theorem nextOf_tuple_end {it t : Addr} {i : Nat} {items} {Q : Value → Shared → Prop} (hh : A.handled = none) (hit : s.heap.IsTupleIter it t i) (ht : s.heap.IsTuple t items) (hx : items[i]? = none)
    (hE : ∀ h' e, Heap.ExtBut it s.heap h' → (∃ o, h'.get? e = some o ∧ o.cls = .type "StopIteration") → E (.ref e) { s with heap := h' }) : wpAny (model prog w) A (Builtin.SmallTypes.nextOf (.ref it)) Q E s := by
  refine hide fun P' hP' => ?_
  obtain ⟨o, ho, hc, hd⟩ := id hit
  obtain ⟨ol, hol, _, nl, hdl⟩ := ht
  refine hP' ?_
  clear hP'
  unfold Builtin.SmallTypes.nextOf
  refine wpAny_bind (wpAny_callSpecial?_slot (name := Str.ofString "__next__") hit.typeIs F.slot_tuple_iterator_next
    (wpAny_call_entry F.slot_tuple_iterator_next hit.typeIs F.entry_tuple_iterator_next ?_ (F.args_tuple_iterator_next_1 _)))
  show wpAny _ _ (field (.ref it) 0 >>= _) _ _ s
  refine wpAny_bind (wpAny_field ho hd (x := .ref t) rfl ?_)
  show wpAny _ _ (if (Value.ref t == Value.none) = true then _ else _) _ _ s
  rw [if_neg (show ¬ ((Value.ref t == Value.none) = true) from Bool.false_ne_true)]
  show wpAny _ _ (field (.ref it) 1 >>= _) _ _ s
  refine wpAny_bind (wpAny_field ho hd (x := .int i 0) rfl ?_)
  show wpAny _ _ (seqItems? (.ref t) >>= _) _ _ s
  refine wpAny_bind (wpAny_seqItems hol hdl ?_)
  simp only [Int.toNat_natCast, hx]
  refine wpAny_bind (wpAny_rule (wpAny_bind (wpAny_setField ho hd (by simp) ?_)))
  show wpAny _ _ (newExc (.type "StopIteration") [] >>= _) _ _ _
  refine wpAny_bind ?_
  simp only [newExc, newTuple]
  refine wpAny_bind (wpAny_newObj_type ?_ (by size_fits))
  refine wpAny_bind (m := firstArgMember _ _) (wpAny_of_eq (a := Value.none) (by first | rfl | (simp only [firstArgMember]; rfl)) ?_)
  refine wpAny_newObj_type ?_ (by size_fits)
  simp only [raiseNew]
  refine wpAny_bind (wpAny_handled ?_)
  first | rw [show A.in1.handled = none from hh] | rw [hh]
  refine wpAny_bind (wpAny_pure (wpAny_throw ?_))
  exact hE _ _ (((Heap.SameBut.update ..).extBut.push _).push _) ⟨_, Heap.get?_push_size _ rfl, rfl⟩
end
theorem draws_tuple {prog : Program} {w : World} {A : Around} (hh : A.handled = none) (it t : Addr) (hne : t ≠ it) (items : Array Value) :
    Draws prog w A it [it, t] items.size (fun i v => items[i]? = some v) (fun i h => h.IsTupleIter it t i ∧ h.IsTuple t items) where
  live := fun _ _ st => let ⟨o, ho, _⟩ := st.1; ⟨o, ho⟩
  frame := fun _ _ _ st hk => ⟨st.1.at fun o e => hk it (by simp) o e, st.2.at fun o e => hk t (by simp) o e⟩
  item := fun i s Q E hi st hQ => nextOf_tuple_item st.1 st.2 (x := items[i]) (by simp [hi]) fun h' hit' hs' => hQ _ h' s.toks (by simp [hi]) ⟨hit', st.2.extBut hs'.extBut hne⟩ hs'
  done := fun s Q E st hE => nextOf_tuple_end hh st.1 st.2 (by simp) hE
set_option maxRecDepth 100000 in
theorem meets_enum_tuple (l : Addr) (items : Array Value) (n : Nat) (dct : Option Addr) (sl : Array (Option Value)) :
    Meets (Builtin.«enumerate.__new__» ⟨[.type "enumerate", .ref l], []⟩) (fun _ R s => s.heap.get? l = some { cls := .type "tuple", dict := dct, data := .seq items n, slots := sl } ∧
      R (.ok (.ret (.ref (s.heap.push { cls := .type "tuple_iterator", data := .fields #[.ref l, .int 0 0] }).objs.size)))
        { s with heap := (s.heap.push { cls := .type "tuple_iterator", data := .fields #[.ref l, .int 0 0] }).push { cls := .type "enumerate", data := .fields #[.none, .bool false, .ref s.heap.objs.size, rawInt 0, .none, .none] } }) :=
  .of_wp fun prog w A R s h => by
    refine hide fun P' hP' => ?_
    obtain ⟨hp, g, d, tk, os⟩ := s; obtain ⟨hl, h⟩ := h
    refine hP' ?_
    clear hP'
    have hsub := sub_enumerate
    have hL : Heap.IsTuple (Shared.heap ⟨hp, g, d, tk, os⟩) l items := ⟨_, hl, rfl, n, rfl⟩
    wp_walk using wpAny_loadPart' hl
    refine wpAny_stack_any fun st => wpAny_pure ?_
    split
    · rename_i c _ _ _ _ _
      cases (c == Value.type "enumerate")
      · wp_walk using wpAny_loadPart' hl, wpAny_pyIter_tuple hL
        exact ⟨_, rfl, h⟩
      · wp_walk using wpAny_loadPart' hl, wpAny_pyIter_tuple hL
        exact ⟨_, rfl, h⟩
    · wp_walk using wpAny_loadPart' hl, wpAny_pyIter_tuple hL
      exact ⟨_, rfl, h⟩
section
variable {prog : Program} {w : World} {A : Around} {E : Value → Shared → Prop} {s : Shared}
theorem call_enum_tuple {l : Addr} {items : Array Value} {Q : Value → Shared → Prop} (hL : s.heap.IsTuple l items)
    (h : ∀ h', IsEnum h' (s.heap.objs.size + 1) s.heap.objs.size 0 .none → h'.IsTupleIter s.heap.objs.size l 0 → h'.objs.size = s.heap.objs.size + 2 → s.heap.StaysIn h' → Q (.ref (s.heap.objs.size + 1)) { s with heap := h' }) :
    wpAny (model prog w) A (call (.type "enumerate") [.ref l]) Q E s := by
  refine hide fun P' hP' => ?_
  obtain ⟨⟨c, dct, dt, sl⟩, hl, hc, n, hd⟩ := hL
  refine hP' ?_
  clear hP'
  replace hc : c = .type "tuple" := hc
  replace hd : dt = .seq items n := hd
  subst hc hd
  refine callType_new F.called_enumerate (by decide) (F.typeCall_enumerate_1 _) (F.newCall_enumerate_1 _) (fun obj => F.args_object_init_2 obj _) F.entry_enumerate_new
    (meets_enum_tuple l items n dct sl) ⟨hl, ?_⟩
  have hz : (s.heap.push { cls := .type "tuple_iterator", data := .fields #[.ref l, .int 0 0] }).objs.size = s.heap.objs.size + 1 := Heap.size_push ..
  show _ ∧ _
  rw [hz]
  have he : IsEnum ((s.heap.push { cls := .type "tuple_iterator", data := .fields #[.ref l, .int 0 0] }).push
      { cls := .type "enumerate", data := .fields #[.none, .bool false, .ref s.heap.objs.size, rawInt 0, .none, .none] }) (s.heap.objs.size + 1) s.heap.objs.size 0 .none := by
    have := Heap.get?_push_size (s.heap.push { cls := .type "tuple_iterator", data := .fields #[.ref l, .int 0 0] })
      (o := { cls := .type "enumerate", data := .fields #[.none, .bool false, .ref s.heap.objs.size, rawInt 0, .none, .none] }) rfl
    rw [hz] at this; exact this
  refine ⟨⟨_, he, rfl⟩, h _ he ⟨_, Heap.get?_push_of_some _ (Heap.get?_push_size _ rfl), rfl, rfl⟩ (by rw [Heap.size_push, hz]) fun b o x => Heap.get?_push_of_some _ (Heap.get?_push_of_some _ x)⟩
theorem letGo_tupleiter {elts : List Expr} {x1} {pos : Pos} {I l T : Addr} {i : Nat} {Q : Unit → Shared → Prop} (hit : s.heap.IsTupleIter I l i) (hQ : Q () s) :
    wpAny (model prog w) A (letOwnedTupleGo (.Tuple elts x1 pos) (.ref I) (.ref T)) Q E s := by
  refine hide fun P' hP' => ?_
  obtain ⟨o, ho, hc, hd⟩ := hit
  refine hP' ?_
  clear hP'
  unfold letOwnedTupleGo
  refine wpAny_bind (wpAny_load ho ?_)
  rw [hc, hd]
  show wpAny _ A (if (["enumerate", "zip", "dict_itemiterator", "dict_reverseitemiterator", "odict_iterator", "itertools.zip_longest", "itertools.pairwise"].contains "tuple_iterator" &&
      (#[.ref l, .int i 0] : Array Value)[0]? == some (rawInt T)) = true then _ else _) Q E s
  rw [if_neg (by
    intro h
    rw [show (["enumerate", "zip", "dict_itemiterator", "dict_reverseitemiterator", "odict_iterator", "itertools.zip_longest", "itertools.pairwise"].contains "tuple_iterator") = false from by decide, Bool.false_and] at h
    cases h)]
  exact wpAny_pure hQ
end
section
variable {prog : Program} {w : World} {A : Around} {elts : List Expr} {k : Nat} {tp : Pos} {body orelse : List Stmt} {env : Env} {Q : Flow → Shared → Prop} {E : Value → Shared → Prop}
def LoopElse (prog : Program) (w : World) (A : Around) (env : Env) (target : Expr) (body orelse : List Stmt) (Q : Flow → Shared → Prop) (E : Value → Shared → Prop) (it : Value) (s₂ : Shared) : Prop :=
  codeAny (model prog w) A (.forLoop target it body orelse env) (fun r s' => match r with | .ok f => Q f s' | .error e => cameBackBy (model prog w) A env E e s') s₂
theorem For_else {target iter : Expr} {pos : Pos} {s : Shared} (h : wpAny (model prog w) A (eval iter env) (fun x s₁ => wpAny (model prog w) A (pyIter x) (LoopElse prog w A env target body orelse Q E) E s₁) E s)
    (hs : ∀ x, foldedSetIterable iter env x = pure x := by intro _; rfl) : wpAny (model prog w) A (exec (.For target iter body orelse pos) env) Q E s := wpAny_For h hs
/-- the end of a turn: what the loop needs, and what holds then -/
def TurnFit (fp : List Addr) (h₃ : Heap) (Inv : Heap → Prop) (s₀ s₃ : Shared) : Prop := ∃ h' tk', s₃ = { s₀ with heap := h', toks := tk' } ∧ (∀ b ∈ fp, ∀ o, h₃.get? b = some o → h'.get? b = some o) ∧ Inv h'
def TurnFlow (Q : Flow → Shared → Prop) (fp : List Addr) (h₃ : Heap) (Inv : Heap → Prop) (s₀ : Shared) : Flow → Shared → Prop
  | .next, s₃ => TurnFit fp h₃ Inv s₀ s₃
  | .cont, s₃ => TurnFit fp h₃ Inv s₀ s₃
  | .brk, s₃ => Q .next s₃
  | .ret v, s₃ => Q (.ret v) s₃
theorem loop_made {I : Addr} {fp wr : List Addr} {n : Nat} {Pt : Nat → Array Value → Prop} {St : Nat → Heap → Prop} {Mid : Nat → Addr → Heap → Prop} (hE : PassesOwn (model prog w) A env E) (W : WalksT prog w A I fp wr n Pt St Mid) (s₀ : Shared) (Inv : Nat → Heap → Prop)
    (turn : ∀ i T vals h h₃ tk, i < n → Pt i vals → Inv i h → h₃.IsTuple T vals → St (i + 1) h₃ → (∀ b o, b ∉ wr → h.get? b = some o → h₃.get? b = some o) →
      wpAny (model prog w) A (assign (.Tuple elts k tp) env (.ref T)) (fun _ s₂ => wpAny (model prog w) A (execs body env) (TurnFlow Q fp h₃ (Inv (i + 1)) s₀) E s₂) E { s₀ with heap := h₃, toks := tk })
    (done : ∀ h h' tk, Inv n h → (∀ b o, b ∉ wr → h.get? b = some o → h'.get? b = some o) → wpAny (model prog w) A (execs orelse env) Q E { s₀ with heap := h', toks := tk })
    {h₁ : Heap} {tk₁ : Nat} (hst : St 0 h₁) (hinv : Inv 0 h₁) : LoopElse prog w A env (.Tuple elts k tp) body orelse Q E (.ref I) { s₀ with heap := h₁, toks := tk₁ } := by
  refine codeAny_forLoop_any (fun k s => ∃ i h tk, s = { s₀ with heap := h, toks := tk } ∧ i ≤ n ∧ k = n - i ∧ St i h ∧ Inv i h) ?_ n ⟨0, h₁, tk₁, rfl, Nat.zero_le _, by omega, hst, hinv⟩
  intro k s rx1
  refine hide fun P' hP' => ?_
  obtain ⟨i, h, tk, rfl, hi, rfl, hst, hinv⟩ := rx1
  refine hP' ?_
  clear hP'
  rcases Nat.lt_or_ge i n with hlt | hge
  · refine W.item i _ _ _ hlt hst fun T vals h' tk' hv hT ht hm hk => ?_
    dsimp only
    refine W.go _ _ _ i T _ _ _ hm fun h₃ hst₃ hk₃ => ?_
    have hT' : T ∉ wr := W.apart _ _ _ hm
    refine wpAny_mono (wpAny_passesOwn hE (turn i T vals h h₃ tk' hlt hv hinv (let ⟨o, ho, r⟩ := ht; ⟨o, hk₃ T o hT' ho, r⟩) hst₃ fun b o hb e => hk₃ b o hb (hk b o hb e))) (fun _ s₂ q => wpAny_mono (wpAny_passesOwn hE q) (fun f s₃ q => ?_) fun _ _ x => x) fun _ _ x => x
    have fin : TurnFit fp h₃ (Inv (i + 1)) s₀ s₃ → ∃ m, m < n - i ∧ ∃ i h tk, s₃ = { s₀ with heap := h, toks := tk } ∧ i ≤ n ∧ m = n - i ∧ St i h ∧ Inv i h := by
      intro rx2
      refine hide fun P' hP' => ?_
      obtain ⟨h'', tk'', rfl, a, b⟩ := rx2
      refine hP' ?_
      clear hP'
      exact ⟨n - (i + 1), by omega, i + 1, h'', tk'', rfl, hlt, rfl, W.frame _ _ _ hst₃ a, b⟩
    cases f with
    | next => exact fin q
    | cont => exact fin q
    | brk => exact q
    | ret v => exact q
  · obtain rfl : i = n := Nat.le_antisymm hi hge
    refine W.done _ _ _ hst fun h' tk' hk => ?_
    exact wpAny_passesOwn hE (done h h' tk' hinv hk)
/-- a loop over a standing tuple of tuples, with an else -/
theorem loop_pairs {s : Shared} {t : Addr} {items : Array Value} (hE : PassesOwn (model prog w) A env E) (hh : A.handled = none) (ht : s.heap.IsTuple t items) (Inv : Nat → Heap → Prop)
    (spec : ∀ i h h' I, s.heap.objs.size ≤ I → Inv i h → (∃ o vs, h.get? I = some o ∧ o.data = .fields vs) → (∀ b o, b ≠ I → h.get? b = some o → h'.get? b = some o) → Inv i h')
    (turn : ∀ i T h tk I, i < items.size → items[i]? = some (.ref T) → s.heap.objs.size ≤ I → Inv i h → (∃ o, h.get? I = some o) →
      wpAny (model prog w) A (assign (.Tuple elts k tp) env (.ref T)) (fun _ s₂ => wpAny (model prog w) A (execs body env) (TurnFlow Q [I, t] h (Inv (i + 1)) s) E s₂) E { s with heap := h, toks := tk })
    (hrefs : ∀ (i : Nat) (v : Value), items[i]? = some v → ∃ T, v = Value.ref T)
    (done : ∀ h tk, Inv items.size h → wpAny (model prog w) A (execs orelse env) Q E { s with heap := h, toks := tk }) (inv0 : Inv 0 (s.heap.push { cls := .type "tuple_iterator", data := .fields #[.ref t, .int 0 0] })) :
    wpAny (model prog w) A (pyIter (.ref t)) (LoopElse prog w A env (.Tuple elts k tp) body orelse Q E) E s := by
  refine wpAny_pyIter_tuple ht ?_
  have hne : t ≠ s.heap.objs.size := Nat.ne_of_lt (let ⟨_, ho, _⟩ := ht; Heap.lt_size ho)
  have W := Walks.tuple (prog := prog) (w := w) (A := A) hh s.heap.objs.size t hne items
  refine for_walks W s Inv (fun i h h' st inv u => ?_) (fun i v h tk hi hv st inv => ?_) (fun h tk inv => ?_) ⟨⟨_, Heap.get?_push_size _ rfl, rfl, rfl⟩, ht.push _⟩ inv0
  · exact spec i h h' _ (Nat.le_refl _) inv (let ⟨o, ho, _, hd⟩ := st.1; ⟨o, _, ho, hd⟩) fun b o hb => u b o (by simpa using hb)
  · refine hide fun P' hP' => ?_
    obtain ⟨T, rfl⟩ := hrefs i v hv
    refine hP' ?_
    clear hP'
    refine letGo_tupleiter st.1 ?_
    refine wpAny_mono (wpAny_passesOwn hE (turn i T h tk _ hi hv (Nat.le_refl _) inv (let ⟨o, ho, _⟩ := st.1; ⟨o, ho⟩))) (fun _ s₂ q => wpAny_mono (wpAny_passesOwn hE q) (fun f s₃ q => ?_) fun _ _ x => x) fun _ _ x => x
    have fin : TurnFit [s.heap.objs.size, t] h (Inv (i + 1)) s s₃ → ∃ h' tk', s₃ = { s with heap := h', toks := tk' } ∧ (h'.IsTupleIter s.heap.objs.size t (i + 1) ∧ h'.IsTuple t items) ∧ Inv (i + 1) h' := by
      intro rx3
      refine hide fun P' hP' => ?_
      obtain ⟨h'', tk'', rfl, a, b⟩ := rx3
      refine hP' ?_
      clear hP'
      exact ⟨h'', tk'', rfl, W.frame _ _ _ st a, b⟩
    cases f with
    | next => exact fin q
    | cont => exact fin q
    | brk => exact q
    | ret v => exact q
  · exact wpAny_passesOwn hE (done h tk inv)
end
end Mine
end
section
open PySem PySem.W PyProof.Rows
set_option Elab.async false
namespace Mine
local macro_rules | `(tactic| omega) => `(tactic| lia)
open PySem.StrLaws PySem.Builtin.Str
theorem occ_full (s sub : Str) (hi : Nat) : ∀ (l : List Nat) (st : Array Nat × Nat), 1 ≤ st.fst.size → (forIn l st (occBody s sub hi 1)).run.fst = st.fst
  | [], _, _ => rfl
  | a :: l, st, h => by
    rw [List.forIn_cons]
    unfold occBody
    rw [if_neg (by omega)]
    exact occ_full s sub hi l _ h
theorem occ_first (s sub : Str) (hi : Nat) : ∀ (n a free : Nat), free ≤ a →
    (forIn (List.range' a n) ((#[] : Array Nat), free) (occBody s sub hi 1)).run.fst.toList = ((List.range' a n).find? fun i => decide (i + sub.length ≤ hi ∧ subAt s sub i = true)).toList
  | 0, a, free, h => rfl
  | n + 1, a, free, h => by
    rw [List.range'_succ, List.forIn_cons, List.find?_cons]
    by_cases hc : a + sub.length ≤ hi ∧ subAt s sub a = true
    · have e : occBody s sub hi 1 a ((#[] : Array Nat), free) = pure (ForInStep.yield (#[a], a + sub.length)) := by
        unfold occBody
        rw [if_pos ⟨⟨⟨by simp, h⟩, hc.1⟩, hc.2⟩]
        rfl
      rw [e]
      have := occ_full s sub hi (List.range' (a + 1) n) (#[a], a + sub.length) (by simp)
      simp only [decide_eq_true hc, Option.toList]
      exact congrArg Array.toList this
    · have e : occBody s sub hi 1 a ((#[] : Array Nat), free) = pure (ForInStep.yield (#[], free)) := by
        unfold occBody
        rw [if_neg (fun h => hc ⟨h.1.2, h.2⟩)]
      rw [e]
      simp only [decide_eq_false hc]
      exact occ_first s sub hi n (a + 1) free (by omega)
/-- where the sign c is met first in x from p on -/
theorem find3_spec (x : Str) (c : Nat) (p : Nat) (hp : p ≤ x.length) :
    (Txt.find3 x ⟨#[c]⟩ (p : Int) = -1 ∧ ∀ j, p ≤ j → x.cps.toList[j]? ≠ some c) ∨
      ∃ k : Nat, Txt.find3 x ⟨#[c]⟩ (p : Int) = (k : Int) ∧ p ≤ k ∧ k < x.length ∧ x.cps.toList[k]? = some c ∧ ∀ j, p ≤ j → j < k → x.cps.toList[j]? ≠ some c := by
  have ef : fromIndex x.length (p : Int) = p := by
    unfold PySem.fromIndex
    rw [if_neg (by omega)]
    omega
  unfold Txt.find3
  rw [ef, occ_eq, occ_first _ _ _ _ _ _ (Nat.le_refl _)]
  cases hf : (List.range' p (x.length + 1 - p)).find? fun i => decide (i + (⟨#[c]⟩ : Str).length ≤ x.length ∧ subAt x ⟨#[c]⟩ i = true) with
  | none =>
    refine .inl ⟨rfl, fun j hj e => ?_⟩
    have h1 := (subAt_one x c j).mpr e
    have h2 := List.find?_eq_none.mp hf j (by
      have hl : j < x.length := by
        obtain ⟨hlt, _⟩ := List.getElem?_eq_some_iff.mp e
        simpa [Str.length] using hlt
      rw [List.mem_range'_1]; omega)
    simp only [decide_eq_true_eq] at h2
    exact h2 h1
  | some k =>
    refine hide fun P' hP' => ?_
    obtain ⟨h1, as, bs, h2, h3⟩ := List.find?_eq_some_iff_append.mp hf
    refine hP' ?_
    clear hP'
    have hk : k ∈ List.range' p (x.length + 1 - p) := by rw [h2]; simp
    have hk' : p ≤ k ∧ k < x.length + 1 := by rw [List.mem_range'_1] at hk; omega
    have h1' := (subAt_one x c k).mp (by simpa using h1)
    refine .inr ⟨k, rfl, hk'.1, ?_, h1', fun j hj hjk e => ?_⟩
    · obtain ⟨hlt, _⟩ := List.getElem?_eq_some_iff.mp h1'
      simpa [Str.length] using hlt
    · have hm : j ∈ as := by
        have e1 : (List.range' p (x.length + 1 - p))[j - p]? = some j := by
          rw [List.getElem?_range' (by omega)]; simp; omega
        have e2 : (List.range' p (x.length + 1 - p))[k - p]? = some k := by
          rw [List.getElem?_range' (by omega)]; simp; omega
        have hlen : as.length = k - p := by
          have e3 : (List.range' p (x.length + 1 - p))[as.length]? = some k := by rw [h2]; simp
          have hb : as.length < x.length + 1 - p := by
            have := (List.getElem?_eq_some_iff.mp e3).1
            simpa using this
          rw [List.getElem?_range' hb] at e3
          simp at e3; omega
        rw [h2, List.getElem?_append_left (by omega)] at e1
        exact List.mem_of_getElem? e1
      have := h3 j hm
      simp only [Bool.not_eq_true', decide_eq_false_iff_not] at this
      exact this ((subAt_one x c j).mpr e)
theorem stepOne_some {x : Str} {d e : Str × Int} {c : Nat} (h0 : 0 ≤ d.2) (h1 : d.2 ≤ x.length) (h : stepOne x d c = some e) :
    ∃ k : Nat, d.2.toNat ≤ k ∧ k < x.length ∧ x.cps.toList[k]? = some c ∧ (∀ j, d.2.toNat ≤ j → j < k → x.cps.toList[j]? ≠ some c) ∧ Txt.find3 x (sg c) d.2 = (k : Int) ∧ e = (d.1 ++ sg c, (k : Int) + 1) := by
  have hp : d.2 = (d.2.toNat : Int) := by omega
  unfold stepOne at h
  rcases find3_spec x c d.2.toNat (by omega) with ⟨e1, _⟩ | ⟨k, e1, e2, e3, e4, e5⟩
  · rw [← hp] at e1
    unfold sg at h
    rw [if_pos e1] at h; cases h
  · rw [← hp] at e1
    unfold sg at h ⊢
    rw [if_neg (by rw [e1]; omega)] at h
    cases h
    exact ⟨k, e2, e3, e4, e5, e1, by rw [e1]⟩
theorem stepOne_none {x : Str} {d : Str × Int} {c : Nat} (h0 : 0 ≤ d.2) (h1 : d.2 ≤ x.length) (h : stepOne x d c = none) : Txt.find3 x (sg c) d.2 = -1 ∧ ∀ j, d.2.toNat ≤ j → x.cps.toList[j]? ≠ some c := by
  have hp : d.2 = (d.2.toNat : Int) := by omega
  unfold stepOne at h
  rcases find3_spec x c d.2.toNat (by omega) with ⟨e1, e2⟩ | ⟨k, e1, e2, e3, e4, e5⟩
  · rw [← hp] at e1
    exact ⟨e1, e2⟩
  · rw [← hp] at e1
    unfold sg at h
    rw [if_neg (by rw [e1]; omega)] at h; cases h
theorem len_sg (c : Nat) : (sg c).length = 1 := rfl
theorem len_none : (Str.ofString "").length = 0 := by decide +kernel
theorem level_ok (x : Str) : ∀ (k : Nat) (d : Str × Int), d ∈ levelAt x k → 0 ≤ d.2 ∧ d.2 ≤ x.length ∧ d.1.length = k
  | 0, d, h => by
    rw [List.mem_singleton.mp h]
    exact ⟨Int.le_refl _, Int.natCast_nonneg _, len_none⟩
  | k + 1, d, h => by
    refine hide fun P' hP' => ?_
    obtain ⟨e, he, hd⟩ := List.mem_flatMap.mp h
    obtain ⟨h0, h1, h2⟩ := level_ok x k e he
    obtain ⟨c, hc, hs⟩ := List.mem_filterMap.mp hd
    obtain ⟨n, a1, a2, a3, a4, a5, rfl⟩ := stepOne_some h0 h1 hs
    refine hP' ?_
    clear hP'
    refine ⟨by dsimp only; omega, by dsimp only; omega, ?_⟩
    show (e.1 ++ sg c).length = k + 1
    rw [Str.length_append, h2, len_sg]
theorem signs_at {i c : Nat} (h : (Str.ofString "-rwx").cps[i]? = some c) : signs[i]? = some c := by
  have e : (Str.ofString "-rwx").cps = signs.toArray := by decide +kernel
  rw [e] at h
  simpa using h
theorem signs_size : (Str.ofString "-rwx").cps.size = 4 := by decide +kernel
theorem signs_mem {i c : Nat} (h : signs[i]? = some c) : c = 45 ∨ c = 114 ∨ c = 119 ∨ c = 120 := by
  have := List.mem_of_getElem? h
  simpa [signs] using this
theorem repr_signs {c : Nat} (h : c = 45 ∨ c = 114 ∨ c = 119 ∨ c = 120) : (reprText ⟨#[c]⟩).length ≤ 100 := by
  rcases h with rfl | rfl | rfl | rfl <;> decide +kernel
theorem take_step {α β : Type} {l : List α} {i : Nat} {c : α} (f : α → Option β) (h : l[i]? = some c) : (l.take (i + 1)).filterMap f = (l.take i).filterMap f ++ (f c).toList := by
  rw [List.take_add_one, h, List.filterMap_append]
  cases hf : f c <;> simp [hf]
theorem take_flat {α β : Type} {l : List α} {i : Nat} {c : α} (f : α → List β) (h : l[i]? = some c) : (l.take (i + 1)).flatMap f = (l.take i).flatMap f ++ f c := by
  rw [List.take_add_one, h, List.flatMap_append]; simp
theorem stepAll_len (x : Str) (d : Str × Int) : (stepAll x d).length ≤ 4 := Nat.le_trans (List.length_filterMap_le _ _) (by decide)
theorem flat_len (x : Str) : ∀ l : List (Str × Int), (l.flatMap (stepAll x)).length ≤ 4 * l.length
  | [] => by simp
  | d :: l => by
    have h1 := stepAll_len x d
    have h2 := flat_len x l
    rw [List.flatMap_cons, List.length_append, List.length_cons]; omega
theorem level_len (x : Str) : ∀ k, (levelAt x k).length ≤ 4 ^ k
  | 0 => by simp [levelAt]
  | k + 1 => by
    have h1 := flat_len x (levelAt x k)
    have h2 := level_len x k
    show ((levelAt x k).flatMap (stepAll x)).length ≤ 4 ^ (k + 1)
    rw [Nat.pow_succ]; omega
theorem level_len3 (x : Str) {k : Nat} (h : k ≤ 3) : (levelAt x k).length ≤ 64 := Nat.le_trans (level_len x k) (by
  have : (4 : Nat) ^ k ≤ 4 ^ 3 := Nat.pow_le_pow_right (by omega) h
  omega)
theorem told_eq {c : Nat} (h : c = 45 ∨ c = 114 ∨ c = 119 ∨ c = 120) : sufMsg (Str.empty ++ Str.ofString "Expected " ++ reprText ⟨#[c]⟩) = Str.ofString "Expected '" ++ ⟨#[c]⟩ ++ Str.ofString "' (at end of document)" := by
  rcases h with rfl | rfl | rfl | rfl <;> decide +kernel
theorem words_len (x : Str) : ∀ {k : Nat}, k ≤ 3 → (wordsTo x k).length ≤ 64 * k
  | 0, _ => by simp [wordsTo]
  | k + 1, h => by
    have h1 := words_len x (k := k) (by omega)
    have h2 := level_len3 x h
    show (wordsTo x k ++ (levelAt x (k + 1)).map (·.1)).length ≤ _
    rw [List.length_append, List.length_map]; omega
theorem strs_append {vs ws : List Value} {ys zs : List Str} : StrsAre vs ys → StrsAre ws zs → StrsAre (vs ++ ws) (ys ++ zs)
  | .nil, r => r
  | .cons a b l, r => .cons a b (strs_append l r)
end Mine
end
section
open PySem PySem.W PyProof.Rows
set_option Elab.async false
namespace Mine
/-- the table of filemode: each row's address, and its pairs -/
def modeTab : List (Addr × List (Addr × Int × Tok × String × Tok)) :=
  [(56, [(49, 40960, 248, "l", 276), (50, 49152, 250, "s", 277), (51, 32768, 244, "-", 278), (52, 24576, 242, "b", 279), (53, 16384, 238, "d", 280), (54, 8192, 240, "c", 281), (55, 4096, 246, "p", 282)]),
   (58, [(57, 256, 258, "r", 283)]), (60, [(59, 128, 260, "w", 284)]), (64, [(61, 2112, 285, "s", 286), (62, 2048, 252, "S", 287), (63, 64, 262, "x", 288)]),
   (66, [(65, 32, 264, "r", 289)]), (68, [(67, 16, 266, "w", 290)]), (72, [(69, 1032, 291, "s", 292), (70, 1024, 254, "S", 293), (71, 8, 268, "x", 294)]),
   (74, [(73, 4, 270, "r", 295)]), (76, [(75, 2, 272, "w", 296)]), (80, [(77, 513, 297, "t", 298), (78, 512, 256, "T", 299), (79, 1, 274, "x", 300)])]
def rowRefs : List Value := modeTab.map fun r => .ref r.1
def pairRefs (ps : List (Addr × Int × Tok × String × Tok)) : List Value := ps.map fun q => .ref q.1
theorem tab_static {p : Params} {h : Heap} (X : (Mine.hd.heap_39 p).In h) : h.IsTuple 81 rowRefs.toArray ∧ ∀ r ∈ modeTab, h.IsTuple r.1 (pairRefs r.2).toArray ∧ ∀ q ∈ r.2, h.IsTuple q.1 #[.int q.2.1 q.2.2.1, .str (Str.ofString q.2.2.2.1) q.2.2.2.2] := by
  unfold modeTab rowRefs
  refine ⟨⟨_, X _ _ rfl, rfl, 0, rfl⟩, ?_⟩
  simp only [List.forall_mem_cons, List.not_mem_nil, false_imp_iff, implies_true, and_true]
  refine ⟨?_, ?_, ?_, ?_, ?_, ?_, ?_, ?_, ?_, ?_⟩
  all_goals (refine ⟨⟨_, X _ _ rfl, rfl, 0, rfl⟩, ?_⟩; repeat' (first | exact ⟨_, X _ _ rfl, rfl, 0, rfl⟩ | constructor))
theorem nmem2 {b z : Addr} (h : b < z) : b ∉ [z + 1, z] := fun hm => by
  rcases List.mem_cons.mp hm with e | e
  · exact Nat.ne_of_lt (Nat.lt_succ_of_lt h) e
  · exact Nat.ne_of_lt h (List.mem_singleton.mp e)
/-- between the turns of the inner loop of filemode: h4 is the heap before it -/
structure RowAt (h4 : Heap) (L lp : Addr) (m i : Nat) (hit : Int → Bool) (ps : List (Addr × Int × Tok × String × Tok)) (k : Nat) (h : Heap) : Prop where
  st : ∀ b o, h4.get? b = some o → b ≠ L → h.get? b = some o
  ns : ∃ mm t ti, h.Ns L mm ∧ mm (Str.ofString "mode") = some (.int (32768 + (m : Int)) t) ∧ mm (Str.ofString "perm") = some (.ref lp) ∧ mm (Str.ofString "index") = some (.int (i : Nat) ti)
  no : ∀ q ∈ ps.take k, hit q.2.1 = false
section
variable {prog : Program} {w : World} {A : Around} {elts : List Expr} {k : Nat} {tp : Pos} {body orelse : List Stmt} {env : Env} {Q : Flow → Shared → Prop} {E : Value → Shared → Prop} {s : Shared} {t L lp : Addr} {m i : Nat} {hit : Int → Bool} {ps : List (Addr × Int × Tok × String × Tok)}
theorem loop_row (hE : PassesOwn (model prog w) A env E) (hh : A.handled = none) (ht : s.heap.IsTuple t (pairRefs ps).toArray) (hL : L < s.heap.objs.size)
    (ns : ∃ mm t ti, s.heap.Ns L mm ∧ mm (Str.ofString "mode") = some (.int (32768 + (m : Int)) t) ∧ mm (Str.ofString "perm") = some (.ref lp) ∧ mm (Str.ofString "index") = some (.int (i : Nat) ti))
    (turn : ∀ j q h tk I, ps[j]? = some q → s.heap.objs.size ≤ I → RowAt s.heap L lp m i hit ps j h → (∃ o, h.get? I = some o) →
      wpAny (model prog w) A (assign (.Tuple elts k tp) env (.ref q.1)) (fun _ s₂ => wpAny (model prog w) A (execs body env) (TurnFlow Q [I, t] h (RowAt s.heap L lp m i hit ps (j + 1)) s) E s₂) E { s with heap := h, toks := tk })
    (done : ∀ h tk, RowAt s.heap L lp m i hit ps ps.length h → wpAny (model prog w) A (execs orelse env) Q E { s with heap := h, toks := tk }) :
    wpAny (model prog w) A (pyIter (.ref t)) (LoopElse prog w A env (.Tuple elts k tp) body orelse Q E) E s := by
  refine loop_pairs hE hh ht (RowAt s.heap L lp m i hit ps) ?_ ?_ ?_ ?_ ?_
  · intro j h h' I hI rx1 _ hk2
    refine hide fun P' hP' => ?_
    obtain ⟨c1, ⟨m2, t3, ti3, c2, c3, c4, c5⟩, c6⟩ := rx1
    refine hP' ?_
    clear hP'
    exact ⟨fun b o e hb => hk2 b o (Nat.ne_of_lt (Nat.lt_of_lt_of_le (Heap.lt_size e) hI)) (c1 b o e hb), ⟨m2, t3, ti3, c2.at' fun o e => hk2 _ _ (Nat.ne_of_lt (Nat.lt_of_lt_of_le hL hI)) e, c3, c4, c5⟩, c6⟩
  · intro j T h tk I _ hT hI inv hIo
    unfold pairRefs at hT
    simp only [List.getElem?_toArray, List.getElem?_map, Option.map_eq_some_iff] at hT
    refine hide fun P' hP' => ?_
    obtain ⟨q, hq, e⟩ := hT
    refine hP' ?_
    clear hP'
    cases e
    exact turn j q h tk I hq hI inv hIo
  · intro j v hv
    unfold pairRefs at hv
    simp only [List.getElem?_toArray, List.getElem?_map, Option.map_eq_some_iff] at hv
    refine hide fun P' hP' => ?_
    obtain ⟨q, hq, e⟩ := hv
    refine hP' ?_
    clear hP'
    exact ⟨_, e.symm⟩
  · intro h tk inv
    refine done h tk ?_
    simpa [pairRefs] using inv
  · refine hide fun P' hP' => ?_
    obtain ⟨mm, t2, ti, a, b⟩ := ns
    refine hP' ?_
    clear hP'
    exact ⟨fun b o e _ => Heap.get?_push_of_some _ e, ⟨mm, t2, ti, a.at' fun o e => Heap.get?_push_of_some _ e, b⟩, fun q hq => by simp at hq⟩
end
end Mine
end
section
open PySem PySem.W PyProof.Rows
set_option Elab.async false
namespace Mine
def rowSign (n : Int) (k : Nat) : Str := if (n.fdiv (2 ^ (8 - (k : Int)).toNat)).fmod 2 = 1 then Txt.item (Str.ofString "rwx") ((k : Int).fmod 3) else Str.ofString "-"
def RowEl (n : Int) (k : Nat) (y : Value) : Prop := ∃ u, y = .str (rowSign n k) u
def rowText (n : Int) : Str := Txt.join (Str.ofString "") ((List.range' 0 9).map (rowSign n))
theorem rowSign_len (n : Int) (k : Nat) : (rowSign n k).length ≤ 1 := by
  unfold rowSign
  split
  · unfold Txt.item
    exact Nat.le_refl 1
  · exact Nat.le_of_eq (by decide +kernel)
theorem sum_len {l : List Str} (h : ∀ x ∈ l, x.length ≤ 1) : (l.map (·.length)).sum ≤ l.length := by
  induction l with
  | nil => simp
  | cons x l ih =>
    have h1 := h x (.head _)
    have h2 := ih fun y hy => h y (.tail _ hy)
    rw [List.map_cons, List.sum_cons, List.length_cons]; omega
theorem row_els {n : Int} : ∀ (ys : List Value) (j : Nat), (∀ k y, ys[k]? = some y → RowEl n (j + k) y) → StrsAre ys ((List.range' j ys.length).map (rowSign n))
  | [], _, _ => .nil
  | y :: ys, j, h => by
    obtain ⟨u, e⟩ := h 0 y rfl
    rw [List.length_cons, List.range'_succ, List.map_cons, e]
    exact .cons _ u (row_els ys (j + 1) fun k y hy => by
      have := h (k + 1) y hy
      rwa [show j + (k + 1) = j + 1 + k by omega] at this)
theorem RowEl.one {n : Int} {k : Nat} {u : Tok} (h : (n.fdiv (2 ^ (8 - (k : Int)).toNat)).fmod 2 = 1) : RowEl n k (.str (Txt.item (Str.ofString "rwx") ((k : Int).fmod 3)) u) := ⟨u, by unfold rowSign; rw [if_pos h]⟩
theorem RowEl.zero {n : Int} {k : Nat} {u : Tok} (h : (n.fdiv (2 ^ (8 - (k : Int)).toNat)).fmod 2 ≠ 1) : RowEl n k (.str (Str.ofString "-") u) := ⟨u, by unfold rowSign; rw [if_neg h]⟩
section
local macro_rules | `(tactic| walk_at $k:str) => if ["call builtin:str.join", "EltPost", "eval ListComp", "pyIter ref"].contains k.getString then `(tactic| (refine Hold.mk ?_)) else Lean.Macro.throwUnsupported
local macro_rules | `(tactic| k_room) => `(tactic| ((try simp only [Around.deeper, Around.mark]); omega))
set_option maxRecDepth 100000 in
set_option maxHeartbeats 1000000 in
theorem row_spec {w : World} {loose : List Str} {mean : ExcName → Option Value} {mg mb : Str → Option Value} {base : Heap} {envs : List Env} {A : Around} {s : Shared} {Q E : Value → Shared → Prop} {n : Int} {t : Tok}
    (T0 : Top0 w loose mean mg mb base) (H : Here base envs A s.heap) (hh : A.handled = none) (hroom : A.depth + 8 < recursionLimit) (hunits : A.units + 80 < cLine) (tab : TabOk base s.heap)
    (ret : ∀ h' tk' t', s.heap.StaysIn h' → Q (.str (rowText n) t') { s with heap := h', toks := tk' }) :
    wpAny (model prg w) A (call (.ref 105) [.int n t]) Q E s := by
  refine hide fun P' hP' => ?_
  obtain ⟨ha, dp, fr, gd, un⟩ := A
  obtain rfl : fr = some envs := H.fr
  obtain rfl : ha = none := hh
  refine hP' ?_
  clear hP'
  dsimp only at hroom hunits
  have X : (Mine.hd.heap_39 w.params).In s.heap := T0.X.keeps H.st
  revert X
  unfold prg
  k_fill
  intro X
  refine hide fun P' hP' => ?_
  obtain ⟨o36, t36, t36d⟩ : ∃ o, s.heap.get? 36 = some o ∧ ∃ vs, o.data = .fields vs := by
    rcases tab with t1 | ⟨c, oc, vs, tt, _, t1, _⟩
    · exact ⟨_, t1, _, rfl⟩
    · exact ⟨_, t1, _, rfl⟩
  refine hP' ?_
  clear hP'
  refine wpAny_call ?_
  k_dflt (refine' enterC (K := Mine.hd.heap_39 w.params) ?k1 ?k2 ?k3 ?k4 ?k5 ?k6 ?k7 ?k8 ?_ ?c1 ?c2 ?c3; (case k1 => (show dp < _; omega)); (case k2 => exact X); (case k3 => exact T0.T.nolimit.keeps H.st); (case k4 => k_is); (case k5 => k_is); (case k6 => exact BindsTo.of_eq rfl); (case k7 => exact rfl); (case k8 => decide); (case c1 => exact rfl); (case c2 => exact rfl); (case c3 => exact rfl); k_whole)
  intro h₁ tk₁ cells hns hk₁ NC Y
  have K₁ : Kept envs s.heap h₁ := ⟨fun b o e _ _ => hk₁ b o e, fun b o e _ => ⟨o.slots, hk₁ b o e⟩⟩
  have L36 : 36 < s.heap.objs.size := Heap.lt_size t36
  refine hide fun P' hP' => ?_
  obtain ⟨co, rfl, hcd⟩ := CellsAre.one (n := Str.ofString "mode") (c := s.heap.objs.size + 1) Y
  refine hP' ?_
  clear hP'
  replace hcd : co.data = .cell (some (.int n t)) := hcd
  have hco := NC _ (.head _)
  clear Y
  generalize hL : s.heap.objs.size = L at *
  have tab₁ : TabOk base h₁ := tab.keeps (fun o e => hk₁ _ _ e) fun b o _ _ _ e _ _ _ => hk₁ _ _ e
  refine hide fun P' hP' => ?_
  obtain ⟨q36, B, X', T', C', hq36, hN, new0, hbst⟩ := regr T0 H tab hL L36 K₁ tab₁
  refine hP' ?_
  clear hP'
  have F : Fr (gnd s.heap h₁ L) L h₁ _ := gnd_fr hns
  have N : News (gnd s.heap h₁ L) L h₁ ([(L + 1, co)] ++ (36, q36) :: restN s.heap h₁ L [36, L]) := hN [_] _ (news_one hco.1 hco.2.2 hco.2.1 News.nil)
  generalize hR : restN s.heap h₁ L [36, L] = R at N
  dsimp only [List.cons_append, List.nil_append] at N
  clear NC
  w_strict (k_steps)
  refine Hold.of ?_
  refine ListComp_at (cl := [(Str.ofString "mode", L + 1)]) (fun _ => true) (fun v y => ∃ (k : Nat) (t : Tok), v = .int k t ∧ RowEl n k y) (by rfl) (by decide) rfl (by decide) rfl ?_
  w_strict (k_steps)
  refine Hold.of ?_
  rename Fr _ _ _ _ => F2
  rename News _ _ _ _ => N2
  rename IsRange _ _ _ _ _ _ _ _ => R2
  refine range_comp (n := 9) (RowEl n) rfl R2 (by decide) (by decide) (by rw [sizeLine_eq]; omega) ?elt ?done
  case elt =>
    intro C k tk s₃ m₃ E' hC hk hns₃ hm hst
    have F : Fr (gnd s.heap h₁ L) C s₃.heap (fun y => if y = Str.ofString "place" then some (.int k tk) else m₃ y) :=
      ⟨ns_kst hns₃ [(Str.ofString "place", .int k tk)] (fun p hp => by rw [List.mem_singleton.mp hp]; exact hm), fun b o e => hst b o (F2.keep b o e), Nat.le_trans F2.above (Nat.le_of_lt (Nat.lt_trans F2.ns.lt hC))⟩
    have eco := newsAt N2 (.head _)
    have N : News (gnd s.heap h₁ L) C s₃.heap [(L + 1, co)] := fun p hp => by
      rw [List.mem_singleton.mp hp]
      exact ⟨hst _ _ eco.1, Nat.ne_of_lt (Nat.lt_trans (Heap.lt_size eco.1) hC), eco.2.2⟩
    clear F2 N2 R2
    refine hide fun P' hP' => ?_
    obtain ⟨hp3, g3, d3, tk3, os3⟩ := s₃
    refine hP' ?_
    clear hP'
    w_strict (k_steps)
    all_goals (first | (show Addr; exact 0) | (show Str; exact Str.empty) | (show Value; exact .none) | (show List (Str × Addr); exact []) | skip)
    all_goals (refine Hold.of ⟨?_, ⟨_, _, rfl, fun _ _ e => e⟩⟩)
    · rename Int.fmod _ _ = 1 => hq
      exact RowEl.one hq
    · rename Int.fmod _ _ ≠ 1 => hq
      exact RowEl.zero hq
  case done =>
    intro D h' tk' ys hD hpl hlen hF hst
    have hS := row_els ys 0 (by simpa using hF)
    rw [hlen] at hS
    have F : Fr (gnd s.heap h₁ L) L h' _ := F2.kept hst
    have N : News (gnd s.heap h₁ L) L h' _ := fun p hp => ⟨hst _ _ (N2 p hp).1, (N2 p hp).2⟩
    clear F2 N2 R2
    dsimp only
    w_strict (k_steps)
    refine Hold.of ?_
    refine join_list (hpl.isList) (ys := (List.range' 0 9).map (rowSign n)) (by simpa using hS) ?_ ?_
    · have := sum_len (l := (List.range' 0 9).map (rowSign n)) fun x hx => by
        refine hide fun P' hP' => ?_
        obtain ⟨k, _, rfl⟩ := List.mem_map.mp hx
        refine hP' ?_
        clear hP'
        exact rowSign_len n k
      rw [len_none]
      simp at this ⊢
      omega
    intro t' k
    w_strict (k_steps)
    have e36 := (newsAt N (.tail _ (.head _))).1
    have K := kept_all hL (.of_stays hk₁) F (fun o e => by rw [hq36] at e; cases e; exact e36)
    exact ret _ _ _ fun b o e => K.out b o e (by simp) (by simp)
end
end Mine
end
section
open PySem PySem.W PyProof.Rows
set_option Elab.async false
namespace Mine
def modeBit (m i : Nat) (b : Int) : Bool := if i = 0 then decide (Builtin.bitAnd (32768 + (m : Int)) 61440 = b) else decide (Builtin.bitAnd (32768 + (m : Int)) b = b)
theorem bit0 {m i : Nat} {b : Int} (h : (i : Int) = 0) (hb : Builtin.bitAnd (32768 + (m : Int)) 61440 = b) : modeBit m i b = true := by
  have : i = 0 := by omega
  simp [modeBit, this, hb]
theorem bit0n {m i : Nat} {b : Int} (h : (i : Int) = 0) (hb : Builtin.bitAnd (32768 + (m : Int)) 61440 ≠ b) : modeBit m i b = false := by
  have : i = 0 := by omega
  simp [modeBit, this, hb]
theorem bit1 {m i : Nat} {b : Int} (h : (i : Int) ≠ 0) (hb : Builtin.bitAnd (32768 + (m : Int)) b = b) : modeBit m i b = true := by
  have : i ≠ 0 := by omega
  simp [modeBit, this, hb]
theorem bit1n {m i : Nat} {b : Int} (h : (i : Int) ≠ 0) (hb : Builtin.bitAnd (32768 + (m : Int)) b ≠ b) : modeBit m i b = false := by
  have : i ≠ 0 := by omega
  simp [modeBit, this, hb]
def modeSign (m i : Nat) (ps : List (Addr × Int × Tok × String × Tok)) : Str :=
  match ps.find? fun q => modeBit m i q.2.1 with
  | some q => Str.ofString q.2.2.2.1
  | none => if i = 0 then Str.ofString "?" else Str.ofString "-"
def modeCh (m i : Nat) : Str := modeSign m i ((modeTab[i]?.getD (0, [])).2)
def modeText (m : Nat) : Str := Txt.join (Str.ofString "") ((List.range 10).map (modeCh m))
theorem find_at {α : Type} {p : α → Bool} : ∀ {l : List α} {k : Nat} {q : α}, l[k]? = some q → (∀ x ∈ l.take k, p x = false) → p q = true → l.find? p = some q
  | [], _, _, e, _, _ => by simp at e
  | a :: l, 0, q, e, _, hq => by cases e; simp [List.find?, hq]
  | a :: l, k + 1, q, e, hn, hq => by
    have ha := hn a (by simp)
    simp only [List.find?, ha]
    exact find_at (k := k) (by simpa using e) (fun x hx => hn x (by simp [hx])) hq
theorem modeCh_at {m i k : Nat} {r : Addr × List (Addr × Int × Tok × String × Tok)} {q : Addr × Int × Tok × String × Tok} (hr : modeTab[i]? = some r) (hq : r.2[k]? = some q) (hn : ∀ x ∈ r.2.take k, modeBit m i x.2.1 = false) (hb : modeBit m i q.2.1 = true) : Str.ofString q.2.2.2.1 = modeCh m i := by
  unfold modeCh modeSign
  rw [hr]
  simp only [Option.getD_some]
  rw [find_at (p := fun q => modeBit m i q.2.1) hq hn hb]
theorem modeCh_no {m i : Nat} {r : Addr × List (Addr × Int × Tok × String × Tok)} (hr : modeTab[i]? = some r) (hn : ∀ x ∈ r.2.take r.2.length, modeBit m i x.2.1 = false) : modeCh m i = if i = 0 then Str.ofString "?" else Str.ofString "-" := by
  unfold modeCh modeSign
  rw [hr]
  simp only [Option.getD_some]
  rw [List.take_length] at hn
  have : r.2.find? (fun q => modeBit m i q.2.1) = none := by
    rw [List.find?_eq_none]
    intro x hx
    simpa using hn x hx
  rw [this]
theorem modeCh_len {m i : Nat} : (modeCh m i).length ≤ 1 := by
  unfold modeCh modeSign
  split
  · rename_i q hq
    have hm := List.mem_of_find?_eq_some hq
    have : ∀ r ∈ modeTab, ∀ q ∈ r.2, (Str.ofString q.2.2.2.1).length ≤ 1 := by decide +kernel
    cases hr : modeTab[i]? with
    | none => rw [hr] at hm; simp at hm
    | some r => rw [hr] at hm; exact this r (List.mem_of_getElem? hr) q hm
  · split <;> decide +kernel
structure ModeAt (h0 : Heap) (L lp : Addr) (m i : Nat) (h : Heap) : Prop where
  st : h0.StaysIn h
  at' : ∃ mm us t n, h.Ns L mm ∧ mm (Str.ofString "mode") = some (.int (32768 + (m : Int)) t) ∧ mm (Str.ofString "perm") = some (.ref lp) ∧ h.get? lp = some (W.listOf (List.toArray us) n) ∧ StrsAre us ((List.range i).map (modeCh m))
section
variable {h0 h₃ h4 h h' : Heap} {L lp : Addr} {z m i tk' : Nat} {us : List Value} {c : Str} {u t3 : Tok} {n7 : Nat} {q36 : Obj} {R6 : List (Addr × Obj)} {mm : Str → Option Value} {s : Shared}
theorem stay_end {l : List (Addr × Obj)} (hL : h0.objs.size = L) (st6 : h0.StaysIn h) (h36 : h.get? 36 = some q36) (F : Fr (gnd h0 h L) L h' mm) (N : News (gnd h0 h L) L h' l) (m36 : (36, q36) ∈ l) : h0.StaysIn h' := fun b o e => by
  have e6 := st6 b o e
  by_cases hb : b = 36
  · subst hb
    rw [h36] at e6; cases e6
    exact (newsAt N m36).1
  · exact F.keep _ _ (gnd_get e6 (hL ▸ Heap.lt_size e) e hb)
theorem mode_fin (hL : s.heap.objs.size = L) (hz : L < z ∧ lp < z) (nlp : lp ≠ L ∧ lp ≠ 36 ∧ s.heap.get? lp = none) (e81 : ∃ o, s.heap.get? 81 = some o) (L36 : 36 < L)
    (hk : ∀ b o, h₃.get? b = some o → b ∉ [36, L, lp] → h.get? b = some o) (st6 : s.heap.StaysIn h) (h36 : h.get? 36 = some q36) (hR : restN s.heap h L [36, L, lp] = R6) (F : Fr (gnd s.heap h L) L h' mm)
    (hm : mm (Str.ofString "mode") = some (.int (32768 + (m : Int)) t3)) (hp : mm (Str.ofString "perm") = some (.ref lp)) (N : News (gnd s.heap h L) L h' ((lp, W.listOf (us.toArray.push (.str c u)) n7) :: (36, q36) :: R6))
    (a5 : StrsAre us ((List.range i).map (modeCh m))) (hc : c = modeCh m i) : TurnFit [z + 1, z, 81] h₃ (ModeAt s.heap L lp m (i + 1)) s { s with heap := h', toks := tk' } := by
  have J6 := keptB_of (envs := []) (S := [36, L, lp]) hL (fun _ h => absurd h (by simp)) F N (.head _) (.tail _ (.head _)) (fun p hp => by rw [hR] at hp; exact .tail _ (.tail _ hp))
  refine ⟨h', tk', rfl, fun b hb o e => ?_, stay_end hL st6 h36 F N (.tail _ (.head _)), mm, us ++ [.str c u], t3, n7, F.ns, hm, hp, ?_, ?_⟩
  · have nb : b ∉ [36, L, lp] := by
      obtain ⟨o81, h81⟩ := e81
      have hlt := hL ▸ Heap.lt_size h81
      have n81 : (81 : Nat) ≠ lp := fun z => by
        have z' : (81 : Addr) = lp := z
        rw [z', nlp.2.2] at h81; cases h81
      intro hm'
      simp only [List.mem_cons, List.not_mem_nil, or_false] at hb hm'
      rcases hb with rfl | rfl | rfl <;> rcases hm' with e' | e' | e'
      · exact absurd (show z + 1 = 36 from e') (Nat.ne_of_gt (Nat.lt_succ_of_lt (Nat.lt_trans L36 hz.1)))
      · exact absurd (show z + 1 = L from e') (Nat.ne_of_gt (Nat.lt_succ_of_lt hz.1))
      · exact absurd (show z + 1 = lp from e') (Nat.ne_of_gt (Nat.lt_succ_of_lt hz.2))
      · exact absurd (show b = 36 from e') (Nat.ne_of_gt (Nat.lt_trans L36 hz.1))
      · exact absurd (show b = L from e') (Nat.ne_of_gt hz.1)
      · exact absurd (show b = lp from e') (Nat.ne_of_gt hz.2)
      · exact absurd e' (by decide)
      · exact absurd e' (Nat.ne_of_lt hlt)
      · exact n81 e'
    exact J6.out _ _ (hk b o e nb) (by simp) nb
  · have := (newsAt N (.head _)).1
    simpa using this
  · rw [List.range_succ, List.map_append]
    subst hc
    exact strs_snoc a5
theorem row_fin {I : Addr} {r : Addr × List (Addr × Int × Tok × String × Tok)} {k n2 : Nat} {q : Addr × Int × Tok × String × Tok} {ti3 : Tok} (hL : s.heap.objs.size = L) (nlp : lp ≠ L ∧ lp ≠ 36 ∧ s.heap.get? lp = none) (e1 : ∃ o, s.heap.get? r.1 = some o) (n36 : r.1 ≠ 36) (L36 : 36 < L) (hI : L < I ∧ lp < I)
    (hk : ∀ b o, h4.get? b = some o → b ≠ L → h.get? b = some o) (h36 : h.get? 36 = some q36) (hlp : h.get? lp = some (W.listOf us.toArray n2)) (hR : restN s.heap h L [36, L, lp] = R6) (F : Fr (gnd s.heap h L) L h' mm)
    (hm : mm (Str.ofString "mode") = some (.int (32768 + (m : Int)) t3)) (hp : mm (Str.ofString "perm") = some (.ref lp)) (hi : mm (Str.ofString "index") = some (.int (i : Nat) ti3)) (N : News (gnd s.heap h L) L h' ((lp, W.listOf us.toArray n2) :: (36, q36) :: R6))
    (hq : r.2[k]? = some q) (hno : ∀ x ∈ r.2.take k, modeBit m i x.2.1 = false) (hnot : modeBit m i q.2.1 = false) {tk4 : Nat} : TurnFit [I, r.1] h (RowAt h4 L lp m i (modeBit m i) r.2 (k + 1)) { s with heap := h4, toks := tk4 } { s with heap := h', toks := tk' } := by
  have J6 := keptB_of (envs := []) (S := [36, L, lp]) hL (fun _ h => absurd h (by simp)) F N (.head _) (.tail _ (.head _)) (fun p hp => by rw [hR] at hp; exact .tail _ (.tail _ hp))
  refine ⟨h', tk', rfl, fun b hb o e => ?_, fun b o e hb => ?_, ⟨mm, t3, ti3, F.ns, hm, hp, hi⟩, fun x hx => ?_⟩
  · have nb : b ∉ [36, L, lp] := by
      obtain ⟨o1, h1⟩ := e1
      have hlt := hL ▸ Heap.lt_size h1
      intro hm'
      simp only [List.mem_cons, List.not_mem_nil, or_false] at hb hm'
      rcases hb with rfl | rfl <;> rcases hm' with e' | e' | e'
      · exact absurd (show b = 36 from e') (Nat.ne_of_gt (Nat.lt_trans L36 hI.1))
      · exact absurd (show b = L from e') (Nat.ne_of_gt hI.1)
      · exact absurd (show b = lp from e') (Nat.ne_of_gt hI.2)
      · exact n36 e'
      · exact absurd e' (Nat.ne_of_lt hlt)
      · rw [e', nlp.2.2] at h1; cases h1
    exact J6.out _ _ e (by simp) nb
  · have e6 := hk b o e hb
    by_cases h36' : b = 36
    · subst h36'
      rw [h36] at e6; cases e6
      exact (newsAt N (.tail _ (.head _))).1
    by_cases hlp' : b = lp
    · subst hlp'
      rw [hlp] at e6; cases e6
      exact (newsAt N (.head _)).1
    exact J6.out _ _ e6 (by simp) (by simp [h36', hlp', hb])
  · rw [List.take_add_one, hq] at hx
    rcases List.mem_append.mp hx with hx | hx
    · exact hno x hx
    · rw [show x = q by simpa using hx]; exact hnot
/-- perm.append: the ledger behind it -/
theorem mode_push {us' : Array Value} {n6 : Nat} (nlp : lp ≠ L ∧ lp ≠ 36 ∧ h0.get? lp = none) (hR : restN h0 h L [36, L, lp] = R6) (N : News (gnd h0 h L) L h4 ((lp, W.listOf us.toArray n6) :: (36, q36) :: R6)) (hs : Heap.SameBut lp h4 h') (hl : h'.get? lp = some (W.listOf us' n7)) :
    News (gnd h0 h L) L h' ((lp, W.listOf us' n7) :: (36, q36) :: R6) := fun p hp => by
  rcases List.mem_cons.mp hp with rfl | hp
  · exact ⟨hl, (newsAt N (.head _)).2⟩
  refine news_but (l' := (36, q36) :: R6) N hs (fun p hp => ?_) p hp
  rcases List.mem_cons.mp hp with rfl | hp
  · exact ⟨.tail _ (.head _), nlp.2.1.symm⟩
  · refine ⟨.tail _ (.tail _ hp), ?_⟩
    rw [← hR] at hp
    have := (mem_restN.mp hp).2.2.2
    simp only [List.mem_cons, List.not_mem_nil, or_false, not_or] at this
    exact this.2.2
end
end Mine
end
section
/- the plain side of _law_new -/
namespace Mine
/-- front[b:e] -/
def seg (f : List Nat) (b e : Nat) : List Nat := (f.take e).drop b
def needs (f w : List Nat) (b e : Nat) : List Nat := w.filter fun c => decide (c ∉ seg f b e)
def fourSigns : List Nat := [45, 114, 119, 120]
def bdown (f w : List Nat) (e : Nat) : Nat → Nat
  | 0 => 0
  | b + 1 => if needs f w (b + 1) e = [] then b + 1 else bdown f w e b
def lackAt (f w : List Nat) (b e : Nat) : List Nat := fourSigns.filter fun c => decide (c ∈ w ∧ c ∉ seg f b e)
def newAt (f word w : List Nat) (e : Nat) : List Nat :=
  match lackAt f w (bdown f w e e) e with
  | c :: _ => c :: word
  | [] => if h : bdown f w e e < e then newAt f (f[bdown f w e e]?.getD 0 :: word) (seg f (bdown f w e e) e) (bdown f w e e) else word
termination_by e
theorem bdown_stop {f w : List Nat} {e b : Nat} (h : b = 0 ∨ needs f w b e = []) : bdown f w e b = b := by
  cases b with
  | zero => rfl
  | succ b =>
    rcases h with h | h
    · omega
    · unfold bdown; rw [if_pos h]
theorem bdown_step {f w : List Nat} {e b : Nat} (h0 : 0 < b) (h : needs f w b e ≠ []) : bdown f w e b = bdown f w e (b - 1) := by
  cases b with
  | zero => omega
  | succ b => rw [bdown, if_neg h]; rfl
theorem bdown_le {f w : List Nat} {e : Nat} : ∀ b, bdown f w e b ≤ b
  | 0 => Nat.le_refl _
  | b + 1 => by
    unfold bdown
    split
    · exact Nat.le_refl _
    · exact Nat.le_succ_of_le (bdown_le b)
theorem seg_len {f : List Nat} {b e : Nat} : (seg f b e).length ≤ e - b := by
  unfold seg; rw [List.length_drop, List.length_take]; omega
theorem newAt_ret {f word w r : List Nat} {e c : Nat} (h : lackAt f w (bdown f w e e) e = c :: r) : newAt f word w e = c :: word := by
  rw [newAt, h]
theorem newAt_next {f word w : List Nat} {e : Nat} (h : lackAt f w (bdown f w e e) e = []) (hw : w ≠ []) (hs : ∀ c ∈ w, c ∈ fourSigns) :
    bdown f w e e < e ∧ newAt f word w e = newAt f (f[bdown f w e e]?.getD 0 :: word) (seg f (bdown f w e e) e) (bdown f w e e) ∧ seg f (bdown f w e e) e ≠ [] ∧ ∀ c ∈ w, c ∈ seg f (bdown f w e e) e := by
  have hin : ∀ c ∈ w, c ∈ seg f (bdown f w e e) e := fun c hc => by
    have := List.filter_eq_nil_iff.mp h c (hs c hc)
    simpa [hc] using this
  have hne : seg f (bdown f w e e) e ≠ [] := fun hn => by
    refine hide fun P' hP' => ?_
    obtain ⟨c, r, rfl⟩ := List.exists_cons_of_ne_nil hw
    refine hP' ?_
    clear hP'
    have := hin c (.head _)
    rw [hn] at this; cases this
  have hlt : bdown f w e e < e := by
    have h1 := seg_len (f := f) (b := bdown f w e e) (e := e)
    have h2 := List.length_pos_iff.mpr hne
    omega
  refine ⟨hlt, ?_, hne, hin⟩
  rw [newAt, h]
  simp only [dif_pos hlt]
end Mine
end
section
open PySem PySem.W PyProof.Rows
set_option Elab.async false
namespace Mine
/-- the frame of _law_new between the steps -/
structure NewAt (h0 : Heap) (L : Addr) (x w word : Str) (e : Nat) (vb : Option Value) (h : Heap) : Prop where
  st : h0.StaysIn h
  ns : ∃ mm t, h.Ns L mm ∧ mm (Str.ofString "word") = some (.str word t)
  cf : ∃ o t, h.get? (L + 1) = some o ∧ o.data = .cell (some (.str x t))
  cw : ∃ o t, h.get? (L + 1 + 1) = some o ∧ o.data = .cell (some (.str w t))
  ce : ∃ o t, h.get? (L + 1 + 1 + 1) = some o ∧ o.data = .cell (some (.int (e : Nat) t))
  cb : ∃ o, h.get? (L + 1 + 1 + 1 + 1) = some o ∧ o.data = .cell vb
structure NewGo (w : World) (loose : List Str) (mean : ExcName → Option Value) (mg mb : Str → Option Value) (base : Heap) (envs : List Env) (A : Around) (h0 h : Heap) (L : Addr) (x wt word : Str) (e : Nat) (vb : Option Value) (q36 : Obj) (tw tf te twt : Tok) (cb ce cw cf : Obj) (mm : Str → Option Value) : Prop where
  B : Below A base envs (gnd h0 h L)
  X : (Mine.hd.heap_39 w.params).In (gnd h0 h L)
  T : Top topProg loose mean mg mb (gnd h0 h L)
  C : CodeHd (gnd h0 h L) 40 36
  q : h.get? 36 = some q36
  F : Fr (gnd h0 h L) L h (fun y => if y = Str.ofString "word" then some (.str word tw) else mm y)
  N : News (gnd h0 h L) L h [(L + 1 + 1 + 1 + 1, cb), (L + 1 + 1 + 1, ce), (L + 1 + 1, cw), (L + 1, cf), (36, q36)]
  f : cf.data = .cell (some (.str x tf))
  w' : cw.data = .cell (some (.str wt twt))
  e' : ce.data = .cell (some (.int (e : Nat) te))
  b' : cb.data = .cell vb
  new0 : ∀ {b}, (gnd h0 h L).get? b = none → b ≠ 36 → h0.get? b = none
section
variable {w : World} {loose : List Str} {mean : ExcName → Option Value} {mg mb : Str → Option Value} {base : Heap} {envs : List Env} {A : Around} {h0 h h' : Heap} {L : Addr} {x wt word : Str} {e : Nat} {vb : Option Value} {mm : Str → Option Value}
theorem above {k : Nat} (hL : h0.objs.size = L) : h0.get? (L + 1 + k) = none := Heap.get?_none_of_le (Nat.le_trans (Nat.le_of_eq hL) (Nat.le_trans (Nat.le_succ L) (Nat.le_add_right _ _)))
theorem NewAt.go (T0 : Top0 w loose mean mg mb base) (H : Here base envs A h0) (tab : TabOk base h0) (hL : h0.objs.size = L) (L36 : 36 < L) (J : NewAt h0 L x wt word e vb h) :
    ∃ q36 tw tf te twt cb ce cw cf mm, NewGo w loose mean mg mb base envs A h0 h L x wt word e vb q36 tw tf te twt cb ce cw cf mm := by
  refine hide fun P' hP' => ?_
  obtain ⟨st, ⟨mm, tw, n1, n2⟩, ⟨cf, tf, f1, f2⟩, ⟨cw, twt, w1, w2⟩, ⟨ce, te, e1, e2⟩, ⟨cb, b1, b2⟩⟩ := J
  obtain ⟨q36, B, X', T', C', hq36, hN, new0, hbst⟩ := regr T0 H tab hL L36 ⟨fun b o e _ _ => st b o e, fun b o e _ => ⟨o.slots, st b o e⟩⟩ (tab.keeps (fun o e => st _ _ e) fun b o _ _ _ e _ _ _ => st _ _ e)
  refine hP' ?_
  clear hP'
  have ne : ∀ k : Nat, L + 1 + k ≠ L := fun k => Nat.ne_of_gt (Nat.lt_of_lt_of_le (Nat.lt_succ_self L) (Nat.le_add_right _ _))
  have N0 := hN [(L + 1 + 1 + 1 + 1, cb), (L + 1 + 1 + 1, ce), (L + 1 + 1, cw), (L + 1, cf)] [] (news_one b1 (above (k := 3) hL) (ne 3) (news_one e1 (above (k := 2) hL) (ne 2) (news_one w1 (above (k := 1) hL) (ne 1) (news_one f1 (above (k := 0) hL) (ne 0) News.nil))))
  refine ⟨q36, tw, tf, te, twt, cb, ce, cw, cf, mm, B, X', T', C', hq36, gnd_fr (ns_kst n1 [(Str.ofString "word", .str word tw)] fun p hp => by rw [List.mem_singleton.mp hp]; exact n2), fun p hp => N0 p ?_, f2, w2, e2, b2, new0⟩
  simp only [List.mem_cons, List.not_mem_nil, or_false] at hp
  simp only [List.cons_append, List.nil_append, List.mem_cons]
  rcases hp with h | h | h | h | h <;> simp [h]
theorem NewAt.of {cb ce cw cf q36 : Obj} {tw tf te twt : Tok} {word' wt' : Str} {e' : Nat} {vb' : Option Value} {l : List (Addr × Obj)} (hL : h0.objs.size = L) (J : NewAt h0 L x wt word e vb h) (h36 : h.get? 36 = some q36)
    (F : Fr (gnd h0 h L) L h' mm) (N : News (gnd h0 h L) L h' l) (m1 : (L + 1 + 1 + 1 + 1, cb) ∈ l) (m2 : (L + 1 + 1 + 1, ce) ∈ l) (m3 : (L + 1 + 1, cw) ∈ l) (m4 : (L + 1, cf) ∈ l) (m5 : (36, q36) ∈ l)
    (hw : mm (Str.ofString "word") = some (.str word' tw)) (f2 : cf.data = .cell (some (.str x tf))) (w2 : cw.data = .cell (some (.str wt' twt))) (e2 : ce.data = .cell (some (.int (e' : Nat) te))) (b2 : cb.data = .cell vb') :
    NewAt h0 L x wt' word' e' vb' h' :=
  ⟨stay_end hL J.st h36 F N m5, ⟨_, _, F.ns, hw⟩, ⟨_, _, (newsAt N m4).1, f2⟩, ⟨_, _, (newsAt N m3).1, w2⟩, ⟨_, _, (newsAt N m2).1, e2⟩, ⟨_, (newsAt N m1).1, b2⟩⟩
end
/-- a loop that is left at its test -/
def Left (P : Shared → Prop) (f : Flow) (s : Shared) : Prop := f = .next ∧ P s
end Mine
end
section
open PySem PySem.W PyProof.Rows
set_option Elab.async false
namespace Mine
open PySem.Builtin.Str
section
variable {prog : Program} {w : World} {A : Around} {E : Value → Shared → Prop} {s : Shared} {value slice : Expr} {x : Str} {t : Tok} {h₀ g0 : Heap} {L : Addr} {m : Str → Option Value} {news : List (Addr × Obj)} {Q : Value → Shared → Prop}
theorem keptStay {g0 : Heap} : KeptH (fun h => (Fr h₀ L h m ∧ News h₀ L h news) ∧ g0.StaysIn h) :=
  fun _ ob a => ⟨⟨Fr.pushS a.1.1 ob, a.1.2.pushKeep ob⟩, fun b o e => Heap.get?_push_of_some _ (a.2 b o e)⟩
theorem slice_stay {i j : Int} {ui uj : Tok} (hF : Fr h₀ L s.heap m) (hN : News h₀ L s.heap news) (hG : g0.StaysIn s.heap)
    (h : ∀ h' t' k, Fr h₀ L h' m → News h₀ L h' news → g0.StaysIn h' → Q (.str (Txt.slice x (some i) (some j)) t') { s with heap := h', toks := k }) (hsz : x.length ≤ sizeLine)
    (hs : subscripted slice false (.str x t) (.ref s.heap.objs.size) = operate [.ref s.heap.objs.size, .str x t] (getItem (.str x t) (.ref s.heap.objs.size)) := by with_unfolding_all rfl)
    (ht : ∀ r, letTemporaryGo value (.str x t) r = pure () := by intro _; with_unfolding_all rfl) :
    wpAny (model prog w) A (subscriptTail value slice (.str x t) (.ref s.heap.objs.size)) Q E { s with heap := s.heap.push { cls := .type "slice", data := .fields #[.int i ui, .int j uj, .none] } } :=
  tail_of_ItemOn (SBH.sliceItem_ss keptStay ⟨⟨hF, hN⟩, hG⟩ (fun h' t' k a => h h' t' k a.1.1 a.1.2 a.2) hsz) hs ht
end
theorem slice_seg {x : Str} {b e : Nat} (h1 : b ≤ e) (h2 : e ≤ x.length) : (Txt.slice x (some (b : Int)) (some (e : Int))).cps.toList = seg x.cps.toList b e := by
  have h := eq_of_beq (slice_closesL (x := x) (i := (b : Int)) (j := (e : Int)) (by omega) (by omega) (by omega))
  rw [h]
  unfold seg
  rw [List.drop_take]
  simp
theorem occ_none (y : Str) (c : Nat) : (occurrences y ⟨#[c]⟩ 0 y.length 1).isEmpty = decide (c ∉ y.cps.toList) := by
  rw [StrLaws.occ_eq, occ_first _ _ _ _ _ _ (Nat.le_refl _)]
  cases hf : (List.range' 0 (y.length + 1 - 0)).find? fun i => decide (i + (⟨#[c]⟩ : Str).length ≤ y.length ∧ subAt y ⟨#[c]⟩ i = true) with
  | none =>
    have : c ∉ y.cps.toList := fun hm => by
      refine hide fun P' hP' => ?_
      obtain ⟨j, hj, e⟩ := List.mem_iff_getElem.mp hm
      refine hP' ?_
      clear hP'
      have hj' : y.cps.toList[j]? = some c := by rw [List.getElem?_eq_getElem hj, e]
      have h2 := List.find?_eq_none.mp hf j (by
        have : j < y.length := by simpa [Str.length] using hj
        rw [List.mem_range'_1]; omega)
      simp only [decide_eq_true_eq] at h2
      exact h2 ((StrLaws.subAt_one y c j).mpr hj')
    rw [decide_eq_true this]; rfl
  | some k =>
    have h1 := (List.find?_eq_some_iff_append.mp hf).1
    have h1' := (StrLaws.subAt_one y c k).mp (by simpa using h1)
    have : ¬ (c ∉ y.cps.toList) := fun hn => hn (List.mem_of_getElem? h1')
    rw [decide_eq_false this]; rfl
end Mine
end
section
open PySem PySem.W PyProof.Rows PyProof.V PySem.Spec
set_option Elab.async false
namespace Mine
def StrsOk (ss : List Str) : Prop := ∀ x ∈ ss, PyData.strOk x = true
theorem lay_strs : ∀ ss : List Str, StrsOk ss → PyData.canLayAll0 (ss.map PyData.str) = true
  | [], _ => rfl
  | x :: r, h => by simp [PyData.canLayAll0, PyData.canLay0, lay_strs r fun y hy => h y (.tail _ hy), h x (.head _)]
theorem depth_strs : ∀ ss : List Str, PyData.depthAll (ss.map PyData.str) = 0
  | [] => rfl
  | _ :: r => by simp [PyData.depthAll, PyData.depth, depth_strs r]
theorem shaped_strs {ss : List Str} (h : StrsOk ss) : SeqAt.shaped (.list (ss.map PyData.str)) = true := by
  simp [SeqAt.shaped, PyData.canLay0, PyData.depth, lay_strs ss h, depth_strs]
theorem carried_strs {vs : List Value} {ss : List Str} (h : StrsAre vs ss) : CarriedAll vs (ss.map PyData.str) := by
  induction h with
  | nil => exact .nil
  | cons x t r ih => exact .cons (.str _ t) ih
theorem same_nil : ∀ ss : List Str, PySem.Spec.same (.list (ss.map PyData.str)) (.list []) = decide (ss = [])
  | [] => by simp [PySem.Spec.same, PySem.Spec.sameAll]
  | _ :: _ => by simp [PySem.Spec.same, PySem.Spec.sameAll]
theorem nil_has : (Shape.list Shape.str).has (.list []) = true := list_map_has (sh := Shape.str) (l := ([] : List Str)) (g := PyData.str) fun _ => rfl
section
variable {prog : Program} {w : World} {A : Around} {E : Value → Shared → Prop} {s : Shared} {a b : Addr} {xs : List Value} {ss : List Str} {Q : Value → Shared → Prop}
theorem ne_nil_strs (hok : StrsOk ss) (ha : s.heap.IsList a xs.toArray) (hb : s.heap.IsList b #[]) (hi : StrsAre xs ss) (hu : A.units + 64 < cLine) (h : Q (.bool (!decide (ss = []))) s) :
    wpAny (model prog w) A (compareOp .NotEq (.ref a) (.ref b)) Q E s :=
  ne_dataH_same (reads_newData ha (carried_strs hi)) (reads_newData (ds := []) hb CarriedAll.nil) (shaped_strs hok) (shaped_strs (ss := []) (fun _ h => nomatch h)) hu (SeqAt.noMix_of_shape (.list .str) rfl _ _ (list_map_has fun _ => rfl) nil_has) (by rw [same_nil]; exact h)
theorem eq_nil_strs (hok : StrsOk ss) (ha : s.heap.IsList a xs.toArray) (hb : s.heap.IsList b #[]) (hi : StrsAre xs ss) (hu : A.units + 64 < cLine) (h : Q (.bool (decide (ss = []))) s) :
    wpAny (model prog w) A (compareOp .Eq (.ref a) (.ref b)) Q E s :=
  eq_dataH_same (reads_newData ha (carried_strs hi)) (reads_newData (ds := []) hb CarriedAll.nil) (shaped_strs hok) (shaped_strs (ss := []) (fun _ h => nomatch h)) hu (SeqAt.noMix_of_shape (.list .str) rfl _ _ (list_map_has fun _ => rfl) nil_has) (by rw [same_nil]; exact h)
end
end Mine
end
section
open PySem PySem.W PyProof.Rows
set_option Elab.async false
namespace Mine
section
variable {prog : Program} {w : World} {A : Around} {E : Value → Shared → Prop} {s : Shared} {env : Env} {elt iter : Expr} {x y : Str} {px py pos spos : Pos} {ifs : List Expr} {scope : Scope} {cl : List (Str × Addr)} {Q : Flow → Shared → Prop}
/-- y = [elt for x in ..]: what the loop of it needs -/
def CompSet (prog : Program) (w : World) (A : Around) (env : Env) (scope : Scope) (cl : List (Str × Addr)) (x y : Str) (ifs : List Expr) (elt : Expr) (Q : Flow → Shared → Prop) (p : Value → Bool) (F : Value → Value → Prop) (it : Value) (s₂ : Shared) : Prop :=
  ∃ I fp wr n P St m, it = .ref I ∧ Walks prog w A I fp wr n P St ∧ n ≤ sizeLine ∧ St 0 s₂.heap ∧ (∀ b ∈ fp, b < s₂.heap.objs.size) ∧ env.locals ∉ wr ∧ s₂.heap.Ns env.locals m ∧ QuietOnC prog w A env scope cl x ifs elt wr P p F s₂ ∧
      (∀ D h' tk ys (vs : List Value), s₂.heap.get? D = none → h'.IsList D ys → h'.PlainList D ys → vs.length = n → (∀ j v, vs[j]? = some v → P j v) → Paired F (vs.filter p) ys.toList →
        h'.Ns env.locals (fun z => if z = y then some (.ref D) else m z) → (∀ b o, b ≠ env.locals → b ∉ wr → s₂.heap.get? b = some o → h'.get? b = some o) → Q .next { s₂ with heap := h', toks := tk })
theorem AssignComp_at (p : Value → Bool) (F : Value → Value → Prop) (hsw : swapsWith (.ListComp elt [⟨.Name x px, iter, ifs, 0⟩] scope pos) (some (.Name y py)) spos.line env = pure true)
    (hclos : closureFor scope env = pure cl) (hcell : ∀ z ∈ scope.names, z.2 ≠ .cell) (hkind : scope.kind = .function) (hnames : ∀ z ∈ scope.names, z.2 = .local → scope.names.lookup z.1 = some .local) (hx : scope.names.lookup x = some .local)
    (hy : env.kindOf y = some .local) (hp : (env.scope.kind == .class || (env.scope.kind == .module && env.locals != env.globals)) = false)
    (h : wpAny (model prog w) A (eval iter env) (fun xv s₁ => wpAny (model prog w) A (pyIter xv) (CompSet prog w A env scope cl x y ifs elt Q p F) E s₁) E s) (hs : ∀ x, foldedSetIterable iter env x = pure x := by intro _; rfl) :
    wpAny (model prog w) A (exec (.Assign [.Name y py] (.ListComp elt [⟨.Name x px, iter, ifs, 0⟩] scope pos) spos) env) Q E s := wpAny_Assign_ListComp_free p F hsw hclos hcell hkind hnames hx hy hp h hs
theorem pushed_kept' {h h' : Heap} {o : Obj} {L : Addr} (k : ∀ b o', b ≠ L → b ∉ [h.objs.size] → (h.push o).get? b = some o' → h'.get? b = some o') : ∀ b o, b ≠ L → h.get? b = some o → h'.get? b = some o := fun b o' n e =>
  k b o' n (fun hm => absurd (Heap.lt_size e) ((List.mem_singleton.mp hm) ▸ Nat.lt_irrefl _)) (Heap.get?_push_of_some _ e)
theorem filter_signs {p : Nat → Bool} : ∀ (l : List Value) (cs : List Nat), l.length = cs.length → (∀ (j : Nat) (v : Value), l[j]? = some v → ∃ (a : Nat) (u : Tok), cs[j]? = some a ∧ v = Value.str ⟨#[a]⟩ u) → StrsAre (l.filter (signTest p)) ((cs.filter p).map fun a => ⟨#[a]⟩)
  | [], [], _, _ => .nil
  | [], _ :: _, h, _ => by simp at h
  | _ :: _, [], h, _ => by simp at h
  | v :: l, a :: cs, hl, hj => by
    refine hide fun P' hP' => ?_
    obtain ⟨a', u, e1, e2⟩ := hj 0 v rfl
    refine hP' ?_
    clear hP'
    cases e1
    subst e2
    have ih' := filter_signs (p := p) l cs (by simpa using hl) fun j v hv => hj (j + 1) v hv
    cases hp : p a with
    | true =>
      rw [List.filter_cons_of_pos (by simpa [signTest] using hp), List.filter_cons_of_pos hp]
      exact .cons _ _ ih'
    | false =>
      rw [List.filter_cons_of_neg (by simpa [signTest] using hp), List.filter_cons_of_neg (by simp [hp])]
      exact ih'
theorem paired_eq {l₁ l₂ : List Value} (h : Paired (fun v y => v = y) l₁ l₂) : l₁ = l₂ := by
  induction h with
  | nil => rfl
  | cons e r ih => rw [e, ih]
/-- y = [c for c in text if ..] -/
theorem sign_set {z : Str} {t : Tok} {c : Expr} {px' : Pos} {m : Str → Option Value} (p : Nat → Bool) (ha : (z.cps.all (· < 128)) = true) (hh : A.handled = none) (hsz : z.cps.size ≤ sizeLine) (hns : s.heap.Ns env.locals m)
    (hld : ∀ C (s : Shared) (m : Str → Option Value) (v : Value) (Q E : Value → Shared → Prop), s.heap.Ns C m → m x = some v → Q v s → wpAny (model prog w) A (eval (.Name x px') (compEnvC scope cl C env)) Q E s)
    (test : ∀ C (k : Nat) (a : Nat) u s₃ m₃ E', s.heap.objs.size < C → z.cps[k]? = some a → s₃.heap.Ns C m₃ → m₃ x = some (.str ⟨#[a]⟩ u) → s.heap.StaysIn s₃.heap →
      wpAny (model prog w) A (isTrue c (compEnvC scope cl C env) (eval c (compEnvC scope cl C env))) (TestPost (p a) s₃) E' s₃)
    (done : ∀ D h' tk ys, s.heap.get? D = none → h'.PlainList D (List.toArray ys) → StrsAre ys ((z.cps.toList.filter p).map fun a => ⟨#[a]⟩) → h'.Ns env.locals (fun q => if q = y then some (.ref D) else m q) → (∀ b o, b ≠ env.locals → s.heap.get? b = some o → h'.get? b = some o) → Q .next { s with heap := h', toks := tk }) :
    wpAny (model prog w) A (pyIter (.str z t)) (CompSet prog w A env scope cl x y [c] (.Name x px') Q (signTest p) (fun v y => v = y)) E s := by
  refine wpAny_pyIter_ascii ha ?_
  refine ⟨_, _, _, _, _, _, m, rfl, Walks.strAscii hh s.heap.objs.size z t, hsz, ⟨_, Heap.get?_push_size _ rfl, rfl, rfl⟩, ?_, ?_, hns.at' fun o e => Heap.get?_push_of_some _ e, ⟨?_, ?_⟩, ?_⟩
  · intro b hb
    rw [List.mem_singleton.mp hb, Heap.size_push]
    exact Nat.lt_succ_self _
  · intro hb
    have e : env.locals = s.heap.objs.size := List.mem_singleton.mp hb
    exact Nat.lt_irrefl _ (e ▸ hns.lt)
  · intro C i v s₃ m₃ E' hC rx1 hn' hm hk _
    refine hide fun P' hP' => ?_
    obtain ⟨a, u, ha', rfl⟩ := rx1
    refine hP' ?_
    clear hP'
    rw [Heap.size_push] at hC
    exact wpAny_tests_one (wpAny_mono (test C i a u s₃ m₃ E' hC ha' hn' hm (pushed_kept hk)) (fun ok s₄ q => ⟨q.1, q.2⟩) fun _ _ x => x)
  · rintro C i v s₃ m₃ E' hC _ _ hn' hm hk _
    exact hld C s₃ m₃ v _ _ hn' hm ⟨rfl, ⟨_, _, rfl, fun _ _ e => e⟩⟩
  · intro D h' tk ys vs hD _ hpl hlen hP hF hn' hk
    refine done D h' tk ys.toList ?_ (by simpa using hpl) ?_ hn' (pushed_kept' hk)
    · cases q : s.heap.get? D with
      | none => rfl
      | some o => rw [Heap.get?_push_of_some _ q] at hD; cases hD
    · rw [← paired_eq hF]
      exact filter_signs vs z.cps.toList (by rw [hlen]; simp) fun j v hv => by
        refine hide fun P' hP' => ?_
        obtain ⟨a, u, e1, e2⟩ := hP j v hv
        refine hP' ?_
        clear hP'
        exact ⟨a, u, by simpa using e1, e2⟩
end
end Mine
end
section
open PySem PySem.W PyProof.Rows
set_option Elab.async false
namespace Mine
section
variable {prog : Program} {w : World} {A : Around} {E : Value → Shared → Prop} {s : Shared} {value slice : Expr} {x : Str} {t : Tok} {h₀ g0 : Heap} {L : Addr} {m : Str → Option Value} {news : List (Addr × Obj)} {Q : Value → Shared → Prop}
theorem slice_stay_sn {i : Int} {ui : Tok} (hF : Fr h₀ L s.heap m) (hN : News h₀ L s.heap news) (hG : g0.StaysIn s.heap)
    (h : ∀ h' t' k, Fr h₀ L h' m → News h₀ L h' news → g0.StaysIn h' → Q (.str (Txt.slice x (some i) none) t') { s with heap := h', toks := k }) (hsz : x.length ≤ sizeLine)
    (hs : subscripted slice false (.str x t) (.ref s.heap.objs.size) = operate [.ref s.heap.objs.size, .str x t] (getItem (.str x t) (.ref s.heap.objs.size)) := by with_unfolding_all rfl)
    (ht : ∀ r, letTemporaryGo value (.str x t) r = pure () := by intro _; with_unfolding_all rfl) :
    wpAny (model prog w) A (subscriptTail value slice (.str x t) (.ref s.heap.objs.size)) Q E { s with heap := s.heap.push { cls := .type "slice", data := .fields #[.int i ui, .none, .none] } } :=
  tail_of_ItemOn (SBH.sliceItem_sn keptStay ⟨⟨hF, hN⟩, hG⟩ (fun h' t' k a => h h' t' k a.1.1 a.1.2 a.2) hsz) hs ht
end
section
variable {prog : Program} {w : World} {A : Around} {E : Value → Shared → Prop} {s : Shared} {env : Env} {elt : Expr} {x y : Str} {scope : Scope} {cl : List (Str × Addr)} {Q : Flow → Shared → Prop}
/-- y = [elt for x in list], no test -/
theorem list_set {l : Addr} {items : List Value} {m : Str → Option Value} (F : Value → Value → Prop) (hh : A.handled = none) (hl : s.heap.IsList l items.toArray) (hsz : items.length ≤ sizeLine) (hns : s.heap.Ns env.locals m)
    (elt' : ∀ C (i : Nat) v s₃ m₃ E', s.heap.objs.size < C → items[i]? = some v → s₃.heap.Ns C m₃ → m₃ x = some v → s.heap.StaysIn s₃.heap → wpAny (model prog w) A (eval elt (compEnvC scope cl C env)) (EltPost (F v) s₃) E' s₃)
    (done : ∀ D h' tk ys, s.heap.get? D = none → h'.PlainList D (List.toArray ys) → Paired F items ys → h'.Ns env.locals (fun q => if q = y then some (.ref D) else m q) → (∀ b o, b ≠ env.locals → s.heap.get? b = some o → h'.get? b = some o) → Q .next { s with heap := h', toks := tk }) :
    wpAny (model prog w) A (pyIter (.ref l)) (CompSet prog w A env scope cl x y [] elt Q (fun _ => true) F) E s := by
  refine wpAny_pyIter_list hl ?_
  have hne : l ≠ s.heap.objs.size := Nat.ne_of_lt (let ⟨_, ho, _⟩ := hl; Heap.lt_size ho)
  refine ⟨_, _, _, _, _, _, m, rfl, Walks.list hh s.heap.objs.size l hne items.toArray, by simpa using hsz, ⟨⟨_, Heap.get?_push_size _ rfl, rfl, rfl⟩, hl.at fun _ e => Heap.get?_push_of_some _ e⟩, ?_, ?_, hns.at' fun o e => Heap.get?_push_of_some _ e, ⟨?_, ?_⟩, ?_⟩
  · intro b hb
    rw [Heap.size_push]
    rcases List.mem_cons.mp hb with rfl | hb
    · exact Nat.lt_succ_self _
    · rw [List.mem_singleton.mp hb]
      exact Nat.lt_succ_of_lt (let ⟨_, ho, _⟩ := hl; Heap.lt_size ho)
  · intro hb
    have e : env.locals = s.heap.objs.size := List.mem_singleton.mp hb
    exact Nat.lt_irrefl _ (e ▸ hns.lt)
  · intros
    exact wpAny_tests_nil ⟨rfl, ⟨_, _, rfl, fun _ _ e => e⟩⟩
  · rintro C i v s₃ m₃ E' hC hv _ hn' hm hk _
    rw [Heap.size_push] at hC
    exact wpAny_mono (elt' C i v s₃ m₃ E' hC (by simpa using hv) hn' hm (pushed_kept hk)) (fun y s₄ q => ⟨q.1, q.2⟩) fun _ _ x => x
  · intro D h' tk ys vs hD _ hpl hlen hP hF hn' hk
    refine done D h' tk ys.toList ?_ (by simpa using hpl) ?_ hn' (pushed_kept' hk)
    · cases q : s.heap.get? D with
      | none => rfl
      | some o => rw [Heap.get?_push_of_some _ q] at hD; cases hD
    · have hfl : vs.filter (fun _ => true) = vs := List.filter_eq_self.mpr fun _ _ => rfl
      rw [hfl] at hF
      have hv : vs = items := by
        refine List.ext_getElem? fun j => ?_
        cases q : vs[j]? with
        | some v => have := hP j v q; simpa using this.symm
        | none =>
          have h1 := List.getElem?_eq_none_iff.mp q
          symm
          rw [List.getElem?_eq_none_iff]
          simp at hlen
          omega
      rw [← hv]
      exact hF
end
end Mine
end
section
open PySem PySem.W PyProof.Rows
set_option Elab.async false
namespace Mine
section
variable {base h h' : Heap} {L : Addr} {m : Str → Option Value} {env : Env} {l : List (Addr × Obj)}
theorem frames_one (hf : env.frame = some L) : [env].filterMap (·.frame) = [L] := by simp [hf]
theorem fr_kept (F : Fr base L h m) (K : Kept [env] h h') (hf : env.frame = some L) (n36 : base.get? 36 = none) (L36 : 36 < L) : Fr base L h' m := by
  refine ⟨?_, fun b o e => ?_, F.above⟩
  · refine hide fun P' hP' => ?_
    obtain ⟨o, es, ep, ho, hd, r⟩ := F.ns
    obtain ⟨sl, hs⟩ := K.inn L o ho (by rw [frames_one hf]; exact .head _)
    refine hP' ?_
    clear hP'
    exact ⟨_, es, ep, hs, hd, r⟩
  · refine K.out b o (F.keep b o e) (fun hm => ?_) (fun z => by rw [z, n36] at e; cases e)
    rw [frames_one hf] at hm
    have hb : b = L := List.mem_singleton.mp hm
    exact Nat.lt_irrefl _ (Nat.lt_of_lt_of_le (hb ▸ Heap.lt_size e) F.above)
theorem news_kept (N : News base L h l) (K : Kept [env] h h') (hf : env.frame = some L) (n36 : ∀ p ∈ l, p.1 ≠ 36) : News base L h' l := fun p hp =>
  ⟨K.out _ _ (N p hp).1 (fun hm => by rw [frames_one hf] at hm; exact (N p hp).2.1 (List.mem_singleton.mp hm)) (n36 p hp), (N p hp).2⟩
theorem tab_some (tab : TabOk base h) : ∃ ps, h.get? 36 = some (tabObj ps) := by
  rcases tab with t1 | ⟨_, _, _, _, _, t1, _⟩ <;> exact ⟨_, t1⟩
/-- the table of codes as a ledger: it is kept as long as the ledger is -/
inductive TabLed (base : Heap) : List (Addr × Obj) → Prop
  | new : TabLed base [(36, tabObj #[])]
  | grown {c : Addr} {oc : Obj} {vs : Array Value} {t : Tok} : base.get? c = none → oc.data = .fields vs → vs[1]? = some (.str "suffixed_err.<locals>.coord_repr" t) → TabLed base [(36, tabObj #[rawInt 18, rawInt 4, .ref c]), (c, oc)]
theorem led_of_tab (F : Fr base L h m) (tab : TabOk base h) (n36 : base.get? 36 = none) (L36 : 36 < L) : ∃ l, TabLed base l ∧ News base L h l := by
  rcases tab with t1 | ⟨c, oc, vs, t, hc, t1, t2, t3, t4⟩
  · exact ⟨_, .new, fun p hp => by rw [List.mem_singleton.mp hp]; exact ⟨t1, Nat.ne_of_lt L36, n36⟩⟩
  · refine ⟨_, .grown hc t3 t4, fun p hp => ?_⟩
    rcases List.mem_cons.mp hp with rfl | hp
    · exact ⟨t1, Nat.ne_of_lt L36, n36⟩
    · rw [List.mem_singleton.mp hp]
      refine ⟨t2, fun z => ?_, hc⟩
      refine hide fun P' hP' => ?_
      obtain ⟨o, _, _, ho, hd, _⟩ := F.ns
      refine hP' ?_
      clear hP'
      have z' : c = L := z
      rw [z', ho] at t2; cases t2
      rw [hd] at t3; cases t3
theorem tab_of_led {l' : List (Addr × Obj)} (T : TabLed base l) (N : News base L h l') (sub : ∀ p ∈ l, p ∈ l') : TabOk base h := by
  cases T with
  | new => exact .inl (N _ (sub _ (.head _))).1
  | grown hc h1 h2 => exact .inr ⟨_, _, _, _, hc, (N _ (sub _ (.head _))).1, (N _ (sub _ (.tail _ (.head _)))).1, h1, h2⟩
theorem list_ne36 {a : Addr} {xs : Array Value} {n : Nat} (e : h.get? a = some (W.listOf xs n)) (tab : TabOk base h) : a ≠ 36 := fun z => by
  rw [z] at e
  rcases tab with t1 | ⟨_, _, _, _, _, t1, _⟩ <;> rw [t1] at e <;> cases e
theorem news_top {D : Addr} {o : Obj} (hD : h.get? D = none) (F : Fr base L h m) (e : h'.get? D = some o) (N : News base L h' l) : News base L h' ((D, o) :: l) := fun p hp => by
  rcases List.mem_cons.mp hp with rfl | hp
  · refine ⟨e, fun z => ?_, ?_⟩
    · refine hide fun P' hP' => ?_
      obtain ⟨o', _, _, ho, _⟩ := F.ns
      refine hP' ?_
      clear hP'
      have z' : D = L := z
      rw [z', ho] at hD; cases hD
    · cases q : base.get? D with
      | none => rfl
      | some o' => rw [F.keep _ _ q] at hD; cases hD
  · exact N p hp
/-- lists of the ledger over a call -/
theorem news_call {R : List (Addr × Obj)} (N : News base L h l) (K : Kept [env] h h') (hf : env.frame = some L) (tab : TabOk base h) (NR : News base L h' R) (ls : List (Addr × Array Value × Nat)) (sub : ∀ q ∈ ls, (q.1, W.listOf q.2.1 q.2.2) ∈ l) :
    News base L h' (ls.map (fun q => (q.1, W.listOf q.2.1 q.2.2)) ++ R) := fun p hp => by
  rcases List.mem_append.mp hp with hp | hp
  · refine hide fun P' hP' => ?_
    obtain ⟨q, hq, rfl⟩ := List.mem_map.mp hp
    refine hP' ?_
    clear hP'
    have e := N _ (sub q hq)
    exact ⟨K.out _ _ e.1 (fun hm => by rw [frames_one hf] at hm; exact e.2.1 (List.mem_singleton.mp hm)) (list_ne36 e.1 tab), e.2⟩
  · exact NR p hp
end
end Mine
end
section
open PySem PySem.W PyProof.Rows
set_option Elab.async false
namespace Mine
section
variable {prog : Program} {w : World} {A : Around} {E : Value → Shared → Prop} {s : Shared} {env : Env} {elt : Expr} {x : Str} {scope : Scope} {cl : List (Str × Addr)} {Q : Value → Shared → Prop}
/-- [elt for x in list], no test -/
theorem list_comp {l : Addr} {items : List Value} (F : Value → Value → Prop) (hh : A.handled = none) (hl : s.heap.IsList l items.toArray) (hsz : items.length ≤ sizeLine)
    (elt' : ∀ C (i : Nat) v s₃ m₃ E', s.heap.objs.size < C → items[i]? = some v → s₃.heap.Ns C m₃ → m₃ x = some v → s.heap.StaysIn s₃.heap → wpAny (model prog w) A (eval elt (compEnvC scope cl C env)) (EltPost (F v) s₃) E' s₃)
    (done : ∀ D h' tk ys, s.heap.get? D = none → h'.PlainList D (List.toArray ys) → Paired F items ys → s.heap.StaysIn h' → Q (.ref D) { s with heap := h', toks := tk }) :
    wpAny (model prog w) A (pyIter (.ref l)) (CompAt prog w A env scope cl x [] elt Q (fun _ => true) F) E s := by
  refine wpAny_pyIter_list hl ?_
  have hne : l ≠ s.heap.objs.size := Nat.ne_of_lt (let ⟨_, ho, _⟩ := hl; Heap.lt_size ho)
  refine ⟨_, _, _, _, _, _, rfl, Walks.list hh s.heap.objs.size l hne items.toArray, by simpa using hsz, ⟨⟨_, Heap.get?_push_size _ rfl, rfl, rfl⟩, hl.at fun _ e => Heap.get?_push_of_some _ e⟩, ?_, ⟨?_, ?_⟩, ?_⟩
  · intro b hb
    rw [Heap.size_push]
    rcases List.mem_cons.mp hb with rfl | hb
    · exact Nat.lt_succ_self _
    · rw [List.mem_singleton.mp hb]
      exact Nat.lt_succ_of_lt (let ⟨_, ho, _⟩ := hl; Heap.lt_size ho)
  · intros
    exact wpAny_tests_nil ⟨rfl, ⟨_, _, rfl, fun _ _ e => e⟩⟩
  · rintro C i v s₃ m₃ E' hC hv _ hn' hm hk _
    rw [Heap.size_push] at hC
    exact wpAny_mono (elt' C i v s₃ m₃ E' hC (by simpa using hv) hn' hm (pushed_kept hk)) (fun y s₄ q => ⟨q.1, q.2⟩) fun _ _ x => x
  · intro D h' tk ys vs hD _ hpl hlen hP hF hk
    refine done D h' tk ys.toList ?_ (by simpa using hpl) ?_ (pushed_kept hk)
    · cases q : s.heap.get? D with
      | none => rfl
      | some o => rw [Heap.get?_push_of_some _ q] at hD; cases hD
    · have hfl : vs.filter (fun _ => true) = vs := List.filter_eq_self.mpr fun _ _ => rfl
      rw [hfl] at hF
      have hv : vs = items := by
        refine List.ext_getElem? fun j => ?_
        cases q : vs[j]? with
        | some v => have := hP j v q; simpa using this.symm
        | none =>
          have h1 := List.getElem?_eq_none_iff.mp q
          symm
          rw [List.getElem?_eq_none_iff]
          simp at hlen
          omega
      rw [← hv]
      exact hF
end
end Mine
end
section
open PySem PySem.W PyProof.Rows
set_option Elab.async false
namespace Mine
local macro_rules | `(tactic| omega) => `(tactic| lia)
section
local macro_rules | `(tactic| walk_at $k:str) => if ["exec For Tuple Call cons nil", "exec For Tuple Name cons cons", "call type:enumerate", "pyIter ref", "call builtin:list.append", "TurnFit", "LoopElse"].contains k.getString then `(tactic| (refine Hold.mk ?_)) else Lean.Macro.throwUnsupported
local macro_rules | `(tactic| walk_at "TurnFlow") => `(tactic| (dsimp only [TurnFlow]))
local macro_rules | `(tactic| k_room) => `(tactic| ((try simp only [Around.deeper, Around.mark]); omega))
set_option maxRecDepth 100000 in
set_option maxHeartbeats 1000000 in
theorem mode_spec {w : World} {loose : List Str} {mean : ExcName → Option Value} {mg mb : Str → Option Value} {base : Heap} {envs : List Env} {A : Around} {s : Shared} {Q E : Value → Shared → Prop} {m : Nat} {t : Tok}
    (T0 : Top0 w loose mean mg mb base) (H : Here base envs A s.heap) (hh : A.handled = none) (hroom : A.depth + 8 < recursionLimit) (hunits : A.units + 80 < cLine) (tab : TabOk base s.heap)
    (hm : m < 512)
    (ret : ∀ h' tk' t', s.heap.StaysIn h' → Q (.str (modeText m) t') { s with heap := h', toks := tk' }) :
    wpAny (model prg w) A (call (.ref 88) [.int (32768 + m) t]) Q E s := by
  refine hide fun P' hP' => ?_
  obtain ⟨ha, dp, fr, gd, un⟩ := A
  obtain rfl : fr = some envs := H.fr
  obtain rfl : ha = none := hh
  refine hP' ?_
  clear hP'
  dsimp only at hroom hunits
  have X : (Mine.hd.heap_39 w.params).In s.heap := T0.X.keeps H.st
  revert X
  unfold prg
  k_fill
  intro X
  refine hide fun P' hP' => ?_
  obtain ⟨o36, t36, t36d⟩ : ∃ o, s.heap.get? 36 = some o ∧ ∃ vs, o.data = .fields vs := by
    rcases tab with t1 | ⟨c, oc, vs, tt, _, t1, _⟩
    · exact ⟨_, t1, _, rfl⟩
    · exact ⟨_, t1, _, rfl⟩
  refine hP' ?_
  clear hP'
  refine wpAny_call ?_
  k_dflt (refine' enterK (K := Mine.hd.heap_39 w.params) ?k1 ?k2 ?k3 ?k4 ?k5 ?k6 ?k7 ?_ ?c1 ?c2 ?c3 ?c4; (case k1 => (show dp < _; omega)); (case k2 => exact X); (case k3 => exact T0.T.nolimit.keeps H.st); (case k4 => k_is); (case k5 => k_is); (case k6 => exact BindsTo.of_eq rfl); (case k7 => exact locs rfl); (case c1 => exact rfl); (case c2 => exact rfl); (case c3 => exact rfl); (case c4 => decide); k_whole)
  intro h₁ hns hk₁
  have K₁ : Kept envs s.heap h₁ := ⟨fun b o e _ _ => hk₁ b o e, fun b o e _ => ⟨o.slots, hk₁ b o e⟩⟩
  have L36 : 36 < s.heap.objs.size := Heap.lt_size t36
  generalize hL : s.heap.objs.size = L at *
  have tab₁ : TabOk base h₁ := tab.keeps (fun o e => hk₁ _ _ e) fun b o _ _ _ e _ _ _ => hk₁ _ _ e
  refine hide fun P' hP' => ?_
  obtain ⟨q36, B, X', T', C', hq36, hN, new0, hbst⟩ := regr T0 H tab hL L36 K₁ tab₁
  refine hP' ?_
  clear hP'
  have F : Fr (gnd s.heap h₁ L) L h₁ _ := gnd_fr hns
  have N : News (gnd s.heap h₁ L) L h₁ ([] ++ (36, q36) :: restN s.heap h₁ L [36, L]) := hN [] _ News.nil
  generalize hR : restN s.heap h₁ L [36, L] = R at N
  have hfr := here_fr H
  dsimp only [List.nil_append] at N
  w_strict (k_steps)
  refine Hold.of ?_
  refine For_else ?_
  w_strict (k_steps)
  refine Hold.of ?_
  rename Fr _ _ _ _ => F2
  rename News _ _ _ _ => N2
  refine hide fun P' hP' => ?_
  obtain ⟨lp, ⟨m1, t1, hns1, hm1, hm2⟩, hlp, nlp⟩ : ∃ lp, (∃ mm t, Heap.Ns _ L mm ∧ mm (Str.ofString "mode") = some (.int (32768 + (m : Int)) t) ∧ mm (Str.ofString "perm") = some (.ref lp)) ∧ Heap.get? _ lp = some (W.listOf #[] 0) ∧ (lp ≠ L ∧ lp ≠ 36 ∧ s.heap.get? lp = none) := by
    have e1 := newsAt N2 (.head _)
    exact ⟨_, ⟨_, _, F2.ns, rfl, rfl⟩, e1.1, e1.2.1, Nat.ne_of_gt (by omega), new0 e1.2.2 (Nat.ne_of_gt (by omega))⟩
  refine hP' ?_
  clear hP'
  have K2 := kept_all hL (.of_stays hk₁) F2 (fun o e => by rw [hq36] at e; cases e; exact (newsAt N2 (.tail _ (.head _))).1)
  refine call_enum_tuple (items := rowRefs.toArray) (((tab_static X').1).at fun o e => F2.keep _ _ e) fun h5 he hit hsz hst5 => ?_
  dsimp only at he hit hsz hst5 ⊢
  refine wpAny_pyIter_enum he ?_
  have lt2 : L < Array.size (Heap.objs _) ∧ lp < Array.size (Heap.objs _) := ⟨F2.ns.lt, Heap.lt_size hlp⟩
  generalize hH2 : Array.size (Heap.objs _) = z at he hit lt2
  have hzL : L ≠ z ∧ L ≠ z + 1 ∧ lp ≠ z ∧ lp ≠ z + 1 := ⟨Nat.ne_of_lt lt2.1, Nat.ne_of_lt (Nat.lt_succ_of_lt lt2.1), Nat.ne_of_lt lt2.2, Nat.ne_of_lt (Nat.lt_succ_of_lt lt2.2)⟩
  have lt0 : ∀ {b o}, s.heap.get? b = some o → b < L := fun e => hL ▸ Heap.lt_size e
  have st5 : s.heap.StaysIn h5 := fun b o e => hst5 _ _ (K2.out b o e (by simp) (by simp))
  have L81 : 81 < L := lt0 (X _ _ (show (Mine.hd.heap_39 w.params).lookup 81 = some _ from rfl))
  refine loop_made (s₀ := s) (by passes_own) (WalksT.enumerateD (draws_tuple rfl z 81 (Nat.ne_of_lt (by omega)) rowRefs.toArray) (z + 1) (Nat.succ_ne_self _) (fun hm => (List.mem_cons.mp hm).elim (fun e => Nat.succ_ne_self _ e) (fun e => Nat.ne_of_gt (by omega) (List.mem_singleton.mp e))) (by simp)) (ModeAt s.heap L lp m) ?turn ?done (And.intro ⟨_, he⟩ ⟨hit, ((tab_static X').1).at fun o e => hst5 _ _ (F2.keep _ _ e)⟩) ⟨st5, m1, [], t1, 0, hns1.at' (fun o e => hst5 _ _ e), hm1, hm2, hst5 _ _ hlp, .nil⟩
  case done =>
    intro h h' tk rx1 hk
    refine hide fun P' hP' => ?_
    obtain ⟨st, mm, us, t2, n2, a1, a2, a3, a4, a5⟩ := rx1
    refine hP' ?_
    clear hP'
    have st' : s.heap.StaysIn h' := fun b o e => hk _ _ (nmem2 (Nat.lt_trans (lt0 e) lt2.1)) (st b o e)
    have Kh : Kept envs s.heap h' := ⟨fun b o e _ _ => st' b o e, fun b o e _ => ⟨o.slots, st' b o e⟩⟩
    have ht : TabOk base h' := tab.keeps (fun o e => st' _ o e) fun b o _ _ _ e _ _ _ => st' _ o e
    clear F2 N2 B X' T' C' hN new0 hbst
    refine hide fun P' hP' => ?_
    obtain ⟨r36, B, X', T', C', hr36, hN, new0, hbst⟩ := regr T0 H tab hL L36 Kh ht
    refine hP' ?_
    clear hP'
    have F : Fr (gnd s.heap h' L) L h' (fun y => if y = Str.ofString "mode" then some (.int (32768 + (m : Int)) t2) else if y = Str.ofString "perm" then some (.ref lp) else mm y) := gnd_fr (ns_kst (a1.at' fun o e => hk _ _ (nmem2 lt2.1) e) [(Str.ofString "mode", .int (32768 + (m : Int)) t2), (Str.ofString "perm", .ref lp)] (mem2 a2 a3))
    have hlp2 : h'.get? lp = some (W.listOf (List.toArray us) n2) := hk _ _ (nmem2 lt2.2) a4
    have N : News (gnd s.heap h' L) L h' ((lp, W.listOf us.toArray n2) :: (36, r36) :: restN s.heap h' L [36, L, lp]) :=
      hN [_] _ (news_one hlp2 nlp.2.2 nlp.1 News.nil)
    generalize hR3 : restN s.heap h' L [36, L, lp] = R3 at N
    w_strict (k_steps)
    refine Hold.of ?_
    rename Fr _ _ _ _ => F5
    rename News _ _ _ _ => N5
    refine join_list (ys := (List.range rowRefs.toArray.size).map (modeCh m)) ⟨_, (newsAt N5 (.head _)).1, rfl, _, rfl⟩ a5 ?_ ?_
    · have := sum_len (l := (List.range rowRefs.toArray.size).map (modeCh m)) fun x hx => by
        refine hide fun P' hP' => ?_
        obtain ⟨k, _, rfl⟩ := List.mem_map.mp hx
        refine hP' ?_
        clear hP'
        exact modeCh_len
      rw [len_none]
      simp at this ⊢
      have : rowRefs.length = 10 := by decide
      omega
    intro t' k
    w_strict (k_steps)
    have K := kept_all hL (.of_stays st') F5 (fun o e => by rw [hr36] at e; cases e; exact (newsAt N5 (.tail _ (.head _))).1)
    exact ret _ _ _ fun b o e => K.out b o e (by simp) (by simp)
  case turn =>
    intro i T vals h h₃ tk hi rx2 rx3 hT hst3 hk
    refine hide fun P' hP' => ?_
    obtain ⟨ti, x, hx, rfl⟩ := rx2
    obtain ⟨st, mm, us, t2, n2, a1, a2, a3, a4, a5⟩ := rx3
    obtain ⟨r, hr, rfl⟩ : ∃ r, modeTab[i]? = some r ∧ x = .ref r.1 := by
      unfold rowRefs at hx
      simp only [List.getElem?_toArray, List.getElem?_map, Option.map_eq_some_iff] at hx
      obtain ⟨r, hr, e⟩ := hx
      exact ⟨r, hr, e.symm⟩
    refine hP' ?_
    clear hP'
    have st' : s.heap.StaysIn h₃ := fun b o e => hk _ _ (nmem2 (Nat.lt_trans (lt0 e) lt2.1)) (st b o e)
    have Kh : Kept envs s.heap h₃ := ⟨fun b o e _ _ => st' b o e, fun b o e _ => ⟨o.slots, st' b o e⟩⟩
    have ht : TabOk base h₃ := tab.keeps (fun o e => st' _ o e) fun b o _ _ _ e _ _ _ => st' _ o e
    clear F2 N2 B X' T' C' hN new0 hbst
    refine hide fun P' hP' => ?_
    obtain ⟨r36, B, X', T', C', hr36, hN, new0, hbst⟩ := regr T0 H tab hL L36 Kh ht
    refine hP' ?_
    clear hP'
    have F : Fr (gnd s.heap h₃ L) L h₃ (fun y => if y = Str.ofString "mode" then some (.int (32768 + (m : Int)) t2) else if y = Str.ofString "perm" then some (.ref lp) else mm y) := gnd_fr (ns_kst (a1.at' fun o e => hk _ _ (nmem2 lt2.1) e) [(Str.ofString "mode", .int (32768 + (m : Int)) t2), (Str.ofString "perm", .ref lp)] (mem2 a2 a3))
    have hlp2 : h₃.get? lp = some (W.listOf (List.toArray us) n2) := hk _ _ (nmem2 lt2.2) a4
    have N : News (gnd s.heap h₃ L) L h₃ ((lp, W.listOf us.toArray n2) :: (36, r36) :: restN s.heap h₃ L [36, L, lp]) :=
      hN [_] _ (news_one hlp2 nlp.2.2 nlp.1 News.nil)
    generalize hR3 : restN s.heap h₃ L [36, L, lp] = R3 at N
    have hT' : IsTup h₃ T #[.int i ti, .ref r.1] := hT
    have hrow := (tab_static X').2 r (List.mem_of_getElem? hr)
    w_strict (k_steps)
    refine Hold.of ?_
    refine For_else ?_
    w_strict (k_steps)
    refine Hold.of ?_
    rename Fr _ _ _ _ => F5
    rename News _ _ _ _ => N5
    have hrow' := hrow.1.at fun o e => F5.keep _ _ e
    have hrow0 := (tab_static X).2 r (List.mem_of_getElem? hr)
    have K5 := kept_all hL (.of_stays st') F5 (fun o e => by rw [hr36] at e; cases e; exact (newsAt N5 (.tail _ (.head _))).1)
    have J5 := keptB_of (envs := []) (S := [36, L, lp]) hL (fun _ h => absurd h (by simp)) F5 N5 (.head _) (.tail _ (.head _)) (fun p hp => by rw [hR3] at hp; exact .tail _ (.tail _ hp))
    have hlp5 := (newsAt N5 (.head _)).1
    have F5lt := F5.ns.lt
    have e81 : ∃ o, s.heap.get? 81 = some o := ⟨_, X _ _ (show (Mine.hd.heap_39 w.params).lookup 81 = some _ from rfl)⟩
    have e1 : ∃ o, s.heap.get? r.1 = some o := let ⟨o, ho, _⟩ := hrow0.1; ⟨o, ho⟩
    have n1 : r.1 ≠ 36 := (show ∀ r ∈ modeTab, r.1 ≠ 36 by decide) r (List.mem_of_getElem? hr)
    have hus : us.length ≤ 10 := by
      have := strs_len a5
      have h10 : rowRefs.toArray.size = 10 := by decide
      simp at this; omega
    refine loop_row (L := L) (lp := lp) (m := m) (i := i) (hit := modeBit m i) (ps := r.2) (by passes_own) rfl hrow' F5.ns.lt ⟨_, t2, ti, F5.ns, rfl, rfl, rfl⟩ ?turn2 ?done2
    case done2 =>
      intro h tk rx4
      refine hide fun P' hP' => ?_
      obtain ⟨c1, ⟨m2, t3, ti3, c2, c3, c4, c5⟩, c6⟩ := rx4
      refine hP' ?_
      clear hP'
      have st6 : s.heap.StaysIn h := fun b o e => c1 _ _ (K5.out b o e (by simp) (by simp)) (Nat.ne_of_lt (lt0 e))
      have Kh : Kept envs s.heap h := ⟨fun b o e _ _ => st6 b o e, fun b o e _ => ⟨o.slots, st6 b o e⟩⟩
      have ht : TabOk base h := tab.keeps (fun o e => st6 _ o e) fun b o _ _ _ e _ _ _ => st6 _ o e
      have hlp6 := c1 _ _ hlp5 nlp.1
      clear F5 N5 B X' T' C' hN new0 hbst hrow hT' hrow'
      refine hide fun P' hP' => ?_
      obtain ⟨q36, B, X', T', C', hq36, hN, new0, hbst⟩ := regr T0 H tab hL L36 Kh ht
      refine hP' ?_
      clear hP'
      have F : Fr (gnd s.heap h L) L h (fun y => if y = Str.ofString "mode" then some (.int (32768 + (m : Int)) t3) else if y = Str.ofString "perm" then some (.ref lp) else if y = Str.ofString "index" then some (.int (i : Nat) ti3) else m2 y) := gnd_fr (ns_kst c2 [(Str.ofString "mode", .int (32768 + (m : Int)) t3), (Str.ofString "perm", .ref lp), (Str.ofString "index", .int (i : Nat) ti3)] (mem3 c3 c4 c5))
      have N : News (gnd s.heap h L) L h ((lp, W.listOf us.toArray n2) :: (36, q36) :: restN s.heap h L [36, L, lp]) :=
        hN [_] _ (news_one hlp6 nlp.2.2 nlp.1 News.nil)
      generalize hR6 : restN s.heap h L [36, L, lp] = R6 at N
      have hk3 : ∀ b o, h₃.get? b = some o → b ∉ [36, L, lp] → h.get? b = some o := fun b o e n => c1 b o (J5.out b o e (by simp) n) (fun z => n (by simp [z]))
      w_strict (k_steps)
      · refine Hold.of ?_
        rename Fr _ _ _ _ => F7
        rename News _ _ _ _ => N7
        have e7 := newsAt N7 (.head _)
        refine wpAny_list_append_plain (hsz := by rw [sizeLine_eq]; simp; omega) ⟨_, e7.1⟩ fun h7 hl7 hs7 => ?_
        obtain ⟨n7, hl7⟩ := hl7
        have F8 := fr_but F7 hs7 e7.2.2 nlp.1.symm
        have N8 := mode_push nlp hR6 N7 hs7 hl7
        clear F7 N7
        dsimp only
        w_strict (k_steps)
        refine Hold.of ?_
        rename Fr _ _ _ _ => F9
        rename News _ _ _ _ => N9
        rename (_ : Int) = 0 => hi0
        exact mode_fin hL lt2 nlp e81 L36 hk3 st6 hq36 hR6 F9 rfl rfl N9 a5 (by rw [modeCh_no hr c6, if_pos (by omega)])
      · refine Hold.of ?_
        rename Fr _ _ _ _ => F7
        rename News _ _ _ _ => N7
        have e7 := newsAt N7 (.head _)
        refine wpAny_list_append_plain (hsz := by rw [sizeLine_eq]; simp; omega) ⟨_, e7.1⟩ fun h7 hl7 hs7 => ?_
        obtain ⟨n7, hl7⟩ := hl7
        have F8 := fr_but F7 hs7 e7.2.2 nlp.1.symm
        have N8 := mode_push nlp hR6 N7 hs7 hl7
        clear F7 N7
        dsimp only
        w_strict (k_steps)
        refine Hold.of ?_
        rename Fr _ _ _ _ => F9
        rename News _ _ _ _ => N9
        rename (_ : Int) ≠ 0 => hi0
        exact mode_fin hL lt2 nlp e81 L36 hk3 st6 hq36 hR6 F9 rfl rfl N9 a5 (by rw [modeCh_no hr c6, if_neg (by omega)])
    case turn2 =>
      intro k q h tk I hq hI rx5 rx6
      refine hide fun P' hP' => ?_
      obtain ⟨c1, ⟨m2, t3, ti3, c2, c3, c4, c5⟩, c6⟩ := rx5
      obtain ⟨oI, hoI⟩ := rx6
      refine hP' ?_
      clear hP'
      have st6 : s.heap.StaysIn h := fun b o e => c1 _ _ (K5.out b o e (by simp) (by simp)) (Nat.ne_of_lt (lt0 e))
      have hT6 : IsTup h q.1 #[.int q.2.1 q.2.2.1, .str (Str.ofString q.2.2.2.1) q.2.2.2.2] := (hrow0.2 q (List.mem_of_getElem? hq)).at (st6 _)
      have Kh : Kept envs s.heap h := ⟨fun b o e _ _ => st6 b o e, fun b o e _ => ⟨o.slots, st6 b o e⟩⟩
      have ht : TabOk base h := tab.keeps (fun o e => st6 _ o e) fun b o _ _ _ e _ _ _ => st6 _ o e
      have hlp6 := c1 _ _ hlp5 nlp.1
      clear F5 N5 B X' T' C' hN new0 hbst hrow hT' hrow'
      refine hide fun P' hP' => ?_
      obtain ⟨q36, B, X', T', C', hq36, hN, new0, hbst⟩ := regr T0 H tab hL L36 Kh ht
      refine hP' ?_
      clear hP'
      have F : Fr (gnd s.heap h L) L h (fun y => if y = Str.ofString "mode" then some (.int (32768 + (m : Int)) t3) else if y = Str.ofString "perm" then some (.ref lp) else if y = Str.ofString "index" then some (.int (i : Nat) ti3) else m2 y) := gnd_fr (ns_kst c2 [(Str.ofString "mode", .int (32768 + (m : Int)) t3), (Str.ofString "perm", .ref lp), (Str.ofString "index", .int (i : Nat) ti3)] (mem3 c3 c4 c5))
      have N : News (gnd s.heap h L) L h ((lp, W.listOf us.toArray n2) :: (36, q36) :: restN s.heap h L [36, L, lp]) :=
        hN [_] _ (news_one hlp6 nlp.2.2 nlp.1 News.nil)
      generalize hR6 : restN s.heap h L [36, L, lp] = R6 at N
      have hk3 : ∀ b o, h₃.get? b = some o → b ∉ [36, L, lp] → h.get? b = some o := fun b o e n => c1 b o (J5.out b o e (by simp) n) (fun z => n (by simp [z]))
      have hI' : L < I ∧ lp < I := ⟨Nat.lt_of_lt_of_le F5lt hI, Nat.lt_of_lt_of_le (Heap.lt_size hlp5) hI⟩
      refine hide fun P' hP' => ?_
      obtain ⟨qa, qb, qt, qc, qu⟩ := q
      refine hP' ?_
      clear hP'
      dsimp only at hT6
      w_strict (k_steps)
      · refine Hold.of ?_
        rename Fr _ _ _ _ => F7
        rename News _ _ _ _ => N7
        rename Builtin.bitAnd _ _ = _ => hb
        have e7 := newsAt N7 (.head _)
        refine wpAny_list_append_plain (hsz := by rw [sizeLine_eq]; simp; omega) ⟨_, e7.1⟩ fun h7 hl7 hs7 => ?_
        obtain ⟨n7, hl7⟩ := hl7
        have F8 := fr_but F7 hs7 e7.2.2 nlp.1.symm
        have N8 := mode_push nlp hR6 N7 hs7 hl7
        clear F7 N7
        dsimp only
        w_strict (k_steps)
        refine Hold.of ?_
        rename Fr _ _ _ _ => F9
        rename News _ _ _ _ => N9
        exact mode_fin hL lt2 nlp e81 L36 hk3 st6 hq36 hR6 F9 rfl rfl N9 a5 (modeCh_at hr hq c6 (bit0 (by assumption) hb))
      · refine Hold.of ?_
        rename Fr _ _ _ _ => F7
        rename News _ _ _ _ => N7
        rename Builtin.bitAnd _ _ ≠ _ => hb
        exact row_fin hL nlp e1 n1 L36 hI' c1 hq36 hlp6 hR6 F7 rfl rfl rfl N7 hq c6 (bit0n (by assumption) hb)
      · refine Hold.of ?_
        rename Fr _ _ _ _ => F7
        rename News _ _ _ _ => N7
        rename Builtin.bitAnd _ _ = _ => hb
        have e7 := newsAt N7 (.head _)
        refine wpAny_list_append_plain (hsz := by rw [sizeLine_eq]; simp; omega) ⟨_, e7.1⟩ fun h7 hl7 hs7 => ?_
        obtain ⟨n7, hl7⟩ := hl7
        have F8 := fr_but F7 hs7 e7.2.2 nlp.1.symm
        have N8 := mode_push nlp hR6 N7 hs7 hl7
        clear F7 N7
        dsimp only
        w_strict (k_steps)
        refine Hold.of ?_
        rename Fr _ _ _ _ => F9
        rename News _ _ _ _ => N9
        exact mode_fin hL lt2 nlp e81 L36 hk3 st6 hq36 hR6 F9 rfl rfl N9 a5 (modeCh_at hr hq c6 (bit1 (by assumption) hb))
      · refine Hold.of ?_
        rename Fr _ _ _ _ => F7
        rename News _ _ _ _ => N7
        rename Builtin.bitAnd _ _ ≠ _ => hb
        exact row_fin hL nlp e1 n1 L36 hI' c1 hq36 hlp6 hR6 F7 rfl rfl rfl N7 hq c6 (bit1n (by assumption) hb)
end
end Mine
end
section
open PySem PyProof.Rows
set_option Elab.async false
namespace Mine
local macro_rules | `(tactic| omega) => `(tactic| lia)
abbrev slt (a b : PySem.Str) : Prop := a.cps.toList < b.cps.toList
theorem slt_irrefl (a : PySem.Str) : ¬ slt a a := List.lt_irrefl _
theorem slt_trans {a b c : PySem.Str} (h1 : slt a b) (h2 : slt b c) : slt a c := List.lt_trans h1 h2
theorem slt_asymm {a b : PySem.Str} (h1 : slt a b) : ¬ slt b a := fun h2 => slt_irrefl a (slt_trans h1 h2)
theorem slt_eq {a b : PySem.Str} (h1 : ¬ slt a b) (h2 : ¬ slt b a) : a = b := by
  have e : a.cps.toList = b.cps.toList := List.le_antisymm (List.not_lt.mp h2) (List.not_lt.mp h1)
  obtain ⟨⟨a⟩⟩ := a
  obtain ⟨⟨b⟩⟩ := b
  simp only at e
  rw [e]
section
variable {xs ys : List PySem.Str} {i j : Nat}
theorem sorted_lt (h : xs.Pairwise slt) (hij : i < j) (hj : j < xs.length) : slt (xs[i]'(by omega)) xs[j] := List.pairwise_iff_getElem.mp h i j _ hj hij
theorem sorted_ne (h : xs.Pairwise slt) (hij : i < j) (hj : j < xs.length) : xs[j] ≠ xs[i]'(by omega) := fun e => by
  have := sorted_lt h hij hj
  rw [e] at this; exact slt_irrefl _ this
theorem mem_drop_at {x : PySem.Str} (h : x ∈ xs.drop i) : ∃ k, ∃ hk : k < xs.length, i ≤ k ∧ x = xs[k] := by
  refine hide fun P' hP' => ?_
  obtain ⟨k, hk, rfl⟩ := List.mem_iff_getElem.mp h
  refine hP' ?_
  clear hP'
  rw [List.length_drop] at hk
  exact ⟨i + k, by omega, by omega, by simp⟩
theorem mem_take_at {x : PySem.Str} (h : x ∈ xs.take i) : ∃ k, ∃ hk : k < xs.length, k < i ∧ x = xs[k] := by
  refine hide fun P' hP' => ?_
  obtain ⟨k, hk, rfl⟩ := List.mem_iff_getElem.mp h
  refine hP' ?_
  clear hP'
  rw [List.length_take] at hk
  exact ⟨k, by omega, by omega, by simp⟩
theorem at_drop (hi : i < xs.length) {k : Nat} (hk : k ≤ i) : xs[i] ∈ xs.drop k := by
  refine List.mem_iff_getElem.mpr ⟨i - k, by rw [List.length_drop]; omega, ?_⟩
  simp [show k + (i - k) = i by omega]
theorem at_take (hi : i < xs.length) {k : Nat} (hk : i < k) : xs[i] ∈ xs.take k := by
  refine List.mem_iff_getElem.mpr ⟨i, by rw [List.length_take]; omega, ?_⟩
  simp
/-- between two turns: what is left of xs is left of ys, what is taken of xs is taken of ys -/
structure DiffAt (xs ys : List PySem.Str) (i j : Nat) : Prop where
  rest : ∀ x ∈ xs.drop i, x ∈ ys.drop j
  past : ∀ x ∈ xs.take i, x ∈ ys.take j
theorem DiffAt.start (h : ∀ x ∈ xs, x ∈ ys) : DiffAt xs ys 0 0 := ⟨fun x hx => by simpa using h x (by simpa using hx), fun x hx => by simp at hx⟩
theorem DiffAt.lt (D : DiffAt xs ys i j) (hi : i < xs.length) : j < ys.length := by
  refine hide fun P' hP' => ?_
  obtain ⟨k, hk, hjk, _⟩ := mem_drop_at (D.rest _ (at_drop hi (Nat.le_refl i)))
  refine hP' ?_
  clear hP'
  omega
theorem DiffAt.not_less (D : DiffAt xs ys i j) (sy : ys.Pairwise slt) (hi : i < xs.length) (hj : j < ys.length) : ¬ slt xs[i] ys[j] := fun h => by
  refine hide fun P' hP' => ?_
  obtain ⟨k, hk, hjk, e⟩ := mem_drop_at (D.rest _ (at_drop hi (Nat.le_refl i)))
  refine hP' ?_
  clear hP'
  rw [e] at h
  rcases Nat.lt_or_ge j k with q | q
  · exact slt_asymm h (sorted_lt sy q hk)
  · have : k = j := by omega
    subst this
    exact slt_irrefl _ h
theorem DiffAt.skip (D : DiffAt xs ys i j) (sx : xs.Pairwise slt) (sy : ys.Pairwise slt) (hi : i < xs.length) (hj : j < ys.length) (h : slt ys[j] xs[i]) : DiffAt xs ys i (j + 1) ∧ ys[j] ∉ xs := by
  refine ⟨⟨fun x hx => ?_, fun x hx => ?_⟩, fun hm => ?_⟩
  · refine hide fun P' hP' => ?_
    obtain ⟨k, hk, hjk, e⟩ := mem_drop_at (D.rest x hx)
    obtain ⟨l, hl, hil, e2⟩ := mem_drop_at hx
    refine hP' ?_
    clear hP'
    rw [e]
    refine at_drop hk ?_
    rcases Nat.lt_or_ge j k with q | q
    · exact q
    · have : k = j := by omega
      subst this
      exfalso
      rw [← e, e2] at h
      rcases Nat.lt_or_ge i l with q2 | q2
      · exact slt_asymm h (sorted_lt sx q2 hl)
      · have : l = i := by omega
        subst this
        exact slt_irrefl _ h
  · refine hide fun P' hP' => ?_
    obtain ⟨k, hk, hjk, e⟩ := mem_take_at (D.past x hx)
    refine hP' ?_
    clear hP'
    rw [e]
    exact at_take hk (by omega)
  · refine hide fun P' hP' => ?_
    obtain ⟨k, hk, e⟩ := List.mem_iff_getElem.mp hm
    refine hP' ?_
    clear hP'
    rcases Nat.lt_or_ge k i with q | q
    · refine hide fun P' hP' => ?_
      obtain ⟨l, hl, hlj, e2⟩ := mem_take_at (D.past _ (at_take hk q))
      refine hP' ?_
      clear hP'
      rw [e] at e2
      exact sorted_ne sy hlj hj e2
    · rw [← e] at h
      rcases Nat.lt_or_ge i k with q2 | q2
      · exact slt_asymm h (sorted_lt sx q2 hk)
      · have : k = i := by omega
        subst this
        exact slt_irrefl _ h
theorem DiffAt.both (D : DiffAt xs ys i j) (sx : xs.Pairwise slt) (hi : i < xs.length) (hj : j < ys.length) (h : xs[i] = ys[j]) : DiffAt xs ys (i + 1) (j + 1) := by
  refine ⟨fun x hx => ?_, fun x hx => ?_⟩
  · refine hide fun P' hP' => ?_
    obtain ⟨l, hl, hil, e2⟩ := mem_drop_at hx
    obtain ⟨k, hk, hjk, e⟩ := mem_drop_at (D.rest x (by rw [e2]; exact at_drop hl (by omega)))
    refine hP' ?_
    clear hP'
    rw [e]
    refine at_drop hk ?_
    rcases Nat.lt_or_ge j k with q | q
    · exact q
    · have : k = j := by omega
      subst this
      exfalso
      rw [← h, e2] at e
      exact sorted_ne sx (show i < l by omega) hl e
  · refine hide fun P' hP' => ?_
    obtain ⟨l, hl, hil, e2⟩ := mem_take_at hx
    refine hP' ?_
    clear hP'
    rcases Nat.lt_or_ge l i with q | q
    · refine hide fun P' hP' => ?_
      obtain ⟨k, hk, hjk, e⟩ := mem_take_at (D.past x (by rw [e2]; exact at_take hl q))
      refine hP' ?_
      clear hP'
      rw [e]; exact at_take hk (by omega)
    · have : l = i := by omega
      subst this
      rw [e2, h]; exact at_take hj (by omega)
/-- xs is at its end: what is left of ys is new -/
theorem DiffAt.fin (D : DiffAt xs ys i j) (sy : ys.Pairwise slt) (hi : xs.length ≤ i) : ∀ y ∈ ys.drop j, y ∉ xs := fun y hy hm => by
  refine hide fun P' hP' => ?_
  obtain ⟨k, hk, hjk, e⟩ := mem_drop_at hy
  have hp := D.past y (by rw [List.take_of_length_le hi]; exact hm)
  obtain ⟨l, hl, hlj, e2⟩ := mem_take_at hp
  refine hP' ?_
  clear hP'
  rw [e] at e2
  exact sorted_ne sy (show l < k by omega) hk e2
theorem news_skip (hj : j < ys.length) (h : ys[j] ∉ xs) : (ys.take (j + 1)).filter (fun y => decide (y ∉ xs)) = (ys.take j).filter (fun y => decide (y ∉ xs)) ++ [ys[j]] := by
  rw [List.take_add_one, List.filter_append, List.getElem?_eq_getElem hj]
  simp [h]
theorem news_both (hj : j < ys.length) (h : ys[j] ∈ xs) : (ys.take (j + 1)).filter (fun y => decide (y ∉ xs)) = (ys.take j).filter (fun y => decide (y ∉ xs)) := by
  rw [List.take_add_one, List.filter_append, List.getElem?_eq_getElem hj]
  simp [h]
theorem news_fin (h : ∀ y ∈ ys.drop j, y ∉ xs) : (ys.take j).filter (fun y => decide (y ∉ xs)) ++ ys.drop j = ys.filter (fun y => decide (y ∉ xs)) := by
  conv => rhs; rw [← List.take_append_drop j ys, List.filter_append]
  congr 1
  exact (List.filter_eq_self.mpr fun y hy => by simpa using h y hy).symm
end
end Mine
end
section
open PySem PySem.W PyProof.Rows
set_option Elab.async false
namespace Mine
local macro_rules | `(tactic| omega) => `(tactic| lia)
theorem news_tl {g h : Heap} {L : Addr} {q : Addr × Obj} {news : List (Addr × Obj)} (N : News g L h (q :: news)) : News g L h news := fun p hp => N p (.tail _ hp)
theorem kts_list {fs : List Addr} {g g' : Heap} {l : Addr} {xs : Array Value} (KT : KtsTurn fs g g') (hl : g.IsList l xs) : g'.IsList l xs := by
  refine hide fun P' hP' => ?_
  obtain ⟨o, h1, h2⟩ := hl
  obtain ⟨sl, hs⟩ := KT.up h1
  refine hP' ?_
  clear hP'
  exact ⟨_, hs, h2⟩
theorem news_cons2 {g h : Heap} {L e T : Addr} {X : String} {f2 f3 : Value} {news : List (Addr × Obj)} {oe oT : Obj} (D : Flies g h L e T X f2 f3 news) (N : News g L h news) (q1 : h.get? e = some oe) (r1 : h.get? T = some oT) : News g L h ((e, oe) :: (T, oT) :: news) := fun p hp => by
  rcases List.mem_cons.mp hp with rfl | hp
  · exact ⟨q1, D.en⟩
  rcases List.mem_cons.mp hp with rfl | hp
  · exact ⟨r1, D.tn⟩
  exact N p hp
structure DiffF (s : Shared) (L le la lm lu : Addr) (xs ys : List Str) (i j : Nat) (h : Heap) (m : Str → Option Value) (us : List Value) (ti tj : Tok) : Prop where
  hi : i < xs.length
  d : DiffAt xs ys i j
  k : KeptB [] [] s.heap h
  ns : h.Ns L m
  m1 : m (Str.ofString "expected") = some (.ref le)
  m2 : m (Str.ofString "actual") = some (.ref la)
  m3 : m (Str.ofString "i") = some (.int (i : Nat) ti)
  m4 : m (Str.ofString "j") = some (.int (j : Nat) tj)
  m5 : m (Str.ofString "missing") = some (.ref lm)
  m6 : m (Str.ofString "unexpected") = some (.ref lu)
  l1 : h.PlainList lm #[]
  l2 : h.PlainList lu (List.toArray us)
  us' : StrsAre us ((ys.take j).filter fun y => decide (y ∉ xs))
def DiffJ (s : Shared) (L le la lm lu : Addr) (xs ys : List Str) (n : Nat) (s' : Shared) : Prop :=
  ∃ i j h tk m us ti tj, s' = { s with heap := h, toks := tk } ∧ n = ys.length - j ∧ DiffF s L le la lm lu xs ys i j h m us ti tj
section
local macro_rules | `(tactic| walk_at $k:str) => if ["exec While", "exec While Compare", "exec While Compare cons nil", "subscriptTail Name Name ref int", "noteFrame ref", "passOn", "passOn ref", "subscriptTail Name Slice ref ref", "call builtin:list.extend", "NoTurn", "WhileEnd", "call builtin:list.append"].contains k.getString then `(tactic| (refine Hold.mk ?_)) else Lean.Macro.throwUnsupported
local macro_rules | `(tactic| k_room) => `(tactic| ((try simp only [Around.deeper, Around.mark]); omega))
local macro_rules | `(tactic| walk_at "WhilePost") => `(tactic| (dsimp only [WhilePost]))
set_option maxRecDepth 100000 in
set_option maxHeartbeats 8000000 in
theorem diff_spec {w : World} {loose : List Str} {mean : ExcName → Option Value} {mg mb : Str → Option Value} {base : Heap} {envs : List Env} {A : Around} {s : Shared} {Q E : Value → Shared → Prop} {le la : Addr} {ve va : List Value} {xs ys : List Str}
    (T0 : Top0 w loose mean mg mb base) (H : Here base envs A s.heap) (hh : A.handled = none) (hroom : A.depth + 8 < recursionLimit) (hunits : A.units + 80 < cLine) (tab : TabOk base s.heap)
    (hle : s.heap.PlainList le ve.toArray) (hla : s.heap.PlainList la va.toArray) (hve : StrsAre ve xs) (hva : StrsAre va ys) (hx0 : 0 < xs.length) (hlen : xs.length ≤ 1000 ∧ ys.length ≤ 1000) (hsub : ∀ x ∈ xs, x ∈ ys) (sx : xs.Pairwise slt) (sy : ys.Pairwise slt)
    (ret : ∀ h' tk' T am au us, KeptB envs [] s.heap h' → s.heap.get? T = none → s.heap.get? am = none → s.heap.get? au = none → h'.TupAt T [.ref am, .ref au] → h'.PlainList am #[] → h'.PlainList au (List.toArray us) → StrsAre us (ys.filter fun y => decide (y ∉ xs)) → Q (.ref T) { s with heap := h', toks := tk' }) :
    wpAny (model prg w) A (call (.ref 95) [.ref le, .ref la]) Q E s := by
  refine hide fun P' hP' => ?_
  obtain ⟨ha, dp, fr, gd, un⟩ := A
  obtain rfl : fr = some envs := H.fr
  obtain rfl : ha = none := hh
  refine hP' ?_
  clear hP'
  dsimp only at hroom hunits
  have X : (Mine.hd.heap_39 w.params).In s.heap := T0.X.keeps H.st
  revert X
  unfold prg
  k_fill
  intro X
  refine hide fun P' hP' => ?_
  obtain ⟨o36, t36, t36d⟩ : ∃ o, s.heap.get? 36 = some o ∧ ∃ vs, o.data = .fields vs := by
    rcases tab with t1 | ⟨c, oc, vs, tt, _, t1, _⟩
    · exact ⟨_, t1, _, rfl⟩
    · exact ⟨_, t1, _, rfl⟩
  refine hP' ?_
  clear hP'
  refine wpAny_call ?_
  k_dflt (refine' enterK (K := Mine.hd.heap_39 w.params) ?k1 ?k2 ?k3 ?k4 ?k5 ?k6 ?k7 ?_ ?c1 ?c2 ?c3 ?c4; (case k1 => (show dp < _; omega)); (case k2 => exact X); (case k3 => exact T0.T.nolimit.keeps H.st); (case k4 => k_is); (case k5 => k_is); (case k6 => exact BindsTo.of_eq rfl); (case k7 => exact locs rfl); (case c1 => exact rfl); (case c2 => exact rfl); (case c3 => exact rfl); (case c4 => decide); k_whole)
  intro h₁ hns hk₁
  have K₁ : Kept envs s.heap h₁ := ⟨fun b o e _ _ => hk₁ b o e, fun b o e _ => ⟨o.slots, hk₁ b o e⟩⟩
  have L36 : 36 < s.heap.objs.size := Heap.lt_size t36
  generalize hL : s.heap.objs.size = L at *
  have tab₁ : TabOk base h₁ := tab.keeps (fun o e => hk₁ _ _ e) fun b o _ _ _ e _ _ _ => hk₁ _ _ e
  refine hide fun P' hP' => ?_
  obtain ⟨q36, B, X', T', C', hq36, hN, new0, hbst⟩ := regr T0 H tab hL L36 K₁ tab₁
  refine hP' ?_
  clear hP'
  have F : Fr (gnd s.heap h₁ L) L h₁ _ := gnd_fr hns
  have N : News (gnd s.heap h₁ L) L h₁ ([] ++ (36, q36) :: restN s.heap h₁ L [36, L]) := hN [] _ News.nil
  generalize hR : restN s.heap h₁ L [36, L] = R at N
  have lt0 : ∀ {b o}, s.heap.get? b = some o → b < L := fun e => hL ▸ Heap.lt_size e
  have L0 : s.heap.get? L = none := Heap.get?_none_of_le (Nat.le_of_eq hL)
  have hfr := here_fr H
  dsimp only [List.nil_append] at N
  w_strict (k_steps)
  refine Hold.of ?_
  rename Fr _ _ _ _ => F1
  rename News _ _ _ _ => N1
  refine hide fun P' hP' => ?_
  obtain ⟨lm, lu, ⟨m1, hns1, hm1, hm2, hm3, hm4, hm5, hm6⟩, hlm, hlu, nlm, nlu⟩ : ∃ lm lu, (∃ m, Heap.Ns _ L m ∧ m (Str.ofString "expected") = some (.ref le) ∧ m (Str.ofString "actual") = some (.ref la) ∧ (∃ t, m (Str.ofString "i") = some (.int (0 : Nat) t)) ∧ (∃ t, m (Str.ofString "j") = some (.int (0 : Nat) t)) ∧
      m (Str.ofString "missing") = some (.ref lm) ∧ m (Str.ofString "unexpected") = some (.ref lu)) ∧ Heap.get? _ lm = some (W.listOf #[] 0) ∧ Heap.get? _ lu = some (W.listOf #[] 0) ∧ (lm ≠ L ∧ lm ≠ 36 ∧ s.heap.get? lm = none) ∧ (lu ≠ L ∧ lu ≠ 36 ∧ s.heap.get? lu = none ∧ lu ≠ lm) := by
    have e1 := newsAt N1 (.head _)
    have e2 := newsAt N1 (.tail _ (.head _))
    exact ⟨_, _, ⟨_, F1.ns, rfl, rfl, ⟨_, rfl⟩, ⟨_, rfl⟩, rfl, rfl⟩, e2.1, e1.1, ⟨e2.2.1, Nat.ne_of_gt (by omega), new0 e2.2.2 (Nat.ne_of_gt (by omega))⟩, ⟨e1.2.1, Nat.ne_of_gt (by omega), new0 e1.2.2 (Nat.ne_of_gt (by omega)), Nat.ne_of_gt (by omega)⟩⟩
  refine hP' ?_
  clear hP'
  have K2 := kept_all hL (.of_stays hk₁) F1 (fun o e => by rw [hq36] at e; cases e; exact (newsAt N1 (.tail _ (.tail _ (.head _)))).1)
  refine While_inv (fun n s' => DiffJ s L le la lm lu xs ys n s') ?turn ys.length ?start
  case start =>
    refine hide fun P' hP' => ?_
    obtain ⟨ti, hm3⟩ := hm3
    obtain ⟨tj, hm4⟩ := hm4
    refine hP' ?_
    clear hP'
    exact ⟨0, 0, _, _, m1, [], ti, tj, rfl, rfl, hx0, DiffAt.start hsub, K2, hns1, hm1, hm2, hm3, hm4, hm5, hm6, ⟨_, hlm⟩, ⟨_, hlu⟩, .nil⟩
  case turn =>
    intro n s' rx1
    refine hide fun P' hP' => ?_
    obtain ⟨i, j, h, tk, m, us, ti, tj, rfl, rfl, hi, hD, KD, b1, b2, b3, b4, b5, b6, b7, b8, b9, b10⟩ := rx1
    have hj := hD.lt hi
    obtain ⟨nm, hlm2⟩ := b8
    obtain ⟨nu, hlu2⟩ := b9
    refine hP' ?_
    clear hP'
    have Kh : Kept envs s.heap h := ⟨fun b o e _ _ => KD.out b o e (by simp) (by simp), fun b o e _ => ⟨o.slots, KD.out b o e (by simp) (by simp)⟩⟩
    have ht : TabOk base h := tab.keeps (fun o e => KD.out _ o e (by simp) (by simp)) fun b o _ _ _ e _ _ _ => KD.out _ o e (by simp) (by simp)
    clear F1 N1 B X' T' C' hN new0 hbst
    refine hide fun P' hP' => ?_
    obtain ⟨r36, B, X', T', C', hr36, hN, new0, hbst⟩ := regr T0 H tab hL L36 Kh ht
    refine hP' ?_
    clear hP'
    have F : Fr (gnd s.heap h L) L h (fun y => if y = Str.ofString "expected" then some (.ref le) else if y = Str.ofString "actual" then some (.ref la) else if y = Str.ofString "i" then some (.int (i : Nat) ti) else if y = Str.ofString "j" then some (.int (j : Nat) tj) else if y = Str.ofString "missing" then some (.ref lm) else if y = Str.ofString "unexpected" then some (.ref lu) else m y) := gnd_fr (ns_kst b1 [(Str.ofString "expected", .ref le), (Str.ofString "actual", .ref la), (Str.ofString "i", .int (i : Nat) ti), (Str.ofString "j", .int (j : Nat) tj), (Str.ofString "missing", .ref lm), (Str.ofString "unexpected", .ref lu)] (mem6 b2 b3 b4 b5 b6 b7))
    have N : News (gnd s.heap h L) L h ((lu, W.listOf us.toArray nu) :: (lm, W.listOf #[] nm) :: (36, r36) :: restN s.heap h L [36, L, lu, lm]) :=
      hN [_, _] _ (news_one hlu2 nlu.2.2.1 nlu.1 (news_one hlm2 nlm.2.2 nlm.1 News.nil))
    generalize hR3 : restN s.heap h L [36, L, lu, lm] = R3 at N
    have gE : (gnd s.heap h L).PlainList le ve.toArray := gnd_list hL KD hle t36 t36d
    have gA : (gnd s.heap h L).PlainList la va.toArray := gnd_list hL KD hla t36 t36d
    dsimp only
    w_strict (k_steps)
    refine Hold.of ?_
    rename Fr _ _ _ _ => F5
    rename News _ _ _ _ => N5
    refine item_str (x := xs[i]) ((gE.at fun o e => F5.keep _ _ e).isList) hve (by omega) (by omega) (by simp) ?_
    intro t5
    w_strict (k_steps)
    refine Hold.of ?_
    rename Fr _ _ _ _ => F6
    rename News _ _ _ _ => N6
    refine item_str (x := ys[j]) ((gA.at fun o e => F6.keep _ _ e).isList) hva (by omega) (by omega) (by simp) ?_
    intro t6
    w_strict (k_steps)
    · rename _ < _ => hlt
      exact absurd hlt (hD.not_less sy hi hj)
    · refine Hold.of ?_
      rename Fr _ _ _ _ => F7
      rename News _ _ _ _ => N7
      rename slt (ys[j]) (xs[i]) => hgt
      obtain ⟨hD2, hnot⟩ := hD.skip sx sy hi hj hgt
      have hj2 := hD2.lt hi
      have hlu7 := newsAt N7 (.head _)
      have huslen : us.length ≤ 1000 := by
        rw [strs_len b10]
        exact Nat.le_trans (List.length_filter_le _ _) (Nat.le_trans (List.length_take_le' _ _) hlen.2)
      refine wpAny_list_append_plain (hsz := by rw [sizeLine_eq]; simp; omega) ⟨_, hlu7.1⟩ fun h7 hl7 hs7 => ?_
      obtain ⟨n7, hl7⟩ := hl7
      have F8 := fr_but F7 hs7 hlu7.2.2 nlu.1.symm
      have N8 : News (gnd s.heap h L) L h7 ((lu, W.listOf (us.toArray.push (.str ys[j] t6)) n7) :: (lm, W.listOf #[] nm) :: (36, r36) :: R3) := fun p hp => by
        rcases List.mem_cons.mp hp with rfl | hp
        · exact ⟨hl7, hlu7.2⟩
        refine news_but (l' := (lm, W.listOf #[] nm) :: (36, r36) :: R3) N7 hs7 (fun p hp => ?_) p hp
        rcases List.mem_cons.mp hp with rfl | hp
        · exact ⟨.tail _ (.head _), nlu.2.2.2.symm⟩
        rcases List.mem_cons.mp hp with rfl | hp
        · exact ⟨.tail _ (.tail _ (.head _)), nlu.2.1.symm⟩
        · refine ⟨.tail _ (.tail _ (.tail _ hp)), ?_⟩
          rw [← hR3] at hp
          have := (mem_restN.mp hp).2.2.2
          simp only [List.mem_cons, List.not_mem_nil, or_false, not_or] at this
          exact this.2.2.1
      clear F7 N7
      dsimp only
      w_strict (k_steps)
      refine Hold.of ?_
      refine While_none ?_
      w_strict (k_steps)
      refine Hold.of ?_
      rename Fr _ _ _ _ => F9
      refine item_str (x := ys[j + 1]) ((gA.at fun o e => F9.keep _ _ e).isList) hva (by omega) (by omega) (by simp) ?_
      intro t7
      w_strict (k_steps)
      refine Hold.of ⟨?_, ?_⟩
      · have := sorted_ne sy (Nat.lt_succ_self j) hj2
        simpa using this
      w_strict (k_steps)
      refine Hold.of ?_
      rename Fr _ _ _ _ => F10
      rename News _ _ _ _ => N10
      have e36 := (newsAt N10 (.tail _ (.tail _ (.head _)))).1
      refine ⟨ys.length - (j + 1), by omega, i, j + 1, _, _, _, us ++ [.str ys[j] t6], _, _, rfl, rfl, hi, hD2, kept_all hL KD F10 (fun o e => by rw [hr36] at e; cases e; exact e36), F10.ns, rfl, rfl, rfl, rfl, rfl, rfl,
        ⟨_, (newsAt N10 (.tail _ (.head _))).1⟩, ⟨_, by rw [← List.push_toArray]; exact (newsAt N10 (.head _)).1⟩, ?_⟩
      rw [news_skip hj hnot]
      exact strs_snoc b10
    · refine Hold.of ?_
      rename ¬ slt (xs[i]) (ys[j]) => hn1
      rename ¬ slt (ys[j]) (xs[i]) => hn2
      have hxy := slt_eq hn1 hn2
      have hD2 := hD.both sx hi hj hxy
      have hin : ys[j] ∈ xs := hxy ▸ List.getElem_mem hi
      rcases Nat.lt_or_ge (i + 1) xs.length with hi2 | hi2
      · have hj2 := hD2.lt hi2
        refine While_none ?_
        w_strict (k_steps)
        refine Hold.of ?_
        rename Fr _ _ _ _ => F9
        refine item_str (x := xs[i + 1]) ((gE.at fun o e => F9.keep _ _ e).isList) hve (by omega) (by omega) (by simp) ?_
        intro t7
        w_strict (k_steps)
        refine Hold.of ⟨?_, ?_⟩
        · have := sorted_ne sx (Nat.lt_succ_self i) hi2
          simpa using this
        w_strict (k_steps)
        refine Hold.of ?_
        refine While_none ?_
        w_strict (k_steps)
        refine Hold.of ?_
        rename Fr _ _ _ _ => F9
        refine item_str (x := ys[j + 1]) ((gA.at fun o e => F9.keep _ _ e).isList) hva (by omega) (by omega) (by simp) ?_
        intro t8
        w_strict (k_steps)
        refine Hold.of ⟨?_, ?_⟩
        · have := sorted_ne sy (Nat.lt_succ_self j) hj2
          simpa using this
        w_strict (k_steps)
        refine Hold.of ?_
        rename Fr _ _ _ _ => F10
        rename News _ _ _ _ => N10
        have e36 := (newsAt N10 (.tail _ (.tail _ (.head _)))).1
        refine ⟨ys.length - (j + 1), by omega, i + 1, j + 1, _, _, _, us, _, _, rfl, rfl, hi2, hD2, kept_all hL KD F10 (fun o e => by rw [hr36] at e; cases e; exact e36), F10.ns, rfl, rfl, rfl, rfl, rfl, rfl,
          ⟨_, (newsAt N10 (.tail _ (.head _))).1⟩, ⟨_, (newsAt N10 (.head _)).1⟩, ?_⟩
        rw [news_both hj hin]
        exact b10
      · have hxl : xs.length = i + 1 := by omega
        refine While_none ?_
        w_strict (k_steps)
        refine Hold.of ?_
        rename Fr _ _ _ _ => F9
        rename News _ _ _ _ => N9
        refine item_out (by rfl) ((gE.at fun o e => F9.keep _ _ e).isList) (by rw [List.size_toArray, strs_len hve]; omega) (by omega) ?_
        intro h5 tk5 e1 hx1
        w_strict (k_steps)
        refine Hold.of ?_
        refine hide fun P' hP' => ?_
        obtain ⟨oe1, t1e, he1, hec1, hed1⟩ := hx1.there
        refine hP' ?_
        clear hP'
        refine note_turn (X := "IndexError") (f2 := .none) B F9 N9 hx1.keeps hx1.new he1 hec1 hed1 (by simp) (by simp) T0.X T0.T ?_
        intro h6 g6 T6 KT6 F10 N10 D10 B6 X6 P6
        refine ⟨ref_ne_byPass _, note_same D10 rfl (flight_set F10 N10 D10 fun h7 F11 N11 D11 => ?_)⟩
        refine wpAny_passesOwnAt (E := fun e s₁ => wpAny _ _ (noteFrame e _) _ _ s₁) (by passes_own) ?_
        refine hide fun P' hP' => ?_
        obtain ⟨oe6, ve6, q1, q2, q3, q4, q5⟩ := id D11.ex
        obtain ⟨oT6, vT6, r1, r2, r3⟩ := id D11.tb
        refine hP' ?_
        clear hP'
        have N12 := news_cons2 D11 N11 q1 r1
        have gA6 := kts_list KT6 gA.isList
        have gE6 := kts_list KT6 gE.isList
        clear F9 N9 F10 N10 B X' T' D10 N11
        dsimp only
        w_strict (k_steps)
        refine Hold.of ?_
        refine While_none ?_
        w_strict (k_steps)
        refine Hold.of ?_
        rename Fr _ _ _ _ => F13
        rename News _ _ _ _ => N13
        have D13 : Flies _ _ _ _ _ _ _ _ _ := D11.grow (fun o e => by rw [q1] at e; cases e; exact (newsAt N13 (.head _)).1) (fun o e => by rw [r1] at e; cases e; exact (newsAt N13 (.tail _ (.head _))).1)
        have hnewT := hD2.fin sy hi2
        rcases Nat.lt_or_ge (j + 1) ys.length with hj2 | hj2
        case' inl =>
          refine item_str (x := ys[j + 1]) (gA6.at fun o e => F13.keep _ _ e) hva (by omega) (by omega) (by simp) ?_
          intro t8
          w_strict (k_steps)
          refine Hold.of ⟨?_, ?_⟩
          · have := sorted_ne sy (Nat.lt_succ_self j) hj2
            simpa using this
          w_strict (k_steps)
          refine Hold.of ?_
          dsimp only
          refine pass_on rfl F13 (news_tl (news_tl N13)) D13 fun h15 F15 N15 D15 => ?_
          refine note_same D15 rfl (flight_set F15 N15 D15 fun h16 F16 N16 D16 => ?_)
          refine handle_builtin (KF := Mine.hd.heap_39 w.params) (T' := "IndexError") F16 N16 D16 X6 P6 (by k_is) (by decide +kernel) (by decide) (isSubtype_of_subB (by decide +kernel)) (isSubtype_of_subB (by decide +kernel)) (isSubtype_of_subB (by decide +kernel)) fun h17 F17 N17 D17 => ?_
          have gAx := gA6
          have gEx := gE6
          have KTx := KT6
          have XT := X6
          clear F15 N15 D15 F16 N16 D16 D11 D13 D17 F13 N13
        case' inr =>
          refine item_out_ctx rfl (newsAt N13 (.head _)).1 q3 q5 (gA6.at fun o e => F13.keep _ _ e) (by rw [List.size_toArray, strs_len hva]; omega) (by omega) ?_
          intro h14 tk14 e2 oe2 v2 x1 x2 x3 x4 x5 x6 x7
          w_strict (k_steps)
          refine Hold.of ?_
          refine note_turn (X := "IndexError") (f2 := .ref e1) B6 F13 N13 x1 x2 x3 x4 x5 x6 x7 T0.X T0.T ?_
          intro h15 g15 T15 KT15 F15 N15 D15 B15 X15 P15
          refine flight_set F15 N15 D15 fun h16 F16 N16 D16 => ?_
          refine handle_builtin (KF := Mine.hd.heap_39 w.params) (T' := "IndexError") F16 (news_tl (news_tl N16)) (D16.sub fun p hp => .tail _ (.tail _ hp)) X15 P15 (by k_is) (by decide +kernel) (by decide) (isSubtype_of_subB (by decide +kernel)) (isSubtype_of_subB (by decide +kernel)) (isSubtype_of_subB (by decide +kernel)) fun h17 F17 N17 D17 => ?_
          have gAx := kts_list KT15 gA6
          have gEx := kts_list KT15 gE6
          have KTx := KT6.trans KT15
          have XT := X15
          clear F15 N15 D15 F16 N16 D16 D11 D13 D17 F13 N13
        all_goals
          w_strict (k_steps)
          refine Hold.of ?_
          rename Fr _ _ _ _ => F18
          rename News _ _ _ _ => N18
          refine kmk_slice (lo := some ((i + 1 : Nat) : Int)) (hi := none) F18 N18 (gEx.at fun o e => F18.keep _ _ e) (IsPart.int _ _) IsPart.none (fun D1 h18 F19 N19 l19 => ?_) (by with_unfolding_all rfl) (by intro _; with_unfolding_all rfl) (by rw [List.size_toArray, strs_len hve, sizeLine_eq]; omega)
          rw [pick_from, List.drop_of_length_le (by rw [strs_len hve]; omega)] at N19
          clear F18 N18
          w_strict (k_steps)
          refine Hold.of ?_
          rename Fr _ _ _ _ => F20
          rename News _ _ _ _ => N20
          have hlm20 := newsAt N20 (.tail _ (.tail _ (.head _)))
          refine extend_raw hlm20.1 (newsAt N20 (.head _)).1 (by simp) fun h21 hl21 hs21 => ?_
          obtain ⟨n21, hl21⟩ := hl21
          have F21 := fr_but F20 hs21 hlm20.2.2 nlm.1.symm
          have N21 : News _ L h21 ((lm, W.listOf #[] n21) :: (lu, W.listOf us.toArray nu) :: (36, r36) :: R3) := fun p hp => by
            rcases List.mem_cons.mp hp with rfl | hp
            · exact ⟨by simpa using hl21, hlm20.2⟩
            refine news_but (l' := (lu, W.listOf us.toArray nu) :: (36, r36) :: R3) N20 hs21 (fun p hp => ?_) p hp
            rcases List.mem_cons.mp hp with rfl | hp
            · exact ⟨.tail _ (.head _), nlu.2.2.2⟩
            rcases List.mem_cons.mp hp with rfl | hp
            · exact ⟨.tail _ (.tail _ (.tail _ (.head _))), nlm.2.1.symm⟩
            · refine ⟨.tail _ (.tail _ (.tail _ (.tail _ hp))), ?_⟩
              rw [← hR3] at hp
              have := (mem_restN.mp hp).2.2.2
              simp only [List.mem_cons, List.not_mem_nil, or_false, not_or] at this
              exact this.2.2.2
          clear F20 N20
          dsimp only
          w_strict (k_steps)
          refine Hold.of ?_
          rename Fr _ _ _ _ => F22
          rename News _ _ _ _ => N22
          refine kmk_slice (lo := some ((j + 1 : Nat) : Int)) (hi := none) F22 N22 (gAx.at fun o e => F22.keep _ _ e) (IsPart.int _ _) IsPart.none (fun D2 h23 F23 N23 l23 => ?_) (by with_unfolding_all rfl) (by intro _; with_unfolding_all rfl) (by rw [List.size_toArray, strs_len hva, sizeLine_eq]; omega)
          rw [pick_from] at N23
          clear F22 N22
          w_strict (k_steps)
          refine Hold.of ?_
          rename Fr _ _ _ _ => F24
          rename News _ _ _ _ => N24
          have hlu24 := newsAt N24 (.tail _ (.tail _ (.head _)))
          have huslen : us.length ≤ 1000 := by
            rw [strs_len b10]
            exact Nat.le_trans (List.length_filter_le _ _) (Nat.le_trans (List.length_take_le' _ _) hlen.2)
          refine extend_raw hlu24.1 (newsAt N24 (.head _)).1 (by rw [List.size_toArray, List.size_toArray, List.length_drop, strs_len hva, sizeLine_eq]; omega) fun h25 hl25 hs25 => ?_
          obtain ⟨n25, hl25⟩ := hl25
          rw [List.append_toArray] at hl25
          have F25 := fr_but F24 hs25 hlu24.2.2 nlu.1.symm
          have N25 : News _ L h25 ((lu, W.listOf (us ++ va.drop (j + 1)).toArray n25) :: (lm, W.listOf #[] n21) :: (36, r36) :: R3) := fun p hp => by
            rcases List.mem_cons.mp hp with rfl | hp
            · exact ⟨hl25, hlu24.2⟩
            refine news_but (l' := (lm, W.listOf #[] n21) :: (36, r36) :: R3) N24 hs25 (fun p hp => ?_) p hp
            rcases List.mem_cons.mp hp with rfl | hp
            · exact ⟨.tail _ (.head _), nlu.2.2.2.symm⟩
            rcases List.mem_cons.mp hp with rfl | hp
            · exact ⟨.tail _ (.tail _ (.tail _ (.head _))), nlu.2.1.symm⟩
            · refine ⟨.tail _ (.tail _ (.tail _ (.tail _ hp))), ?_⟩
              rw [← hR3] at hp
              have := (mem_restN.mp hp).2.2.2
              simp only [List.mem_cons, List.not_mem_nil, or_false, not_or] at this
              exact this.2.2.1
          clear F24 N24
          dsimp only
          w_strict (k_steps)
          rename Fr _ _ _ _ => F26
          rename News _ _ _ _ => N26
          have eT := newsAt N26 (.head _)
          refine ret _ _ _ lm lu (us ++ va.drop (j + 1)) (kept_turn hL hfr KD KTx F26 (fun o e => by rw [hr36] at e; cases e; exact (newsAt N26 (.tail _ (.tail _ (.tail _ (.head _))))).1)) (new_turn hL KD KTx eT.2.2 (Nat.ne_of_gt (by omega))) nlm.2.2 nlu.2.2.1 ⟨_, _, eT.1, rfl, rfl⟩
            ⟨_, (newsAt N26 (.tail _ (.tail _ (.head _)))).1⟩ ⟨_, (newsAt N26 (.tail _ (.head _))).1⟩ ?_
          rw [← news_fin hnewT, news_both hj hin]
          exact strs_append b10 (strs_drop hva (j + 1))
end
end Mine
end
section
open PySem PySem.W PyProof.Rows
set_option Elab.async false
namespace Mine
local macro_rules | `(tactic| omega) => `(tactic| lia)
def NewRefs (h0 : Heap) (vs : List Value) : Prop := ∀ v ∈ vs, ∃ a, v = .ref a ∧ h0.get? a = none
theorem PairsAre.kept {envs : List Env} {S : List Addr} {h0 h h' : Heap} (K : KeptB envs S h h') (hfr : ∀ b ∈ envs.filterMap (·.frame), ∃ o, h0.get? b = some o ∧ b ≠ 36) (hS : ∀ b ∈ S, (∃ o, h0.get? b = some o) ∨ ∀ w p t u, h.get? b ≠ some (pairObj w p t u)) :
    ∀ {vs : List Value} {ds : List (Str × Int)}, PairsAre h vs ds → NewRefs h0 vs → PairsAre h' vs ds
  | _, _, .nil, _ => .nil
  | _, _, .cons (v := v) x r, n => .cons (by
      refine hide fun P' hP' => ?_
      obtain ⟨a, t, u, e, ho⟩ := x
      obtain ⟨a', e', hn⟩ := n v (.head _)
      refine hP' ?_
      clear hP'
      rw [e] at e'; cases e'
      refine ⟨a, t, u, e, K.out a _ ho (fun hm => ?_) fun hm => ?_⟩
      · refine hide fun P' hP' => ?_
        obtain ⟨o, q, _⟩ := hfr a hm
        refine hP' ?_
        clear hP'
        rw [hn] at q; cases q
      · rcases hS a hm with ⟨o, q⟩ | q
        · rw [hn] at q; cases q
        · exact q _ _ _ _ ho) (r.kept K hfr hS fun v hv => n v (.tail _ hv))
theorem NewRefs.snoc {h0 : Heap} {vs : List Value} {a : Addr} (x : NewRefs h0 vs) (e : h0.get? a = none) : NewRefs h0 (vs ++ [.ref a]) := fun v hv => by
  rcases List.mem_append.mp hv with hv | hv
  · exact x v hv
  · rw [List.mem_singleton.mp hv]; exact ⟨a, rfl, e⟩
theorem old_none {envs : List Env} {h0 h : Heap} {o36 : Obj} {b : Addr} (K : Kept envs h0 h) (e36 : h.get? 36 = some o36) (hn : h.get? b = none) : h0.get? b = none := by
  cases q : h0.get? b with
  | none => rfl
  | some o =>
    by_cases h36 : b = 36
    · rw [h36, e36] at hn; cases hn
    · obtain ⟨sl, hs⟩ := K.up q h36
      rw [hs] at hn; cases hn
theorem allLt_mem {d : Nat} : ∀ {l : List (Addr × Obj)}, AllLt d l → ∀ p ∈ l, @LT.lt Nat _ p.1 d
  | [], _, _, hp => nomatch hp
  | _ :: _, h, p, hp => by
    rcases List.mem_cons.mp hp with rfl | hp
    · exact h.1
    · exact allLt_mem h.2 p hp
theorem fresh_rest {h0 h : Heap} {L b : Addr} {R : List (Addr × Obj)} (hR : restN h0 h L [36, L] = R) (hl : AllLt b R) (hn : h0.get? b = none) (hL : b ≠ L) (h36 : b ≠ 36) : h.get? b = none := by
  cases q : h.get? b with
  | none => rfl
  | some o =>
    have hm : (b, o) ∈ R := hR ▸ mem_restN.mpr ⟨q, hn, hL, by simp [hL, h36]⟩
    exact absurd (allLt_mem hl _ hm) (Nat.lt_irrefl _)
theorem turn_seal {α β : Type} {M : Model} {A : Around} {env : Env} {t1 : Sem α} {t2 : Sem β} {t3 : Sem Flow} {Q : Flow → Shared → Prop} {E : Value → Shared → Prop} {s : Shared} (hE : PassesOwn M A env E)
    (h : ∀ (Q' : Flow → Shared → Prop) (E' : Value → Shared → Prop), PassesOwn M A env E' → (∀ f s, Q f s → Q' f s) → wpAny M A t1 (fun _ s₁ => wpAny M A t2 (fun _ s₂ => wpAny M A t3 Q' E' s₂) E' s₁) E' s) :
    wpAny M A t1 (fun _ s₁ => wpAny M A t2 (fun _ s₂ => wpAny M A t3 Q E s₂) E s₁) E s := h Q E hE fun _ _ x => x
structure OutSF (h0 : Heap) (x : Str) (t : Tok) (L wa : Addr) (i : Nat) (h : Heap) (m : Str → Option Value) (la : Addr) (lvs : List Value) (wvs : List Value) : Prop where
  f1 : h.Ns L m
  f2 : m (Str.ofString "text") = some (.str x t)
  f3 : m (Str.ofString "words") = some (.ref wa)
  f4 : m (Str.ofString "level") = some (.ref la)
  f5 : la ≠ wa
  f6 : la ≠ L
  f7 : la ≠ 36
  f8 : h0.get? la = none
  f9 : h.PlainList wa (List.toArray wvs)
  f10 : StrsAre wvs (wordsTo x i)
  f11 : h.PlainList la (List.toArray lvs)
  f12 : PairsAre h lvs (levelAt x i)
  f13 : NewRefs h0 lvs
def OutS (h0 : Heap) (x : Str) (t : Tok) (L wa : Addr) (i : Nat) (h : Heap) : Prop :=
  ∃ m la lvs wvs, OutSF h0 x t L wa i h m la lvs wvs
theorem OutS.nf {h0 : Heap} {x : Str} {t : Tok} {L wa : Addr} {i : Nat} {h h' : Heap} (s : OutS h0 x t L wa i h) (u : NF h h') : OutS h0 x t L wa i h' := by
  refine hide fun P' hP' => ?_
  obtain ⟨m, la, lvs, wvs, a1, a2, a3, a4, a5, a6, b1, b2, a7, a8, a9, a10, a11⟩ := s
  refine hP' ?_
  clear hP'
  exact ⟨m, la, lvs, wvs, u.ns a1, a2, a3, a4, a5, a6, b1, b2, u.plain a7, a8, u.plain a9, u.pairs a10, a11⟩
structure MidSF (h0 : Heap) (x : Str) (t : Tok) (L wa la lo : Addr) (lvs : List Value) (lev acc : List (Str × Int)) (h : Heap) (m : Str → Option Value) (vs : List Value) : Prop where
  f1 : h.Ns L m
  f2 : m (Str.ofString "text") = some (.str x t)
  f3 : m (Str.ofString "words") = some (.ref wa)
  f4 : m (Str.ofString "level") = some (.ref la)
  f5 : m (Str.ofString "longer") = some (.ref lo)
  f6 : PairsAre h lvs lev
  f7 : h.PlainList lo (List.toArray vs)
  f8 : PairsAre h vs acc
  f9 : NewRefs h0 vs
def MidS (h0 : Heap) (x : Str) (t : Tok) (L wa la lo : Addr) (lvs : List Value) (lev acc : List (Str × Int)) (h : Heap) : Prop :=
  ∃ m vs, MidSF h0 x t L wa la lo lvs lev acc h m vs
theorem MidS.nf {h0 : Heap} {x : Str} {t : Tok} {L wa la lo : Addr} {lvs : List Value} {lev acc : List (Str × Int)} {h h' : Heap} (s : MidS h0 x t L wa la lo lvs lev acc h) (u : NF h h') : MidS h0 x t L wa la lo lvs lev acc h' := by
  refine hide fun P' hP' => ?_
  obtain ⟨m, vs, a1, a2, a3, a4, a5, a6, a7, a8, a9⟩ := s
  refine hP' ?_
  clear hP'
  exact ⟨m, vs, u.ns a1, a2, a3, a4, a5, u.pairs a6, u.plain a7, u.pairs a8, a9⟩
theorem list_pair {h : Heap} {l : Addr} {xs : Array Value} {n : Nat} (e : h.get? l = some (W.listOf xs n)) (w p t u) : h.get? l ≠ some (pairObj w p t u) := fun q => by
  rw [e] at q
  exact absurd (Value.type.inj (congrArg Obj.cls (Option.some.inj q))) (by decide)
structure InSF (h0 : Heap) (x : Str) (t : Tok) (L wa la lo : Addr) (lvs : List Value) (lev acc : List (Str × Int)) (d : Str × Int) (h : Heap) (m : Str → Option Value) (vs : List Value) (t1 : Tok) (u1 : Tok) : Prop where
  f1 : h.Ns L m
  f2 : m (Str.ofString "text") = some (.str x t)
  f3 : m (Str.ofString "words") = some (.ref wa)
  f4 : m (Str.ofString "level") = some (.ref la)
  f5 : m (Str.ofString "longer") = some (.ref lo)
  f6 : m (Str.ofString "word") = some (.str d.1 t1)
  f7 : m (Str.ofString "place") = some (.int d.2 u1)
  f8 : PairsAre h lvs lev
  f9 : h.PlainList lo (List.toArray vs)
  f10 : PairsAre h vs acc
  f11 : NewRefs h0 vs
def InS (h0 : Heap) (x : Str) (t : Tok) (L wa la lo : Addr) (lvs : List Value) (lev acc : List (Str × Int)) (d : Str × Int) (h : Heap) : Prop :=
  ∃ m vs t1 u1, InSF h0 x t L wa la lo lvs lev acc d h m vs t1 u1
theorem InS.nf {h0 : Heap} {x : Str} {t : Tok} {L wa la lo : Addr} {lvs : List Value} {lev acc : List (Str × Int)} {d : Str × Int} {h h' : Heap} (s : InS h0 x t L wa la lo lvs lev acc d h) (u : NF h h') : InS h0 x t L wa la lo lvs lev acc d h' := by
  refine hide fun P' hP' => ?_
  obtain ⟨m, vs, t1, u1, a1, a2, a3, a4, a5, b1, b2, a6, a7, a8, a9⟩ := s
  refine hP' ?_
  clear hP'
  exact ⟨m, vs, t1, u1, u.ns a1, a2, a3, a4, a5, b1, b2, u.pairs a6, u.plain a7, u.pairs a8, a9⟩
section
local macro_rules | `(tactic| walk_at $k:str) => if ["pyIter ref", "pyIter str", "TurnEnd", "call type:frozenset", "call builtin:list.append", "call type:str", "eval ListComp", "FirstsOf", "exec For", "exec For Name Call", "exec For Name Call cons nil"].contains k.getString then `(tactic| (refine Hold.mk ?_)) else Lean.Macro.throwUnsupported
local macro_rules | `(tactic| k_room) => `(tactic| ((try simp only [Around.deeper, Around.mark]); omega))
local macro_rules | `(tactic| walk_at "TurnPost") => `(tactic| (dsimp only [TurnPost]))
local macro_rules | `(tactic| walk_at "call ref") => `(tactic| ((with_reducible show wpAny _ _ (call (Value.ref 34) _ _) _ _ _); refine Hold.mk ?_))
set_option maxRecDepth 100000 in
set_option maxHeartbeats 8000000 in
theorem words_spec {w : World} {loose : List Str} {mean : ExcName → Option Value} {mg mb : Str → Option Value} {base : Heap} {envs : List Env} {A : Around} {s : Shared} {Q E : Value → Shared → Prop} {x : Str} {t : Tok}
    (T0 : Top0 w loose mean mg mb base) (H : Here base envs A s.heap) (hh : A.handled = none) (hroom : A.depth + 8 < recursionLimit) (hunits : A.units + 80 < cLine) (tab : TabOk base s.heap)
    (hx : x.length ≤ 500)
    (ret : ∀ h' tk' wa wvs, Kept envs s.heap h' → TabOk base h' → s.heap.get? wa = none → h'.PlainList wa (List.toArray wvs) → StrsAre wvs (wordsTo x 3) → Q (.ref wa) { s with heap := h', toks := tk' }) :
    wpAny (model prg w) A (call (.ref 100) [.str x t]) Q E s := by
  refine hide fun P' hP' => ?_
  obtain ⟨ha, dp, fr, gd, un⟩ := A
  obtain rfl : fr = some envs := H.fr
  obtain rfl : ha = none := hh
  refine hP' ?_
  clear hP'
  dsimp only at hroom hunits
  have X : (Mine.hd.heap_39 w.params).In s.heap := T0.X.keeps H.st
  revert X
  unfold prg
  k_fill
  intro X
  refine hide fun P' hP' => ?_
  obtain ⟨o36, t36, t36d⟩ : ∃ o, s.heap.get? 36 = some o ∧ ∃ vs, o.data = .fields vs := by
    rcases tab with t1 | ⟨c, oc, vs, tt, _, t1, _⟩
    · exact ⟨_, t1, _, rfl⟩
    · exact ⟨_, t1, _, rfl⟩
  refine hP' ?_
  clear hP'
  refine wpAny_call ?_
  k_dflt (refine' enterK (K := Mine.hd.heap_39 w.params) ?k1 ?k2 ?k3 ?k4 ?k5 ?k6 ?k7 ?_ ?c1 ?c2 ?c3 ?c4; (case k1 => (show dp < _; omega)); (case k2 => exact X); (case k3 => exact T0.T.nolimit.keeps H.st); (case k4 => k_is); (case k5 => k_is); (case k6 => exact BindsTo.of_eq rfl); (case k7 => exact locs rfl); (case c1 => exact rfl); (case c2 => exact rfl); (case c3 => exact rfl); (case c4 => decide); k_whole)
  intro h₁ hns hk₁
  have K₁ : Kept envs s.heap h₁ := ⟨fun b o e _ _ => hk₁ b o e, fun b o e _ => ⟨o.slots, hk₁ b o e⟩⟩
  have L36 : 36 < s.heap.objs.size := Heap.lt_size t36
  generalize hL : s.heap.objs.size = L at *
  have B := gnd_below H T0.n36 tab hL K₁
  have F : Fr (gnd s.heap h₁ L) L h₁ _ := gnd_fr hns
  have N : News (gnd s.heap h₁ L) L h₁ [(36, o36)] := fun p hp => by
    rcases List.mem_singleton.mp hp with rfl
    exact ⟨hk₁ _ _ t36, Nat.ne_of_lt L36, gnd_36⟩
  have X' : (Mine.hd.heap_39 w.params).In (gnd s.heap h₁ L) := T0.X.keeps B.stays
  have T' := T0.T.keeps B.stays
  have C' := T0.C.keeps B.stays
  have lt0 : ∀ {b o}, s.heap.get? b = some o → b < L := fun e => hL ▸ Heap.lt_size e
  have L0 : s.heap.get? L = none := Heap.get?_none_of_le (Nat.le_of_eq hL)
  have new0 : ∀ {b}, (gnd s.heap h₁ L).get? b = none → b ≠ 36 → s.heap.get? b = none := fun {b} e n => by
    cases q : s.heap.get? b with
    | none => rfl
    | some o => rw [gnd_get (hk₁ _ _ q) (lt0 q) q n] at e; cases e
  have frs : ∀ b ∈ envs.filterMap (·.frame), b < L := fun b hb => let ⟨_, e, _⟩ := here_fr H b hb; lt0 e
  w_strict (k_steps)
  refine Hold.of ?_
  refine For_go ?_
  w_strict (k_steps)
  refine Hold.of ?_
  rename Fr _ _ _ _ => F1
  rename News _ _ _ _ => N1
  rename IsRange _ _ _ _ _ _ _ _ => R1
  refine hide fun P' hP' => ?_
  obtain ⟨wa, la, ia, o₁, t₁, u₁, hns1, hwa, hla, hia, nia, nwa, nla⟩ : ∃ wa la ia o₁ t₁ u₁, (∃ m, Heap.Ns _ L m ∧ m (Str.ofString "text") = some (.str x t) ∧ m (Str.ofString "words") = some (.ref wa) ∧ m (Str.ofString "level") = some (.ref la)) ∧
      Heap.get? _ wa = some (W.listOf #[] o₁) ∧ Heap.get? _ la = some (W.listOf #[.ref ia] 0) ∧ Heap.get? _ ia = some (pairObj (Str.ofString "") 0 t₁ u₁) ∧ s.heap.get? ia = none ∧ (wa ≠ L ∧ wa ≠ 36 ∧ s.heap.get? wa = none) ∧ (la ≠ L ∧ la ≠ 36 ∧ s.heap.get? la = none ∧ la ≠ wa) := by
    have e1 := newsAt N1 (List.Mem.head _)
    have e2 := newsAt N1 (List.Mem.tail _ (List.Mem.head _))
    have e3 := newsAt N1 (List.Mem.tail _ (List.Mem.tail _ (List.Mem.head _)))
    exact ⟨_, _, _, _, _, _, ⟨_, F1.ns, rfl, rfl, rfl⟩, e3.1, e1.1, e2.1, new0 e2.2.2 (Nat.ne_of_gt (by omega)), ⟨e3.2.1, Nat.ne_of_gt (by omega), new0 e3.2.2 (Nat.ne_of_gt (by omega))⟩, ⟨e1.2.1, Nat.ne_of_gt (by omega), new0 e1.2.2 (Nat.ne_of_gt (by omega)), Nat.ne_of_gt (by omega)⟩⟩
  have hfr := here_fr H
  have K2 := kept_of hL hfr K₁ F1
  have tab2 := tab_of H tab K2 (fun o e => by rw [t36] at e; cases e; exact (newsAt N1 (.tail _ (.tail _ (.tail _ (.head _))))).1)
  obtain ⟨m1, hns1, hm1, hm2, hm3⟩ := hns1
  refine hP' ?_
  clear hP'
  refine loop_range (base := base) (envs := envs) (S := [36, L, wa]) (n := 3) (Spec := OutS s.heap x t L wa) (by passes_own) rfl ?o1 ?o2 tab2 (fun _ _ _ a b => a.nf b) ?o3 R1 (by decide) (by decide) ?o4 ?turn ?done
  case o1 => exact fun b hb => Nat.lt_trans (frs b hb) F1.ns.lt
  case o2 => exact Nat.lt_trans L36 F1.ns.lt
  case o3 => exact ⟨m1, la, _, _, hns1, hm1, hm2, hm3, nla.2.2.2, nla.1, nla.2.1, nla.2.2.1, ⟨_, hwa⟩, StrsAre.nil, ⟨_, hla⟩, .cons ⟨_, _, _, rfl, hia⟩ .nil, fun v hv => by rw [List.mem_singleton.mp hv]; exact ⟨_, rfl, nia⟩⟩
  case o4 =>
    intro b hb
    rcases List.mem_cons.mp hb with rfl | hb
    · exact Nat.lt_trans L36 F1.ns.lt
    rcases List.mem_cons.mp hb with rfl | hb
    · exact F1.ns.lt
    · rw [List.mem_singleton.mp hb]; exact Heap.lt_size hwa
  case turn =>
    intro i u h tk I hi hk ht hsp
    refine hide fun P' hP' => ?_
    obtain ⟨m, lv, lvs, wvs, a1, a2, a3, a4, a5, a6, a7, a8, a9, a10, a11, a12, a13⟩ := hsp
    refine hP' ?_
    clear hP'
    have Kh := K2.step hk (fun b hb => by
      rcases List.mem_cons.mp hb with rfl | hb
      · exact .inl rfl
      rcases List.mem_cons.mp hb with rfl | hb
      · exact .inr L0
      · rw [List.mem_singleton.mp hb]; exact .inr nwa.2.2)
    clear F1 N1 R1 B X' T' C' hns1
    refine hide fun P' hP' => ?_
    obtain ⟨q36, B, X', T', C', hq36, hN, new0, hbst⟩ := regr T0 H tab hL L36 Kh ht
    have F : Fr (gnd s.heap h L) L h (fun y => if y = Str.ofString "text" then some (.str x t) else if y = Str.ofString "words" then some (.ref wa) else if y = Str.ofString "level" then some (.ref lv) else m y) := gnd_fr (ns_kst a1 [(Str.ofString "text", .str x t), (Str.ofString "words", .ref wa), (Str.ofString "level", .ref lv)] (mem3 a2 a3 a4))
    obtain ⟨w0, hw0⟩ := a9
    obtain ⟨v0, hv0⟩ := a11
    refine hP' ?_
    clear hP'
    have N : News (gnd s.heap h L) L h ((wa, W.listOf wvs.toArray w0) :: (lv, W.listOf lvs.toArray v0) :: (36, q36) :: restN s.heap h L [36, L]) :=
      hN [_, _] _ (news_one hw0 nwa.2.2 nwa.1 (news_one hv0 a8 a6 News.nil))
    generalize hR : restN s.heap h L [36, L] = R at N
    dsimp only at hk ⊢
    refine turn_seal (env := envOf _ _ L _ _) (by passes_own) fun Q' E' hE' hQ' => ?_
    refine wpAny_pure ?_
    w_strict (k_steps)
    refine Hold.of ?_
    refine For_go ?_
    w_strict (k_steps)
    refine Hold.of ?_
    rename Fr _ _ _ _ => F1
    rename News _ _ _ _ => N1
    refine hide fun P' hP' => ?_
    obtain ⟨lo, ⟨m1, hns1, hm1, hm2, hm3, hm4⟩, hlo, nlo⟩ : ∃ lo, (∃ m, Heap.Ns _ L m ∧ m (Str.ofString "text") = some (.str x t) ∧ m (Str.ofString "words") = some (.ref wa) ∧ m (Str.ofString "level") = some (.ref lv) ∧ m (Str.ofString "longer") = some (.ref lo)) ∧
        Heap.get? _ lo = some (W.listOf #[] 0) ∧ (lo ≠ L ∧ lo ≠ 36 ∧ s.heap.get? lo = none ∧ lo ≠ wa ∧ lo ≠ lv ∧ h.get? lo = none) := by
      have e1 := newsAt N1 (.head _)
      rename _ ∧ _ ∧ _ ∧ AllLt _ _ => hall
      exact ⟨_, ⟨_, F1.ns, rfl, rfl, rfl, rfl⟩, e1.1, ⟨e1.2.1, Nat.ne_of_gt (by omega), new0 e1.2.2 (Nat.ne_of_gt (by omega)), Nat.ne_of_gt (by omega), Nat.ne_of_gt (by omega),
        fresh_rest hR hall.2.2.2 (new0 e1.2.2 (Nat.ne_of_gt (by omega))) e1.2.1 (Nat.ne_of_gt (by omega))⟩⟩
    refine hP' ?_
    clear hP'
    have hw1 := (newsAt N1 (.tail _ (.head _))).1
    have hv1 := (newsAt N1 (.tail _ (.tail _ (.head _)))).1
    have Kh1 := keptB_of (S := [36, L]) hL hfr F1 N1 (by simp) (by simp) (fun p hp => by rw [hR] at hp; exact .tail _ (.tail _ (.tail _ (.tail _ hp))))
    have e36 := (newsAt N1 (.tail _ (.tail _ (.tail _ (.head _))))).1
    have tab1 : TabOk base _ := tab_step H Kh ht (fun o e => by rw [hq36] at e; cases e; exact e36) Kh1 (mem2 (.inl rfl) (.inr (ns_rec a1)))
    have Kh2 := Kh.step Kh1 (mem2 (.inl rfl) (.inr L0))
    refine loop_list (base := base) (envs := envs) (S := [36, L, lo]) (Spec := fun j h => MidS s.heap x t L wa lv lo lvs (levelAt x i) (((levelAt x i).take j).flatMap (stepAll x)) h) (by passes_own) rfl ?i1 ?i2 tab1 (fun _ _ _ a b => a.nf b) ?i3 ?i4 ⟨_, hv1, rfl, _, rfl⟩ ?i5 ?iturn ?idone
    case i1 => exact fun b hb => Nat.lt_trans (frs b hb) F1.ns.lt
    case i2 => exact Nat.lt_trans L36 F1.ns.lt
    case i3 => exact ⟨m1, [], hns1, hm1, hm2, hm3, hm4, a12.kept Kh1 hfr (mem2 (.inl ⟨_, t36⟩) (.inr (ns_pair a1))) a13, ⟨_, hlo⟩, by simpa using .nil, fun _ hv => nomatch hv⟩
    case i4 => exact mem3 (Nat.lt_trans L36 F1.ns.lt) F1.ns.lt (Heap.lt_size hlo)
    case i5 =>
      refine ⟨fun hb => ?_, fun hb => ?_⟩
      · rcases List.mem_cons.mp hb with z | hb
        · exact a7 z
        rcases List.mem_cons.mp hb with z | hb
        · exact a6 z
        · exact nlo.2.2.2.2.1 (List.mem_singleton.mp hb).symm
      · refine hide fun P' hP' => ?_
        obtain ⟨o, q, _⟩ := hfr _ hb
        refine hP' ?_
        clear hP'
        rw [a8] at q; cases q
    case iturn =>
      intro j v h2 tk2 I2 hI2 hj hv hit hk2 ht2 hsp2
      refine hide fun P' hP' => ?_
      obtain ⟨m, vs, b1, b2, b3, b4, b5, b6, b7, b8, b9⟩ := hsp2
      refine hP' ?_
      clear hP'
      rw [List.getElem?_toArray] at hv
      refine hide fun P' hP' => ?_
      obtain ⟨d, hd, T, t1, u1, rfl, hT⟩ := b6.get hv
      refine hP' ?_
      clear hP'
      have Kh3 := Kh2.step hk2 (mem3 (.inl rfl) (.inr L0) (.inr nlo.2.2.1))
      clear F1 N1 B X' T' C' hns1
      refine hide fun P' hP' => ?_
      obtain ⟨p36, B, X', T', C', hp36, hN, new0, hbst⟩ := regr T0 H tab hL L36 Kh3 ht2
      have F : Fr (gnd s.heap h2 L) L h2 (fun y => if y = Str.ofString "text" then some (.str x t) else if y = Str.ofString "words" then some (.ref wa) else if y = Str.ofString "level" then some (.ref lv) else if y = Str.ofString "longer" then some (.ref lo) else m y) := gnd_fr (ns_kst b1 [(Str.ofString "text", .str x t), (Str.ofString "words", .ref wa), (Str.ofString "level", .ref lv), (Str.ofString "longer", .ref lo)] (mem4 b2 b3 b4 b5))
      obtain ⟨n7, hlo2⟩ := b7
      refine hP' ?_
      clear hP'
      have N : News (gnd s.heap h2 L) L h2 ((lo, W.listOf vs.toArray n7) :: (36, p36) :: restN s.heap h2 L [36, L, lo]) :=
        hN [_] _ (news_one hlo2 nlo.2.2.1 nlo.1 News.nil)
      generalize hR2 : restN s.heap h2 L [36, L, lo] = R2 at N
      have hTup : IsTup h2 T #[.str d.1 t1, .int d.2 u1] := ⟨_, hT, rfl, _, rfl⟩
      dsimp only at hk2 ⊢
      refine turn_seal (env := envOf _ _ L _ _) (by passes_own) fun Q' E' hE' hQ' => ?_
      refine wpAny_letOwnedTupleGo_listiter hit ?_
      w_strict (k_steps)
      refine Hold.of ?_
      refine For_go ?_
      w_strict (k_steps)
      refine Hold.of ?_
      rename Fr _ _ _ _ => F1
      rename News _ _ _ _ => N1
      have hlo3 := (newsAt N1 (.head _)).1
      have e36' := (newsAt N1 (.tail _ (.head _))).1
      have Kh4 := keptB_of (S := [36, L, lo]) hL hfr F1 N1 (by simp) (by simp) (fun p hp => by rw [hR2] at hp; exact .tail _ (.tail _ hp))
      have tab3 : TabOk base _ := tab_step H Kh3 ht2 (fun o e => by rw [hp36] at e; cases e; exact e36') Kh4 (mem3 (.inl rfl) (.inr (ns_rec b1)) (.inr ⟨_, hlo2, fun _ q => by cases q⟩))
      have Kh5 := Kh3.step Kh4 (mem3 (.inl rfl) (.inr L0) (.inr nlo.2.2.1))
      have hSl : ∀ b ∈ [36, L, lo], (∃ o, s.heap.get? b = some o) ∨ ∀ w p t u, h2.get? b ≠ some (pairObj w p t u) := mem3 (.inl ⟨_, t36⟩) (.inr (ns_pair b1)) (.inr (list_pair hlo2))
      generalize hacc : (List.take j (levelAt x i)).flatMap (stepAll x) = acc at b8
      refine loop_str (base := base) (envs := envs) (S := [36, L, lo]) (Spec := fun i2 h => InS s.heap x t L wa lv lo lvs (levelAt x i) (acc ++ (signs.take i2).filterMap (stepOne x d)) d h) (by passes_own) rfl ?j1 ?j2 tab3 (fun _ _ _ a b => a.nf b) ?j3 (by decide +kernel) ?j4 ?jturn ?jdone
      case j1 => exact fun b hb => Nat.lt_trans (frs b hb) F1.ns.lt
      case j2 => exact Nat.lt_trans L36 F1.ns.lt
      case j3 => exact ⟨_, vs, _, _, F1.ns, rfl, rfl, rfl, rfl, rfl, rfl, b6.kept Kh4 hfr hSl a13, ⟨_, hlo3⟩, by simpa using b8.kept Kh4 hfr hSl b9, b9⟩
      case j4 => exact mem3 (Nat.lt_trans L36 F1.ns.lt) F1.ns.lt (Heap.lt_size hlo3)
      case jturn =>
        intro i2 c u2 h3 tk3 I3 hc hk3 ht3 hsp3
        refine hide fun P' hP' => ?_
        obtain ⟨m, vs3, t3, u3, c1, c2, c3, c4, c5, c6, c7, c8, c9, c10, c11⟩ := hsp3
        refine hP' ?_
        clear hP'
        have Kh6 := Kh5.step hk3 (mem3 (.inl rfl) (.inr L0) (.inr nlo.2.2.1))
        clear F1 N1 B X' T' C'
        refine hide fun P' hP' => ?_
        obtain ⟨r36, B, X', T', C', hr36, hN, new0, hbst⟩ := regr T0 H tab hL L36 Kh6 ht3
        have F : Fr (gnd s.heap h3 L) L h3 (fun y => if y = Str.ofString "text" then some (.str x t) else if y = Str.ofString "words" then some (.ref wa) else if y = Str.ofString "level" then some (.ref lv) else if y = Str.ofString "longer" then some (.ref lo) else if y = Str.ofString "word" then some (.str d.1 t3) else if y = Str.ofString "place" then some (.int d.2 u3) else m y) := gnd_fr (ns_kst c1 [(Str.ofString "text", .str x t), (Str.ofString "words", .ref wa), (Str.ofString "level", .ref lv), (Str.ofString "longer", .ref lo), (Str.ofString "word", .str d.1 t3), (Str.ofString "place", .int d.2 u3)] (mem6 c2 c3 c4 c5 c6 c7))
        obtain ⟨n9, hlo4⟩ := c9
        refine hP' ?_
        clear hP'
        have N : News (gnd s.heap h3 L) L h3 ((lo, W.listOf vs3.toArray n9) :: (36, r36) :: restN s.heap h3 L [36, L, lo]) :=
          hN [_] _ (news_one hlo4 nlo.2.2.1 nlo.1 News.nil)
        generalize hR3 : restN s.heap h3 L [36, L, lo] = R3 at N
        dsimp only at hk3 ⊢
        refine turn_seal (env := envOf _ _ L _ _) (by passes_own) fun Q' E' hE' hQ' => ?_
        refine wpAny_pure ?_
        w_strict (k_steps)
        refine Hold.of ?_
        rename Fr _ _ _ _ => F1
        rename News _ _ _ _ => N1
        refine call_fz fun led => ?_
        have N2 := news_push F1 N1 (fzObj led) rfl
        have F2 := F1.push (fzObj led)
        clear F1 N1
        dsimp only
        w_strict (k_steps)
        refine Hold.of ?_
        have hcs := signs_mem (signs_at hc)
        refine hide fun P' hP' => ?_
        obtain ⟨d0, d1, d2⟩ := level_ok x i d (List.mem_of_getElem? hd)
        refine hP' ?_
        clear hP'
        have hz := (newsAt N2 (.head _)).1
        have hlo5 := (newsAt N2 (.tail _ (.head _))).1
        have e36'' := (newsAt N2 (.tail _ (.tail _ (.head _)))).1
        have Kh7 := keptB_of (S := [36, L, lo]) hL hfr F2 N2 (by simp) (by simp) (fun p hp => by rw [hR3] at hp; exact .tail _ (.tail _ (.tail _ hp)))
        have hSn : ∀ b ∈ [36, L, lo], b = 36 ∨ ∃ o, h3.get? b = some o ∧ ∀ vs, o.data ≠ .fields vs := mem3 (.inl rfl) (.inr (ns_rec c1)) (.inr ⟨_, hlo4, fun _ q => by cases q⟩)
        have tab4 : TabOk base _ := tab_step H Kh6 ht3 (fun o e => by rw [hr36] at e; cases e; exact e36'') Kh7 hSn
        have Kh8 := Kh6.step Kh7 (mem3 (.inl rfl) (.inr L0) (.inr nlo.2.2.1))
        have nf36 : ∀ env₀ : Env, env₀.frame = some L → ∀ env ∈ env₀ :: envs, env.frame ≠ some 36 := fun env₀ h₀ env he q => by
          rcases List.mem_cons.mp he with rfl | he
          · rw [h₀] at q; exact absurd (Option.some.inj q) (Nat.ne_of_gt L36)
          · exact H.nf env he q
        refine skip_spec (led := led) T0 ⟨rfl, fun b o q => F2.keep _ _ (B.stays b o q), Below.frames (Below.push B F2 rfl), nf36 _ rfl⟩ rfl ?k4 ?k5 tab4 hz (repr_signs hcs) hx d0 d1 ?ok ?no
        case k4 => show dp + 1 + 5 < _; omega
        case k5 => show un + 3 + 40 < _; omega
        case ok =>
          intro hpos h5 tk5 t5 st5
          have F := F2.kept st5
          have N : News (gnd s.heap h3 L) L h5 _ := fun p hp => ⟨st5 _ _ (N2 p hp).1, (N2 p hp).2⟩
          clear F2 N2
          dsimp only
          w_strict (k_steps)
          refine Hold.of ?_
          rename Fr _ _ _ _ => F6
          rename News _ _ _ _ => N6
          have hlo6 := (newsAt N6 (.tail _ (.tail _ (.head _)))).1
          have hlen : vs3.length ≤ 1000000 := by
            rw [c10.length, List.length_append]
            have e1 := flat_len x (List.take j (levelAt x i))
            have e2 := level_len3 x (Nat.le_of_lt hi)
            have e3 : ((List.take i2 signs).filterMap (stepOne x d)).length ≤ (List.take i2 signs).length := List.length_filterMap_le _ _
            have e4 : (List.take i2 signs).length ≤ 4 := List.length_take_le' _ _
            have e5 : (List.take j (levelAt x i)).length ≤ (levelAt x i).length := List.length_take_le' _ _
            rw [hacc] at e1; omega
          refine wpAny_list_append_plain (hsz := by rw [sizeLine_eq]; simp; omega) ⟨_, hlo6⟩ fun h7 hl7 hs7 => ?_
          have F7 := fr_but F6 hs7 (newsAt N6 (.tail _ (.tail _ (.head _)))).2.2 nlo.1.symm
          have eD := newsAt N6 (.head _)
          have e36a := newsAt N6 (.tail _ (.tail _ (.tail _ (.head _))))
          have hRlo : ∀ p ∈ R3, p.1 ≠ lo := fun p hp => by
            rw [← hR3] at hp
            have := (mem_restN.mp hp).2.2.2
            simp only [List.mem_cons, List.not_mem_nil, or_false, not_or] at this
            exact this.2.2
          have N7 := news_but (l' := _ :: (36, r36) :: R3) N6 hs7 (fun p hp => by
            rcases List.mem_cons.mp hp with rfl | hp
            · exact ⟨.head _, Nat.ne_of_gt (by omega)⟩
            rcases List.mem_cons.mp hp with rfl | hp
            · exact ⟨.tail _ (.tail _ (.tail _ (.head _))), nlo.2.1.symm⟩
            · exact ⟨.tail _ (.tail _ (.tail _ (.tail _ hp))), hRlo p hp⟩)
          have Kh9 := keptB_of (S := [36, L, lo]) hL hfr F7 N7 (by simp) (by simp) (fun p hp => by rw [hR3] at hp; exact .tail _ (.tail _ hp))
          have tab5 : TabOk base _ := tab_step H Kh6 ht3 (fun o e => by rw [hr36] at e; cases e; exact (newsAt N7 (.tail _ (.head _))).1) Kh9 hSn
          have hSl3 : ∀ b ∈ [36, L, lo], (∃ o, s.heap.get? b = some o) ∨ ∀ w p t u, h3.get? b ≠ some (pairObj w p t u) := mem3 (.inl ⟨_, t36⟩) (.inr (ns_pair c1)) (.inr (list_pair hlo4))
          refine wpAny_execs_nil (wpAny_execs_nil (wpAny_execs_nil (hQ' _ _ (show TurnEnd _ _ _ _ _ _ _ from ⟨_, _, rfl, Kh9, tab5, _, vs3 ++ [.ref _], _, _, F7.ns, rfl, rfl, rfl, rfl, rfl, rfl, c8.kept Kh9 hfr hSl3 a13, ?_, ?_, c11.snoc (new0 eD.2.2 (Nat.ne_of_gt (by omega)))⟩))))
          · rw [← List.push_toArray]; exact hl7
          · rw [take_step _ (signs_at hc), ← List.append_assoc]
            have e : stepOne x d c = some (d.1 ++ sg c, Txt.find3 x (sg c) d.2 + 1) := by
              unfold stepOne
              rw [if_neg (by unfold sg; omega)]
            rw [e]
            exact (c10.kept Kh9 hfr hSl3 c11).snoc ⟨_, _, _, rfl, (newsAt N7 (.head _)).1⟩
        case no =>
          intro hneg h5 tk5 ee tt SR
          refine catch_toml (KF := Mine.hd.heap_39 w.params) rfl F2.ns SR (Below.frames (Below.push B F2 rfl)) T0.X T0.T (fun b o q => lt0 (H.st b o q)) T0.n36 (by k_is) (by k_exc) ?_
          intro E1 E2 h6 u6 K6 tab6 st6 hee htt
          have Kp := kept_pop (env := envOf _ _ L _ _) (L := L) rfl K6
          have ns6 := kept_ns (env := envOf _ _ L _ _) (L := L) rfl K6 F2.ns
          have Kh10 := Kh8.step Kp (mem2 (.inl rfl) (.inr L0))
          have hee0 : s.heap.get? ee = none := old_none Kh8 e36'' SR.eN
          have htt0 : s.heap.get? tt = none := old_none Kh8 e36'' SR.tN
          have heL : ee ≠ L := fun z => by
            refine hide fun P' hP' => ?_
            obtain ⟨_, _, _, q, _⟩ := F2.ns
            refine hP' ?_
            clear hP'
            rw [← z] at q
            exact absurd (SR.eN.symm.trans q) (by simp)
          have htL : tt ≠ L := fun z => by
            refine hide fun P' hP' => ?_
            obtain ⟨_, _, _, q, _⟩ := F2.ns
            refine hP' ?_
            clear hP'
            rw [← z] at q
            exact absurd (SR.tN.symm.trans q) (by simp)
          have hlo6 := Kp.out lo _ hlo5 (fun hm => by
            refine hide fun P' hP' => ?_
            obtain ⟨o, q, _⟩ := hfr _ hm
            refine hP' ?_
            clear hP'
            rw [nlo.2.2.1] at q; cases q) (by simp [nlo.1, nlo.2.1])
          refine hide fun P' hP' => ?_
          obtain ⟨oe, ws, he1, he2, he3, he4⟩ := hee
          obtain ⟨ot, nt, ht1, ht2', ht3'⟩ := htt
          refine hP' ?_
          clear hP'
          clear B X' T' C' hN new0 hbst
          refine hide fun P' hP' => ?_
          obtain ⟨s36, B, X', T', C', hs36, hN, new0, hbst⟩ := regr T0 H tab hL L36 Kh10 tab6
          refine hP' ?_
          clear hP'
          have F : Fr (gnd s.heap h6 L) L h6 (fun y => if y = Str.ofString "sign" then some (.str ⟨#[c]⟩ u2) else if y = Str.ofString "text" then some (.str x t) else if y = Str.ofString "words" then some (.ref wa) else if y = Str.ofString "level" then some (.ref lv) else if y = Str.ofString "longer" then some (.ref lo) else if y = Str.ofString "word" then some (.str d.1 t3) else if y = Str.ofString "place" then some (.int d.2 u3) else m y) := gnd_fr ns6
          have N : News (gnd s.heap h6 L) L h6 ((ee, oe) :: (tt, ot) :: (lo, W.listOf vs3.toArray n9) :: (36, s36) :: restN s.heap h6 L [36, L, lo]) :=
            hN [_, _, _] _ (news_one he1 hee0 heL (news_one ht1 htt0 htL (news_one hlo6 nlo.2.2.1 nlo.1 News.nil)))
          generalize hR4 : restN s.heap h6 L [36, L, lo] = R4 at N
          clear F2 N2
          dsimp only
          w_strict (k_steps)
          refine Hold.of ?_
          rename Fr _ _ _ _ => F7
          rename News _ _ _ _ => N7
          refine str_toml (t0 := tt) (m := Str.ofString "Expected '" ++ ⟨#[c]⟩ ++ Str.ofString "' (at end of document)") (X'.keeps F7.keep) (by k_is) (by kernel_rfl) (by kernel_rfl) ⟨oe, ws, (newsAt N7 (.head _)).1, he2, he3, he4⟩ ⟨ot, nt, (newsAt N7 (.tail _ (.head _))).1, ht2', by rw [ht3', told_eq hcs]⟩ (show un + 3 + 2 < _ by omega) ?_
          w_strict (k_steps)
          any_goals (first | (rename (_ != _) = true => hne; simp at hne; done) | skip)
          refine Hold.of ?_
          rename Fr _ _ _ _ => F8
          rename News _ _ _ _ => N8
          have Kh11 := (Kh7.trans (Kp.more (mem2 (.head _) (.tail _ (.head _))))).trans (keptB_of (S := [36, L, lo]) hL hfr F8 N8 (by simp) (by simp) (fun p hp => by rw [hR4] at hp; exact .tail _ (.tail _ (.tail _ (.tail _ hp)))))
          have tab7 : TabOk base _ := tab_step H Kh10 tab6 (fun o e => by rw [hs36] at e; cases e; exact (newsAt N8 (.tail _ (.tail _ (.tail _ (.head _))))).1) (keptB_of (S := [36, L, lo]) hL hfr F8 N8 (by simp) (by simp) (fun p hp => by rw [hR4] at hp; exact .tail _ (.tail _ (.tail _ (.tail _ hp))))) (mem3 (.inl rfl) (.inr (ns_rec ns6)) (.inr ⟨_, hlo6, fun _ q => by cases q⟩))
          have hSl3 : ∀ b ∈ [36, L, lo], (∃ o, s.heap.get? b = some o) ∨ ∀ w p t u, h3.get? b ≠ some (pairObj w p t u) := mem3 (.inl ⟨_, t36⟩) (.inr (ns_pair c1)) (.inr (list_pair hlo4))
          refine hQ' _ _ (show TurnEnd _ _ _ _ _ _ _ from ⟨_, _, rfl, Kh11, tab7, _, vs3, _, _, F8.ns, rfl, rfl, rfl, rfl, rfl, rfl, c8.kept Kh11 hfr hSl3 a13, ⟨_, (newsAt N8 (.tail _ (.tail _ (.head _)))).1⟩, ?_, c11⟩)
          rw [take_step _ (signs_at hc), ← List.append_assoc]
          have e : stepOne x d c = none := by
            unfold stepOne
            exact if_pos hneg
          rw [e]
          simpa using c10.kept Kh11 hfr hSl3 c11
      case jdone =>
        intro h3 tk3 hk3 ht3 hsp3
        refine hide fun P' hP' => ?_
        obtain ⟨m, vs3, t3, u3, c1, c2, c3, c4, c5, c6, c7, c8, c9, c10, c11⟩ := hsp3
        refine hP' ?_
        clear hP'
        refine wpAny_execs_nil (hQ' _ _ (show TurnEnd _ _ _ _ _ _ _ from ⟨_, _, rfl, Kh4.trans hk3, ht3, m, vs3, c1, c2, c3, c4, c5, c8, c9, ?_, c11⟩))
        rw [take_flat _ hd, hacc]
        rw [signs_size] at c10
        exact c10
    case idone =>
      intro h3 tk3 hk3 ht3 hsp3
      refine hide fun P' hP' => ?_
      obtain ⟨m, vs3, c1, c2, c3, c4, c5, c6, c7, c8, c9⟩ := hsp3
      refine hP' ?_
      clear hP'
      have hall : (List.take lvs.toArray.size (levelAt x i)).flatMap (stepAll x) = levelAt x (i + 1) := by
        rw [List.size_toArray, a12.length, List.take_length]; rfl
      rw [hall] at c8
      have Kh6 := Kh2.step hk3 (mem3 (.inl rfl) (.inr L0) (.inr nlo.2.2.1))
      clear F1 N1 B X' T' C' hN
      refine hide fun P' hP' => ?_
      obtain ⟨r36, B, X', T', C', hr36, hN, new0, hbst⟩ := regr T0 H tab hL L36 Kh6 ht3
      have F : Fr (gnd s.heap h3 L) L h3 (fun y => if y = Str.ofString "text" then some (.str x t) else if y = Str.ofString "words" then some (.ref wa) else if y = Str.ofString "level" then some (.ref lv) else if y = Str.ofString "longer" then some (.ref lo) else m y) := gnd_fr (ns_kst c1 [(Str.ofString "text", .str x t), (Str.ofString "words", .ref wa), (Str.ofString "level", .ref lv), (Str.ofString "longer", .ref lo)] (mem4 c2 c3 c4 c5))
      obtain ⟨n9, hlo4⟩ := c7
      refine hP' ?_
      clear hP'
      have hwa4 : h3.get? wa = some (W.listOf wvs.toArray w0) := hk3.out wa _ hw1 (fun hm => by
        refine hide fun P' hP' => ?_
        obtain ⟨o, q, _⟩ := hfr _ hm
        refine hP' ?_
        clear hP'
        rw [nwa.2.2] at q; cases q) (by simp [nwa.1, nwa.2.1, nlo.2.2.2.1.symm])
      have N : News (gnd s.heap h3 L) L h3 ((lo, W.listOf vs3.toArray n9) :: (wa, W.listOf wvs.toArray w0) :: (36, r36) :: restN s.heap h3 L [36, L, lo, wa]) :=
        hN [_, _] _ (news_one hlo4 nlo.2.2.1 nlo.1 (news_one hwa4 nwa.2.2 nwa.1 News.nil))
      generalize hR3 : restN s.heap h3 L [36, L, lo, wa] = R3 at N
      dsimp only at hk3 ⊢
      w_strict (k_steps)
      refine Hold.of ?_
      refine ListComp_firsts rfl rfl rfl (by decide) (by decide) (by decide) (by decide) rfl (by decide) ?_
      w_strict (k_steps)
      refine Hold.of ?_
      rename Fr _ _ _ _ => F5
      rename News _ _ _ _ => N5
      have hlo5 := (newsAt N5 (.head _)).1
      refine ⟨lo, vs3, levelAt x (i + 1), rfl, ⟨_, hlo5, rfl, _, rfl⟩, ?_, ?_, ?_⟩
      · rw [c8.length, sizeLine_eq]
        have := level_len3 x (k := i + 1) hi
        omega
      · exact c8
      intro D h4 tk4 ys hD hpl hys st4
      have hwa5 := newsAt N5 (.tail _ (.head _))
      have hlen : wvs.length ≤ 192 := by
        have e1 := strs_len a10
        have e2 := words_len x (Nat.le_of_lt hi)
        omega
      have hlen2 : ys.length ≤ 64 := by
        have e1 := strs_len hys
        have e2 := level_len3 x (k := i + 1) hi
        rw [List.length_map] at e1
        omega
      obtain ⟨nD, hD4⟩ := hpl
      refine inplace_list (st4 _ _ hwa5.1) hD4 (by rw [List.size_toArray, List.size_toArray, sizeLine_eq]; omega) fun h5 hpl5 hs5 => ?_
      obtain ⟨n5, hpl5⟩ := hpl5
      rw [List.append_toArray] at hpl5
      have F6 := fr_but (F5.kept st4) hs5 hwa5.2.2 nwa.1.symm
      have N6 : News (gnd s.heap h3 L) L h5 ((wa, W.listOf (wvs ++ ys).toArray n5) :: (lo, W.listOf vs3.toArray n9) :: (36, r36) :: R3) := by
        have N4 : News (gnd s.heap h3 L) L h4 _ := fun p hp => ⟨st4 _ _ (N5 p hp).1, (N5 p hp).2⟩
        intro p hp
        rcases List.mem_cons.mp hp with rfl | hp
        · exact ⟨hpl5, nwa.1, hwa5.2.2⟩
        refine news_but (l' := (lo, W.listOf vs3.toArray n9) :: (36, r36) :: R3) N4 hs5 (fun p hp => ?_) p hp
        rcases List.mem_cons.mp hp with rfl | hp
        · exact ⟨.head _, nlo.2.2.2.1⟩
        rcases List.mem_cons.mp hp with rfl | hp
        · exact ⟨.tail _ (.tail _ (.head _)), nwa.2.1.symm⟩
        · refine ⟨.tail _ (.tail _ (.tail _ hp)), ?_⟩
          rw [← hR3] at hp
          have := (mem_restN.mp hp).2.2.2
          simp only [List.mem_cons, List.not_mem_nil, or_false, not_or] at this
          exact this.2.2.2
      clear F5 N5
      dsimp only
      w_strict (k_steps)
      refine Hold.of ?_
      rename Fr _ _ _ _ => F7
      rename News _ _ _ _ => N7
      have hlo7 := (newsAt N7 (.tail _ (.head _))).1
      have Kh9 := keptB_of (S := [36, L, wa]) hL hfr F7 N7 (by simp) (by simp) (fun p hp => by
        obtain ⟨b, o⟩ := p
        by_cases hb : b = lo
        · subst hb
          have := (mem_restN.mp hp).1
          rw [show h3.get? b = some (W.listOf vs3.toArray n9) from hlo4] at this
          cases this
          exact .tail _ (.head _)
        · have hm := mem_restN.mp hp
          refine .tail _ (.tail _ (.tail _ (hR3 ▸ mem_restN.mpr ⟨hm.1, hm.2.1, hm.2.2.1, ?_⟩)))
          have := hm.2.2.2
          simp only [List.mem_cons, List.not_mem_nil, or_false, not_or] at this ⊢
          exact ⟨this.1, this.2.1, hb, this.2.2⟩)
      have tab6 : TabOk base _ := tab_step H Kh6 ht3 (fun o e => by rw [hr36] at e; cases e; exact (newsAt N7 (.tail _ (.tail _ (.head _)))).1) Kh9 (mem3 (.inl rfl) (.inr (ns_rec c1)) (.inr ⟨_, hwa4, fun _ q => by cases q⟩))
      have Kall : KeptB envs [36, L, wa] h _ := KeptB.drop (S' := [36, L, lo, wa]) (((Kh1.more (by simp)).trans (hk3.more (by simp))).trans (Kh9.more (by simp)))
        (mem4 (.inl (by simp)) (.inl (by simp)) (.inr nlo.2.2.2.2.2) (.inl (by simp)))
      have hSl3 : ∀ b ∈ [36, L, wa], (∃ o, s.heap.get? b = some o) ∨ ∀ w p t u, h3.get? b ≠ some (pairObj w p t u) := mem3 (.inl ⟨_, t36⟩) (.inr (ns_pair c1)) (.inr (list_pair hwa4))
      exact hQ' _ _ (show TurnEnd _ _ _ _ _ _ _ from ⟨_, _, rfl, Kall, tab6, _, lo, vs3, wvs ++ ys, F7.ns, rfl, rfl, rfl, nlo.2.2.2.1, nlo.1, nlo.2.1, nlo.2.2.1, ⟨_, (newsAt N7 (.head _)).1⟩, strs_append a10 hys, ⟨_, hlo7⟩, c8.kept Kh9 hfr hSl3 c9, c9⟩)
  case done =>
    intro h tk hk ht hsp
    refine hide fun P' hP' => ?_
    obtain ⟨m, lv, lvs, wvs, a1, a2, a3, a4, a5, a6, a7, a8, a9, a10, a11, a12, a13⟩ := hsp
    refine hP' ?_
    clear hP'
    have Kh := K2.step hk (mem3 (.inl rfl) (.inr L0) (.inr nwa.2.2))
    clear F1 N1 R1 B X' T' C' hns1
    refine hide fun P' hP' => ?_
    obtain ⟨q36, B, X', T', C', hq36, hN, new0, hbst⟩ := regr T0 H tab hL L36 Kh ht
    have F : Fr (gnd s.heap h L) L h (fun y => if y = Str.ofString "text" then some (.str x t) else if y = Str.ofString "words" then some (.ref wa) else if y = Str.ofString "level" then some (.ref lv) else m y) := gnd_fr (ns_kst a1 [(Str.ofString "text", .str x t), (Str.ofString "words", .ref wa), (Str.ofString "level", .ref lv)] (mem3 a2 a3 a4))
    obtain ⟨w0, hw0⟩ := a9
    refine hP' ?_
    clear hP'
    have N : News (gnd s.heap h L) L h ((wa, W.listOf wvs.toArray w0) :: (36, q36) :: restN s.heap h L [36, L]) :=
      hN [_] _ (news_one hw0 nwa.2.2 nwa.1 News.nil)
    generalize hR : restN s.heap h L [36, L] = R at N
    dsimp only at hk ⊢
    w_strict (k_steps)
    exact ret h _ wa wvs Kh ht nwa.2.2 ⟨_, hw0⟩ a10
end
end Mine
end
section
open PySem PyProof.Rows
set_option Elab.async false
namespace Mine
def kv (κ : PyProof.Rows.KeyKind) (p : Keyed) : κ.α := (κ.keyOf p.1).getD κ.dflt
def HasKey (κ : PyProof.Rows.KeyKind) (p : Keyed) : Prop := ∃ a, κ.keyOf p.1 = some a
def gallop' : Bool → Keyed → Array Keyed → Nat → Nat → Nat → StateT SortSt Sem (Option Nat) := sortPriv% PySem.Builtin.gallop
def bey (left : Bool) (key x : Keyed) : StateT SortSt Sem (Option Bool) := if left then lt' x key else do return (← lt' key x).map (!·)
section
variable {prog : Program} {w : World} {A : Around} {E : Value → Shared → Prop} {s : Shared} {κ : PyProof.Rows.KeyKind}
theorem wpS_lt (hO : κ.OneLt) {st : SortSt} {x y : Keyed} {Q : Option Bool → SortSt → Prop} (hk : kindOf st = oneType') (hx : HasKey κ x) (hy : HasKey κ y)
    (h : Q (some (κ.blt (kv κ x) (kv κ y))) st) : wpS (model prog w) A E s (lt' x y) Q st := by
  refine hide fun P' hP' => ?_
  obtain ⟨a, ha⟩ := hx
  obtain ⟨b, hb⟩ := hy
  refine hP' ?_
  clear hP'
  unfold kv at h
  rw [ha, hb] at h
  rw [lt'_eq]
  refine wpS_bind (wpS_get ?_)
  rw [hk, keyLt'_oneType]
  exact wpS_bind (wpS_lift (wpAny_attempt (hO prog w A _ s x.1 y.1 a b ha hb ⟨rfl, wpS_pure h⟩)))
theorem wpS_elem {st : SortSt} {arr : Array Keyed} {i : Nat} {Q : Keyed → SortSt → Prop} (hi : i < arr.size) (h : Q arr[i] st) : wpS (model prog w) A E s (elem' arr i) Q st := by
  rw [elem'_eq, getElem?_pos arr i hi]
  exact wpS_pure h
theorem wpS_gallop {left : Bool} {key : Keyed} {arr : Array Keyed} {base n hint : Nat} {st : SortSt} {Q : Option Nat → SortSt → Prop} (P : Nat → Bool) (k : Nat) (hk : k ≤ n) (hh : hint < n) (hn : base + n ≤ arr.size)
    (hP : ∀ i (hi : base + i < arr.size), i < n → ∀ Q : Option Bool → SortSt → Prop, Q (some (P i)) st → wpS (model prog w) A E s (bey left key arr[base + i]) Q st)
    (h1 : ∀ i, i < k → P i = true) (h2 : ∀ i, k ≤ i → i < n → P i = false) (h : Q (some k) st) :
    wpS (model prog w) A E s (gallop' left key arr base n hint) Q st := by
  have hb : ∀ i, i < n → ∀ Q : Option Bool → SortSt → Prop, Q (some (P i)) st → wpS (model prog w) A E s (do let x ← elem' arr (base + i); bey left key x) Q st := fun i hi Q hq =>
    wpS_bind (wpS_elem (by omega) (hP i (by omega) hi Q hq))
  refine wpS_bind (hb hint hh _ ?_)
  cases hr : P hint
  · have hkh : k ≤ hint := by
      rcases Nat.lt_or_ge hint k with q | q
      · rw [h1 _ q] at hr; cases hr
      · exact q
    dsimp only
    rw [if_neg (by simp)]
    refine wpS_bind (wpS_mono (wpS_forRange (I := fun x c st' => st' = st ∧ ∃ l o, c = (none, l, o) ∧ l < o ∧ x + 1 ≤ o ∧ l ≤ hint ∧ k ≤ hint - l)
      (Q := fun c st' => st' = st ∧ ∃ l o, c = (none, l, o) ∧ l ≤ hint ∧ k ≤ hint - l ∧ hint + 1 - min o (hint + 1) ≤ k) ?_ ?_ ⟨rfl, 0, 1, rfl, by omega, by omega, by omega, by omega⟩) ?_)
    · intro x c st' _ hx rx1
      refine hide fun P' hP' => ?_
      obtain ⟨rfl, l, o, rfl, b1, b2, b3, b4⟩ := rx1
      refine hP' ?_
      clear hP'
      dsimp only
      by_cases hge : o ≥ hint + 1
      · rw [if_pos hge]
        exact wpS_pure ⟨rfl, l, o, rfl, b3, b4, by omega⟩
      · rw [if_neg hge]
        refine wpS_bind (hb _ (by omega) _ ?_)
        cases hm : P (hint - o)
        · dsimp only
          rw [if_neg (by simp)]
          refine wpS_pure ⟨rfl, _, _, rfl, by omega, by omega, by omega, ?_⟩
          rcases Nat.lt_or_ge (hint - o) k with q | q
          · rw [h1 _ q] at hm; cases hm
          · exact q
        · dsimp only
          rw [if_pos rfl]
          refine wpS_pure ⟨rfl, _, _, rfl, b3, b4, ?_⟩
          rcases Nat.lt_or_ge (hint - o) k with q | q
          · omega
          · rw [h2 _ q (by omega)] at hm; cases hm
    · intro c st' rx2
      refine hide fun P' hP' => ?_
      obtain ⟨rfl, l, o, rfl, b1, b2, b3, b4⟩ := rx2
      refine hP' ?_
      clear hP'
      exact ⟨rfl, l, o, rfl, b3, b4, by omega⟩
    · intro c st' rx3
      refine hide fun P' hP' => ?_
      obtain ⟨rfl, l, o, rfl, b3, b4, b5⟩ := rx3
      refine hP' ?_
      clear hP'
      dsimp only
      refine wpS_bind (wpS_mono (wpS_forRange (I := fun x c st'' => st'' = st' ∧ ∃ l r, c = (none, l, r) ∧ l ≤ k ∧ k ≤ r ∧ r ≤ n ∧ r - l ≤ n - x)
        (Q := fun c st'' => st'' = st' ∧ ∃ l, c = (none, l, k)) ?_ ?_ ⟨rfl, _, _, rfl, by omega, by omega, by omega, by omega⟩) ?_)
      · intro x c st' _ hx rx4
        refine hide fun P' hP' => ?_
        obtain ⟨rfl, l, r, rfl, b1, b2, b3, b4⟩ := rx4
        refine hP' ?_
        clear hP'
        dsimp only
        by_cases hge : l ≥ r
        · rw [if_pos hge]
          exact wpS_pure ⟨rfl, l, by rw [show r = k by omega]⟩
        · rw [if_neg hge]
          refine wpS_bind (hb _ (by omega) _ ?_)
          cases hm : P (l + (r - l) / 2)
          · dsimp only
            rw [if_neg (by simp)]
            refine wpS_pure ⟨rfl, _, _, rfl, b1, ?_, by omega, by omega⟩
            rcases Nat.lt_or_ge (l + (r - l) / 2) k with q | q
            · rw [h1 _ q] at hm; cases hm
            · exact q
          · dsimp only
            rw [if_pos rfl]
            refine wpS_pure ⟨rfl, _, _, rfl, ?_, b2, b3, by omega⟩
            rcases Nat.lt_or_ge (l + (r - l) / 2) k with q | q
            · exact q
            · rw [h2 _ q (by omega)] at hm; cases hm
      · intro c st' rx5
        refine hide fun P' hP' => ?_
        obtain ⟨rfl, l, r, rfl, b1, b2, b3, b4⟩ := rx5
        refine hP' ?_
        clear hP'
        exact ⟨rfl, l, by rw [show r = k by omega]⟩
      · intro c st' rx6
        refine hide fun P' hP' => ?_
        obtain ⟨rfl, l, rfl⟩ := rx6
        refine hP' ?_
        clear hP'
        exact wpS_pure h
  · have hkh : hint < k := by
      rcases Nat.lt_or_ge hint k with q | q
      · exact q
      · rw [h2 _ q (by omega)] at hr; cases hr
    dsimp only
    rw [if_pos rfl]
    refine wpS_bind (wpS_mono (wpS_forRange (I := fun x c st' => st' = st ∧ ∃ l o, c = (none, l, o) ∧ l < o ∧ x + 1 ≤ o ∧ hint + l < k)
      (Q := fun c st' => st' = st ∧ ∃ l o, c = (none, l, o) ∧ hint + l < k ∧ k ≤ hint + min o (n - hint)) ?_ ?_ ⟨rfl, 0, 1, rfl, by omega, by omega, by omega⟩) ?_)
    · intro x c st' _ hx rx7
      refine hide fun P' hP' => ?_
      obtain ⟨rfl, l, o, rfl, b1, b2, b3⟩ := rx7
      refine hP' ?_
      clear hP'
      dsimp only
      by_cases hge : o ≥ n - hint
      · rw [if_pos hge]
        exact wpS_pure ⟨rfl, l, o, rfl, b3, by omega⟩
      · rw [if_neg hge]
        refine wpS_bind (hb _ (by omega) _ ?_)
        cases hm : P (hint + o)
        · dsimp only
          rw [if_pos (by rfl)]
          refine wpS_pure ⟨rfl, _, _, rfl, b3, ?_⟩
          rcases Nat.lt_or_ge (hint + o) k with q | q
          · rw [h1 _ q] at hm; cases hm
          · omega
        · dsimp only
          rw [if_neg (by simp)]
          refine wpS_pure ⟨rfl, _, _, rfl, by omega, by omega, ?_⟩
          rcases Nat.lt_or_ge (hint + o) k with q | q
          · exact q
          · rw [h2 _ q (by omega)] at hm; cases hm
    · intro c st' rx8
      refine hide fun P' hP' => ?_
      obtain ⟨rfl, l, o, rfl, b1, b2, b3⟩ := rx8
      refine hP' ?_
      clear hP'
      exact ⟨rfl, l, o, rfl, b3, by omega⟩
    · intro c st' rx9
      refine hide fun P' hP' => ?_
      obtain ⟨rfl, l, o, rfl, b3, b4⟩ := rx9
      refine hP' ?_
      clear hP'
      dsimp only
      refine wpS_bind (wpS_mono (wpS_forRange (I := fun x c st'' => st'' = st' ∧ ∃ l r, c = (none, l, r) ∧ l ≤ k ∧ k ≤ r ∧ r ≤ n ∧ r - l ≤ n - x)
        (Q := fun c st'' => st'' = st' ∧ ∃ l, c = (none, l, k)) ?_ ?_ ⟨rfl, _, _, rfl, by omega, by omega, by omega, by omega⟩) ?_)
      · intro x c st' _ hx rx10
        refine hide fun P' hP' => ?_
        obtain ⟨rfl, l, r, rfl, b1, b2, b3, b4⟩ := rx10
        refine hP' ?_
        clear hP'
        dsimp only
        by_cases hge : l ≥ r
        · rw [if_pos hge]
          exact wpS_pure ⟨rfl, l, by rw [show r = k by omega]⟩
        · rw [if_neg hge]
          refine wpS_bind (hb _ (by omega) _ ?_)
          cases hm : P (l + (r - l) / 2)
          · dsimp only
            rw [if_neg (by simp)]
            refine wpS_pure ⟨rfl, _, _, rfl, b1, ?_, by omega, by omega⟩
            rcases Nat.lt_or_ge (l + (r - l) / 2) k with q | q
            · rw [h1 _ q] at hm; cases hm
            · exact q
          · dsimp only
            rw [if_pos rfl]
            refine wpS_pure ⟨rfl, _, _, rfl, ?_, b2, b3, by omega⟩
            rcases Nat.lt_or_ge (l + (r - l) / 2) k with q | q
            · exact q
            · rw [h2 _ q (by omega)] at hm; cases hm
      · intro c st' rx11
        refine hide fun P' hP' => ?_
        obtain ⟨rfl, l, r, rfl, b1, b2, b3, b4⟩ := rx11
        refine hP' ?_
        clear hP'
        exact ⟨rfl, l, by rw [show r = k by omega]⟩
      · intro c st' rx12
        refine hide fun P' hP' => ?_
        obtain ⟨rfl, l, rfl⟩ := rx12
        refine hP' ?_
        clear hP'
        exact wpS_pure h
end
end Mine
end
section
open PySem PyProof.Rows
set_option Elab.async false
namespace Mine
def mergeLo' : Array Keyed → Array Keyed → StateT SortSt Sem (Array Keyed) := sortPriv% PySem.Builtin.mergeLo
def mergeHi' : Array Keyed → Array Keyed → StateT SortSt Sem (Array Keyed) := sortPriv% PySem.Builtin.mergeHi
section
variable (κ : PyProof.Rows.KeyKind)
def le (x y : Keyed) : Prop := κ.kle (kv κ x) (kv κ y)
structure MInv (all l ra rb : List Keyed) : Prop where
  perm : (l ++ (ra ++ rb)).Perm all
  sl : l.Pairwise (le κ)
  sa : ra.Pairwise (le κ)
  sb : rb.Pairwise (le κ)
  lo : ∀ x ∈ l, ∀ y, y ∈ ra ∨ y ∈ rb → le κ x y
structure MFin (all r : List Keyed) : Prop where
  perm : r.Perm all
  sl : r.Pairwise (le κ)
variable {κ}
theorem le_trans' {x y z : Keyed} (h1 : le κ x y) (h2 : le κ y z) : le κ x z := KeyOrd.kle_trans h1 h2
theorem MInv.moveA {all l c ra rb : List Keyed} (h : MInv κ all l (c ++ ra) rb) (hc : ∀ x ∈ c, ∀ y ∈ rb, le κ x y) : MInv κ all (l ++ c) ra rb := by
  refine hide fun P' hP' => ?_
  obtain ⟨p, sl, sa, sb, lo⟩ := h
  refine hP' ?_
  clear hP'
  rw [List.pairwise_append] at sa
  refine ⟨by simpa using p, ?_, sa.2.1, sb, ?_⟩
  · rw [List.pairwise_append]
    exact ⟨sl, sa.1, fun x hx y hy => lo x hx y (.inl (List.mem_append_left _ hy))⟩
  · intro x hx y hy
    rcases List.mem_append.mp hx with hx | hx
    · exact lo x hx y (hy.imp (fun q => List.mem_append_right _ q) id)
    · rcases hy with hy | hy
      · exact sa.2.2 x hx y hy
      · exact hc x hx y hy
theorem MInv.swap {all l ra rb : List Keyed} (h : MInv κ all l ra rb) : MInv κ all l rb ra :=
  ⟨(List.perm_append_comm.append_left l).trans h.perm, h.sl, h.sb, h.sa, fun x hx y hy => h.lo x hx y hy.symm⟩
theorem MInv.moveB {all l c ra rb : List Keyed} (h : MInv κ all l ra (c ++ rb)) (hc : ∀ x ∈ c, ∀ y ∈ ra, le κ x y) : MInv κ all (l ++ c) ra rb := (h.swap.moveA hc).swap
theorem MInv.fin {all l : List Keyed} (h : MInv κ all l [] []) : MFin κ all l := ⟨by simpa using h.perm, h.sl⟩
section
variable {all : List Keyed} {a b out : Array Keyed} {ia ib k : Nat}
theorem MInv.pushA (h : MInv κ all out.toList (a.toList.drop ia) (b.toList.drop ib)) (hi : ia < a.size) (hc : ∀ y ∈ b.toList.drop ib, le κ a[ia] y) : MInv κ all (out.push a[ia]).toList (a.toList.drop (ia + 1)) (b.toList.drop ib) := by
  rw [List.drop_eq_getElem_cons (by simpa using hi)] at h
  rw [Array.toList_push]
  exact MInv.moveA (c := [a[ia]]) h (by simpa using hc)
theorem MInv.pushB (h : MInv κ all out.toList (a.toList.drop ia) (b.toList.drop ib)) (hi : ib < b.size) (hc : ∀ y ∈ a.toList.drop ia, le κ b[ib] y) : MInv κ all (out.push b[ib]).toList (a.toList.drop ia) (b.toList.drop (ib + 1)) :=
  (h.swap.pushA hi hc).swap
theorem extract_toList (a : Array Keyed) (i j : Nat) : (a.extract i j).toList = (a.toList.drop i).take (j - i) := by
  rw [Array.toList_extract, List.extract_eq_take_drop]
theorem extract_all (a : Array Keyed) (i : Nat) : (a.extract i).toList = a.toList.drop i := by
  rw [extract_toList, List.take_of_length_le (by simp)]
theorem mem_drop_arr {x : Keyed} (h : x ∈ a.toList.drop ia) : ∃ i, ∃ hi : i < a.size, ia ≤ i ∧ x = a[i] := by
  refine hide fun P' hP' => ?_
  obtain ⟨j, hj, rfl⟩ := List.mem_iff_getElem.mp h
  refine hP' ?_
  clear hP'
  rw [List.length_drop] at hj
  have hs : a.toList.length = a.size := Array.length_toList
  refine ⟨ia + j, by omega, by omega, ?_⟩
  rw [List.getElem_drop]; simp
theorem mem_take_drop_arr {x : Keyed} (h : x ∈ (a.toList.drop ia).take k) : ∃ i, ∃ hi : ia + i < a.size, i < k ∧ x = a[ia + i] := by
  refine hide fun P' hP' => ?_
  obtain ⟨j, hj, rfl⟩ := List.mem_iff_getElem.mp h
  refine hP' ?_
  clear hP'
  rw [List.length_take, List.length_drop] at hj
  have hs : a.toList.length = a.size := Array.length_toList
  refine ⟨j, by omega, by omega, ?_⟩
  rw [List.getElem_take, List.getElem_drop]; simp
theorem MInv.manyA (h : MInv κ all out.toList (a.toList.drop ia) (b.toList.drop ib)) (hc : ∀ i (hi : ia + i < a.size), i < k → ∀ y ∈ b.toList.drop ib, le κ a[ia + i] y) : MInv κ all (out ++ a.extract ia (ia + k)).toList (a.toList.drop (ia + k)) (b.toList.drop ib) := by
  rw [Array.toList_append, extract_toList, show ia + k - ia = k by omega]
  refine MInv.moveA (c := (a.toList.drop ia).take k) ?_ fun x hx => ?_
  · rw [← List.drop_drop, List.take_append_drop]; exact h
  · refine hide fun P' hP' => ?_
    obtain ⟨i, hi, hk, rfl⟩ := mem_take_drop_arr hx
    refine hP' ?_
    clear hP'
    exact hc i hi hk
theorem MInv.manyB (h : MInv κ all out.toList (a.toList.drop ia) (b.toList.drop ib)) (hc : ∀ i (hi : ib + i < b.size), i < k → ∀ y ∈ a.toList.drop ia, le κ b[ib + i] y) : MInv κ all (out ++ b.extract ib (ib + k)).toList (a.toList.drop ia) (b.toList.drop (ib + k)) :=
  (h.swap.manyA hc).swap
theorem MInv.done (h : MInv κ all out.toList (a.toList.drop ia) (b.toList.drop ib)) (hb : b.size ≤ ib) : MFin κ all (out ++ a.extract ia ++ b.extract ib).toList := by
  have hs : b.toList.drop ib = [] := List.drop_eq_nil_of_le (by simpa using hb)
  rw [Array.toList_append, Array.toList_append, extract_all, extract_all, hs, List.append_nil]
  rw [hs] at h
  exact (MInv.moveA (c := a.toList.drop ia) (ra := []) (by simpa using h) (by simp)).fin
theorem MInv.last (h : MInv κ all out.toList (a.toList.drop ia) (b.toList.drop ib)) (ha : ∀ x ∈ b.toList.drop ib, ∀ y ∈ a.toList.drop ia, le κ x y) : MFin κ all (out ++ b.extract ib ++ a.extract ia).toList := by
  rw [Array.toList_append, Array.toList_append, extract_all, extract_all]
  have h1 := MInv.moveB (c := b.toList.drop ib) (rb := []) (by simpa using h) ha
  exact (MInv.moveA (c := a.toList.drop ia) (ra := []) (by simpa using h1) (by simp)).fin
end
theorem part_point (P : Nat → Bool) : ∀ n : Nat, (∀ i j, i ≤ j → j < n → P j = true → P i = true) → ∃ k, k ≤ n ∧ (∀ i, i < k → P i = true) ∧ ∀ i, k ≤ i → i < n → P i = false
  | 0, _ => ⟨0, Nat.le_refl _, fun i h => by omega, fun i h1 h2 => by omega⟩
  | n + 1, hm => by
    refine hide fun P' hP' => ?_
    obtain ⟨k, hk, h1, h2⟩ := part_point P n fun i j hij hj => hm i j hij (by omega)
    refine hP' ?_
    clear hP'
    cases hn : P n
    · refine ⟨k, by omega, h1, fun i hi hi2 => ?_⟩
      rcases Nat.lt_or_ge i n with q | q
      · exact h2 i hi q
      · rw [show i = n by omega]; exact hn
    · exact ⟨n + 1, Nat.le_refl _, fun i hi => hm i n (by omega) (by omega) hn, fun i h1 h2 => by omega⟩
end
section
variable {prog : Program} {w : World} {A : Around} {E : Value → Shared → Prop} {s : Shared} {κ : PyProof.Rows.KeyKind}
/-- a state but for the gallop's threshold -/
def SG (st st' : SortSt) : Prop := ∃ g, st' = SortSt.mk' (kindOf st) (arrOf st) (pendingOf st) g (failedOf st)
theorem SG.refl (st : SortSt) : SG st st := ⟨gallopOf st, rfl⟩
def setMin' : Nat → StateT SortSt Sem Unit := sortPriv% PySem.Builtin.setMinGallop
theorem wpS_setMin {st st₀ : SortSt} {g : Nat} {Q : Unit → SortSt → Prop} (hs : SG st₀ st) (h : ∀ st', SG st₀ st' → Q () st') : wpS (model prog w) A E s (setMin' g) Q st := by
  refine hide fun P' hP' => ?_
  obtain ⟨g₀, rfl⟩ := hs
  refine hP' ?_
  clear hP'
  exact wpS_modify (h _ ⟨g, rfl⟩)
theorem wpS_bey (hO : κ.OneLt) {left : Bool} {st : SortSt} {x y : Keyed} {Q : Option Bool → SortSt → Prop} (hk : kindOf st = oneType') (hx : HasKey κ x) (hy : HasKey κ y)
    (h : Q (some (if left then κ.blt (kv κ y) (kv κ x) else !κ.blt (kv κ x) (kv κ y))) st) : wpS (model prog w) A E s (bey left x y) Q st := by
  unfold bey
  cases left
  · rw [if_neg (by simp)] at h ⊢
    exact wpS_bind (wpS_lt hO hk hx hy (wpS_pure h))
  · rw [if_pos rfl] at h ⊢
    exact wpS_lt hO hk hy hx h
theorem sorted_at {a : Array Keyed} (h : a.toList.Pairwise (le κ)) {i j : Nat} (hij : i ≤ j) (hj : j < a.size) : le κ (a[i]'(by omega)) a[j] := by
  rcases Nat.lt_or_ge i j with q | q
  · have := List.pairwise_iff_getElem.mp h i j (by simp; omega) (by simpa using hj) q
    simpa using this
  · have : i = j := by omega
    subst this
    exact KeyOrd.kle_refl _
/-- where the key goes behind all that are not above it -/
theorem wpS_gallopR (hO : κ.OneLt) {key : Keyed} {arr : Array Keyed} {base n hint : Nat} {st : SortSt} {Q : Option Nat → SortSt → Prop} (hk : kindOf st = oneType') (hh : hint < n) (hn : base + n ≤ arr.size)
    (hs : ∀ i j (hij : i ≤ j) (hj : base + j < arr.size), j < n → le κ (arr[base + i]'(by omega)) arr[base + j]) (hkey : HasKey κ key) (hall : ∀ p ∈ arr, HasKey κ p)
    (h : ∀ k, k ≤ n → (∀ i (hi : base + i < arr.size), i < k → le κ arr[base + i] key) → (∀ i (hi : base + i < arr.size), k ≤ i → i < n → κ.klt (kv κ key) (kv κ arr[base + i])) → Q (some k) st) :
    wpS (model prog w) A E s (gallop' false key arr base n hint) Q st := by
  let P : Nat → Bool := fun i => if hi : base + i < arr.size then !κ.blt (kv κ key) (kv κ arr[base + i]) else false
  have hPd : ∀ i (hi : base + i < arr.size), P i = !κ.blt (kv κ key) (kv κ arr[base + i]) := fun i hi => by simp only [P, hi, dif_pos]
  refine hide fun P' hP' => ?_
  obtain ⟨k, k1, k2, k3⟩ := part_point P n fun i j hij hj hpj => by
    rw [hPd _ (by omega)] at hpj ⊢
    have h1 : le κ arr[base + j] key := by simpa [le, KeyOrd.kle] using hpj
    have h2 := le_trans' (hs i j hij (by omega) hj) h1
    simpa [le, KeyOrd.kle] using h2
  refine hP' ?_
  clear hP'
  refine wpS_gallop P k k1 hh hn (fun i hi hin Q hQ => wpS_bey hO hk hkey (hall _ (Array.getElem_mem hi)) ?_) k2 k3 (h k k1 (fun i hi hik => ?_) fun i hi h1 h2 => ?_)
  · rw [hPd i hi] at hQ; simpa using hQ
  · have := k2 i hik
    rw [hPd i hi] at this
    simpa [le, KeyOrd.kle] using this
  · have := k3 i h1 h2
    rw [hPd i hi] at this
    simpa [KeyOrd.klt] using this
/-- where the key goes ahead of all that are not below it -/
theorem wpS_gallopL (hO : κ.OneLt) {key : Keyed} {arr : Array Keyed} {base n hint : Nat} {st : SortSt} {Q : Option Nat → SortSt → Prop} (hk : kindOf st = oneType') (hh : hint < n) (hn : base + n ≤ arr.size)
    (hs : ∀ i j (hij : i ≤ j) (hj : base + j < arr.size), j < n → le κ (arr[base + i]'(by omega)) arr[base + j]) (hkey : HasKey κ key) (hall : ∀ p ∈ arr, HasKey κ p)
    (h : ∀ k, k ≤ n → (∀ i (hi : base + i < arr.size), i < k → κ.klt (kv κ arr[base + i]) (kv κ key)) → (∀ i (hi : base + i < arr.size), k ≤ i → i < n → le κ key arr[base + i]) → Q (some k) st) :
    wpS (model prog w) A E s (gallop' true key arr base n hint) Q st := by
  let P : Nat → Bool := fun i => if hi : base + i < arr.size then κ.blt (kv κ arr[base + i]) (kv κ key) else false
  have hPd : ∀ i (hi : base + i < arr.size), P i = κ.blt (kv κ arr[base + i]) (kv κ key) := fun i hi => by simp only [P, hi, dif_pos]
  refine hide fun P' hP' => ?_
  obtain ⟨k, k1, k2, k3⟩ := part_point P n fun i j hij hj hpj => by
    rw [hPd _ (by omega)] at hpj ⊢
    exact KeyOrd.klt_of_kle_of_klt (hs i j hij (by omega) hj) hpj
  refine hP' ?_
  clear hP'
  refine wpS_gallop P k k1 hh hn (fun i hi hin Q hQ => wpS_bey hO hk hkey (hall _ (Array.getElem_mem hi)) ?_) k2 k3 (h k k1 (fun i hi hik => ?_) fun i hi h1 h2 => ?_)
  · rw [hPd i hi] at hQ; simpa using hQ
  · have := k2 i hik
    rw [hPd i hi] at this
    exact this
  · have := k3 i h1 h2
    rw [hPd i hi] at this
    exact this
end
end Mine
end
section
open PySem PyProof.Rows
set_option Elab.async false
namespace Mine
local macro_rules | `(tactic| omega) => `(tactic| lia)
section
variable {prog : Program} {w : World} {A : Around} {E : Value → Shared → Prop} {s : Shared} {κ : PyProof.Rows.KeyKind}
theorem SG.kind {st st' : SortSt} (h : SG st st') (hk : kindOf st = oneType') : kindOf st' = oneType' := by obtain ⟨g, rfl⟩ := h; exact hk
/-- between two steps of mergeLo -/
structure LInv (κ : PyProof.Rows.KeyKind) (a b out : Array Keyed) (ia ib : Nat) : Prop where
  ha : ia + 1 < a.size
  hb : ib < b.size
  inv : MInv κ (a.toList ++ b.toList) out.toList (a.toList.drop ia) (b.toList.drop ib)
/-- the state of the loop that counts, and of the loop that gallops -/
def LoI (κ : PyProof.Rows.KeyKind) (a b : Array Keyed) (n : Nat) (c : Option (Array Keyed) × Array Keyed × Nat × Nat × Nat × Nat) : Prop := ∃ out ia ib ac bc, c = (none, out, ia, ib, ac, bc) ∧ LInv κ a b out ia ib ∧ n ≤ ia + ib
def LoQ (κ : PyProof.Rows.KeyKind) (a b : Array Keyed) (n : Nat) (c : Option (Array Keyed) × Array Keyed × Nat × Nat × Nat × Nat) : Prop := ∃ o out ia ib ac bc, c = (o, out, ia, ib, ac, bc) ∧ match (motive := Option (Array Keyed) → Prop) o with
  | none => LInv κ a b out ia ib ∧ n ≤ ia + ib
  | some r => MFin κ (a.toList ++ b.toList) r.toList
def GaI (κ : PyProof.Rows.KeyKind) (a b : Array Keyed) (n : Nat) (c : Option (Array Keyed) × Array Keyed × Nat × Nat × Nat × Nat × Nat) : Prop := ∃ out ia ib mg ac bc, c = (none, out, ia, ib, mg, ac, bc) ∧ LInv κ a b out ia ib ∧ n ≤ ia + ib
def GaQ (κ : PyProof.Rows.KeyKind) (a b : Array Keyed) (n : Nat) (c : Option (Array Keyed) × Array Keyed × Nat × Nat × Nat × Nat × Nat) : Prop := ∃ o out ia ib mg ac bc, c = (o, out, ia, ib, mg, ac, bc) ∧ match (motive := Option (Array Keyed) → Prop) o with
  | none => LInv κ a b out ia ib ∧ n ≤ ia + ib
  | some r => MFin κ (a.toList ++ b.toList) r.toList
section
variable {prog : Program} {w : World} {A : Around} {E : Value → Shared → Prop} {s : Shared} {α β γ : Type} {Q : α → SortSt → Prop} {st : SortSt} {δ : Type} {T0 : StateT SortSt Sem δ} {Q0 : δ → SortSt → Prop} {st0 : SortSt}
theorem cutS0 {T : StateT SortSt Sem α} (h1 : wpS (model prog w) A E s T Q st → wpS (model prog w) A E s T0 Q0 st0) (h2 : wpS (model prog w) A E s T Q st) : wpS (model prog w) A E s T0 Q0 st0 := h1 h2
theorem cutS1 {T : β → StateT SortSt Sem α} (h1 : (∀ m, wpS (model prog w) A E s (T m) Q st) → wpS (model prog w) A E s T0 Q0 st0) (h2 : ∀ m, wpS (model prog w) A E s (T m) Q st) : wpS (model prog w) A E s T0 Q0 st0 := h1 h2
theorem cutS2 {T : β → γ → StateT SortSt Sem α} (F : β → γ → Prop) (h1 : (∀ o i, F o i → wpS (model prog w) A E s (T o i) Q st) → wpS (model prog w) A E s T0 Q0 st0) (h2 : ∀ o i, F o i → wpS (model prog w) A E s (T o i) Q st) : wpS (model prog w) A E s T0 Q0 st0 := h1 h2
end
section
variable {a b out r : Array Keyed} {n ia ib mg ac bc : Nat}
theorem LoI.mk (hI : LInv κ a b out ia ib) (h : n ≤ ia + ib) : LoI κ a b n (none, out, ia, ib, ac, bc) := ⟨_, _, _, _, _, rfl, hI, h⟩
theorem LoQ.go (hI : LInv κ a b out ia ib) (h : n ≤ ia + ib) : LoQ κ a b n (none, out, ia, ib, ac, bc) := ⟨_, _, _, _, _, _, rfl, hI, h⟩
theorem LoQ.fin (h : MFin κ (a.toList ++ b.toList) r.toList) : LoQ κ a b n (some r, out, ia, ib, ac, bc) := ⟨_, _, _, _, _, _, rfl, h⟩
theorem GaI.mk (hI : LInv κ a b out ia ib) (h : n ≤ ia + ib) : GaI κ a b n (none, out, ia, ib, mg, ac, bc) := ⟨_, _, _, _, _, _, rfl, hI, h⟩
theorem GaQ.go (hI : LInv κ a b out ia ib) (h : n ≤ ia + ib) : GaQ κ a b n (none, out, ia, ib, mg, ac, bc) := ⟨_, _, _, _, _, _, _, rfl, hI, h⟩
theorem GaQ.fin (h : MFin κ (a.toList ++ b.toList) r.toList) : GaQ κ a b n (some r, out, ia, ib, mg, ac, bc) := ⟨_, _, _, _, _, _, _, rfl, h⟩
end
theorem wpS_mergeLo (hO : κ.OneLt) {a b : Array Keyed} {st : SortSt} {Q : Array Keyed → SortSt → Prop} (ha : 0 < a.size) (hb : 0 < b.size) (hk : kindOf st = oneType') (Ka : ∀ p ∈ a, HasKey κ p) (Kb : ∀ p ∈ b, HasKey κ p)
    (sa : a.toList.Pairwise (le κ)) (sb : b.toList.Pairwise (le κ)) (hfirst : ∀ y ∈ a.toList, le κ b[0] y) (hlast : ∀ y ∈ b.toList, κ.klt (kv κ y) (kv κ a[a.size - 1]))
    (h : ∀ r st', SG st st' → MFin κ (a.toList ++ b.toList) r.toList → Q r st') :
    wpS (model prog w) A E s (mergeLo' a b) Q st := by
  have memA : ∀ i (hi : i < a.size), HasKey κ a[i] := fun i hi => Ka _ (Array.getElem_mem hi)
  have memB : ∀ i (hi : i < b.size), HasKey κ b[i] := fun i hi => Kb _ (Array.getElem_mem hi)
  have geA : ∀ {i j : Nat} (hj : i < a.size), i ≤ j → ∀ {y}, y ∈ a.toList.drop j → le κ a[i] y := fun {i j} hj hij {y} hy => by
    refine hide fun P' hP' => ?_
    obtain ⟨l, hl, hjl, rfl⟩ := mem_drop_arr hy
    refine hP' ?_
    clear hP'
    exact sorted_at sa (by omega) hl
  have geB : ∀ {i j : Nat} (hj : i < b.size), i ≤ j → ∀ {y}, y ∈ b.toList.drop j → le κ b[i] y := fun {i j} hj hij {y} hy => by
    refine hide fun P' hP' => ?_
    obtain ⟨l, hl, hjl, rfl⟩ := mem_drop_arr hy
    refine hP' ?_
    clear hP'
    exact sorted_at sb (by omega) hl
  have lastA : ∀ {ia : Nat}, ia + 1 = a.size → ∀ {ib : Nat}, ∀ x ∈ b.toList.drop ib, ∀ y ∈ a.toList.drop ia, le κ x y := fun {ia} hia {ib} x hx y hy => by
    refine hide fun P' hP' => ?_
    obtain ⟨l, hl, hjl, rfl⟩ := mem_drop_arr hy
    refine hP' ?_
    clear hP'
    have hl' : l = a.size - 1 := by omega
    subst hl'
    exact KeyOrd.kle_of_klt (hlast x (List.mem_of_mem_drop hx))
  have inv0 : MInv κ (a.toList ++ b.toList) (#[b[0]] : Array Keyed).toList (a.toList.drop 0) (b.toList.drop 1) := by
    have := MInv.pushB (κ := κ) (all := a.toList ++ b.toList) (a := a) (b := b) (out := #[]) (ia := 0) (ib := 0) ⟨by simp, by simp, by simpa using sa, by simpa using sb, by simp⟩ hb (by simpa using hfirst)
    simpa using this
  refine wpS_bind (wpS_lift (wpAny_rule ⟨rfl, ?_⟩))
  refine wpS_bind (wpS_elem hb ?_)
  by_cases h1 : 1 = b.size
  · rw [if_pos (by simpa using h1)]
    exact wpS_pure (h _ _ (SG.refl st) (inv0.done (by omega)))
  rw [if_neg (by simpa using h1)]
  by_cases h2 : 0 + 1 = a.size
  · rw [if_pos (by simpa using h2)]
    exact wpS_pure (h _ _ (SG.refl st) (inv0.last (lastA h2)))
  rw [if_neg (by simpa using h2)]
  refine wpS_bind (wpS_get ?_)
  dsimp only
  refine wpS_bind ?_
  refine wpS_mono (wpS_forRange (I := fun x c st' => SG st st' ∧ ∃ out ia ib mg, c = (none, out, ia, ib, mg) ∧ LInv κ a b out ia ib ∧ x + 1 ≤ ia + ib)
    (Q := fun c st' => SG st st' ∧ ∃ r out ia ib mg, c = (some r, out, ia, ib, mg) ∧ MFin κ (a.toList ++ b.toList) r.toList) ?_ ?_ ⟨SG.refl st, _, _, _, _, rfl, ⟨by omega, by omega, inv0⟩, by omega⟩) ?_
  · intro x c st' _ hx rx1
    refine hide fun P' hP' => ?_
    obtain ⟨hst, out, ia, ib, mg, rfl, hI, hp⟩ := rx1
    refine hP' ?_
    clear hP'
    dsimp only
    refine wpS_bind ?_
    refine wpS_mono (wpS_forRange (I := fun x' c st' => SG st st' ∧ LoI κ a b (x + 1 + x') c)
      (Q := fun c st' => SG st st' ∧ LoQ κ a b (x + 2) c) ?_ ?_ ⟨hst, .mk hI (by omega)⟩) ?_
    · intro x' c st' _ hx' rx2
      refine hide fun P' hP' => ?_
      obtain ⟨hst, out, ia, ib, ac, bc, rfl, hI, hp⟩ := rx2
      refine hP' ?_
      clear hP'
      dsimp only
      have hia : ia < a.size := by have := hI.ha; omega
      have hib : ib < b.size := hI.hb
      refine wpS_bind (wpS_elem hI.hb (wpS_bind (wpS_elem hia (wpS_bind (wpS_lt hO (hst.kind hk) (memB _ hI.hb) (memA _ hia) ?_)))))
      dsimp only
      cases hw : κ.blt (kv κ b[ib]) (kv κ a[ia])
      · rw [if_neg (by simp)]
        refine wpS_bind (wpS_elem hia ?_)
        have hle : le κ a[ia] b[ib] := hw
        have hI' := hI.inv.pushA hia fun y hy => le_trans' hle (geB hI.hb (Nat.le_refl _) hy)
        by_cases h3 : ia + 1 + 1 = a.size
        · rw [if_pos (by simpa using h3)]
          exact wpS_pure ⟨hst, .fin (hI'.last (lastA h3))⟩
        · rw [if_neg (by simpa using h3)]
          have hJ : LInv κ a b (out.push a[ia]) (ia + 1) ib := ⟨by have := hI.ha; omega, hI.hb, hI'⟩
          split
          · exact wpS_pure ⟨hst, .go hJ (by omega)⟩
          · exact wpS_pure ⟨hst, .mk hJ (by omega)⟩
      · rw [if_pos rfl]
        refine wpS_bind (wpS_elem hI.hb ?_)
        have hle : le κ b[ib] a[ia] := KeyOrd.kle_of_klt hw
        have hI' := hI.inv.pushB hI.hb fun y hy => le_trans' hle (geA hia (Nat.le_refl _) hy)
        by_cases h3 : ib + 1 = b.size
        · rw [if_pos (by simpa using h3)]
          exact wpS_pure ⟨hst, .fin (hI'.done (by omega))⟩
        · rw [if_neg (by simpa using h3)]
          have hJ : LInv κ a b (out.push b[ib]) ia (ib + 1) := ⟨hI.ha, by have := hI.hb; omega, hI'⟩
          split
          · exact wpS_pure ⟨hst, .go hJ (by omega)⟩
          · exact wpS_pure ⟨hst, .mk hJ (by omega)⟩
    · intro c st' rx3
      refine hide fun P' hP' => ?_
      obtain ⟨hst, out, ia, ib, ac, bc, rfl, hI, hp⟩ := rx3
      refine hP' ?_
      clear hP'
      exact ⟨hst, .go hI (by omega)⟩
    · intro c st' rx4
      refine hide fun P' hP' => ?_
      obtain ⟨hst, o, out, ia, ib, ac, bc, rfl, ho⟩ := rx4
      refine hP' ?_
      clear hP'
      dsimp only
      cases o with
      | some r => exact wpS_pure ⟨hst, _, _, _, _, _, rfl, ho⟩
      | none =>
        obtain ⟨hI, hp⟩ := ho
        dsimp only
        refine wpS_bind (wpS_lift (wpAny_rule ⟨rfl, ?_⟩))
        refine wpS_bind ?_
        refine wpS_mono (wpS_forRange (I := fun x' c st' => SG st st' ∧ GaI κ a b (x + 2) c)
          (Q := fun c st' => SG st st' ∧ GaQ κ a b (x + 2) c) ?_ ?_ ⟨hst, .mk hI (by omega)⟩) ?_
        · clear hI hp hst
          intro x' c st' _ hx' rx5
          refine hide fun P' hP' => ?_
          obtain ⟨hst, out, ia, ib, mg, ac, bc, rfl, hI, hp⟩ := rx5
          refine hP' ?_
          clear hP'
          dsimp only
          have hia : ia < a.size := by have := hI.ha; omega
          have hib : ib < b.size := hI.hb
          apply cutS1 (st := st')
          case h1 =>
            intro H
            by_cases hmg : ¬ mg > 1
            · rw [if_neg hmg]
              clear hmg
              generalize mg = m1
              exact H m1
            · rw [if_pos (Classical.not_not.mp hmg)]
              exact H (mg - 1)
          case h2 =>
            intro mg
            refine wpS_bind (wpS_setMin hst fun st₁ hst₁ => ?_)
            refine wpS_bind (wpS_elem hI.hb ?_)
            refine wpS_bind (wpS_gallopR hO (hst₁.kind hk) (by omega) (by omega) (fun i j hij hj hjn => sorted_at sa (by omega) hj) (memB _ hI.hb) Ka fun k k1 k2 k3 => ?_)
            dsimp only
            have hka : ia + k < a.size := by
              rcases Nat.lt_or_ge (ia + k) a.size with q | q
              · exact q
              · exfalso
                have q1 := k2 (a.size - 1 - ia) (by omega) (by omega)
                have q2 := hlast b[ib] (by simp)
                simp only [show ia + (a.size - 1 - ia) = a.size - 1 by omega] at q1
                exact KeyOrd.not_klt_of_kle q1 q2
            have bLow : ∀ y ∈ a.toList.drop (ia + k), le κ b[ib] y := fun y hy => by
              refine hide fun P' hP' => ?_
              obtain ⟨l, hl, hjl, rfl⟩ := mem_drop_arr hy
              refine hP' ?_
              clear hP'
              have := k3 (l - ia) (by omega) (by omega) (by omega)
              simp only [show ia + (l - ia) = l by omega] at this
              exact KeyOrd.kle_of_klt this
            have hI1 := MInv.manyA (k := k) hI.inv fun i hi hik y hy => le_trans' (k2 i hi hik) (geB hI.hb (Nat.le_refl _) hy)
            apply cutS2 (st := st₁) (F := (fun (o1 : Array Keyed) (i1 : Nat) => MInv κ (a.toList ++ b.toList) o1.toList (a.toList.drop i1) (b.toList.drop ib) ∧ (∀ y ∈ a.toList.drop i1, le κ b[ib] y) ∧ i1 + 1 < a.size ∧ x + 2 ≤ i1 + ib))
            case h1 =>
              intro H
              rcases Nat.eq_zero_or_pos k with hk0 | hk0
              · rw [if_neg (by omega)]
                have bL : ∀ y ∈ a.toList.drop ia, le κ b[ib] y := by simpa only [hk0, Nat.add_zero] using bLow
                have J := hI.inv
                have hi1 : ia + 1 < a.size := hI.ha
                have hp1 : x + 2 ≤ ia + ib := hp
                generalize out = o1 at J ⊢
                generalize ia = i1 at J bL hi1 hp1 ⊢
                exact H o1 i1 ⟨J, bL, hi1, hp1⟩
              · rw [if_pos hk0]
                by_cases h4 : ia + k + 1 = a.size
                · rw [if_pos (by simpa using h4)]
                  exact wpS_pure ⟨hst₁, .fin (hI1.last (lastA h4))⟩
                rw [if_neg (by simpa using h4), if_neg (by simp; omega)]
                exact H _ _ ⟨hI1, bLow, by omega, by omega⟩
            case h2 =>
              clear bLow hI1 k2 k3 k1 hka hia
              clear hI hp
              intro o1 i1 hF
              have J := hF.1
              have bL := hF.2.1
              have hi1 := hF.2.2.1
              have hp1 := hF.2.2.2
              have hi1' : i1 < a.size := by omega
              refine wpS_bind (wpS_elem hib ?_)
              have J2 := J.pushB hib bL
              by_cases h3 : ib + 1 = b.size
              · rw [if_pos (by simpa using h3)]
                exact wpS_pure ⟨hst₁, .fin (J2.done (by omega))⟩
              rw [if_neg (by simpa using h3)]
              refine wpS_bind (wpS_elem hi1' ?_)
              refine wpS_bind (wpS_gallopL hO (hst₁.kind hk) (by omega) (by omega) (fun i j hij hj hjn => sorted_at sb (by omega) hj) (memA _ hi1') Kb fun k' l1 l2 l3 => ?_)
              dsimp only
              have J3 := MInv.manyB (k := k') J2 fun i hi hik y hy => le_trans' (KeyOrd.kle_of_klt (l2 i hi hik)) (geA hi1' (Nat.le_refl _) hy)
              have aLow : ∀ y ∈ b.toList.drop (ib + 1 + k'), le κ a[i1] y := fun y hy => by
                refine hide fun P' hP' => ?_
                obtain ⟨l, hl, hjl, rfl⟩ := mem_drop_arr hy
                refine hP' ?_
                clear hP'
                have := l3 (l - (ib + 1)) (by omega) (by omega) (by omega)
                simp only [show ib + 1 + (l - (ib + 1)) = l by omega] at this
                exact this
              apply cutS2 (st := st₁) (F := (fun (o2 : Array Keyed) (b1 : Nat) => MInv κ (a.toList ++ b.toList) o2.toList (a.toList.drop i1) (b.toList.drop b1) ∧ (∀ y ∈ b.toList.drop b1, le κ a[i1] y) ∧ b1 < b.size ∧ x + 2 ≤ i1 + b1))
              case h1 =>
                rcases Nat.eq_zero_or_pos k' with hk0' | hk0'
                · rw [if_neg (by omega)]
                  have aL : ∀ y ∈ b.toList.drop (ib + 1), le κ a[i1] y := by simpa only [hk0', Nat.add_zero] using aLow
                  have hb1 : ib + 1 < b.size := by omega
                  have hp2 : x + 2 ≤ i1 + (ib + 1) := by omega
                  have J4 := J2
                  intro H
                  generalize o1.push b[ib] = o2 at J4 ⊢
                  generalize ib + 1 = b1 at J4 aL hb1 hp2 ⊢
                  exact H o2 b1 ⟨J4, aL, hb1, hp2⟩
                · rw [if_pos hk0']
                  intro H
                  by_cases h4 : ib + 1 + k' = b.size
                  · rw [if_pos (by simpa using h4)]
                    exact wpS_pure ⟨hst₁, .fin (J3.done (by omega))⟩
                  rw [if_neg (by simpa using h4)]
                  exact H _ _ ⟨J3, aLow, by omega, by omega⟩
              case h2 =>
                intro o2 b1 hF
                have J4 := hF.1
                have aL := hF.2.1
                have hb1 := hF.2.2.1
                have hp2 := hF.2.2.2
                refine wpS_bind (wpS_elem hi1' ?_)
                have J5 := J4.pushA hi1' aL
                by_cases h5 : i1 + 1 + 1 = a.size
                · rw [if_pos (by simpa using h5)]
                  exact wpS_pure ⟨hst₁, .fin (J5.last (lastA h5))⟩
                rw [if_neg (by simpa using h5)]
                have hL : LInv κ a b (o2.push a[i1]) (i1 + 1) b1 := ⟨by omega, hb1, J5⟩
                split
                · exact wpS_pure ⟨hst₁, .go hL (by omega)⟩
                · exact wpS_pure ⟨hst₁, .mk hL (by omega)⟩
        · intro c st' rx6
          refine hide fun P' hP' => ?_
          obtain ⟨hst, out, ia, ib, mg, ac, bc, rfl, hI, hp⟩ := rx6
          refine hP' ?_
          clear hP'
          exact ⟨hst, .go hI hp⟩
        · intro c st' rx7
          refine hide fun P' hP' => ?_
          obtain ⟨hst, o, out, ia, ib, mg, ac, bc, rfl, ho⟩ := rx7
          refine hP' ?_
          clear hP'
          dsimp only
          cases o with
          | some r => exact wpS_pure ⟨hst, _, _, _, _, _, rfl, ho⟩
          | none => exact wpS_bind (wpS_setMin hst fun st₁ hst₁ => wpS_pure ⟨hst₁, _, _, _, _, rfl, ho.1, by omega⟩)
  · intro c st' rx8
    refine hide fun P' hP' => ?_
    obtain ⟨hst, out, ia, ib, mg, rfl, hI, hp⟩ := rx8
    refine hP' ?_
    clear hP'
    exfalso
    have := hI.ha; have := hI.hb
    omega
  · intro c st' rx9
    refine hide fun P' hP' => ?_
    obtain ⟨hst, r, out, ia, ib, mg, rfl, hr⟩ := rx9
    refine hP' ?_
    clear hP'
    exact wpS_pure (h _ _ hst hr)
end
end Mine
end
section
open PySem PyProof.Rows
set_option Elab.async false
namespace Mine
local macro_rules | `(tactic| omega) => `(tactic| lia)
section
variable {κ : PyProof.Rows.KeyKind} {all : List Keyed} {a b out : Array Keyed} {na nb k : Nat}
theorem ext0 (a : Array Keyed) (n : Nat) : (a.extract 0 n).toList = a.toList.take n := by rw [extract_toList]; simp
theorem mem_take_arr {x : Keyed} (h : x ∈ a.toList.take na) : ∃ i, ∃ hi : i < a.size, i < na ∧ x = a[i] := by
  refine hide fun P' hP' => ?_
  obtain ⟨j, hj, rfl⟩ := List.mem_iff_getElem.mp h
  refine hP' ?_
  clear hP'
  rw [List.length_take] at hj
  have hs : a.toList.length = a.size := Array.length_toList
  refine ⟨j, by omega, by omega, ?_⟩
  rw [List.getElem_take]; simp
end
end Mine
end
section
open PySem PyProof.Rows
set_option Elab.async false
namespace Mine
local macro_rules | `(tactic| omega) => `(tactic| lia)
section
variable {prog : Program} {w : World} {A : Around} {E : Value → Shared → Prop} {s : Shared} {a₀ : Array Keyed} {κ : PyProof.Rows.KeyKind}
/-- the insertion of one more item into a sorted front leaves what lies behind -/
theorem wpS_insert {st : SortSt} {n ok : Nat} {Q : Bool → SortSt → Prop} (hO : κ.OneLt) (h0 : KeysOf κ a₀) (hn : n ≤ a₀.size) (hok : ok ≤ n) (h1 : 1 ≤ ok) (hB : SBase a₀ st) (hs : SortedToK κ (arrOf st) ok)
    (h : ∀ st', SBase a₀ st' → SortedToK κ (arrOf st') n → (∀ i, n ≤ i → (arrOf st')[i]? = (arrOf st)[i]?) → Q true st') : wpS (model prog w) A E s (binarySort' 0 n ok) Q st := by
  rw [binarySort'_eq]
  simp only [Nat.zero_add, show max ok 1 = ok by omega]
  have inner : ∀ (k : Nat) (st₁ : SortSt), ok ≤ k → k < n → SBase a₀ st₁ → SortedToK κ (arrOf st₁) k → (∀ i, n ≤ i → (arrOf st₁)[i]? = (arrOf st)[i]?) → ∀ l, l ≤ k →
      (∀ i, i < l → κ.kle (KK κ (arrOf st₁) i) (KK κ (arrOf st₁) k)) → (∀ i, l ≤ i → i < k → κ.klt (KK κ (arrOf st₁) k) (KK κ (arrOf st₁) i)) →
      SBase a₀ (setArr st₁ (bubble (arrOf st₁) k (k - l))) ∧ SortedToK κ (bubble (arrOf st₁) k (k - l)) (k + 1) ∧ (∀ i, n ≤ i → (bubble (arrOf st₁) k (k - l))[i]? = (arrOf st)[i]?) := by
    intro k st₁ hk1 hk2 hB₁ hs₁ hb l hl lo hi
    have hks : k < (arrOf st₁).size := by rw [hB₁.size]; omega
    refine ⟨hB₁.setArr (bubble_perm _ _ _), fun i j hij hj => ?_, fun i hi' => ?_⟩
    · rw [KK_bubble hks (by omega), KK_bubble hks (by omega), show k - (k - l) = l by omega]
      rcases Nat.lt_trichotomy i l with c1 | c1 | c1
      · rw [if_neg (by omega), if_neg (by omega)]
        rcases Nat.lt_trichotomy j l with c2 | c2 | c2
        · rw [if_neg (by omega), if_neg (by omega)]; exact hs₁ _ _ hij (by omega)
        · rw [if_pos c2]; exact lo _ c1
        · rw [if_neg (by omega), if_pos (by omega)]; exact hs₁ _ _ (by omega) (by omega)
      · rw [if_pos c1]
        by_cases c2 : j = l
        · rw [if_pos c2]; exact KeyOrd.kle_refl _
        · rw [if_neg c2, if_pos (by omega)]; exact KeyOrd.kle_of_klt (hi _ (by omega) (by omega))
      · rw [if_neg (by omega), if_pos (by omega), if_neg (by omega), if_pos (by omega)]
        exact hs₁ _ _ (by omega) (by omega)
    · rw [getElem?_bubble hks _ (by omega), if_neg (by omega), if_neg (by omega)]
      exact hb i hi'
  refine wpS_bind (wpS_mono (wpS_forRange (I := fun k c st' => c = (none, ()) ∧ SBase a₀ st' ∧ SortedToK κ (arrOf st') k ∧ ∀ i, n ≤ i → (arrOf st')[i]? = (arrOf st)[i]?)
    (Q := fun c st' => c = (none, ()) ∧ SBase a₀ st' ∧ SortedToK κ (arrOf st') n ∧ ∀ i, n ≤ i → (arrOf st')[i]? = (arrOf st)[i]?) ?_ ?_ ⟨rfl, hB, hs, fun _ _ => rfl⟩) ?_)
  · intro k c st₁ hk1 hk2 rx1
    refine hide fun P' hP' => ?_
    obtain ⟨rfl, hB₁, hs₁, hb⟩ := rx1
    refine hP' ?_
    clear hP'
    have hk : k < a₀.size := by omega
    refine wpS_bind (wpS_mono (wpS_forRange (I := fun x c st₂ => st₂ = st₁ ∧ ∃ l r, c = (none, l, r) ∧ l ≤ r ∧ r ≤ k ∧ r - l ≤ k - x ∧
        (∀ i, i < l → κ.kle (KK κ (arrOf st₁) i) (KK κ (arrOf st₁) k)) ∧ (∀ i, r ≤ i → i < k → κ.klt (KK κ (arrOf st₁) k) (KK κ (arrOf st₁) i)))
      (Q := fun c st₂ => st₂ = st₁ ∧ ∃ l r, c = (none, l, r) ∧ l ≤ k ∧
        (∀ i, i < l → κ.kle (KK κ (arrOf st₁) i) (KK κ (arrOf st₁) k)) ∧ (∀ i, l ≤ i → i < k → κ.klt (KK κ (arrOf st₁) k) (KK κ (arrOf st₁) i)))
      ?_ ?_ ⟨rfl, 0, k, rfl, by omega, by omega, by omega, fun i hi => by omega, fun i h1 h2 => by omega⟩) ?_)
    · intro x c st₂ _ hx rx2
      refine hide fun P' hP' => ?_
      obtain ⟨rfl, l, r, rfl, q1, q2, q3, q4, q5⟩ := rx2
      refine hP' ?_
      clear hP'
      dsimp only
      by_cases hge : l ≥ r
      · rw [if_pos hge]
        exact wpS_pure ⟨rfl, l, r, rfl, by omega, q4, fun i a b => q5 i (by omega) b⟩
      · rw [if_neg hge]
        refine wpS_bind (wpS_ltKK hO hB₁ h0 hk (by omega) ?_)
        cases hm : κ.blt (KK κ (arrOf st₂) k) (KK κ (arrOf st₂) ((l + r) / 2))
        · simp only [Bool.false_eq_true, if_false]
          exact wpS_pure ⟨rfl, _, _, rfl, by omega, by omega, by omega, fun i a => KeyOrd.kle_trans (hs₁ i ((l + r) / 2) (by omega) (by omega)) (show κ.kle _ _ from hm), q5⟩
        · simp only [if_true]
          exact wpS_pure ⟨rfl, _, _, rfl, by omega, by omega, by omega, q4, fun i a b => KeyOrd.klt_of_klt_of_kle hm (hs₁ _ _ a b)⟩
    · intro c st₂ rx3
      refine hide fun P' hP' => ?_
      obtain ⟨rfl, l, r, rfl, q1, q2, q3, q4, q5⟩ := rx3
      refine hP' ?_
      clear hP'
      exact ⟨rfl, l, r, rfl, by omega, q4, fun i a b => q5 i (by omega) b⟩
    · intro c st₂ rx4
      refine hide fun P' hP' => ?_
      obtain ⟨rfl, l, r, rfl, q1, q2, q3⟩ := rx4
      refine hP' ?_
      clear hP'
      show wpS _ _ _ _ (do moveDown' k l; pure (ForInStep.yield (none, ()))) _ _
      rw [moveDown'_eq]
      refine hide fun P' hP' => ?_
      obtain ⟨r1, r2, r3⟩ := inner k st₂ hk1 hk2 hB₁ hs₁ hb l q1 q2 q3
      refine hP' ?_
      clear hP'
      exact wpS_bind (wpS_modify (wpS_pure ⟨rfl, r1, r2, r3⟩))
  · intro c st₁ rx5
    refine hide fun P' hP' => ?_
    obtain ⟨rfl, hB₁, hs₁, hb⟩ := rx5
    refine hP' ?_
    clear hP'
    rw [show max ok n = n by omega] at hs₁
    exact ⟨rfl, hB₁, hs₁, hb⟩
  · intro c st₁ rx6
    refine hide fun P' hP' => ?_
    obtain ⟨rfl, hB₁, hs₁, hb⟩ := rx6
    refine hP' ?_
    clear hP'
    exact wpS_pure (h st₁ hB₁ hs₁ hb)
/-- the first run, where the first two items rise: nothing is moved -/
theorem wpS_runFirst {st : SortSt} {Q : Option Nat → SortSt → Prop} (hO : κ.OneLt) (h0 : KeysOf κ a₀) (h2 : 2 ≤ a₀.size) (hB : SBase a₀ st) (hr : κ.klt (KK κ (arrOf st) 0) (KK κ (arrOf st) 1))
    (h : ∀ n, 2 ≤ n → n ≤ a₀.size → SortedToK κ (arrOf st) n → Q (some n) st) : wpS (model prog w) A E s (countRun' 0 a₀.size) Q st := by
  rw [countRun0_eq]
  refine wpS_bind (wpS_ascLoopK hO h0 (Nat.le_refl _) (Nat.le_refl 1) (by omega) hB (fun i j hij hj => by have : i = j := (by omega); subst this; exact KeyOrd.kle_refl _) fun n hn1 hn2 hsn hor => ?_)
  dsimp only
  have hn : 2 ≤ n := by
    rcases Nat.lt_or_ge n 2 with q | q
    · exfalso
      have : n = 1 := by omega
      subst this
      rcases hor with z | z
      · omega
      · exact KeyOrd.not_klt_of_kle (KeyOrd.kle_of_klt hr) z
    · exact q
  by_cases hnn : n = a₀.size
  · rw [if_pos (by simpa using hnn)]
    exact wpS_pure (h n hn hn2 hsn)
  · rw [if_neg (by simpa using hnn), if_pos (by omega)]
    refine wpS_bind (wpS_ltKK hO hB h0 (by omega) (by omega) ?_)
    have hlt : κ.blt (KK κ (arrOf st) 0) (KK κ (arrOf st) (n - 1)) = true := KeyOrd.klt_of_klt_of_kle hr (hsn 1 (n - 1) (by omega) (by omega))
    rw [hlt]
    simp only [if_true]
    exact wpS_pure (h n hn hn2 hsn)
/-- a run that rises to the end -/
theorem wpS_ltP {st : SortSt} {i j : Nat} {Q : Option Bool → SortSt → Prop} (hO : κ.OneLt) (hp : (arrOf st).Perm a₀) (hk : kindOf st = oneType') (h0 : KeysOf κ a₀) (hi : i < a₀.size) (hj : j < a₀.size)
    (h : Q (some (κ.blt (KK κ (arrOf st) i) (KK κ (arrOf st) j))) st) : wpS (model prog w) A E s (ltAt' i j) Q st := by
  have hsz : (arrOf st).size = a₀.size := hp.size_eq
  have hkey : ∀ p ∈ arrOf st, HasKey κ p := fun p hp' => h0 _ ((Array.perm_iff_toList_perm.mp hp).mem_iff.mp (by simpa using hp'))
  rw [ltAt'_eq]
  refine wpS_bind (wpS_get ?_)
  refine wpS_bind (wpS_elem (by omega) (wpS_bind (wpS_elem (by omega) (wpS_lt hO hk (hkey _ (Array.getElem_mem (by omega))) (hkey _ (Array.getElem_mem (by omega))) ?_))))
  have e : ∀ i (hi : i < (arrOf st).size), KK κ (arrOf st) i = kv κ (arrOf st)[i] := fun i hi => by
    unfold KK kv; rw [getElem?_pos _ i hi]
  rw [e i (by omega), e j (by omega)] at h
  exact h
theorem wpS_runRest {st : SortSt} {lo : Nat} {Q : Option Nat → SortSt → Prop} (hO : κ.OneLt) (h0 : KeysOf κ a₀) (hp : (arrOf st).Perm a₀) (hk : kindOf st = oneType') (hlo : lo < a₀.size)
    (hs : ∀ i j, lo ≤ i → i ≤ j → j < a₀.size → κ.kle (KK κ (arrOf st) i) (KK κ (arrOf st) j)) (h : Q (some (a₀.size - lo)) st) : wpS (model prog w) A E s (countRun' lo (a₀.size - lo)) Q st := by
  rw [countRun'_eq]
  refine wpS_bind (wpS_mono (wpS_forRange (I := fun x c st' => st' = st ∧ c = (none, x)) (Q := fun c st' => st' = st ∧ c = (none, a₀.size - lo)) ?_ ?_ ⟨rfl, rfl⟩) ?_)
  · intro x c st' hx1 hx2 rx7
    refine hide fun P' hP' => ?_
    obtain ⟨rfl, rfl⟩ := rx7
    refine hP' ?_
    clear hP'
    dsimp only
    refine wpS_bind (wpS_ltP hO hp hk h0 (by omega) (by omega) ?_)
    have e : κ.blt (KK κ (arrOf st') (lo + x)) (KK κ (arrOf st') (lo + x - 1)) = false := hs (lo + x - 1) (lo + x) (by omega) (by omega) (by omega)
    rw [e]
    simp only [Bool.false_eq_true, if_false]
    exact wpS_pure ⟨rfl, rfl⟩
  · intro c st' rx8
    refine hide fun P' hP' => ?_
    obtain ⟨rfl, rfl⟩ := rx8
    refine hP' ?_
    clear hP'
    rw [show max 1 (a₀.size - lo) = a₀.size - lo by omega]
    exact ⟨rfl, rfl⟩
  · intro c st' rx9
    refine hide fun P' hP' => ?_
    obtain ⟨rfl, rfl⟩ := rx9
    refine hP' ?_
    clear hP'
    dsimp only
    rw [if_pos (by simp)]
    exact wpS_pure h
end
end Mine
end
section
open PySem PyProof.Rows
set_option Elab.async false
namespace Mine
local macro_rules | `(tactic| omega) => `(tactic| lia)
theorem mergeAt'_eq (i : Nat) : mergeAt' i = (do
  let s ← get
  let (some (sa, na, power), some (sb, nb, _)) := ((pendingOf s)[i]?, (pendingOf s)[i + 1]?) | unsupported "internal:list.sort.pending"
  set (setPending s (((pendingOf s).setIfInBounds i (sa, na + nb, power)).eraseIdxIfInBounds (i + 1)))
  let some k ← gallop' false (← elem' (arrOf s) sb) (arrOf s) sa na 0 | return false
  let (sa, na) := (sa + k, na - k)
  if na == 0 then return true
  let some nb ← gallop' true (← elem' (arrOf s) (sa + na - 1)) (arrOf s) sb nb (nb - 1) | return false
  if nb == 0 then return true
  let x := (arrOf s).extract sa sb
  let y := (arrOf s).extract sb (sb + nb)
  let merged ← if na ≤ nb then mergeLo' x y else mergeHi' x y
  modify fun s => setArr s (merged.toList.zipIdx.foldl (fun a (p, j) => a.setIfInBounds (sa + j) p) (arrOf s))
  return (failedOf (← get)).isNone) := rfl
theorem fold_at {α : Type} (sa : Nat) : ∀ (r : List α) (n : Nat) (a : Array α), sa + n + r.length ≤ a.size → ∀ i, ((r.zipIdx n).foldl (fun a (p : α × Nat) => a.setIfInBounds (sa + p.2) p.1) a)[i]? = if sa + n ≤ i ∧ i < sa + n + r.length then r[i - (sa + n)]? else a[i]?
  | [], n, a, h, i => by
    rw [if_neg (by simp)]; rfl
  | x :: r, n, a, h, i => by
    rw [List.zipIdx_cons, List.foldl_cons, fold_at sa r (n + 1) _ (by simp at h ⊢; omega)]
    simp only [List.length_cons] at h ⊢
    by_cases c1 : sa + (n + 1) ≤ i ∧ i < sa + (n + 1) + r.length
    · rw [if_pos c1, if_pos (by omega), show i - (sa + n) = i - (sa + (n + 1)) + 1 by omega, List.getElem?_cons_succ]
    · rw [if_neg c1, Array.getElem?_setIfInBounds]
      by_cases c2 : sa + n = i
      · rw [if_pos c2, if_pos (by omega), if_pos (by omega), ← c2, Nat.sub_self]; rfl
      · rw [if_neg c2, if_neg (by omega)]
theorem fold_list {α : Type} (sa : Nat) (r : List α) (a : Array α) (h : sa + r.length ≤ a.size) : (r.zipIdx.foldl (fun a (p : α × Nat) => a.setIfInBounds (sa + p.2) p.1) a).toList = a.toList.take sa ++ r ++ a.toList.drop (sa + r.length) := by
  apply List.ext_getElem?
  intro i
  have h1 := fold_at sa r 0 a (by omega) i
  rw [Array.getElem?_toList, h1]
  simp only [Nat.add_zero]
  have hl : a.toList.length = a.size := Array.length_toList
  rcases Nat.lt_or_ge i sa with c | c
  · rw [if_neg (by omega), List.append_assoc, List.getElem?_append_left (by rw [List.length_take]; omega), List.getElem?_take_of_lt c]
    simp
  · rcases Nat.lt_or_ge i (sa + r.length) with c2 | c2
    · rw [if_pos ⟨c, c2⟩, List.append_assoc, List.getElem?_append_right (by rw [List.length_take]; omega), List.getElem?_append_left (by rw [List.length_take]; omega), List.length_take, show min sa a.toList.length = sa by omega]
    · rw [if_neg (by omega), List.getElem?_append_right (by rw [List.length_append, List.length_take]; omega), List.getElem?_drop, List.length_append, List.length_take,
        show sa + r.length + (i - (min sa a.toList.length + r.length)) = i by omega]
      simp
section
variable {κ : PyProof.Rows.KeyKind}
theorem KK_kv {a : Array Keyed} {i : Nat} (hi : i < a.size) : KK κ a i = kv κ a[i] := by
  unfold KK kv; rw [getElem?_pos _ i hi]
theorem sorted_pair {a : Array Keyed} {n : Nat} (h : SortedToK κ a n) (hn : n = a.size) : a.toList.Pairwise (le κ) := by
  rw [List.pairwise_iff_getElem]
  intro i j hi hj hij
  have hi' : i < a.size := by simpa using hi
  have hj' : j < a.size := by simpa using hj
  have := h i j (Nat.le_of_lt hij) (by omega)
  rw [KK_kv hi', KK_kv hj'] at this
  simpa [le] using this
theorem pair_sorted {a : Array Keyed} (h : a.toList.Pairwise (le κ)) : SortedToK κ a a.size := fun i j hij hj => by
  rw [KK_kv (by omega), KK_kv hj]
  exact sorted_at h hij hj
theorem pair_range {a : Array Keyed} {lo hi : Nat} (hh : hi ≤ a.size) (h : ∀ i j, lo ≤ i → i ≤ j → j < hi → κ.kle (KK κ a i) (KK κ a j)) : (a.extract lo hi).toList.Pairwise (le κ) := by
  rw [List.pairwise_iff_getElem]
  intro i j hi' hj' hij
  have hi2 : i < (a.extract lo hi).size := by rw [← Array.length_toList]; exact hi'
  have hj2 : j < (a.extract lo hi).size := by rw [← Array.length_toList]; exact hj'
  rw [Array.size_extract] at hi2 hj2
  have := h (lo + i) (lo + j) (by omega) (by omega) (by omega)
  rw [KK_kv (by omega), KK_kv (by omega)] at this
  simpa [le] using this
theorem mem_range {a : Array Keyed} {lo hi : Nat} {x : Keyed} (h : x ∈ (a.extract lo hi).toList) : ∃ i, ∃ hi' : i < a.size, lo ≤ i ∧ i < hi ∧ x = a[i] := by
  refine hide fun P' hP' => ?_
  obtain ⟨j, hj, rfl⟩ := List.mem_iff_getElem.mp h
  refine hP' ?_
  clear hP'
  have hj2 : j < (a.extract lo hi).size := by rw [← Array.length_toList]; exact hj
  rw [Array.size_extract] at hj2
  exact ⟨lo + j, by omega, by omega, by omega, by simp⟩
end
section
variable {M : Model} {A : Around} {E : Value → Shared → Prop} {s : Shared} {σ : Type}
theorem wpS_set {x : σ} {Q : PUnit → σ → Prop} {st : σ} (h : Q ⟨⟩ x) : wpS M A E s (set x : StateT σ Sem PUnit) Q st := by
  unfold wpS; rw [StateT.run_set]; exact wpAny_pure ⟨rfl, h⟩
end
section
variable {prog : Program} {w : World} {A : Around} {E : Value → Shared → Prop} {s : Shared} {κ : PyProof.Rows.KeyKind}
theorem wpS_mergeAt0 {st : SortSt} {f r pw q : Nat} {Q : Bool → SortSt → Prop} (hO : κ.OneLt) (hk : kindOf st = oneType') (hf : failedOf st = none) (Ka : ∀ p ∈ arrOf st, HasKey κ p) (hp : pendingOf st = #[(0, f, pw), (f, r, q)])
    (hsz : (arrOf st).size = f + r) (f0 : 0 < f) (r0 : 0 < r) (s1 : SortedToK κ (arrOf st) f) (s2 : ∀ i j, f ≤ i → i ≤ j → j < f + r → κ.kle (KK κ (arrOf st) i) (KK κ (arrOf st) j))
    (hLo : ∀ k nb, k ≤ f → (∀ i, k ≤ i → i < f → κ.klt (KK κ (arrOf st) f) (KK κ (arrOf st) i)) → (nb < r → κ.kle (KK κ (arrOf st) (f - 1)) (KK κ (arrOf st) (f + nb))) → f - k ≤ nb)
    (h : ∀ st', (arrOf st').Perm (arrOf st) → failedOf st' = none → pendingOf st' = #[(0, f + r, pw)] → SortedToK κ (arrOf st') (f + r) → Q true st') : wpS (model prog w) A E s (mergeAt' 0) Q st := by
  have e1 : ∀ {i j} (hj : j < f) (hij : i ≤ j), le κ ((arrOf st)[i]'(by omega)) ((arrOf st)[j]'(by omega)) := fun {i j} hj hij => by
    have := s1 i j hij hj
    rw [KK_kv (by omega), KK_kv (by omega)] at this
    exact this
  have e2 : ∀ {i j} (hj : j < f + r) (hij : i ≤ j), f ≤ i → le κ ((arrOf st)[i]'(by omega)) ((arrOf st)[j]'(by omega)) := fun {i j} hj hij hi => by
    have := s2 i j hi hij hj
    rw [KK_kv (by omega), KK_kv (by omega)] at this
    exact this
  have mem : ∀ i (hi : i < (arrOf st).size), HasKey κ (arrOf st)[i] := fun i hi => Ka _ (Array.getElem_mem hi)
  have glue : ∀ {a : Array Keyed}, a = arrOf st → (∀ (i : Nat) (hi : i < f), le κ ((arrOf st)[i]'(by omega)) ((arrOf st)[f]'(by omega))) → SortedToK κ a (f + r) := fun {a} ea hg i j hij hj => by
    subst ea
    rcases Nat.lt_or_ge j f with c | c
    · exact s1 i j hij c
    · rcases Nat.lt_or_ge i f with c2 | c2
      · rw [KK_kv (by omega), KK_kv (by omega)]
        exact le_trans' (hg i c2) (e2 hj c (Nat.le_refl _))
      · exact s2 i j c2 hij hj
  rw [mergeAt'_eq]
  refine wpS_bind (wpS_get ?_)
  rw [hp]
  dsimp only [List.getElem?_toArray, List.getElem?_cons_zero, List.getElem?_cons_succ]
  have hpd : (#[(0, f, pw), (f, r, q)].setIfInBounds 0 (0, f + r, pw)).eraseIdxIfInBounds (0 + 1) = #[(0, f + r, pw)] := by
    simp [Array.eraseIdxIfInBounds, Array.setIfInBounds]
  refine wpS_bind (wpS_set ?_)
  rw [hpd]
  refine wpS_bind (wpS_elem (show f < (arrOf st).size by omega) ?_)
  refine wpS_bind (wpS_gallopR hO hk f0 (show 0 + f ≤ (arrOf st).size by omega) (fun i j hij hj hjn => by simpa only [Nat.zero_add] using e1 hjn hij) (mem f (by omega)) Ka fun k k1 k2 k3 => ?_)
  simp only [Nat.zero_add] at k2 k3 ⊢
  by_cases c1 : f - k = 0
  · rw [if_pos (by simpa using c1)]
    exact wpS_pure (h _ (Array.Perm.refl _) hf rfl (glue rfl fun i hi => k2 i (by omega) (by omega)))
  rw [if_neg (by simpa using c1), show k + (f - k) - 1 = f - 1 by omega]
  refine wpS_bind (wpS_elem (show f - 1 < (arrOf st).size by omega) ?_)
  refine wpS_bind (wpS_gallopL hO hk (show r - 1 < r by omega) (by omega) (fun i j hij hj hjn => e2 (by omega) (by omega) (by omega)) (mem (f - 1) (by omega)) Ka fun nb l1 l2 l3 => ?_)
  dsimp only
  by_cases c2 : nb = 0
  · rw [if_pos (by simpa using c2)]
    exact wpS_pure (h _ (Array.Perm.refl _) hf rfl (glue rfl fun i hi => le_trans' (e1 (show f - 1 < f by omega) (by omega)) (by simpa only [Nat.add_zero] using l3 0 (by omega) (by omega) (by omega))))
  rw [if_neg (by simpa using c2)]
  have hXs : ((arrOf st).extract k f).size = f - k := by rw [Array.size_extract]; omega
  have hYs : ((arrOf st).extract f (f + nb)).size = nb := by rw [Array.size_extract]; omega
  have KX : ∀ p ∈ (arrOf st).extract k f, HasKey κ p := fun p hp => by
    refine hide fun P' hP' => ?_
    obtain ⟨i, hi, _, _, rfl⟩ := mem_range (Array.mem_toList_iff.mpr hp)
    refine hP' ?_
    clear hP'
    exact mem i hi
  have KY : ∀ p ∈ (arrOf st).extract f (f + nb), HasKey κ p := fun p hp => by
    refine hide fun P' hP' => ?_
    obtain ⟨i, hi, _, _, rfl⟩ := mem_range (Array.mem_toList_iff.mpr hp)
    refine hP' ?_
    clear hP'
    exact mem i hi
  have sX := pair_range (κ := κ) (a := arrOf st) (lo := k) (hi := f) (by omega) fun i j _ b c => s1 i j b c
  have sY := pair_range (κ := κ) (a := arrOf st) (lo := f) (hi := f + nb) (by omega) fun i j a b c => s2 i j a b (by omega)
  have hfirst : ∀ y ∈ ((arrOf st).extract k f).toList, le κ (((arrOf st).extract f (f + nb))[0]'(by omega)) y := fun y hy => by
    refine hide fun P' hP' => ?_
    obtain ⟨i, hi, q1, q2, rfl⟩ := mem_range hy
    refine hP' ?_
    clear hP'
    simp only [Array.getElem_extract, Nat.add_zero]
    exact KeyOrd.kle_of_klt (k3 i hi q1 q2)
  have hlast : ∀ y ∈ ((arrOf st).extract f (f + nb)).toList, κ.klt (kv κ y) (kv κ (((arrOf st).extract k f)[((arrOf st).extract k f).size - 1]'(by omega))) := fun y hy => by
    refine hide fun P' hP' => ?_
    obtain ⟨i, hi, q1, q2, rfl⟩ := mem_range hy
    refine hP' ?_
    clear hP'
    simp only [Array.getElem_extract, hXs, show k + (f - k - 1) = f - 1 by omega]
    have := l2 (i - f) (by omega) (by omega)
    simp only [show f + (i - f) = i by omega] at this
    exact this
  have hcut : (arrOf st).toList = (arrOf st).toList.take k ++ (((arrOf st).extract k f).toList ++ ((arrOf st).extract f (f + nb)).toList) ++ (arrOf st).toList.drop (f + nb) := by
    rw [extract_toList, extract_toList, show f + nb - f = nb by omega, List.append_assoc, List.append_assoc]
    conv => lhs; rw [← List.take_append_drop k (arrOf st).toList]
    congr 1
    conv => lhs; rw [← List.take_append_drop (f - k) ((arrOf st).toList.drop k)]
    congr 1
    rw [List.drop_drop, show k + (f - k) = f by omega]
    conv => lhs; rw [← List.take_append_drop nb ((arrOf st).toList.drop f)]
    rw [List.drop_drop]
  have fin : ∀ (R : Array Keyed) (st' : SortSt), SG (setPending st #[(0, f + r, pw)]) st' → MFin κ (((arrOf st).extract k f).toList ++ ((arrOf st).extract f (f + nb)).toList) R.toList →
      wpS (model prog w) A E s (do
        modify fun s => setArr s (List.foldl (fun a x => a.setIfInBounds (k + x.snd) x.fst) (arrOf s) R.toList.zipIdx)
        let __do_lift ← get
        pure (failedOf __do_lift).isNone) Q st' := fun R st' hst hR => by
    refine hide fun P' hP' => ?_
    obtain ⟨g, rfl⟩ := hst
    refine hP' ?_
    clear hP'
    have hRl : R.toList.length = f - k + nb := by
      rw [hR.perm.length_eq, List.length_append, Array.length_toList, Array.length_toList, hXs, hYs]
    refine wpS_bind (wpS_modify (wpS_bind (wpS_get (wpS_pure ?_))))
    have hl := fold_list k R.toList (arrOf st) (by rw [hRl]; omega)
    rw [hRl, show k + (f - k + nb) = f + nb by omega] at hl
    have hperm : (List.foldl (fun a x => a.setIfInBounds (k + x.snd) x.fst) (arrOf st) R.toList.zipIdx).Perm (arrOf st) := by
      rw [Array.perm_iff_toList_perm, hl]
      exact ((hR.perm.append_left _).append_right _).trans (List.Perm.of_eq hcut.symm)
    have hsorted : (List.foldl (fun a x => a.setIfInBounds (k + x.snd) x.fst) (arrOf st) R.toList.zipIdx).toList.Pairwise (le κ) := by
      rw [hl]
      have p1 := pair_range (κ := κ) (a := arrOf st) (lo := 0) (hi := k) (by omega) fun i j _ b c => s1 i j b (by omega)
      rw [ext0] at p1
      have p3 := pair_range (κ := κ) (a := arrOf st) (lo := f + nb) (hi := (arrOf st).size) (Nat.le_refl _) fun i j a b c => s2 i j (by omega) b (by omega)
      rw [extract_all] at p3
      have lowY : ∀ i (hi : i < k) j (hj : j < (arrOf st).size), f ≤ j → le κ ((arrOf st)[i]'(by omega)) (arrOf st)[j] := fun i hi j hj hfj => le_trans' (k2 i (by omega) hi) (e2 (by omega) hfj (Nat.le_refl _))
      rw [List.append_assoc, List.pairwise_append, List.pairwise_append]
      refine ⟨p1, ⟨hR.sl, p3, fun x hx y hy => ?_⟩, fun x hx y hy => ?_⟩
      · refine hide fun P' hP' => ?_
        obtain ⟨j, hj, hjl, rfl⟩ := mem_drop_arr hy
        refine hP' ?_
        clear hP'
        have hz := l3 (j - f) (by omega) (by omega) (by omega)
        simp only [show f + (j - f) = j by omega] at hz
        rcases List.mem_append.mp (hR.perm.mem_iff.mp hx) with hx | hx
        · refine hide fun P' hP' => ?_
          obtain ⟨i, hi, q1, q2, rfl⟩ := mem_range hx
          refine hP' ?_
          clear hP'
          exact le_trans' (e1 (show f - 1 < f by omega) (by omega)) hz
        · refine hide fun P' hP' => ?_
          obtain ⟨i, hi, q1, q2, rfl⟩ := mem_range hx
          refine hP' ?_
          clear hP'
          exact e2 (by omega) (by omega) q1
      · refine hide fun P' hP' => ?_
        obtain ⟨i, hi, hik, rfl⟩ := mem_take_arr hx
        refine hP' ?_
        clear hP'
        rcases List.mem_append.mp hy with hy | hy
        · rcases List.mem_append.mp (hR.perm.mem_iff.mp hy) with hy | hy
          · refine hide fun P' hP' => ?_
            obtain ⟨j, hj, q1, q2, rfl⟩ := mem_range hy
            refine hP' ?_
            clear hP'
            exact e1 (by omega) (by omega)
          · refine hide fun P' hP' => ?_
            obtain ⟨j, hj, q1, q2, rfl⟩ := mem_range hy
            refine hP' ?_
            clear hP'
            exact lowY i hik j hj q1
        · refine hide fun P' hP' => ?_
          obtain ⟨j, hj, hjl, rfl⟩ := mem_drop_arr hy
          refine hP' ?_
          clear hP'
          exact lowY i hik j hj (by omega)
    have hfin := h (setArr (SortSt.mk' (kindOf st) (arrOf st) #[(0, f + r, pw)] g (failedOf st)) (List.foldl (fun a x => a.setIfInBounds (k + x.snd) x.fst) (arrOf st) R.toList.zipIdx)) hperm hf rfl (by
      have := pair_sorted hsorted
      rw [hperm.size_eq, hsz] at this
      exact this)
    have hq : (failedOf (setArr (SortSt.mk' (kindOf st) (arrOf st) #[(0, f + r, pw)] g (failedOf st)) (List.foldl (fun a x => a.setIfInBounds (k + x.snd) x.fst) (arrOf st) R.toList.zipIdx))).isNone = true := by
      show (failedOf st).isNone = true
      rw [hf]; rfl
    rw [← hq] at hfin
    exact hfin
  have c3 : f - k ≤ nb := hLo k nb (by omega)
    (fun i q1 q2 => by rw [KK_kv (by omega), KK_kv (by omega)]; exact k3 i (by omega) q1 q2)
    (fun q => by rw [KK_kv (by omega), KK_kv (by omega)]; exact l3 nb (by omega) (Nat.le_refl _) q)
  rw [if_pos c3]
  exact wpS_bind (wpS_mergeLo hO (by omega) (by omega) hk KX KY sX sY hfirst hlast fin)
/-- why what is left of the first run is no longer than what is left of the second -/
theorem few_lo {a a₀ : Array Keyed} {f p k nb : Nat} (hperm : a.Perm a₀) (hsame : ∀ i, f ≤ i → a[i]? = a₀[i]?) (hf : f < a₀.size) (hpf : p ≤ f) (hp : p ≤ 28) (front : SortedToK κ a f)
    (ht : ∀ i j, p ≤ i → i ≤ j → j < a₀.size → κ.kle (KK κ a₀ i) (KK κ a₀ j)) (few : ∀ j, p ≤ j → j + 4 < a₀.size → ∃ i, i < p ∧ κ.klt (KK κ a₀ j) (KK κ a₀ i)) (room : 32 ≤ a₀.size - f)
    (hk : k ≤ f) (h1 : ∀ i, k ≤ i → i < f → κ.klt (KK κ a f) (KK κ a i)) (h2 : nb < a₀.size - f → κ.kle (KK κ a (f - 1)) (KK κ a (f + nb))) : f - k ≤ nb := by
  have hsz : a.size = a₀.size := hperm.size_eq
  have same : ∀ i, f ≤ i → KK κ a i = KK κ a₀ i := fun i hi => KK_congr (hsame i hi)
  have hdrop : a.toList.drop f = a₀.toList.drop f := List.ext_getElem? fun i => by
    rw [List.getElem?_drop, List.getElem?_drop, Array.getElem?_toList, Array.getElem?_toList]
    exact hsame _ (Nat.le_add_right _ _)
  have htake : (a.toList.take f).Perm (a₀.toList.take f) := by
    have h := Array.perm_iff_toList_perm.mp hperm
    rw [← List.take_append_drop f a.toList, ← List.take_append_drop f a₀.toList, hdrop] at h
    exact (List.perm_append_right_iff _).mp h
  have hA : f - k ≤ p := by
    let q : Keyed → Bool := fun x => κ.blt (KK κ a f) (kv κ x)
    have e1 : ((a.toList.take f).drop k).countP q = f - k := by
      have hl : ((a.toList.take f).drop k).length = f - k := by
        rw [List.length_drop, List.length_take, Array.length_toList]; omega
      rw [← hl]
      refine List.countP_eq_length.mpr fun x hx => ?_
      refine hide fun P' hP' => ?_
      obtain ⟨i, hi, rfl⟩ := List.mem_iff_getElem.mp hx
      refine hP' ?_
      clear hP'
      rw [hl] at hi
      have := h1 (k + i) (by omega) (by omega)
      rw [KK_kv (i := k + i) (by omega)] at this
      simpa [q, KeyOrd.klt] using this
    have e2 : ((a.toList.take f).drop k).countP q ≤ (a.toList.take f).countP q := (List.drop_sublist _ _).countP_le
    have e3 : (a.toList.take f).countP q = (a₀.toList.take f).countP q := htake.countP_eq q
    have e4 : (a₀.toList.take f).countP q ≤ p := by
      rw [← List.take_append_drop p (a₀.toList.take f), List.countP_append]
      have z : ((a₀.toList.take f).drop p).countP q = 0 := by
        refine List.countP_eq_zero.mpr fun x hx => ?_
        refine hide fun P' hP' => ?_
        obtain ⟨i, hi, rfl⟩ := List.mem_iff_getElem.mp hx
        refine hP' ?_
        clear hP'
        rw [List.length_drop, List.length_take, Array.length_toList] at hi
        have := ht (p + i) f (by omega) (by omega) hf
        rw [← same f (Nat.le_refl _), KK_kv (i := p + i) (by omega)] at this
        have := KeyOrd.not_klt_of_kle this
        simpa [q, KeyOrd.klt] using this
      rw [z]
      exact Nat.le_trans List.countP_le_length (by rw [List.length_take]; omega)
    omega
  rcases Nat.lt_or_ge nb (f - k) with c | c
  · exfalso
    refine hide fun P' hP' => ?_
    obtain ⟨i, hi, hlt⟩ := few (f + nb) (by omega) (by omega)
    refine hP' ?_
    clear hP'
    have b1 := h2 (by omega)
    rw [same (f + nb) (by omega)] at b1
    have hm : a₀[i]'(by omega) ∈ a.toList.take f := htake.mem_iff.mpr (List.mem_iff_getElem.mpr ⟨i, by rw [List.length_take, Array.length_toList]; omega, by simp⟩)
    refine hide fun P' hP' => ?_
    obtain ⟨l, hl, e⟩ := List.mem_iff_getElem.mp hm
    refine hP' ?_
    clear hP'
    rw [List.length_take, Array.length_toList] at hl
    have b2 := front l (f - 1) (by omega) (by omega)
    rw [KK_kv (i := l) (by omega)] at b2
    rw [KK_kv (i := i) (by omega), ← e] at hlt
    simp only [List.getElem_take, Array.getElem_toList] at hlt
    exact KeyOrd.not_klt_of_kle (KeyOrd.kle_trans b2 b1) hlt
  · exact c
end
end Mine
end
section
open PySem PyProof.Rows
set_option Elab.async false
namespace Mine
local macro_rules | `(tactic| omega) => `(tactic| lia)
section
variable {prog : Program} {w : World} {A : Around} {E : Value → Shared → Prop} {s : Shared} {a₀ : Array Keyed} {κ : PyProof.Rows.KeyKind}
structure RunOne (κ : PyProof.Rows.KeyKind) (a₀ : Array Keyed) (f : Nat) (st : SortSt) : Prop where
  perm : (arrOf st).Perm a₀
  kind : kindOf st = oneType'
  failed : failedOf st = none
  pend : pendingOf st = #[(0, f, 0)]
  front : SortedToK κ (arrOf st) f
  rest : ∀ i, f ≤ i → (arrOf st)[i]? = a₀[i]?
  room : 32 ≤ a₀.size - f ∨ (f < a₀.size → κ.kle (KK κ (arrOf st) (f - 1)) (KK κ (arrOf st) f))
structure RunTwo (κ : PyProof.Rows.KeyKind) (a₀ : Array Keyed) (f pw : Nat) (st : SortSt) : Prop where
  perm : (arrOf st).Perm a₀
  kind : kindOf st = oneType'
  failed : failedOf st = none
  pend : pendingOf st = #[(0, f, pw), (f, a₀.size - f, 0)]
  front : SortedToK κ (arrOf st) f
  rest : ∀ i j, f ≤ i → i ≤ j → j < a₀.size → κ.kle (KK κ (arrOf st) i) (KK κ (arrOf st) j)
  same : ∀ i, f ≤ i → (arrOf st)[i]? = a₀[i]?
  room : 32 ≤ a₀.size - f ∨ κ.kle (KK κ (arrOf st) (f - 1)) (KK κ (arrOf st) f)
  low : 32 ≤ f
theorem minRun_mid {n : Nat} (h1 : 64 ≤ n) (h2 : n < 128) : minRun' n n 0 = n / 2 + n % 2 := by
  refine hide fun P' hP' => ?_
  obtain ⟨f, rfl⟩ : ∃ f, n = f + 1 + 1 := ⟨n - 2, by omega⟩
  refine hP' ?_
  clear hP'
  have e : minRun' (f + 1 + 1) (f + 1 + 1) 0 = minRun' (f + 1) ((f + 1 + 1) / 2) (max 0 ((f + 1 + 1) % 2)) := by
    rw [minRun'_succ, if_neg (by omega)]
  rw [e, minRun'_succ, if_pos (by omega)]
  omega
theorem wpS_binNone {st : SortSt} {lo n : Nat} {Q : Bool → SortSt → Prop} (hn : 1 ≤ n) (h : Q true st) : wpS (model prog w) A E s (binarySort' lo n n) Q st := by
  rw [binarySort'_eq, show max n 1 = n by omega]
  refine wpS_bind (wpS_mono (wpS_forRange (I := fun _ c st' => c = (none, ()) ∧ st' = st) (Q := fun c st' => c = (none, ()) ∧ st' = st) (fun i c st' h1 h2 => by omega) (fun _ _ hh => hh) ⟨rfl, rfl⟩) ?_)
  intro c st' rx1
  refine hide fun P' hP' => ?_
  obtain ⟨rfl, rfl⟩ := rx1
  refine hP' ?_
  clear hP'
  exact wpS_pure h
theorem wpS_sortRuns2 {st : SortSt} {p : Nat} {Q : Unit → SortSt → Prop} (hO : κ.OneLt) (h0 : KeysOf κ a₀) (hB : SBase a₀ st) (ha : arrOf st = a₀) (h1 : 64 ≤ a₀.size) (h2 : a₀.size < 128) (hp : p ≤ 28)
    (hr : κ.klt (KK κ a₀ 0) (KK κ a₀ 1)) (ht : ∀ i j, p ≤ i → i ≤ j → j < a₀.size → κ.kle (KK κ a₀ i) (KK κ a₀ j))
    (few : ∀ j, p ≤ j → j + 4 < a₀.size → ∃ i, i < p ∧ κ.klt (KK κ a₀ j) (KK κ a₀ i))
    (h : ∀ st', (arrOf st').Perm a₀ → failedOf st' = none → SortedToK κ (arrOf st') a₀.size → Q () st') : wpS (model prog w) A E s sortRuns' Q st := by
  have tail : ∀ {f : Nat} {st' : SortSt}, 32 ≤ f → RunOne κ a₀ f st' → ∀ i j, f ≤ i → i ≤ j → j < a₀.size → κ.kle (KK κ (arrOf st') i) (KK κ (arrOf st') j) := fun {f st'} hf R i j hi hij hj => by
    rw [KK_congr (R.rest i hi), KK_congr (R.rest j (by omega))]
    exact ht i j (by omega) hij hj
  rw [sortRuns'_eq]
  refine wpS_bind (wpS_get ?_)
  dsimp only
  simp only [hB.size, minRun_mid h1 h2]
  have hm1 : 32 ≤ a₀.size / 2 + a₀.size % 2 := by omega
  have hm2 : a₀.size / 2 + a₀.size % 2 ≤ a₀.size := by omega
  have hm3 : 32 ≤ a₀.size - (a₀.size / 2 + a₀.size % 2) := by omega
  generalize a₀.size / 2 + a₀.size % 2 = m at hm1 hm2 hm3
  refine wpS_bind (wpS_mono (wpS_forRange
    (I := fun x c st' => (x = 0 ∧ c = (none, 0) ∧ st' = st) ∨ (x = 1 ∧ ∃ f, c = (none, f) ∧ 32 ≤ f ∧ f ≤ a₀.size ∧ RunOne κ a₀ f st') ∨ (2 ≤ x ∧ c = (none, a₀.size) ∧ ∃ f pw, 0 < f ∧ f < a₀.size ∧ RunTwo κ a₀ f pw st'))
    (Q := fun c st' => c = (none, a₀.size) ∧ (RunOne κ a₀ a₀.size st' ∨ ∃ f pw, 0 < f ∧ f < a₀.size ∧ RunTwo κ a₀ f pw st')) ?step ?fin (.inl ⟨rfl, rfl, rfl⟩)) ?post)
  case fin =>
    rintro c st' (⟨hx, _, _⟩ | ⟨hx, _⟩ | ⟨_, hc, hR⟩)
    · omega
    · omega
    · exact ⟨hc, .inr hR⟩
  case step =>
    rintro x c st' _ hx (⟨rfl, rfl, rfl⟩ | ⟨rfl, f, rfl, hf1, hf2, hR⟩ | ⟨hx2, rfl, hR⟩)
    · dsimp only
      rw [if_neg (by omega)]
      simp only [Nat.sub_zero, Nat.zero_add]
      refine wpS_bind (wpS_runFirst hO h0 (by omega) hB (by rw [ha]; exact hr) fun n hn1 hn2 hns => ?_)
      dsimp only
      have one : ∀ {f : Nat} {st₁ : SortSt}, SBase a₀ st₁ → SortedToK κ (arrOf st₁) f → (∀ i, f ≤ i → (arrOf st₁)[i]? = a₀[i]?) → (32 ≤ a₀.size - f ∨ (f < a₀.size → κ.kle (KK κ (arrOf st₁) (f - 1)) (KK κ (arrOf st₁) f))) → RunOne κ a₀ f (setPending st₁ ((pendingOf st₁).push (0, f, 0))) := fun b c d r =>
        ⟨b.perm, b.kind, b.failed, by show (pendingOf _).push _ = _; rw [b.pend]; rfl, c, d, r⟩
      by_cases hlt : n < m
      · rw [if_pos hlt]
        refine wpS_bind (wpS_lift (wpAny_rule ⟨rfl, ?_⟩))
        have hq1 : 32 ≤ min a₀.size m := by omega
        have hq2 : min a₀.size m ≤ a₀.size := by omega
        refine wpS_bind (wpS_insert hO h0 hq2 (by omega) (by omega) hB hns fun st3 hB3 hs3 hr3 => ?_)
        simp only [Bool.not_true, Bool.false_eq_true, if_false]
        refine wpS_bind (wpS_get ?_)
        have hb : (pendingOf st3).back? = none := by rw [hB3.pend]; rfl
        rw [hb]
        dsimp only
        exact wpS_bind (wpS_modify (wpS_pure (.inr (.inl ⟨by simp, _, rfl, hq1, hq2, one hB3 hs3 (fun i hi => (hr3 i hi).trans (by rw [ha])) (.inl (by omega))⟩))))
      · rw [if_neg hlt]
        refine wpS_bind (wpS_get ?_)
        have hb : (pendingOf st').back? = none := by rw [hB.pend]; rfl
        rw [hb]
        dsimp only
        exact wpS_bind (wpS_modify (wpS_pure (.inr (.inl ⟨by simp, n, rfl, by omega, hn2, one hB hns (fun i _ => by rw [ha]) (.inr fun hq => by rw [ha]; exact ht _ _ (by omega) (by omega) hq)⟩))))
    · dsimp only
      by_cases hfe : f = a₀.size
      · subst hfe
        rw [if_pos (Nat.le_refl _)]
        exact wpS_pure ⟨rfl, .inl hR⟩
      rw [if_neg (by omega)]
      refine wpS_bind (wpS_runRest hO h0 hR.perm hR.kind (by omega) (tail hf1 hR) ?_)
      dsimp only
      apply cutS0 (st := st')
      case h1 =>
        intro H
        by_cases hlt : a₀.size - f < m
        · rw [if_pos hlt]
          refine wpS_bind (wpS_lift (wpAny_rule ⟨rfl, ?_⟩))
          simp only [Nat.min_eq_left (Nat.le_of_lt hlt)]
          refine wpS_bind (wpS_binNone (by omega) ?_)
          simp only [Bool.not_true, Bool.false_eq_true, if_false]
          exact H
        · rw [if_neg hlt]
          exact H
      case h2 =>
        refine wpS_bind (wpS_get ?_)
        have hb : (pendingOf st').back? = some (0, f, 0) := by rw [hR.pend]; rfl
        rw [hb]
        dsimp only
        refine wpS_bind (wpS_mono (wpS_forRange (I := fun _ c st'' => st'' = st' ∧ c = (none, ())) (Q := fun c st'' => st'' = st' ∧ c = (none, ())) ?_ (fun _ _ hh => hh) ⟨rfl, rfl⟩) ?_)
        · intro x c st'' _ _ rx2
          refine hide fun P' hP' => ?_
          obtain ⟨rfl, rfl⟩ := rx2
          refine hP' ?_
          clear hP'
          refine wpS_bind (wpS_get ?_)
          rw [if_neg (by rw [hR.pend]; simp)]
          exact wpS_pure ⟨rfl, rfl⟩
        · intro c st'' rx3
          refine hide fun P' hP' => ?_
          obtain ⟨rfl, rfl⟩ := rx3
          refine hP' ?_
          clear hP'
          dsimp only
          have htl := tail hf1 hR
          refine wpS_bind (wpS_modify (wpS_bind (wpS_modify (wpS_pure (.inr (.inr ⟨by omega, ?_, f, ?_, by omega, by omega, ⟨hR.perm, hR.kind, hR.failed, ?_, hR.front, htl, hR.rest, hR.room.imp id fun q => q (by omega), hf1⟩⟩))))))
          · rw [show f + (a₀.size - f) = a₀.size by omega]
          rotate_left
          · show (Array.modify (pendingOf st'') _ _).push _ = _
            rw [hR.pend]
            rfl
    · dsimp only
      rw [if_pos (Nat.le_refl _)]
      exact wpS_pure ⟨rfl, .inr hR⟩
  case post =>
    intro c st' rx4
    refine hide fun P' hP' => ?_
    obtain ⟨rfl, hR⟩ := rx4
    refine hP' ?_
    clear hP'
    dsimp only
    have hkeys : ∀ {st₁ : SortSt}, (arrOf st₁).Perm a₀ → ∀ q ∈ arrOf st₁, HasKey κ q := fun hp q hq => h0 _ ((Array.perm_iff_toList_perm.mp hp).mem_iff.mp (by simpa using hq))
    refine wpS_bind (wpS_mono (wpS_forRange
      (I := fun x c st₁ => c = (none, ()) ∧ (((arrOf st₁).Perm a₀ ∧ failedOf st₁ = none ∧ SortedToK κ (arrOf st₁) a₀.size ∧ (pendingOf st₁).size ≤ 1) ∨ (x = 0 ∧ ∃ f pw, 0 < f ∧ f < a₀.size ∧ RunTwo κ a₀ f pw st₁)))
      (Q := fun c st₁ => c = (none, ()) ∧ (arrOf st₁).Perm a₀ ∧ failedOf st₁ = none ∧ SortedToK κ (arrOf st₁) a₀.size) ?_ ?_ ⟨rfl, ?_⟩) ?_)
    · rintro x c st₁ _ _ ⟨rfl, (⟨p1, p2, p3, p4⟩ | ⟨rfl, f, pw, f1, f2, hR⟩)⟩
      · refine wpS_bind (wpS_get ?_)
        rw [if_pos p4]
        exact wpS_pure ⟨rfl, p1, p2, p3⟩
      · refine wpS_bind (wpS_get ?_)
        rw [hR.pend, if_neg (by simp)]
        show wpS _ _ _ _ (do let __do_lift ← mergeAt' 0; if (!__do_lift) = true then pure (ForInStep.done (some (), ())) else pure (ForInStep.yield (none, ()))) _ _
        refine wpS_bind (wpS_mergeAt0 hO hR.kind hR.failed (hkeys hR.perm) hR.pend (by rw [hR.perm.size_eq]; omega) f1 (by omega) hR.front (fun i j a b c => hR.rest i j a b (by omega)) (fun k nb hk g1 g2 => ?lo) fun st2 q1 q2 q3 q4 => ?_)
        case lo =>
          rcases hR.room with q | q
          · exact few_lo hR.perm hR.same f2 (by have := hR.low; omega) hp hR.front ht few q hk g1 g2
          · rcases Nat.lt_or_ge k f with c | c
            · exact absurd (g1 (f - 1) (by omega) (by omega)) (KeyOrd.not_klt_of_kle q)
            · omega
        simp only [Bool.not_true, Bool.false_eq_true, if_false]
        exact wpS_pure ⟨rfl, .inl ⟨q1.trans hR.perm, q2, by rwa [show f + (a₀.size - f) = a₀.size by omega] at q4, by rw [q3]; exact Nat.le_refl 1⟩⟩
    · rintro c st₁ ⟨rfl, (⟨p1, p2, p3, p4⟩ | ⟨hx, _⟩)⟩
      · exact ⟨rfl, p1, p2, p3⟩
      · omega
    · rcases hR with hR | hR
      · exact .inl ⟨hR.perm, hR.failed, hR.front, by rw [hR.pend]; exact Nat.le_refl 1⟩
      · exact .inr ⟨rfl, hR⟩
    · intro c st₁ rx5
      refine hide fun P' hP' => ?_
      obtain ⟨rfl, p1, p2, p3⟩ := rx5
      refine hP' ?_
      clear hP'
      exact wpS_pure (h _ p1 p2 p3)
end
end Mine
end
section
open PySem PyProof.Rows
set_option Elab.async false
namespace Mine
section
variable {prog : Program} {w : World} {A : Around} {E : Value → Shared → Prop} {s : Shared}
theorem KK_strs : ∀ {vs : List Value} {ss : List Str}, StrsAre vs ss → ∀ (i : Nat) (hi : i < ss.length), KK strKind (pairsOf vs) i = ss[i].cps.toList := by
  intro vs ss hS i hi
  have hl : vs.length = ss.length := StrsAre.length hS
  refine hide fun P' hP' => ?_
  obtain ⟨x, t, hx⟩ := hS.all vs[i] (List.getElem_mem (by omega))
  refine hP' ?_
  clear hP'
  have hs : ss[i] = x := by
    have : (vs.map strOf)[i]? = ss[i]? := by rw [hS.strs]
    rw [List.getElem?_map, List.getElem?_eq_getElem (by omega), List.getElem?_eq_getElem hi, hx] at this
    simpa [strOf] using this.symm
  rw [hs]
  have e : (pairsOf vs)[i]? = some (.str x t, .str x t) := by
    rw [← Array.getElem?_toList, pairsOf_toList, List.getElem?_zip_eq_some]
    exact ⟨by rw [List.getElem?_eq_getElem (by omega), hx], by rw [List.getElem?_eq_getElem (by omega), hx]⟩
  unfold KK
  rw [e]; rfl
/-- what makes a list of 64 to 127 texts a merge of two runs at most -/
structure TwoRuns (ss : List Str) (p : Nat) : Prop where
  low : p ≤ 28
  few : ∀ j (hj : j + 4 < ss.length), p ≤ j → ∃ i, ∃ hi : i < ss.length, i < p ∧ (ss[j]'(by omega)).cps.toList < ss[i].cps.toList
  first : ∃ x y r, ss = x :: y :: r ∧ x.cps.toList < y.cps.toList
  tail : ∀ i j (hj : j < ss.length) (hij : i ≤ j), p ≤ i → ¬ ss[j].cps.toList < (ss[i]'(by omega)).cps.toList
theorem sort_tree2 {a : Addr} {vs : List Value} {ss : List Str} {p n : Nat} {P : Fin → Shared → Prop} (ho : s.heap.get? a = some (seqObj "list" vs.toArray n)) (hS : StrsAre vs ss) (hR : TwoRuns ss p) (h1 : 64 ≤ vs.length) (h2 : vs.length < 128)
    (h : ∀ st' : SortSt, (arrOf st').Perm (pairsOf vs) → SortedToK strKind (arrOf st') (pairsOf vs).size → P (.done (.ret .none)) { s with heap := sortedHeap s.heap a vs ((arrOf st').map (·.2)) }) :
    wpAny (model prog w) A (Builtin.«list.sort» ⟨[.ref a], []⟩) P E s := by
  have hl : vs.length = ss.length := StrsAre.length hS
  have ha : a < s.heap.objs.size := Heap.lt_size ho
  have hps : (pairsOf vs).size = vs.length := pairsOf_size _
  rw [list_sort_plain]
  refine wpAny_bind (listItems_at ho rfl (wpAny_bind (listUpdate_at ho rfl ?_)))
  obtain ⟨k1, ho1⟩ : ∃ k, (s.heap.update a (Obj.mapSeq fun _ => #[])).get? a = some (seqObj "list" #[] k) := ⟨_, get?_update_seq ho (fun _ => #[])⟩
  refine wpAny_bind (seqEpoch_at ho1 rfl (wpAny_bind (wpAny_newTuple (wpAny_bind (wpAny_newList (wpAny_holding ?_))))))
  have ho2 : (((s.heap.update a (Obj.mapSeq fun _ => #[])).push (seqObj "tuple" vs.toArray 0)).push (seqObj "list" #[] 0)).get? a = some (seqObj "list" #[] k1) := by
    rw [Heap.get?_push_ne _ _ _ (by rw [size_push', Heap.size_update]; exact Nat.ne_of_lt (Nat.lt_succ_of_lt ha)), Heap.get?_push_ne _ _ _ (by rw [Heap.size_update]; exact Nat.ne_of_lt ha)]
    exact ho1
  show wpAny (model prog w) A _ P E { s with heap := ((s.heap.update a (Obj.mapSeq fun _ => #[])).push (seqObj "tuple" vs.toArray 0)).push (seqObj "list" #[] 0) }
  dsimp only
  have hc : ¬ vs.toArray.size < 2 := by rw [List.size_toArray]; omega
  rw [if_neg hc, if_neg hc]
  have hkk : keyKind' vs.toArray = pure oneType' := by
    match vs, hS, h1 with
    | [], _, h1 => simp at h1
    | [_], _, h1 => simp at h1
    | _ :: _ :: _, hS, _ => exact keyKind_strs hS
  rw [hkk]
  refine hide fun P' hP' => ?_
  obtain ⟨x, y, r, hxy, hlt⟩ := hR.first
  refine hP' ?_
  clear hP'
  have kk : ∀ i (hi : i < ss.length), KK strKind (pairsOf vs) i = ss[i].cps.toList := KK_strs hS
  refine wpAny_bind (wpAny_pure ?_)
  refine wpAny_bind (wpAny_mono (wpS_sortRuns2 (κ := strKind) strKind_oneLt (a₀ := pairsOf vs) (st := SortSt.mk' oneType' (vs.toArray.zip vs.toArray) #[] 7 none) (p := p)
    (Q := fun _ st' => (arrOf st').Perm (pairsOf vs) ∧ failedOf st' = none ∧ SortedToK strKind (arrOf st') (pairsOf vs).size)
    hS.keysOf ⟨Array.Perm.refl _, rfl, rfl, rfl⟩ rfl (by omega) (by omega) hR.low ?_ ?_ ?_ fun st' a1 a2 a3 => ⟨a1, a2, a3⟩) ?_ fun _ _ e => e)
  · rw [kk 0 (by omega), kk 1 (by omega)]
    subst hxy
    exact decide_eq_true hlt
  · intro i j hi hij hj
    rw [kk i (by omega), kk j (by omega)]
    exact decide_eq_false (hR.tail i j (by omega) hij hi)
  · intro j hpj hj
    refine hide fun P' hP' => ?_
    obtain ⟨i, hi, hip, hlt'⟩ := hR.few j (by omega) hpj
    refine hP' ?_
    clear hP'
    refine ⟨i, hip, ?_⟩
    rw [kk i (by omega), kk j (by omega)]
    exact decide_eq_true hlt'
  · intro rx1 s' rx2
    refine hide fun P' hP' => ?_
    obtain ⟨⟨⟩, st'⟩ := rx1
    obtain ⟨rfl, hp, hf, hs⟩ := rx2
    refine hP' ?_
    clear hP'
    dsimp only
    refine wpAny_bind (seqEpoch_at ho2 rfl (wpAny_bind (listUpdate_at ho2 rfl ?_ (hsz2 := by refine Nat.le_trans (Nat.le_of_eq ((Array.size_map ..).trans (hp.size_eq.trans (pairsOf_size _)))) ?_; rw [sizeLine_eq]; omega))))
    rw [hf]
    simp only [bne_self_eq_false, Bool.false_eq_true, if_false]
    exact wpAny_pure (h st' hp hs)
theorem sorted_strs2 {l : Addr} {vs : List Value} {ss : List Str} {p : Nat} {Q : Value → Shared → Prop} (hl : s.heap.IsList l vs.toArray) (hS : StrsAre vs ss) (h2 : vs.length < 128) (hR : 64 ≤ vs.length → TwoRuns ss p)
    (h : ∀ (out : List Value) (ss' : List Str) (D : Addr) (h' : Heap), StrsAre out ss' → ss'.Perm ss → sortedS ss' = true → s.heap.get? D = none → h'.PlainList D out.toArray → s.heap.StaysIn h' → Q (.ref D) { s with heap := h' }) :
    wpAny (model prog w) A (call (.builtin "sorted") [.ref l]) Q E s := by
  have done : ∀ (out : Array Value) (ss' : List Str), StrsAre out.toList ss' → ss'.Perm ss → sortedS ss' = true → Q (.ref (s.heap.objs.size + 1)) { s with heap := sortedAll s.heap vs out } := fun out ss' a1 a2 a3 => by
    obtain ⟨e, he⟩ := sortedAll_at s.heap vs out
    exact h out.toList ss' _ _ a1 a2 a3 (Heap.get?_none_of_le (Nat.le_succ _)) ⟨e, he⟩ fun _ _ => sortedAll_old
  rcases Nat.lt_or_ge vs.length 64 with h64 | h64
  · exact sorted_strs hl hS h64 done
  · refine Calls.call_function_entry kind_sorted plain_sorted entry_sorted (args_sorted1 _) ?_
    unfold Builtin.«sorted»
    refine wpAny_bind (m := checkCount "sorted" 1 1 _) (wpAny_pure ?_)
    refine wpAny_bind (collect_list hl (wpAny_bind (wpAny_newList ?_)))
    have hsz : ((s.heap.push (seqObj "list" #[] 0)).update s.heap.objs.size (Obj.mapSeq (· ++ vs.toArray))).objs.size = s.heap.objs.size + 1 := by
      rw [Heap.size_update, size_push']
    have hoL : (((s.heap.push (seqObj "list" #[] 0)).update s.heap.objs.size (Obj.mapSeq (· ++ vs.toArray))).push (seqObj "list" vs.toArray 0)).get? (s.heap.objs.size + 1) = some (seqObj "list" vs.toArray 0) := by
      rw [← hsz]; exact Heap.get?_push_size _ rfl
    show wpAny _ _ _ _ _ { s with heap := ((s.heap.push (seqObj "list" #[] 0)).update s.heap.objs.size (Obj.mapSeq (· ++ vs.toArray))).push (seqObj "list" vs.toArray 0) }
    rw [hsz]
    refine wpAny_bind (wpAny_holding (wpAny_call_entry slot_list_sort ⟨_, hoL, rfl⟩ entry_list_sort (sort_tree2 hoL hS (hR h64) h64 h2 fun st' a1 a2 => ⟨_, rfl, ?_⟩) (args_list_sort _)))
    refine hide fun P' hP' => ?_
    obtain ⟨ss', b1, b2, b3⟩ := sorted_out_str hS a1 a2
    refine hP' ?_
    clear hP'
    exact wpAny_pure ⟨_, rfl, done _ ss' b1 b2 b3⟩
end
end Mine
end
section
open PySem PySem.W PyProof.Rows
set_option Elab.async false
namespace Mine
local macro_rules | `(tactic| omega) => `(tactic| lia)
section
local macro_rules | `(tactic| walk_at $k:str) => if ["exec While", "Left", "exec Assign cons ListComp", "pyIter str", "subscriptTail Name Slice str ref", "compareOp NotEq ref ref", "subscriptTail Name Name str int", "subscriptTail Name Constant ref int", "WhileEnd", "EltPost", "TestPost", "eval ListComp"].contains k.getString then `(tactic| (refine Hold.mk ?_)) else Lean.Macro.throwUnsupported
local macro_rules | `(tactic| walk_at "WhilePost") => `(tactic| (dsimp only [WhilePost]))
local macro_rules | `(tactic| k_room) => `(tactic| ((try simp only [Around.deeper, Around.mark]); omega))
theorem item_cps {x : Str} {b : Nat} (h : b < x.length) : (Txt.item x (b : Int)).cps.toList = [x.cps.toList[b]?.getD 0] := by
  have e : seqIndex? (b : Int) x.length = some b := by
    unfold seqIndex?
    simp
    omega
  unfold Txt.item Txt.charAt
  rw [e]
  simp
/-- what holds of the values between the turns of the outer loop -/
structure NewOk (x y word wt : Str) (e : Nat) : Prop where
  le : e ≤ x.length
  wl : wt.length ≤ 100
  wd : word.length + e ≤ x.length
  ws : ∀ c ∈ wt.cps.toList, c ∈ fourSigns
  w0 : wt.cps.toList ≠ []
  eq : newAt x.cps.toList word.cps.toList wt.cps.toList e = newAt x.cps.toList [] y.cps.toList x.length
theorem NewOk.next {x y word wt : Str} {e b : Nat} (ok : NewOk x y word wt e) (hx : x.length ≤ 100) (hxs : ∀ c ∈ x.cps.toList, c ∈ fourSigns) (hlt : b < e)
    (hnext : newAt x.cps.toList word.cps.toList wt.cps.toList e = newAt x.cps.toList (x.cps.toList[b]?.getD 0 :: word.cps.toList) (seg x.cps.toList b e) b) (hne : seg x.cps.toList b e ≠ []) :
    NewOk x y (Txt.item x b ++ word) (Txt.slice x (some (b : Int)) (some (e : Int))) b := by
  have he := ok.le
  have hs := slice_seg (x := x) (Nat.le_of_lt hlt) he
  have hi := item_cps (x := x) (b := b) (by omega)
  have hc : (Txt.item x (b : Int) ++ word).cps.toList = x.cps.toList[b]?.getD 0 :: word.cps.toList := by
    show ((Txt.item x (b : Int)).cps ++ word.cps).toList = _
    rw [Array.toList_append, hi]; rfl
  refine ⟨by omega, ?_, ?_, fun c hc' => ?_, by rw [hs]; exact hne, ?_⟩
  · exact Nat.le_trans (Txt.slice_le x _ _) hx
  · have : (Txt.item x (b : Int) ++ word).length = word.length + 1 := by
      show (Txt.item x (b : Int) ++ word).cps.size = word.cps.size + 1
      rw [← Array.length_toList, hc, List.length_cons, Array.length_toList]
    have := ok.wd
    omega
  · rw [hs] at hc'
    exact hxs c (List.mem_of_mem_take (List.mem_of_mem_drop hc'))
  · rw [hs, hc, ← hnext, ok.eq]
theorem NewOk.start {x y : Str} (hy : y.length ≤ 100) (hys : ∀ c ∈ y.cps.toList, c ∈ fourSigns) (hy0 : y.cps.toList ≠ []) : NewOk x y (Str.ofString "") y x.length :=
  ⟨Nat.le_refl _, hy, by show 0 + _ ≤ _; omega, hys, hy0, rfl⟩
theorem news_fresh {h0 h h' : Heap} {L D : Addr} {o : Obj} {m : Str → Option Value} {l : List (Addr × Obj)} (hD : h.get? D = none) (hns : h.Ns L m) (e : h'.get? D = some o) (N : News (gnd h0 h L) L h' l) : News (gnd h0 h L) L h' ((D, o) :: l) := fun p hp => by
  rcases List.mem_cons.mp hp with rfl | hp
  · refine ⟨e, fun z => ?_, ?_⟩
    · refine hide fun P' hP' => ?_
      obtain ⟨o', _, _, ho, _⟩ := hns
      refine hP' ?_
      clear hP'
      have z' : D = L := z
      rw [z', ho] at hD; cases hD
    · cases q : (gnd h0 h L).get? D with
      | none => rfl
      | some o' => rw [(gnd_of q).1] at hD; cases hD
  · exact N p hp
theorem signs_lt {l : List Nat} (h : ∀ c ∈ l, c ∈ fourSigns) : ∀ c ∈ l, c < 128 := fun c hc => (show ∀ c ∈ fourSigns, c < 128 by decide) c (h c hc)
theorem ascii_of {x : Str} (h : ∀ c ∈ x.cps.toList, c ∈ fourSigns) : (x.cps.all (· < 128)) = true := by
  rw [Array.all_eq_true_iff_forall_mem]
  intro c hc
  exact decide_eq_true (signs_lt h c (by simpa using hc))
theorem ok_signs {l : List Nat} (h : ∀ c ∈ l, c ∈ fourSigns) : StrsOk (l.map fun a => ⟨#[a]⟩) := fun x hx => by
  refine hide fun P' hP' => ?_
  obtain ⟨c, hc, rfl⟩ := List.mem_map.mp hx
  refine hP' ?_
  clear hP'
  have := signs_lt h c hc
  simp [PyData.strOk]; omega
set_option maxRecDepth 100000 in
set_option maxHeartbeats 2000000 in
theorem new_spec {w : World} {loose : List Str} {mean : ExcName → Option Value} {mg mb : Str → Option Value} {base : Heap} {envs : List Env} {A : Around} {s : Shared} {Q E : Value → Shared → Prop} {x y : Str} {tx ty : Tok}
    (T0 : Top0 w loose mean mg mb base) (H : Here base envs A s.heap) (hh : A.handled = none) (hroom : A.depth + 8 < recursionLimit) (hunits : A.units + 80 < cLine) (tab : TabOk base s.heap)
    (hx : x.length ≤ 100) (hy : y.length ≤ 100) (hxs : ∀ c ∈ x.cps.toList, c ∈ fourSigns) (hys : ∀ c ∈ y.cps.toList, c ∈ fourSigns) (hy0 : y.cps.toList ≠ [])
    (ret : ∀ h' tk' t' r, s.heap.StaysIn h' → r.cps.toList = newAt x.cps.toList [] y.cps.toList x.length → Q (.str r t') { s with heap := h', toks := tk' }) :
    wpAny (model prg w) A (call (.ref 110) [.str x tx, .str y ty]) Q E s := by
  refine hide fun P' hP' => ?_
  obtain ⟨ha, dp, fr, gd, un⟩ := A
  obtain rfl : fr = some envs := H.fr
  obtain rfl : ha = none := hh
  refine hP' ?_
  clear hP'
  dsimp only at hroom hunits
  have u1 : un + 3 + 64 < cLine := by omega
  have X : (Mine.hd.heap_39 w.params).In s.heap := T0.X.keeps H.st
  revert X
  unfold prg
  k_fill
  intro X
  refine hide fun P' hP' => ?_
  obtain ⟨o36, t36, t36d⟩ : ∃ o, s.heap.get? 36 = some o ∧ ∃ vs, o.data = .fields vs := by
    rcases tab with t1 | ⟨c, oc, vs, tt, _, t1, _⟩
    · exact ⟨_, t1, _, rfl⟩
    · exact ⟨_, t1, _, rfl⟩
  refine hP' ?_
  clear hP'
  refine wpAny_call ?_
  k_dflt (refine' enterC (K := Mine.hd.heap_39 w.params) ?k1 ?k2 ?k3 ?k4 ?k5 ?k6 ?k7 ?k8 ?_ ?c1 ?c2 ?c3; (case k1 => (show dp < _; omega)); (case k2 => exact X); (case k3 => exact T0.T.nolimit.keeps H.st); (case k4 => k_is); (case k5 => k_is); (case k6 => exact BindsTo.of_eq rfl); (case k7 => exact rfl); (case k8 => decide); (case c1 => exact rfl); (case c2 => exact rfl); (case c3 => exact rfl); k_whole)
  intro h₁ tk₁ cells hns hk₁ NC Y
  have K₁ : Kept envs s.heap h₁ := ⟨fun b o e _ _ => hk₁ b o e, fun b o e _ => ⟨o.slots, hk₁ b o e⟩⟩
  have L36 : 36 < s.heap.objs.size := Heap.lt_size t36
  refine hide fun P' hP' => ?_
  obtain ⟨cb, ce, cw, cf, rfl, hcb, hce, hcw, hcf⟩ := CellsAre.four (n₁ := Str.ofString "begin") (n₂ := Str.ofString "end") (n₃ := Str.ofString "wanted") (n₄ := Str.ofString "front") (c₁ := s.heap.objs.size + 1 + 1 + 1 + 1) (c₂ := s.heap.objs.size + 1 + 1 + 1) (c₃ := s.heap.objs.size + 1 + 1) (c₄ := s.heap.objs.size + 1) Y
  refine hP' ?_
  clear hP'
  replace hcf : cf.data = .cell (some (.str x tx)) := hcf
  replace hcw : cw.data = .cell none := hcw
  replace hce : ce.data = .cell none := hce
  replace hcb : cb.data = .cell none := hcb
  clear Y
  generalize hL : s.heap.objs.size = L at *
  have tab₁ : TabOk base h₁ := tab.keeps (fun o e => hk₁ _ _ e) fun b o _ _ _ e _ _ _ => hk₁ _ _ e
  refine hide fun P' hP' => ?_
  obtain ⟨q36, B, X', T', C', hq36, hN, new0, hbst⟩ := regr T0 H tab hL L36 K₁ tab₁
  refine hP' ?_
  clear hP'
  have F : Fr (gnd s.heap h₁ L) L h₁ _ := gnd_fr hns
  have e1 := NC _ (.head _)
  have e2 := NC _ (.tail _ (.head _))
  have e3 := NC _ (.tail _ (.tail _ (.head _)))
  have e4 := NC _ (.tail _ (.tail _ (.tail _ (.head _))))
  have N0 : News (gnd s.heap h₁ L) L h₁ ([(L + 1 + 1 + 1 + 1, cb), (L + 1 + 1 + 1, ce), (L + 1 + 1, cw), (L + 1, cf)] ++ (36, q36) :: restN s.heap h₁ L [36, L]) :=
    hN _ _ (news_one e1.1 e1.2.2 e1.2.1 (news_one e2.1 e2.2.2 e2.2.1 (news_one e3.1 e3.2.2 e3.2.1 (news_one e4.1 e4.2.2 e4.2.1 News.nil))))
  have N : News (gnd s.heap h₁ L) L h₁ [(L + 1 + 1 + 1 + 1, cb), (L + 1 + 1 + 1, ce), (L + 1 + 1, cw), (L + 1, cf), (36, q36)] := fun p hp => N0 p (List.mem_append.mpr ((List.mem_append (s := [(L + 1 + 1 + 1 + 1, cb), (L + 1 + 1 + 1, ce), (L + 1 + 1, cw), (L + 1, cf)]) (t := [(36, q36)])).mp hp |>.imp id fun h => by rw [List.mem_singleton.mp h]; exact .head _))
  clear NC N0
  w_strict (k_steps)
  refine Hold.of ?_
  rename Fr _ _ _ _ => F2
  rename News _ _ _ _ => N2
  have J0 : NewAt s.heap L x y (Str.ofString "") x.length none _ := ⟨stay_end hL hk₁ hq36 F2 N2 (.tail _ (.tail _ (.tail _ (.tail _ (.head _))))), ⟨_, _, F2.ns, rfl⟩, ⟨_, _, (newsAt N2 (.tail _ (.tail _ (.tail _ (.head _))))).1, hcf⟩, ⟨_, _, (newsAt N2 (.tail _ (.tail _ (.head _)))).1, by assumption⟩, ⟨_, _, (newsAt N2 (.tail _ (.head _))).1, by assumption⟩, ⟨_, (newsAt N2 (.head _)).1, hcb⟩⟩
  clear F2 N2 B X' T' C' hN new0 hbst e1 e2 e3 e4
  refine While_seal (fun n s' => ∃ word wt vb h tk, s' = { s with heap := h, toks := tk } ∧ NewAt s.heap L x wt word n vb h ∧ NewOk x y word wt n) ?turn x.length ⟨_, _, _, _, _, rfl, J0, NewOk.start hy hys hy0⟩
  case turn =>
    intro e s' rx1 Q1 Q10 E1 hE1 hQ1 hQ10
    refine hide fun P' hP' => ?_
    obtain ⟨word, wt, vb, h, tk, rfl, J, ok⟩ := rx1
    have he := ok.le
    have hwl := ok.wl
    obtain ⟨q36, tw, tf, te, twt, cb, ce, cw, cf, mm, B, X', T', C', hq36, F, N, hcf, hcw, hce, hcb, new0⟩ := J.go T0 H tab hL L36
    refine hP' ?_
    clear hP'
    try dsimp only
    w_strict (k_steps)
    refine Hold.of ?_
    rename Fr _ _ _ _ => F3
    rename News _ _ _ _ => N3
    have J3 : NewAt s.heap L x wt word e (some (.int (e : Nat) te)) _ := J.of hL hq36 F3 N3 (.head _) (.tail _ (.head _)) (.tail _ (.tail _ (.head _))) (.tail _ (.tail _ (.tail _ (.head _)))) (.tail _ (.tail _ (.tail _ (.tail _ (.head _))))) rfl hcf hcw hce (by assumption)
    clear F3 N3 B X' T' C' new0
    refine wpAny_mono (While_seal (Q := Left fun s' => ∃ b t h tk, s' = { s with heap := h, toks := tk } ∧ b = bdown x.cps.toList wt.cps.toList e e ∧ NewAt s.heap L x wt word e (some (.int (b : Nat) t)) h) (fun n s' => ∃ t h tk, s' = { s with heap := h, toks := tk } ∧ n ≤ e ∧ bdown x.cps.toList wt.cps.toList e n = bdown x.cps.toList wt.cps.toList e e ∧ NewAt s.heap L x wt word e (some (.int (n : Nat) t)) h) ?turn2 e ⟨_, _, _, rfl, Nat.le_refl _, rfl, J3⟩) ?after fun _ _ x => x
    case turn2 =>
      intro b s' rx2 Q2 Q20 E2 hE2 hQ2 hQ20
      refine hide fun P' hP' => ?_
      obtain ⟨tb, h, tk, rfl, hbe, hbd, J4⟩ := rx2
      obtain ⟨q36, tw, tf, te, twt, cb, ce, cw, cf, mm, B, X', T', C', hq36, F, N, hcf, hcw, hce, hcb, new0⟩ := J4.go T0 H tab hL L36
      refine hP' ?_
      clear hP'
      w_strict (k_steps)
      · rename 0 < (_ : Int) => hb0
        refine Hold.of ?_
        refine ListComp_at (cl := [(Str.ofString "front", L + 1), (Str.ofString "end", L + 1 + 1 + 1), (Str.ofString "begin", L + 1 + 1 + 1 + 1)]) (signTest fun c => decide (c ∉ seg x.cps.toList b e)) (fun v y => v = y) (by rfl) (by decide) rfl (by decide) rfl ?_
        w_strict (k_steps)
        refine Hold.of ?_
        refine sign_comp (fun c => decide (c ∉ seg x.cps.toList b e)) (ascii_of ok.ws) rfl (by rw [sizeLine_eq]; simp only [Str.length] at hwl; omega) (fun C s m v Q E hns hv h => wpAny_Name (wpAny_loadName_local rfl rfl hns hv h) rfl) ?test ?done
        case test =>
          intro C k a u s₃ m₃ E' hC hk hns₃ hm hst
          have F : Fr (gnd s.heap h L) C s₃.heap (fun y => if y = Str.ofString "sign" then some (.str ⟨#[a]⟩ u) else m₃ y) :=
            ⟨ns_kst hns₃ [(Str.ofString "sign", .str ⟨#[a]⟩ u)] (fun p hp => by rw [List.mem_singleton.mp hp]; exact hm), fun b o e => hst b o (F.keep b o e), Nat.le_trans F.above (Nat.le_of_lt (Nat.lt_trans F.ns.lt hC))⟩
          have N : News (gnd s.heap h L) C s₃.heap [(L + 1 + 1 + 1 + 1, cb), (L + 1 + 1 + 1, ce), (L + 1 + 1, cw), (L + 1, cf), (36, q36)] := fun p hp =>
            ⟨hst _ _ (N p hp).1, Nat.ne_of_lt (Nat.lt_trans (Heap.lt_size (N p hp).1) hC), (N p hp).2.2⟩
          refine hide fun P' hP' => ?_
          obtain ⟨hp3, g3, d3, tk3, os3⟩ := s₃
          refine hP' ?_
          clear hP'
          w_strict (k_steps)
          all_goals (first | (show Addr; exact 0) | (show Str; exact Str.empty) | (show Value; exact .none) | (show List (Str × Addr); exact []) | skip)
          refine Hold.of ?_
          rename Fr _ _ _ _ => F5
          rename News _ _ _ _ => N5
          refine slice_stay (s := ⟨_, _, _, _, _⟩) F5 N5 (fun _ _ e => e) (fun h5 t5 k5 F N hG => ?_) (by rw [sizeLine_eq]; omega)
          w_strict (k_steps)
          refine Hold.of ⟨?_, ⟨_, _, rfl, hG⟩⟩
          rw [occ_none, slice_seg hbe he]
          simp
        case done =>
          intro D h' tk' ys hD hpl hS hst
          have F6ns := F.ns
          have F : Fr (gnd s.heap h L) L h' _ := F.kept hst
          have N0 : News (gnd s.heap h L) L h' [(L + 1 + 1 + 1 + 1, cb), (L + 1 + 1 + 1, ce), (L + 1 + 1, cw), (L + 1, cf), (36, q36)] := fun p hp => ⟨hst _ _ (N p hp).1, (N p hp).2⟩
          clear N
          obtain ⟨nD, hpl⟩ := hpl
          have N : News (gnd s.heap h L) L h' [(D, W.listOf ys.toArray nD), (L + 1 + 1 + 1 + 1, cb), (L + 1 + 1 + 1, ce), (L + 1 + 1, cw), (L + 1, cf), (36, q36)] := news_fresh hD F6ns hpl N0
          clear N0
          dsimp only
          w_strict (k_steps)
          refine Hold.of ?_
          rename Fr _ _ _ _ => F6
          rename News _ _ _ _ => N6
          have N7 : News (gnd s.heap h L) L _ [(L + 1 + 1 + 1 + 1, cb), (L + 1 + 1 + 1, ce), (L + 1 + 1, cw), (L + 1, cf), (36, q36)] := fun p hp => N6 p (.tail _ (.tail _ hp))
          refine ne_nil_strs (ok_signs fun c hc => ok.ws c (List.mem_filter.mp hc).1) ⟨_, (newsAt N6 (.tail _ (.head _))).1, rfl, _, rfl⟩ ⟨_, (newsAt N6 (.head _)).1, rfl, _, rfl⟩ hS u1 ?_
          clear N6
          w_strict (k_steps)
          · rename List.map _ _ = _ => hnil
            rename Fr _ _ _ _ => F8
            rename News _ _ _ _ => N8
            refine hQ20 _ (show Left _ _ _ from ⟨rfl, b, tb, _, _, rfl, ?_, J4.of hL hq36 F8 N8 (.head _) (.tail _ (.head _)) (.tail _ (.tail _ (.head _))) (.tail _ (.tail _ (.tail _ (.head _)))) (.tail _ (.tail _ (.tail _ (.tail _ (.head _))))) rfl hcf hcw hce hcb⟩)
            rw [← hbd, bdown_stop (.inr ?_)]
            exact List.map_eq_nil_iff.mp hnil
          · rename ¬ List.map _ _ = _ => hnil
            rename Fr _ _ _ _ => F8
            rename News _ _ _ _ => N8
            have e8 : (b : Int) - 1 = ((b - 1 : Nat) : Int) := by omega
            refine hQ2 .next _ ?_
            dsimp only [WhilePost]
            refine ⟨b - 1, by omega, _, _, _, rfl, by omega, ?_, J4.of hL hq36 F8 N8 (.head _) (.tail _ (.head _)) (.tail _ (.tail _ (.head _))) (.tail _ (.tail _ (.tail _ (.head _)))) (.tail _ (.tail _ (.tail _ (.tail _ (.head _))))) rfl hcf hcw hce (by rw [← e8]; assumption)⟩
            rw [← hbd, bdown_step (b := b) (by omega) fun hn => hnil (List.map_eq_nil_iff.mpr hn)]
      · rename ¬ 0 < (_ : Int) => hb0
        rename Fr _ _ _ _ => F6
        rename News _ _ _ _ => N6
        refine hQ20 _ (show Left _ _ _ from ⟨rfl, b, tb, _, _, rfl, by rw [← hbd, bdown_stop (.inl (by omega))], ?_⟩)
        exact J4.of hL hq36 F6 N6 (.head _) (.tail _ (.head _)) (.tail _ (.tail _ (.head _))) (.tail _ (.tail _ (.tail _ (.head _)))) (.tail _ (.tail _ (.tail _ (.tail _ (.head _))))) rfl hcf hcw hce hcb
    case after =>
      intro f s' rx3
      refine hide fun P' hP' => ?_
      obtain ⟨rfl, b, tb, h, tk, rfl, hb, J5⟩ := rx3
      have hbe : b ≤ e := hb ▸ bdown_le e
      obtain ⟨q36, tw, tf, te, twt, cb, ce, cw, cf, mm, B, X', T', C', hq36, F, N, hcf, hcw, hce, hcb, new0⟩ := J5.go T0 H tab hL L36
      refine hP' ?_
      clear hP'
      w_strict (k_steps)
      refine Hold.of ?_
      refine AssignComp_at (cl := [(Str.ofString "wanted", L + 1 + 1), (Str.ofString "front", L + 1), (Str.ofString "end", L + 1 + 1 + 1), (Str.ofString "begin", L + 1 + 1 + 1 + 1)]) (signTest fun c => decide (c ∈ wt.cps.toList ∧ c ∉ seg x.cps.toList b e)) (fun v y => v = y) (by rfl) (by rfl) (by decide) rfl (by decide) rfl rfl rfl ?_
      w_strict (k_steps)
      refine Hold.of ?_
      refine sign_set (fun c => decide (c ∈ wt.cps.toList ∧ c ∉ seg x.cps.toList b e)) (by decide +kernel) rfl (by decide +kernel) F.ns (fun C s m v Q E hns hv h => wpAny_Name (wpAny_loadName_local rfl rfl hns hv h) rfl) ?test3 ?done3
      case test3 =>
        intro C k a u s₃ m₃ E' hC hk hns₃ hm hst
        have F : Fr (gnd s.heap h L) C s₃.heap (fun y => if y = Str.ofString "sign" then some (.str ⟨#[a]⟩ u) else m₃ y) :=
          ⟨ns_kst hns₃ [(Str.ofString "sign", .str ⟨#[a]⟩ u)] (fun p hp => by rw [List.mem_singleton.mp hp]; exact hm), fun b o e => hst b o (F.keep b o e), Nat.le_trans F.above (Nat.le_of_lt (Nat.lt_trans F.ns.lt hC))⟩
        have N : News (gnd s.heap h L) C s₃.heap [(L + 1 + 1 + 1 + 1, cb), (L + 1 + 1 + 1, ce), (L + 1 + 1, cw), (L + 1, cf), (36, q36)] := fun p hp =>
          ⟨hst _ _ (N p hp).1, Nat.ne_of_lt (Nat.lt_trans (Heap.lt_size (N p hp).1) hC), (N p hp).2.2⟩
        refine hide fun P' hP' => ?_
        obtain ⟨hp3, g3, d3, tk3, os3⟩ := s₃
        refine hP' ?_
        clear hP'
        w_strict (k_steps)
        all_goals (first | (show Addr; exact 0) | (show Str; exact Str.empty) | (show Value; exact .none) | (show List (Str × Addr); exact []) | skip)
        · rename List.isEmpty _ = true => hem
          refine Hold.of ⟨?_, ⟨_, _, rfl, fun _ _ e => e⟩⟩
          rw [occ_none] at hem
          have hnot := of_decide_eq_true hem
          exact (decide_eq_false fun q => hnot q.1).symm
        · rename List.isEmpty _ = false => hem
          refine Hold.of ?_
          refine slice_stay (s := ⟨_, _, _, _, _⟩) F N (fun _ _ e => e) (fun h5 t5 k5 F N hG => ?_) (by rw [sizeLine_eq]; omega)
          rw [occ_none] at hem
          have hin : a ∈ wt.cps.toList := Classical.not_not.mp (of_decide_eq_false hem)
          w_strict (k_steps)
          all_goals (refine Hold.of ⟨?_, ⟨_, _, rfl, hG⟩⟩)
          all_goals (rename List.isEmpty _ = _ => hem2; rw [occ_none, slice_seg hbe he] at hem2)
          · exact (decide_eq_true ⟨hin, of_decide_eq_true hem2⟩).symm
          · exact (decide_eq_false fun q => of_decide_eq_false hem2 q.2).symm
      case done3 =>
        intro D h' tk' ys hD hpl hS hns' hst
        have F6ns := F.ns
        have F : Fr (gnd s.heap h L) L h' (fun q => if q = Str.ofString "lacking" then some (.ref D) else if q = Str.ofString "word" then some (.str word tw) else mm q) := ⟨hns', fun b o e => hst b o (Nat.ne_of_lt (gnd_of e).2) (F.keep b o e), F.above⟩
        have N0 : News (gnd s.heap h L) L h' [(L + 1 + 1 + 1 + 1, cb), (L + 1 + 1 + 1, ce), (L + 1 + 1, cw), (L + 1, cf), (36, q36)] := fun p hp => ⟨hst _ _ (N p hp).2.1 (N p hp).1, (N p hp).2⟩
        clear N
        obtain ⟨nD, hpl⟩ := hpl
        have N : News (gnd s.heap h L) L h' [(D, W.listOf ys.toArray nD), (L + 1 + 1 + 1 + 1, cb), (L + 1 + 1 + 1, ce), (L + 1 + 1, cw), (L + 1, cf), (36, q36)] := news_fresh hD F6ns hpl N0
        clear N0
        dsimp only
        w_strict (k_steps)
        refine Hold.of ?_
        rename Fr _ _ _ _ => F6
        rename News _ _ _ _ => N6
        have N7 : News (gnd s.heap h L) L _ [(D, W.listOf ys.toArray nD), (L + 1 + 1 + 1 + 1, cb), (L + 1 + 1 + 1, ce), (L + 1 + 1, cw), (L + 1, cf), (36, q36)] := fun p hp => N6 p (.tail _ hp)
        have h4 : (Str.ofString "-rwx").cps.toList = fourSigns := by decide +kernel
        rw [h4] at hS
        generalize hl : List.filter _ fourSigns = lk at hS
        replace hl : lackAt x.cps.toList wt.cps.toList b e = lk := hl
        rw [hb] at hl
        have hok : StrsOk (List.map (fun a => (⟨#[a]⟩ : Str)) lk) := ok_signs fun c hc => by rw [← hl] at hc; exact (List.mem_filter.mp hc).1
        refine ne_nil_strs hok ⟨_, (newsAt N6 (.tail _ (.head _))).1, rfl, _, rfl⟩ ⟨_, (newsAt N6 (.head _)).1, rfl, _, rfl⟩ hS u1 ?_
        clear N6
        have hwd := ok.wd
        cases lk with
        | nil =>
          have e0 : (!decide (List.map (fun a => (⟨#[a]⟩ : Str)) ([] : List Nat) = [])) = false := rfl
          rw [e0]
          refine hide fun P' hP' => ?_
          obtain ⟨hlt, hnext, hne, hin⟩ := newAt_next (word := word.cps.toList) hl ok.w0 ok.ws
          refine hP' ?_
          clear hP'
          rw [← hb] at hlt hnext hne hin
          w_strict (k_steps)
          refine Hold.of ?_
          refine KXi.item (n := x.length) rfl (by omega) (by omega) (by omega) ?_
          intro h1
          have hwd1 : word.length ≤ 100 := by omega
          w_strict (k_steps)
          refine Hold.of ?_
          rename Fr _ _ _ _ => F5
          rename News _ _ _ _ => N5
          refine slice_stay (s := ⟨_, _, _, _, _⟩) F5 (fun p hp => N5 p (.tail _ hp)) (fun _ _ e => e) (fun h5 t5 k5 F N _ => ?_) (by rw [sizeLine_eq]; omega)
          clear F5 N5
          w_strict (k_steps)
          rename Fr _ _ _ _ => F9
          rename News _ _ _ _ => N9
          refine hQ1 .next _ ?_
          dsimp only [WhilePost]
          refine ⟨b, hlt, Txt.item x b ++ word, Txt.slice x (some (b : Int)) (some (e : Int)), _, _, _, rfl, J5.of hL hq36 F9 N9 (.head _) (.tail _ (.head _)) (.tail _ (.tail _ (.head _))) (.tail _ (.tail _ (.tail _ (.head _)))) (.tail _ (.tail _ (.tail _ (.tail _ (.head _))))) rfl hcf (by assumption) (by assumption) hcb, ?_⟩
          exact ok.next hx hxs hlt hnext hne
        | cons c r =>
          have e0 : (!decide (List.map (fun a => (⟨#[a]⟩ : Str)) (c :: r) = [])) = true := rfl
          rw [e0]
          have hret := newAt_ret (word := word.cps.toList) hl
          w_strict (k_steps)
          refine Hold.of ?_
          rename Fr _ _ _ _ => F8
          rename News _ _ _ _ => N8
          refine item_str (x := ⟨#[c]⟩) ⟨_, (newsAt N8 (.head _)).1, rfl, _, rfl⟩ hS (by omega) (by omega) (by simp) ?_
          intro t8
          have h1 : (⟨#[c]⟩ : Str).length = 1 := rfl
          have hwd1 : word.length ≤ 100 := by omega
          w_strict (k_steps)
          rename Fr _ _ _ _ => F9
          rename News _ _ _ _ => N9
          refine hQ1 _ _ ?_
          refine ret _ _ _ _ (stay_end hL J5.st hq36 F9 N9 (.tail _ (.tail _ (.tail _ (.tail _ (.tail _ (.head _))))))) ?_
          rw [← ok.eq, hret]
          show (#[c] ++ word.cps).toList = _
          simp
end
end Mine
end
section
/- Simon: the word of newAt is new, and no shorter word is -/
namespace Mine
open List
theorem sub_snoc {p l m : List Nat} {a : Nat} (h : a ∉ m) : p ++ [a] <+ l ++ a :: m ↔ p <+ l := by
  constructor
  · intro s
    refine hide fun P' hP' => ?_
    obtain ⟨v1, v2, e, s1, s2⟩ := List.sublist_append_iff.mp s
    refine hP' ?_
    clear hP'
    rcases List.eq_nil_or_concat v2 with rfl | ⟨v2', c, rfl⟩ <;> try rw [List.concat_eq_append] at *
    · rw [List.append_nil] at e
      subst e
      exact (List.sublist_append_left p [a]).trans s1
    · rw [← List.append_assoc] at e
      obtain ⟨e1, e2⟩ := List.append_inj' e rfl
      simp only [List.cons.injEq, and_true] at e2
      subst e2
      have hv : v2' = [] := by
        cases v2' with
        | nil => rfl
        | cons d r =>
          exfalso
          have s3 : r ++ [a] <+ m := by
            rw [List.cons_append] at s2
            cases s2 with
            | cons _ q => exact (List.sublist_cons_self _ _).trans q
            | cons_cons _ q => exact q
          exact h (s3.subset (by simp))
      subst hv
      rw [e1, List.append_nil]
      exact s1
  · intro s
    exact List.Sublist.append s (by simp)
inductive Ladder : Nat → List Nat → List Nat → Prop
  | zero {f w : List Nat} : Ladder 0 f w
  | succ {k : Nat} {g st w : List Nat} : (∀ c ∈ w, c ∈ st) → Ladder k g st → Ladder (k + 1) (g ++ st) w
theorem Ladder.old {k : Nat} {f w : List Nat} (h : Ladder k f w) : ∀ {b v : List Nat}, (∀ c ∈ b, c ∈ w) → v.length ≤ k → v <+ f ++ b → v <+ f := by
  induction h with
  | zero =>
    intro b v _ hv _
    rw [List.length_eq_zero_iff.mp (Nat.le_zero.mp hv)]
    exact List.nil_sublist _
  | @succ k g st w hw _ ih =>
    intro b v hb hv s
    refine hide fun P' hP' => ?_
    obtain ⟨v1, v2, e, s1, s2⟩ := List.sublist_append_iff.mp s
    refine hP' ?_
    clear hP'
    rcases List.eq_nil_or_concat v2 with rfl | ⟨v2', c, rfl⟩ <;> try rw [List.concat_eq_append] at *
    · rw [List.append_nil] at e
      rw [e]; exact s1
    · have hc : c ∈ b := s2.subset (by simp)
      have s3 : v1 ++ v2' <+ g ++ (st ++ b) := by
        rw [← List.append_assoc]
        exact List.Sublist.append s1 ((List.sublist_append_left v2' [c]).trans s2)
      have hl : (v1 ++ v2').length ≤ k := by
        rw [e] at hv
        simp only [List.length_append, List.length_cons, List.length_nil] at hv ⊢
        omega
      have := ih (b := st ++ b) (fun d hd => (List.mem_append.mp hd).elim id fun hd => hw d (hb d hd)) hl s3
      rw [e, ← List.append_assoc]
      exact List.Sublist.append this (List.singleton_sublist.mpr (hw c (hb c hc)))
structure NewInv (f b word w : List Nat) (e : Nat) : Prop where
  le : e ≤ f.length
  past : ∀ p, p ++ word <+ f ↔ p <+ f.take e
  next : ∀ c ∈ w, c :: word <+ f.drop e ++ b
  rungs : ∀ s, Ladder s (f.take e) w → Ladder (s + word.length) f b
  ws : ∀ c ∈ w, c ∈ fourSigns
  w0 : w ≠ []
theorem bdown_fit {f w : List Nat} {e : Nat} : ∀ b, bdown f w e b = 0 ∨ needs f w (bdown f w e b) e = []
  | 0 => .inl rfl
  | b + 1 => by
    unfold bdown
    split
    · rename_i h; exact .inr h
    · exact bdown_fit b
theorem bdown_more {f w : List Nat} {e : Nat} : ∀ b, bdown f w e b < b → needs f w (bdown f w e b + 1) e ≠ []
  | 0 => fun h => absurd h (Nat.not_lt_zero _)
  | b + 1 => by
    unfold bdown
    split
    · intro h; omega
    · rename_i h
      intro _
      rcases Nat.lt_or_ge (bdown f w e b) b with q | q
      · exact bdown_more b q
      · have := bdown_le (f := f) (w := w) (e := e) b
        rw [show bdown f w e b = b by omega]
        exact h
theorem seg_split {f : List Nat} {b e : Nat} (h : b ≤ e) : f.take e = f.take b ++ seg f b e := by
  unfold seg
  have h1 : (f.take e).take b = f.take b := by rw [List.take_take, Nat.min_eq_left h]
  rw [← h1, List.take_append_drop]
theorem seg_cons {f : List Nat} {b e : Nat} (h : b < e) (he : e ≤ f.length) : seg f b e = f[b]?.getD 0 :: seg f (b + 1) e := by
  unfold seg
  have hl : b < (f.take e).length := by rw [List.length_take]; omega
  rw [List.drop_eq_getElem_cons hl, List.getElem_take, List.getElem?_eq_getElem (by omega)]
  rfl
theorem needs_nil {f w : List Nat} {b e : Nat} (h : needs f w b e = []) : ∀ c ∈ w, c ∈ seg f b e := fun c hc => by
  have := List.filter_eq_nil_iff.mp h c hc
  simpa using this
theorem needs_ne {f w : List Nat} {b e : Nat} (h : needs f w b e ≠ []) : ∃ c ∈ w, c ∉ seg f b e := by
  refine hide fun P' hP' => ?_
  obtain ⟨c, r, q⟩ := List.exists_cons_of_ne_nil h
  have : c ∈ needs f w b e := by rw [q]; exact .head _
  obtain ⟨h1, h2⟩ := List.mem_filter.mp this
  refine hP' ?_
  clear hP'
  exact ⟨c, h1, by simpa using h2⟩
theorem NewInv.fin {f b : List Nat} (hf : ∀ c ∈ f, c ∈ fourSigns) : ∀ (e : Nat) (word w : List Nat), NewInv f b word w e →
    (newAt f word w e <+ f ++ b ∧ ¬ newAt f word w e <+ f ∧ ∀ v, v.length < (newAt f word w e).length → v <+ f ++ b → v <+ f) := by
  intro e
  induction e using Nat.strongRecOn with
  | ind e ih =>
    intro word w I
    cases hl : lackAt f w (bdown f w e e) e with
    | cons c r =>
      rw [newAt_ret hl]
      have hc : c ∈ lackAt f w (bdown f w e e) e := by rw [hl]; exact .head _
      refine hide fun P' hP' => ?_
      obtain ⟨_, hc2⟩ := List.mem_filter.mp hc
      obtain ⟨hcw, hcs⟩ := of_decide_eq_true hc2
      refine hP' ?_
      clear hP'
      have h0 : bdown f w e e = 0 := by
        rcases bdown_fit (f := f) (w := w) (e := e) e with h | h
        · exact h
        · exact absurd (needs_nil h c hcw) hcs
      rw [h0] at hcs
      have hce : c ∉ f.take e := by simpa [seg] using hcs
      refine ⟨?_, fun s => ?_, fun v hv s => ?_⟩
      · exact (I.next c hcw).trans (List.Sublist.append (List.drop_sublist _ _) (List.Sublist.refl _))
      · have := (I.past [c]).mp s
        exact hce (List.singleton_sublist.mp this)
      · have L := I.rungs 0 .zero
        rw [Nat.zero_add] at L
        exact L.old (fun _ h => h) (by simpa [Nat.lt_succ_iff] using hv) s
    | nil =>
      refine hide fun P' hP' => ?_
      obtain ⟨hlt, hnext, hne, hin⟩ := newAt_next (word := word) hl I.w0 I.ws
      refine hP' ?_
      clear hP'
      rw [hnext]
      have hle := I.le
      generalize hB : bdown f w e e = B at *
      have hsc := seg_cons (f := f) hlt hle
      have hmore := bdown_more (f := f) (w := w) (e := e) e (by rw [hB]; exact hlt)
      rw [hB] at hmore
      refine hide fun P' hP' => ?_
      obtain ⟨c, hcw, hcn⟩ := needs_ne hmore
      refine hP' ?_
      clear hP'
      have hca : c = f[B]?.getD 0 := by
        have := hin c hcw
        rw [hsc] at this
        rcases List.mem_cons.mp this with h | h
        · exact h
        · exact absurd h hcn
      rw [hca] at hcw hcn
      generalize ha : f[B]?.getD 0 = a at *
      have hsp := seg_split (f := f) (Nat.le_of_lt hlt)
      refine ih B hlt (a :: word) (seg f B e) ⟨by omega, fun p => ?_, fun d hd => ?_, fun s L => ?_, fun d hd => ?_, hne⟩
      · have := I.past (p ++ [a])
        rw [List.append_assoc] at this
        rw [show p ++ a :: word = p ++ ([a] ++ word) from rfl, this, hsp, hsc, sub_snoc hcn]
      · have h1 : f.drop B = seg f B e ++ f.drop e := by
          have h2 : f.take B ++ f.drop B = f.take B ++ (seg f B e ++ f.drop e) := by
            rw [List.take_append_drop, ← List.append_assoc, ← hsp, List.take_append_drop]
          exact List.append_cancel_left h2
        rw [h1, List.append_assoc]
        exact List.Sublist.append (List.singleton_sublist.mpr hd) (I.next a hcw)
      · have := I.rungs (s + 1) (by rw [hsp]; exact .succ hin L)
        rw [List.length_cons, show s + (word.length + 1) = s + 1 + word.length by omega]
        exact this
      · exact hf d (List.mem_of_mem_take (List.mem_of_mem_drop hd))
theorem simon {f b : List Nat} (hf : ∀ c ∈ f, c ∈ fourSigns) (hb : ∀ c ∈ b, c ∈ fourSigns) (b0 : b ≠ []) :
    newAt f [] b f.length <+ f ++ b ∧ ¬ newAt f [] b f.length <+ f ∧ ∀ v, v.length < (newAt f [] b f.length).length → v <+ f ++ b → v <+ f :=
  NewInv.fin hf _ _ _ ⟨Nat.le_refl _, fun p => by simp, fun c hc => by simpa using hc, fun s L => by simpa using L, hb, b0⟩
end Mine
end
section
open PySem PySem.W PyProof.Rows
set_option Elab.async false
namespace Mine
/-- the letters of a text -/
abbrev lt (x : Str) : List Nat := x.cps.toList
theorem lt_inj {a b : Str} (h : lt a = lt b) : a = b := by
  obtain ⟨⟨a⟩⟩ := a
  obtain ⟨⟨b⟩⟩ := b
  simp only [lt] at h
  rw [h]
theorem lt_app (a b : Str) : lt (a ++ b) = lt a ++ lt b := by
  show (a.cps ++ b.cps).toList = _
  rw [Array.toList_append]
theorem lt_sg (c : Nat) : lt (sg c) = [c] := rfl
theorem lt_len (a : Str) : (lt a).length = a.length := by simp [lt, Str.length]
theorem cons_sub {c : Nat} {p r v : List Nat} (h : c ∉ p) : List.Sublist (c :: v) (p ++ c :: r) ↔ List.Sublist v r := by
  constructor
  · intro s
    induction p with
    | nil =>
      cases s with
      | cons _ q => exact (List.sublist_cons_self _ _).trans q
      | cons_cons _ q => exact q
    | cons d p ih =>
      simp only [List.mem_cons, not_or] at h
      cases s with
      | cons _ q => exact ih h.2 q
      | cons_cons _ q => exact absurd rfl h.1
  · intro s
    exact (List.Sublist.cons_cons c s).trans (List.sublist_append_right p _)
theorem drop_first {l : List Nat} {p k c : Nat} (hp : p ≤ k) (hk : l[k]? = some c) (hn : ∀ j, p ≤ j → j < k → l[j]? ≠ some c) : ∃ q, c ∉ q ∧ l.drop p = q ++ c :: l.drop (k + 1) := by
  have hkl : k < l.length := (List.getElem?_eq_some_iff.mp hk).1
  refine ⟨(l.drop p).take (k - p), fun hm => ?_, ?_⟩
  · refine hide fun P' hP' => ?_
    obtain ⟨j, hj, e⟩ := List.mem_iff_getElem.mp hm
    refine hP' ?_
    clear hP'
    rw [List.length_take, List.length_drop] at hj
    rw [List.getElem_take, List.getElem_drop] at e
    exact hn (p + j) (by omega) (by omega) (by rw [List.getElem?_eq_getElem (by omega), e])
  · conv => lhs; rw [← List.take_append_drop (k - p) (l.drop p)]
    rw [List.drop_drop, show p + (k - p) = k by omega, List.drop_eq_getElem_cons hkl]
    congr 2
    have := (List.getElem?_eq_some_iff.mp hk).2
    exact this
theorem step_iff {x : Str} {d : Str × Int} {c : Nat} (h0 : 0 ≤ d.2) (h1 : d.2 ≤ x.length) (v : List Nat) :
    (∀ e, stepOne x d c = some e → (List.Sublist (c :: v) ((lt x).drop d.2.toNat) ↔ List.Sublist v ((lt x).drop e.2.toNat))) ∧ (stepOne x d c = none → ¬ List.Sublist (c :: v) ((lt x).drop d.2.toNat)) := by
  refine ⟨fun e h => ?_, fun h s => ?_⟩
  · refine hide fun P' hP' => ?_
    obtain ⟨k, a1, a2, a3, a4, a5, rfl⟩ := stepOne_some h0 h1 h
    obtain ⟨q, hq, e⟩ := drop_first a1 a3 a4
    refine hP' ?_
    clear hP'
    rw [show (lt x).drop d.2.toNat = _ from e, cons_sub hq]
    have : (((d.1 ++ sg c, (k : Int) + 1) : Str × Int).2).toNat = k + 1 := by dsimp only; omega
    rw [this]
  · refine hide fun P' hP' => ?_
    obtain ⟨_, hn⟩ := stepOne_none h0 h1 h
    have hm : c ∈ (lt x).drop d.2.toNat := s.subset (.head _)
    obtain ⟨j, hj, e⟩ := List.mem_iff_getElem.mp hm
    refine hP' ?_
    clear hP'
    rw [List.getElem_drop] at e
    exact hn (d.2.toNat + j) (by omega) (by rw [List.getElem?_eq_getElem (by rw [List.length_drop] at hj; simp only [lt] at hj ⊢; omega)]; exact congrArg some e)
theorem level_sub (x : Str) : ∀ (k : Nat) (d : Str × Int), d ∈ levelAt x k → ∀ v, (List.Sublist (lt d.1 ++ v) (lt x) ↔ List.Sublist v ((lt x).drop d.2.toNat))
  | 0, d, h, v => by
    rw [List.mem_singleton.mp h]
    have : lt (Str.ofString "") = [] := by decide +kernel
    rw [this]
    simp
  | k + 1, d, h, v => by
    refine hide fun P' hP' => ?_
    obtain ⟨e, he, hd⟩ := List.mem_flatMap.mp h
    obtain ⟨h0, h1, _⟩ := level_ok x k e he
    obtain ⟨c, hc, hs⟩ := List.mem_filterMap.mp hd
    refine hP' ?_
    clear hP'
    rw [← ((step_iff h0 h1 v).1 d hs), ← level_sub x k e he (c :: v)]
    refine hide fun P' hP' => ?_
    obtain ⟨_, _, _, _, _, _, rfl⟩ := stepOne_some h0 h1 hs
    refine hP' ?_
    clear hP'
    dsimp only
    rw [lt_app, lt_sg, List.append_assoc]; rfl
theorem level_all (x : Str) : ∀ (k : Nat) (u : List Nat), u.length = k → (∀ c ∈ u, c ∈ signs) → List.Sublist u (lt x) → ∃ d ∈ levelAt x k, lt d.1 = u
  | 0, u, hl, _, _ => ⟨_, .head _, by
    rw [List.length_eq_zero_iff.mp hl]
    show lt (Str.ofString "") = []
    decide +kernel⟩
  | k + 1, u, hl, hs, hsub => by
    rcases List.eq_nil_or_concat u with rfl | ⟨u', c, rfl⟩
    · simp at hl
    rw [List.concat_eq_append] at *
    have hl' : u'.length = k := by simpa using hl
    refine hide fun P' hP' => ?_
    obtain ⟨d, hd, e⟩ := level_all x k u' hl' (fun a ha => hs a (by simp [ha])) ((List.sublist_append_left _ _).trans hsub)
    obtain ⟨h0, h1, _⟩ := level_ok x k d hd
    refine hP' ?_
    clear hP'
    rw [← e, level_sub x k d hd] at hsub
    cases q : stepOne x d c with
    | none => exact absurd hsub ((step_iff h0 h1 []).2 q)
    | some e' =>
      refine ⟨e', List.mem_flatMap.mpr ⟨d, hd, List.mem_filterMap.mpr ⟨c, hs c (by simp), q⟩⟩, ?_⟩
      refine hide fun P' hP' => ?_
      obtain ⟨_, _, _, _, _, _, rfl⟩ := stepOne_some h0 h1 q
      refine hP' ?_
      clear hP'
      dsimp only
      rw [lt_app, lt_sg, e]
theorem snoc_slt {a b : Str} {c d : Nat} (h : slt a b) (hl : a.length = b.length) : slt (a ++ sg c) (b ++ sg d) := by
  have key : ∀ (a b : List Nat), a < b → a.length = b.length → a ++ [c] < b ++ [d] := by
    intro a
    induction a with
    | nil => intro b h hl; cases b with
      | nil => exact absurd h (List.lt_irrefl _)
      | cons _ _ => simp at hl
    | cons x a ih => intro b h hl; cases b with
      | nil => simp at hl
      | cons y b =>
        rw [List.cons_lt_cons_iff] at h
        rw [List.cons_append, List.cons_append, List.cons_lt_cons_iff]
        rcases h with h | ⟨h1, h2⟩
        · exact .inl h
        · exact .inr ⟨h1, ih b h2 (by simpa using hl)⟩
  have := key (lt a) (lt b) h (by rw [lt_len, lt_len, hl])
  show lt (a ++ sg c) < lt (b ++ sg d)
  rw [lt_app, lt_app]; exact this
theorem lt_more {a b : Str} {c : Nat} (h : slt a b) (hl : a.length = b.length) : slt (a ++ sg c) b := by
  have key : ∀ (a b : List Nat), a < b → a.length = b.length → a ++ [c] < b := by
    intro a
    induction a with
    | nil => intro b h hl; cases b with
      | nil => exact absurd h (List.lt_irrefl _)
      | cons _ _ => simp at hl
    | cons x a ih => intro b h hl; cases b with
      | nil => simp at hl
      | cons y b =>
        rw [List.cons_lt_cons_iff] at h
        rw [List.cons_append, List.cons_lt_cons_iff]
        rcases h with h | ⟨h1, h2⟩
        · exact .inl h
        · exact .inr ⟨h1, ih b h2 (by simpa using hl)⟩
  have := key (lt a) (lt b) h (by rw [lt_len, lt_len, hl])
  show lt (a ++ sg c) < lt b
  rw [lt_app]; exact this
theorem snoc_slt' {a : Str} {c d : Nat} (h : c < d) : slt (a ++ sg c) (a ++ sg d) := by
  show lt (a ++ sg c) < lt (a ++ sg d)
  rw [lt_app, lt_app, lt_sg, lt_sg]
  induction lt a with
  | nil => exact List.cons_lt_cons_iff.mpr (.inl h)
  | cons x l ih => exact List.cons_lt_cons_iff.mpr (.inr ⟨rfl, ih⟩)
theorem stepOne_fst {x : Str} {d e : Str × Int} {c : Nat} (h : stepOne x d c = some e) : e.1 = d.1 ++ sg c := by
  unfold stepOne at h
  split at h
  · cases h
  · cases h; rfl
theorem level_up (x : Str) : ∀ k : Nat, (levelAt x k).Pairwise fun d e => slt d.1 e.1
  | 0 => List.pairwise_singleton _ _
  | k + 1 => by
    show ((levelAt x k).flatMap (stepAll x)).Pairwise fun d e : Str × Int => slt d.1 e.1
    rw [List.pairwise_flatMap]
    refine ⟨fun d hd => ?_, ?_⟩
    · unfold stepAll
      rw [List.pairwise_filterMap]
      have hs : signs.Pairwise (· < ·) := by decide
      refine hs.imp fun {a b} hab e he e' he' => ?_
      rw [stepOne_fst he, stepOne_fst he']
      exact snoc_slt' hab
    · refine List.Pairwise.imp_of_mem (fun {d e} hd he h a ha b hb => ?_) (level_up x k)
      refine hide fun P' hP' => ?_
      obtain ⟨c, _, hc⟩ := List.mem_filterMap.mp ha
      obtain ⟨c', _, hc'⟩ := List.mem_filterMap.mp hb
      refine hP' ?_
      clear hP'
      rw [stepOne_fst hc, stepOne_fst hc']
      exact snoc_slt h (by rw [(level_ok x k d hd).2.2, (level_ok x k e he).2.2])
theorem level_pair (x : Str) (k : Nat) : ((levelAt x k).map (·.1)).Pairwise slt := by
  rw [List.pairwise_map]; exact level_up x k
theorem level_lens {x u : Str} {k : Nat} (h : u ∈ (levelAt x k).map (·.1)) : u.length = k := by
  refine hide fun P' hP' => ?_
  obtain ⟨d, hd, rfl⟩ := List.mem_map.mp h
  refine hP' ?_
  clear hP'
  exact (level_ok x k d hd).2.2
theorem words_lens (x : Str) : ∀ {k : Nat} {u : Str}, u ∈ wordsTo x k → 1 ≤ u.length ∧ u.length ≤ k
  | 0, _, h => nomatch h
  | k + 1, u, h => by
    rcases List.mem_append.mp h with h | h
    · have := words_lens x h; omega
    · have := level_lens h; omega
theorem words_nodup (x : Str) : ∀ k : Nat, (wordsTo x k).Nodup
  | 0 => List.nodup_nil
  | k + 1 => by
    refine List.nodup_append.mpr ⟨words_nodup x k, List.Pairwise.imp (R := slt) (fun {a b} h (e : a = b) => slt_irrefl a (by rw [← e] at h; exact h)) (level_pair x (k + 1)), fun a ha b hb e => ?_⟩
    have h1 := words_lens x ha
    have h2 := level_lens hb
    rw [e] at h1; omega
theorem words_iff (x : Str) (hx : ∀ c ∈ lt x, c ∈ signs) : ∀ (k : Nat) (u : Str), u ∈ wordsTo x k ↔ (1 ≤ u.length ∧ u.length ≤ k) ∧ List.Sublist (lt u) (lt x)
  | 0, u => ⟨fun h => (nomatch h), fun h => by omega⟩
  | k + 1, u => by
    show u ∈ wordsTo x k ++ (levelAt x (k + 1)).map (·.1) ↔ _
    rw [List.mem_append, words_iff x hx k u]
    constructor
    · rintro (⟨h1, h2⟩ | h)
      · exact ⟨by omega, h2⟩
      · have hl := level_lens h
        refine hide fun P' hP' => ?_
        obtain ⟨d, hd, rfl⟩ := List.mem_map.mp h
        refine hP' ?_
        clear hP'
        refine ⟨by omega, ?_⟩
        have := (level_sub x (k + 1) d hd []).mpr (List.nil_sublist _)
        rwa [List.append_nil] at this
    · intro rx1
      obtain ⟨h1, h2⟩ := rx1
      rcases Nat.lt_or_ge k u.length with h | h
      · refine hide fun P' hP' => ?_
        obtain ⟨d, hd, e⟩ := level_all x (k + 1) (lt u) (by rw [lt_len]; omega) (fun c hc => hx c (h2.subset hc)) h2
        refine hP' ?_
        clear hP'
        exact .inr (List.mem_map.mpr ⟨d, hd, lt_inj e⟩)
      · exact .inl ⟨by omega, h2⟩
theorem words_len2 (x : Str) : (wordsTo x 2).length = (levelAt x 1).length + (levelAt x 2).length := by
  show ((([] : List Str) ++ (levelAt x 1).map (·.1)) ++ (levelAt x 2).map (·.1)).length = _
  simp
theorem words_len3 (x : Str) : (wordsTo x 3).length = (wordsTo x 2).length + (levelAt x 3).length := by
  show (wordsTo x 2 ++ (levelAt x 3).map (·.1)).length = _
  simp
theorem level_grow (x : Str) (k : Nat) : (levelAt x (k + 1)).length ≤ 4 * (levelAt x k).length := flat_len x _
theorem words_lt (x : Str) : (wordsTo x 3).length < 128 := by
  have h1 := level_len x 1
  have h2 := level_len x 2
  have h3 := level_len x 3
  rw [words_len3, words_len2]; omega
theorem words_few {x : Str} (h : 64 ≤ (wordsTo x 3).length) : ∀ j (hj : j + 4 < (wordsTo x 3).length), (wordsTo x 2).length ≤ j → ∃ i, ∃ hi : i < (wordsTo x 3).length, i < (wordsTo x 2).length ∧ ((wordsTo x 3)[j]'(by omega)).cps.toList < (wordsTo x 3)[i].cps.toList := by
  intro j hj hp
  have w3 := words_len3 x
  have g3 : (levelAt x 3).length ≤ 4 * (levelAt x 2).length := level_grow x 2
  have up := level_up x 2
  have hne : levelAt x 2 ≠ [] := fun e => by
    have w2 := words_len2 x
    have l1 := level_len x 1
    rw [e] at g3 w2
    simp only [List.length_nil] at g3 w2
    omega
  refine hide fun P' hP' => ?_
  obtain ⟨l, d, e⟩ : ∃ l d, levelAt x 2 = l ++ [d] := ⟨_, _, (List.dropLast_concat_getLast hne).symm⟩
  have e3 : levelAt x 3 = l.flatMap (stepAll x) ++ stepAll x d := by
    show (levelAt x 2).flatMap (stepAll x) = _
    rw [e, List.flatMap_append]; simp
  have h4 := stepAll_len x d
  have hl3 : (levelAt x 3).length = (l.flatMap (stepAll x)).length + (stepAll x d).length := by rw [e3, List.length_append]
  have hlt : j - (wordsTo x 2).length < (l.flatMap (stepAll x)).length := by omega
  have ej : (wordsTo x 3)[j]'(by omega) = ((levelAt x 3).map (·.1))[j - (wordsTo x 2).length]'(by rw [List.length_map]; omega) := List.getElem_append_right (as := wordsTo x 2) (bs := (levelAt x 3).map (·.1)) hp
  have em : ((levelAt x 3)[j - (wordsTo x 2).length]'(by omega)) ∈ l.flatMap (stepAll x) := by
    have : ((levelAt x 3)[j - (wordsTo x 2).length]'(by omega)) = (l.flatMap (stepAll x))[j - (wordsTo x 2).length] := by
      simp only [e3]
      exact List.getElem_append_left hlt
    rw [this]
    exact List.getElem_mem hlt
  obtain ⟨d1, hd1, hs⟩ := List.mem_flatMap.mp em
  obtain ⟨c, _, hc⟩ := List.mem_filterMap.mp hs
  refine hP' ?_
  clear hP'
  have h1 := stepOne_fst hc
  rw [e] at up
  have hd := (List.pairwise_append.mp up).2.2 d1 hd1 d (.head _)
  have hin1 : d1 ∈ levelAt x 2 := by rw [e]; exact List.mem_append_left _ hd1
  have hin : d ∈ levelAt x 2 := by rw [e]; exact List.mem_append_right _ (.head _)
  have hw : d.1 ∈ wordsTo x 2 := List.mem_append_right _ (List.mem_map.mpr ⟨d, hin, rfl⟩)
  refine hide fun P' hP' => ?_
  obtain ⟨i, hi, ei⟩ := List.mem_iff_getElem.mp hw
  refine hP' ?_
  clear hP'
  have e4 : (wordsTo x 3)[i]'(by omega) = d.1 := by
    have : (wordsTo x 3)[i]'(by omega) = (wordsTo x 2)[i] := List.getElem_append_left (as := wordsTo x 2) (bs := (levelAt x 3).map (·.1)) hi
    rw [this, ei]
  refine ⟨i, by omega, hi, ?_⟩
  rw [ej, e4, List.getElem_map, h1]
  exact lt_more hd (by rw [(level_ok x 2 d1 hin1).2.2, (level_ok x 2 d hin).2.2])
theorem words_runs {x : Str} (h : 64 ≤ (wordsTo x 3).length) : TwoRuns (wordsTo x 3) (wordsTo x 2).length := by
  have h1 := level_len x 1
  have g2 : (levelAt x 2).length ≤ 4 * (levelAt x 1).length := level_grow x 1
  have g3 : (levelAt x 3).length ≤ 4 * (levelAt x 2).length := level_grow x 2
  have w3 := words_len3 x
  have w2 := words_len2 x
  refine ⟨by omega, words_few h, ?_, fun i j hj hij hp => ?_⟩
  · have hp := level_pair x 1
    have e : ∃ r, wordsTo x 3 = (levelAt x 1).map (·.1) ++ r := ⟨(levelAt x 2).map (·.1) ++ (levelAt x 3).map (·.1), by
      show ((([] : List Str) ++ (levelAt x 1).map (·.1)) ++ (levelAt x 2).map (·.1)) ++ (levelAt x 3).map (·.1) = _
      simp⟩
    obtain ⟨r, e⟩ := e
    rcases hq : (levelAt x 1).map (·.1) with _ | ⟨a, _ | ⟨b, l⟩⟩
    · have : (levelAt x 1).length = 0 := by simpa using congrArg List.length hq
      omega
    · have : (levelAt x 1).length = 1 := by simpa using congrArg List.length hq
      omega
    · rw [hq] at e hp
      exact ⟨a, b, l ++ r, e, (show slt a b from (List.pairwise_cons.mp hp).1 b (.head _))⟩
  · rcases Nat.lt_or_ge i j with q | q
    · have hp3 := level_pair x 3
      have hi : i < (wordsTo x 3).length := by omega
      have ei : (wordsTo x 3)[i] = ((levelAt x 3).map (·.1))[i - (wordsTo x 2).length]'(by rw [List.length_map]; omega) := List.getElem_append_right (as := wordsTo x 2) (bs := (levelAt x 3).map (·.1)) hp
      have ej : (wordsTo x 3)[j] = ((levelAt x 3).map (·.1))[j - (wordsTo x 2).length]'(by rw [List.length_map]; omega) := List.getElem_append_right (as := wordsTo x 2) (bs := (levelAt x 3).map (·.1)) (by omega)
      rw [ei, ej]
      exact slt_asymm (List.pairwise_iff_getElem.mp hp3 _ _ _ _ (by omega))
    · have : i = j := by omega
      subst this
      exact List.lt_irrefl _
theorem sortedS_pair : ∀ {l : List Str}, sortedS l = true → l.Nodup → l.Pairwise slt
  | [], _, _ => .nil
  | [x], _, _ => List.pairwise_singleton _ _
  | x :: y :: r, h, hn => by
    have h' : (!PySem.Spec.ltCps y.cps.toList x.cps.toList && risingS y r) = true := h
    rw [Bool.and_eq_true, Bool.not_eq_true', PyProof.Rows.ltCps_eq] at h'
    have h1 : ¬ slt y x := of_decide_eq_false h'.1
    have hn' := List.nodup_cons.mp hn
    have hxy : slt x y := Classical.byContradiction fun q => hn'.1 (by rw [slt_eq q h1]; exact .head _)
    have ih := sortedS_pair (l := y :: r) h'.2 hn'.2
    refine List.pairwise_cons.mpr ⟨fun z hz => ?_, ih⟩
    rcases List.mem_cons.mp hz with rfl | hz
    · exact hxy
    · exact slt_trans hxy ((List.pairwise_cons.mp ih).1 z hz)
theorem diff_pre {text last : Str} {xs ys : List Str} (ht : ∀ c ∈ lt text, c ∈ signs) (hl : ∀ c ∈ lt last, c ∈ signs) (h0 : 0 < text.length) (hxp : xs.Perm (wordsTo text 3)) (hxs : sortedS xs = true) (hyp : ys.Perm (wordsTo (text ++ last) 3)) (hys : sortedS ys = true) :
    0 < xs.length ∧ (xs.length ≤ 1000 ∧ ys.length ≤ 1000) ∧ (∀ x ∈ xs, x ∈ ys) ∧ xs.Pairwise slt ∧ ys.Pairwise slt := by
  have htl : ∀ c ∈ lt (text ++ last), c ∈ signs := fun c hc => by
    rw [lt_app] at hc
    exact (List.mem_append.mp hc).elim (ht c) (hl c)
  refine ⟨?_, ⟨?_, ?_⟩, fun x hx => ?_, sortedS_pair hxs (hxp.nodup_iff.mpr (words_nodup _ _)), sortedS_pair hys (hyp.nodup_iff.mpr (words_nodup _ _))⟩
  · refine hide fun P' hP' => ?_
    obtain ⟨c, r, e⟩ : ∃ c r, lt text = c :: r := by
      cases q : lt text with
      | nil => have := lt_len text; rw [q] at this; simp at this; omega
      | cons c r => exact ⟨c, r, rfl⟩
    refine hP' ?_
    clear hP'
    have : sg c ∈ xs := hxp.mem_iff.mpr ((words_iff text ht 3 (sg c)).mpr ⟨⟨Nat.le_refl 1, by show 1 ≤ 3; omega⟩, by rw [lt_sg, e]; exact List.singleton_sublist.mpr (.head _)⟩)
    exact List.length_pos_of_mem this
  · rw [hxp.length_eq]; have := words_lt text; omega
  · rw [hyp.length_eq]; have := words_lt (text ++ last); omega
  · have h1 := (words_iff text ht 3 x).mp (hxp.mem_iff.mp hx)
    refine hyp.mem_iff.mpr ((words_iff _ htl 3 x).mpr ⟨h1.1, ?_⟩)
    rw [lt_app]
    exact h1.2.trans (List.sublist_append_left _ _)
end Mine
end
section
open PySem PySem.W PyProof.Rows
set_option Elab.async false
namespace Mine
section
variable {text last due : Str} {xs ys : List Str}
theorem new_fit (ht : ∀ c ∈ lt text, c ∈ signs) (hl : ∀ c ∈ lt last, c ∈ signs) (l0 : lt last ≠ []) (hd : lt due = newAt (lt text) [] (lt last) text.length) :
    List.Sublist (lt due) (lt text ++ lt last) ∧ ¬ List.Sublist (lt due) (lt text) ∧ ∀ v, v.length < due.length → List.Sublist v (lt text ++ lt last) → List.Sublist v (lt text) := by
  have h := simon (f := lt text) (b := lt last) ht hl l0
  rw [lt_len, ← hd, lt_len] at h
  exact h
theorem come_iff (ht : ∀ c ∈ lt text, c ∈ signs) (hl : ∀ c ∈ lt last, c ∈ signs) (hxp : xs.Perm (wordsTo text 3)) (hyp : ys.Perm (wordsTo (text ++ last) 3)) (u : Str) :
    u ∈ ys.filter (fun y => decide (y ∉ xs)) ↔ (1 ≤ u.length ∧ u.length ≤ 3) ∧ List.Sublist (lt u) (lt text ++ lt last) ∧ ¬ List.Sublist (lt u) (lt text) := by
  have htl : ∀ c ∈ lt (text ++ last), c ∈ signs := fun c hc => by
    rw [lt_app] at hc
    exact (List.mem_append.mp hc).elim (ht c) (hl c)
  rw [List.mem_filter, hyp.mem_iff, words_iff _ htl, lt_app]
  simp only [decide_eq_true_eq]
  rw [hxp.mem_iff, words_iff _ ht]
  constructor
  · intro rx1
    refine hide fun P' hP' => ?_
    obtain ⟨⟨h1, h2⟩, h3⟩ := rx1
    refine hP' ?_
    clear hP'
    exact ⟨h1, h2, fun q => h3 ⟨h1, q⟩⟩
  · intro rx2
    refine hide fun P' hP' => ?_
    obtain ⟨h1, h2, h3⟩ := rx2
    refine hP' ?_
    clear hP'
    exact ⟨⟨h1, h2⟩, fun q => h3 q.2⟩
/-- where the due word is longer than three signs nothing is new -/
theorem come_none (ht : ∀ c ∈ lt text, c ∈ signs) (hl : ∀ c ∈ lt last, c ∈ signs) (l0 : lt last ≠ []) (hd : lt due = newAt (lt text) [] (lt last) text.length) (hxp : xs.Perm (wordsTo text 3)) (hyp : ys.Perm (wordsTo (text ++ last) 3)) (h3 : 3 < due.length) :
    ys.filter (fun y => decide (y ∉ xs)) = [] := by
  refine hide fun P' hP' => ?_
  obtain ⟨_, _, hv⟩ := new_fit ht hl l0 hd
  refine hP' ?_
  clear hP'
  refine List.eq_nil_iff_forall_not_mem.mpr fun u hu => ?_
  refine hide fun P' hP' => ?_
  obtain ⟨h1, h2, h4⟩ := (come_iff ht hl hxp hyp u).mp hu
  refine hP' ?_
  clear hP'
  exact h4 (hv (lt u) (by rw [lt_len]; omega) h2)
theorem come_due (ht : ∀ c ∈ lt text, c ∈ signs) (hl : ∀ c ∈ lt last, c ∈ signs) (l0 : lt last ≠ []) (hd : lt due = newAt (lt text) [] (lt last) text.length) (hxp : xs.Perm (wordsTo text 3)) (hyp : ys.Perm (wordsTo (text ++ last) 3)) (h3 : ¬ 3 < due.length) :
    due ∈ ys.filter (fun y => decide (y ∉ xs)) ∧ ∀ u ∈ ys.filter (fun y => decide (y ∉ xs)), due.length ≤ u.length := by
  refine hide fun P' hP' => ?_
  obtain ⟨hs, hn, hv⟩ := new_fit ht hl l0 hd
  refine hP' ?_
  clear hP'
  refine ⟨(come_iff ht hl hxp hyp due).mpr ⟨⟨?_, by omega⟩, hs, hn⟩, fun u hu => ?_⟩
  · have : lt due ≠ [] := fun e => hn (by rw [e]; exact List.nil_sublist _)
    have := List.length_pos_iff.mpr this
    rw [lt_len] at this
    exact this
  · refine hide fun P' hP' => ?_
    obtain ⟨h1, h2, h4⟩ := (come_iff ht hl hxp hyp u).mp hu
    refine hP' ?_
    clear hP'
    rcases Nat.lt_or_ge u.length due.length with q | q
    · exact absurd (hv (lt u) (by rw [lt_len]; exact q) h2) h4
    · exact q
theorem come_any {come : List Str} (h : due ∈ come) : come.any (· == due) = true := List.any_eq_true.mpr ⟨due, h, by simp⟩
theorem come_min {come : List Str} {M : Int} (h : due ∈ come) (hm : ∀ u ∈ come, due.length ≤ u.length) (h1 : M ∈ come.map fun u => (u.length : Int)) (h2 : ∀ a ∈ come.map fun u => (u.length : Int), M ≤ a) : M = (due.length : Int) := by
  refine hide fun P' hP' => ?_
  obtain ⟨u, hu, rfl⟩ := List.mem_map.mp h1
  refine hP' ?_
  clear hP'
  have a1 := h2 _ (List.mem_map.mpr ⟨due, h, rfl⟩)
  have a2 := hm u hu
  omega
end
end Mine
end
section
open PySem PySem.W PyProof.Rows
set_option Elab.async false
namespace Mine
local macro_rules | `(tactic| omega) => `(tactic| lia)
def lawParts : List Stmt × Scope := match Challenge.rw_oy0123_01.row.prog.main.body.getLast? with
  | some (.FunctionDef _ _ body _ _ _ scope _ _ _) => (body, scope)
  | _ => ([], { kind := .function, names := [], isGenerator := false, isCoroutine := false })
def lawRest : List Stmt := lawParts.1.drop 3
def lawScope : Scope := lawParts.2

theorem len_els {vs ys : List Value} {ss : List Str} (h : StrsAre vs ss) : Paired (fun v y => ∃ u t k, v = .str u t ∧ y = .int (u.length : Nat) k) vs ys → IntsAre ys (ss.map fun u => ((u.length : Nat) : Int)) := by
  induction h generalizing ys with
  | nil => intro p; cases p; exact .nil
  | cons x t r ih =>
    intro p
    cases p with
    | cons h p =>
      refine hide fun P' hP' => ?_
      obtain ⟨u, t', k, e1, e2⟩ := h
      refine hP' ?_
      clear hP'
      cases e1
      subst e2
      exact .cons _ k (ih p)
theorem strs_at {vs : List Value} {ss : List Str} (h : StrsAre vs ss) : ∀ {i : Nat} {v : Value}, vs[i]? = some v → ∃ u t, v = .str u t ∧ u ∈ ss := by
  induction h with
  | nil => intro i v e; simp at e
  | cons y t r ih =>
    intro i v e
    cases i with
    | zero => cases e; exact ⟨y, t, rfl, .head _⟩
    | succ i => 
      refine hide fun P' hP' => ?_
      obtain ⟨m', t', h1, h2⟩ := ih (i := i) e
      refine hP' ?_
      clear hP'
      exact ⟨m', t', h1, .tail _ h2⟩
section
local macro_rules | `(tactic| walk_at $k:str) => if ["exec Assign cons ListComp", "compareOp Eq ref ref", "compareOp In str ref", "pyIter ref", "eval ListComp", "EltPost", "call builtin:min"].contains k.getString then `(tactic| (refine Hold.mk ?_)) else Lean.Macro.throwUnsupported
local macro_rules | `(tactic| k_room) => `(tactic| ((try simp only [Around.deeper, Around.mark]); omega))
set_option maxRecDepth 100000 in
set_option maxHeartbeats 2000000 in
theorem law_end {w : World} {loose : List Str} {mean : ExcName → Option Value} {mg mb : Str → Option Value} {base : Heap} {A : Around} {s : Shared} {Q E : Value → Shared → Prop} {fcd : Value} {fa L am au : Addr} {mm : Str → Option Value} {us : List Value} {nam nau : Nat} {come : List Str} {due : Str} {td : Tok} {R : List (Addr × Obj)}
    (T0 : Top0 w loose mean mg mb base) (B : Below A base [] base) (hh : A.handled = none) (hroom : A.depth + 20 < recursionLimit) (hunits : A.units + 120 < cLine)
    (F : Fr base L s.heap mm) (TL : TabLed base R) (N : News base L s.heap ((au, W.listOf us.toArray nau) :: (am, W.listOf #[] nam) :: R)) (L36 : 36 < L)
    (h1 : mm (Str.ofString "lacking") = some (.ref am)) (h2 : mm (Str.ofString "come") = some (.ref au)) (h3 : mm (Str.ofString "due") = some (.str due td)) (hus : StrsAre us come) (hlen : us.length ≤ 200) (hdl : due.length ≤ 300) (hcl : ∀ u ∈ come, u.length ≤ 3)
    (hlong : 3 < due.length → come = []) (hshort : ¬ 3 < due.length → due ∈ come ∧ ∀ u ∈ come, due.length ≤ u.length)
    (fin : ∀ h' tk' m', Fr base L h' m' → (∃ ps, h'.get? 36 = some (tabObj ps)) → Q (.bool true) { s with heap := h', toks := tk' }) :
    wpAny (model prg w) (A.deeper (envOfC (Str.ofString "law") lawScope L fa fcd)) (execs (lawRest.drop 7) (envOfC (Str.ofString "law") lawScope L fa fcd)) (fun fl s' => Q (match fl with | .ret v => v | _ => .none) s') E s := by
  refine hide fun P' hP' => ?_
  obtain ⟨ha, dp, fr, gd, un⟩ := A
  obtain rfl : ha = none := hh
  refine hP' ?_
  clear hP'
  dsimp only at hroom hunits
  have u1 : un + 3 + 64 < cLine := by omega
  have X : (Mine.hd.heap_39 w.params).In base := T0.X
  have T := T0.T
  have e1 : lawRest.drop 7 = [_, _] := rfl
  have e2 : lawScope = { kind := _, names := _, isGenerator := _, isCoroutine := _, more := _ } := rfl
  rw [e1, e2]
  clear e1 e2
  revert X
  unfold prg
  k_fill
  intro X
  have C := T0.C
  replace F : Fr base L s.heap (fun y => if y = Str.ofString "due" then some (.str due td) else if y = Str.ofString "come" then some (.ref au) else if y = Str.ofString "lacking" then some (.ref am) else mm y) :=
    ⟨ns_kst F.ns [(Str.ofString "due", .str due td), (Str.ofString "come", .ref au), (Str.ofString "lacking", .ref am)] fun p hp => by
      rcases List.mem_cons.mp hp with rfl | hp
      · exact h3
      rcases List.mem_cons.mp hp with rfl | hp
      · exact h2
      · rw [List.mem_singleton.mp hp]; exact h1, F.keep, F.above⟩
  w_strict (k_steps)
  · rename 3 < (_ : Int) => hgt
    have hc0 := hlong (by omega)
    subst hc0
    refine Hold.of ?_
    rename Fr _ _ _ _ => F2
    rename News _ _ _ _ => N2
    refine eq_nil_strs (ss := []) (xs := []) (fun _ h => nomatch h) ⟨_, (newsAt N2 (.tail _ (.tail _ (.head _)))).1, rfl, _, rfl⟩ ⟨_, (newsAt N2 (.head _)).1, rfl, _, rfl⟩ .nil u1 ?_
    rw [show decide (([] : List Str) = []) = true from rfl]
    w_strict (k_steps)
    refine Hold.of ?_
    rename Fr _ _ _ _ => F3
    rename News _ _ _ _ => N3
    refine eq_nil_strs (ss := []) (fun _ h => nomatch h) ⟨_, (newsAt N3 (.tail _ (.tail _ (.head _)))).1, rfl, _, rfl⟩ ⟨_, (newsAt N3 (.head _)).1, rfl, _, rfl⟩ hus u1 ?_
    rw [show decide (([] : List Str) = []) = true from rfl]
    exact fin _ _ _ F3 (tab_some (tab_of_led TL N3 fun p hp => .tail _ (.tail _ (.tail _ (.tail _ hp)))))
  · rename ¬ 3 < (_ : Int) => hgt
    obtain ⟨hdc, hdm⟩ := hshort (by omega)
    refine Hold.of ?_
    rename Fr _ _ _ _ => F2
    rename News _ _ _ _ => N2
    refine eq_nil_strs (ss := []) (xs := []) (fun _ h => nomatch h) ⟨_, (newsAt N2 (.tail _ (.tail _ (.head _)))).1, rfl, _, rfl⟩ ⟨_, (newsAt N2 (.head _)).1, rfl, _, rfl⟩ .nil u1 ?_
    rw [show decide (([] : List Str) = []) = true from rfl]
    w_strict (k_steps)
    refine Hold.of ?_
    rename Fr _ _ _ _ => F3
    rename News _ _ _ _ => N3
    refine in_list_strs (vs := us) ⟨_, (newsAt N3 (.tail _ (.head _))).1, rfl, _, rfl⟩ hus ?_
    rw [come_any hdc]
    w_strict (k_steps)
    refine Hold.of ?_
    refine ListComp_at (cl := []) (fun _ => true) (fun v y => ∃ u t k, v = .str u t ∧ y = .int (u.length : Nat) k) (by rfl) (by decide) rfl (by decide) rfl ?_
    w_strict (k_steps)
    refine Hold.of ?_
    rename Fr _ _ _ _ => F4
    rename News _ _ _ _ => N4
    refine list_comp (fun v y => ∃ u t k, v = .str u t ∧ y = .int (u.length : Nat) k) rfl ⟨_, (newsAt N4 (.tail _ (.head _))).1, rfl, _, rfl⟩ (by rw [sizeLine_eq]; omega) ?elt ?done
    case elt =>
      intro C i v s₃ m₃ E' hC hv hns₃ hmv hst
      refine hide fun P' hP' => ?_
      obtain ⟨u, t, rfl, hmm⟩ := strs_at hus hv
      have hul := hcl u hmm
      have F5 : Fr base C s₃.heap (fun y => if y = Str.ofString "word" then some (.str u t) else m₃ y) :=
        ⟨ns_kst hns₃ [(Str.ofString "word", .str u t)] (fun p hp => by rw [List.mem_singleton.mp hp]; exact hmv), fun b o e => hst b o (F4.keep b o e), Nat.le_trans F4.above (Nat.le_of_lt (Nat.lt_trans F4.ns.lt hC))⟩
      have N5 : News base C s₃.heap [] := News.nil
      obtain ⟨hp3, g3, d3, tk3, os3⟩ := s₃
      refine hP' ?_
      clear hP'
      w_strict (k_steps)
      all_goals (first | (show Addr; exact 0) | (show Str; exact Str.empty) | (show Value; exact .none) | (show List (Str × Addr); exact []) | skip)
      refine Hold.of ?_
      exact ⟨⟨_, _, _, rfl, rfl⟩, ⟨_, _, rfl, fun _ _ e => e⟩⟩
    case done =>
      intro D' h' tk' zs hD' hpl hF hst
      have hI := len_els hus hF
      obtain ⟨nD, hpl⟩ := hpl
      have F6 := F4.kept hst
      have N6 := news_top hD' F4 hpl (fun p hp => ⟨hst _ _ (N4 p hp).1, (N4 p hp).2⟩)
      clear F4 N4
      dsimp only
      w_strict (k_steps)
      refine Hold.of ?_
      rename Fr _ _ _ _ => F7
      rename News _ _ _ _ => N7
      refine min_list_N rfl F7 N7 ⟨_, (newsAt N7 (.head _)).1, rfl, _, rfl⟩ hI (by rw [List.length_map]; exact List.length_pos_of_mem hdc) ?_
      intro h8 M t8 tk8 F8 N8 hM1 hM2
      have hM := come_min hdc hdm hM1 hM2
      subst hM
      clear F7 N7
      w_strict (k_steps)
      rw [show ((due.length : Int) == (due.length : Int)) = true from beq_self_eq_true _]
      exact fin _ _ _ F8 (tab_some (tab_of_led TL N8 fun p hp => .tail _ (.tail _ (.tail _ (.tail _ hp)))))
end
end Mine
end
section
open PySem PySem.W PyProof.Rows
set_option Elab.async false
namespace Mine
theorem bitAnd_nat (x y : Nat) : Builtin.bitAnd (x : Int) (y : Int) = ((x &&& y : Nat) : Int) := by
  unfold Builtin.bitAnd
  rw [decide_eq_true (Int.natCast_nonneg x), decide_eq_true (Int.natCast_nonneg y)]
  rfl
theorem nat_off : ∀ m < 512, (32768 + m) &&& 61440 = 32768 ∧ (32768 + m) &&& 2112 ≠ 2112 ∧ (32768 + m) &&& 2048 ≠ 2048 ∧ (32768 + m) &&& 1032 ≠ 1032 ∧ (32768 + m) &&& 1024 ≠ 1024 ∧ (32768 + m) &&& 513 ≠ 513 ∧ (32768 + m) &&& 512 ≠ 512 := by
  decide +kernel
theorem nat_pow {x j : Nat} : x &&& 2 ^ j = 2 ^ j ↔ x / 2 ^ j % 2 = 1 := by
  have e : x.testBit j = decide (x / 2 ^ j % 2 = 1) := Nat.testBit_eq_decide_div_mod_eq
  constructor
  · intro h
    have h1 := congrArg (fun y => y.testBit j) h
    rw [Nat.testBit_and, Nat.testBit_two_pow_self, Bool.and_true, e] at h1
    exact of_decide_eq_true h1
  · intro h
    rw [decide_eq_true h] at e
    refine Nat.eq_of_testBit_eq fun i => ?_
    rw [Nat.testBit_and, Nat.testBit_two_pow]
    by_cases q : j = i
    · subst q; rw [e]; simp
    · simp [q]
theorem bit_nat {m i b : Nat} (hi : i ≠ 0) : modeBit m i (b : Int) = decide ((32768 + m) &&& b = b) := by
  have e : (32768 : Int) + (m : Int) = ((32768 + m : Nat) : Int) := by omega
  unfold modeBit
  rw [if_neg hi, e, bitAnd_nat]
  exact decide_eq_decide.mpr Int.ofNat_inj
theorem bit_zero {m : Nat} (hm : m < 512) (b : Int) : modeBit m 0 b = decide (32768 = b) := by
  have e : (32768 : Int) + (m : Int) = ((32768 + m : Nat) : Int) := by omega
  unfold modeBit
  rw [if_pos rfl, e, show (61440 : Int) = ((61440 : Nat) : Int) from rfl, bitAnd_nat, (nat_off m hm).1]
  rfl
theorem ch_one {m i : Nat} {a : Addr} {t t' : Tok} {b : Nat} {c : String} (hr : (modeTab[i]?.getD (0, [])).2 = [(a, (b : Int), t, c, t')]) (hi : i ≠ 0) : modeCh m i = if (32768 + m) &&& b = b then Str.ofString c else Str.ofString "-" := by
  unfold modeCh modeSign
  rw [hr, List.find?_cons]
  dsimp only
  rw [bit_nat hi]
  by_cases h : (32768 + m) &&& b = b
  · rw [decide_eq_true h, if_pos h]
  · rw [decide_eq_false h, if_neg h, List.find?_nil, if_neg hi]
theorem ch_three {m i : Nat} {a1 a2 a3 : Addr} {t1 u1 t2 u2 t3 u3 : Tok} {b1 b2 b3 : Nat} {c1 c2 c3 : String} (hr : (modeTab[i]?.getD (0, [])).2 = [(a1, (b1 : Int), t1, c1, u1), (a2, (b2 : Int), t2, c2, u2), (a3, (b3 : Int), t3, c3, u3)]) (hi : i ≠ 0)
    (h1 : (32768 + m) &&& b1 ≠ b1) (h2 : (32768 + m) &&& b2 ≠ b2) : modeCh m i = if (32768 + m) &&& b3 = b3 then Str.ofString c3 else Str.ofString "-" := by
  unfold modeCh modeSign
  rw [hr, List.find?_cons]
  dsimp only
  rw [bit_nat hi, decide_eq_false h1]
  dsimp only
  rw [List.find?_cons]
  dsimp only
  rw [bit_nat hi, decide_eq_false h2]
  dsimp only
  rw [List.find?_cons]
  dsimp only
  rw [bit_nat hi]
  by_cases h : (32768 + m) &&& b3 = b3
  · rw [decide_eq_true h, if_pos h]
  · rw [decide_eq_false h, if_neg h, List.find?_nil, if_neg hi]
theorem ch_first {m : Nat} (hm : m < 512) : modeCh m 0 = Str.ofString "-" := by
  unfold modeCh modeSign
  have e : (fun q : Addr × Int × Tok × String × Tok => modeBit m 0 q.2.1) = fun q => decide (32768 = q.2.1) := funext fun q => bit_zero hm q.2.1
  rw [e]
  rfl
theorem off_bit {m j : Nat} (hj : j ≤ 14) : (32768 + m) / 2 ^ j % 2 = m / 2 ^ j % 2 := by
  have e : (32768 : Nat) = 2 ^ j * (2 * 2 ^ (14 - j)) := by
    rw [← Nat.pow_succ', ← Nat.pow_add, show j + (14 - j).succ = 15 by omega]
  rw [e, Nat.mul_add_div (Nat.two_pow_pos j), Nat.mul_add_mod]
theorem sign_eq {m k i j : Nat} {c : String} (hrow : (2 : Int) ^ (8 - (k : Int)).toNat = ((2 ^ j : Nat) : Int)) (hj : j ≤ 14) (hitem : Txt.item (Str.ofString "rwx") ((k : Int).fmod 3) = Str.ofString c)
    (hch : modeCh m i = if (32768 + m) &&& 2 ^ j = 2 ^ j then Str.ofString c else Str.ofString "-") : modeCh m i = rowSign (m : Int) k := by
  unfold rowSign
  rw [hch, hrow, hitem, Int.fdiv_eq_ediv_of_nonneg _ (Int.natCast_nonneg _), Int.fmod_eq_emod_of_nonneg _ (by omega)]
  have e : ((m : Int) / ((2 ^ j : Nat) : Int) % 2 = 1) ↔ (32768 + m) &&& 2 ^ j = 2 ^ j := by
    rw [nat_pow, off_bit hj, ← Int.natCast_ediv]
    omega
  by_cases h : (32768 + m) &&& 2 ^ j = 2 ^ j
  · rw [if_pos h, if_pos (e.mpr h)]
  · rw [if_neg h, if_neg fun q => h (e.mp q)]
theorem mode_signs {m : Nat} (hm : m < 512) : (List.range 10).map (modeCh m) = Str.ofString "-" :: (List.range' 0 9).map (rowSign (m : Int)) := by
  refine hide fun P' hP' => ?_
  obtain ⟨_, o1, o2, o3, o4, o5, o6⟩ := nat_off m hm
  refine hP' ?_
  clear hP'
  have s0 := ch_first hm
  have s1 : modeCh m 1 = rowSign (m : Int) 0 := sign_eq (j := 8) rfl (by decide) (by decide +kernel) (ch_one (b := 256) rfl (by decide))
  have s2 : modeCh m 2 = rowSign (m : Int) 1 := sign_eq (j := 7) rfl (by decide) (by decide +kernel) (ch_one (b := 128) rfl (by decide))
  have s3 : modeCh m 3 = rowSign (m : Int) 2 := sign_eq (j := 6) rfl (by decide) (by decide +kernel) (ch_three (b1 := 2112) (b2 := 2048) (b3 := 64) rfl (by decide) o1 o2)
  have s4 : modeCh m 4 = rowSign (m : Int) 3 := sign_eq (j := 5) rfl (by decide) (by decide +kernel) (ch_one (b := 32) rfl (by decide))
  have s5 : modeCh m 5 = rowSign (m : Int) 4 := sign_eq (j := 4) rfl (by decide) (by decide +kernel) (ch_one (b := 16) rfl (by decide))
  have s6 : modeCh m 6 = rowSign (m : Int) 5 := sign_eq (j := 3) rfl (by decide) (by decide +kernel) (ch_three (b1 := 1032) (b2 := 1024) (b3 := 8) rfl (by decide) o3 o4)
  have s7 : modeCh m 7 = rowSign (m : Int) 6 := sign_eq (j := 2) rfl (by decide) (by decide +kernel) (ch_one (b := 4) rfl (by decide))
  have s8 : modeCh m 8 = rowSign (m : Int) 7 := sign_eq (j := 1) rfl (by decide) (by decide +kernel) (ch_one (b := 2) rfl (by decide))
  have s9 : modeCh m 9 = rowSign (m : Int) 8 := sign_eq (j := 0) rfl (by decide) (by decide +kernel) (ch_three (b1 := 513) (b2 := 512) (b3 := 1) rfl (by decide) o5 o6)
  show [modeCh m 0, modeCh m 1, modeCh m 2, modeCh m 3, modeCh m 4, modeCh m 5, modeCh m 6, modeCh m 7, modeCh m 8, modeCh m 9] = [Str.ofString "-", rowSign (m : Int) 0, rowSign (m : Int) 1, rowSign (m : Int) 2, rowSign (m : Int) 3, rowSign (m : Int) 4, rowSign (m : Int) 5, rowSign (m : Int) 6, rowSign (m : Int) 7, rowSign (m : Int) 8]
  rw [s0, s1, s2, s3, s4, s5, s6, s7, s8, s9]
end Mine
end
section
open PySem PySem.W PyProof.Rows
set_option Elab.async false
namespace Mine
local macro_rules | `(tactic| omega) => `(tactic| lia)
theorem lt_nil : lt (Str.ofString "") = [] := by decide +kernel
theorem lt_join : ∀ l : List Str, lt (Txt.join (Str.ofString "") l) = l.flatMap lt := by
  intro l
  show lt (Builtin.Str.glued (Str.ofString "") l) = _
  rw [StrLaws.glued_eq_join]
  induction l with
  | nil => rfl
  | cons x r ih =>
    cases r with
    | nil => simp [Str.join]
    | cons y r =>
      show lt (x ++ Str.ofString "" ++ Str.join (Str.ofString "") (y :: r)) = _
      rw [lt_app, lt_app, lt_nil, ih, List.append_nil]; rfl
theorem lt_rowSign (n : Int) (k : Nat) : ∃ c ∈ signs, lt (rowSign n k) = [c] := by
  unfold rowSign
  split
  · have h : (k : Int).fmod 3 = 0 ∨ (k : Int).fmod 3 = 1 ∨ (k : Int).fmod 3 = 2 := by
      rw [Int.fmod_eq_emod_of_nonneg _ (by omega)]; omega
    rcases h with h | h | h <;> rw [h]
    · exact ⟨114, by decide, by decide +kernel⟩
    · exact ⟨119, by decide, by decide +kernel⟩
    · exact ⟨120, by decide, by decide +kernel⟩
  · exact ⟨45, by decide, by decide +kernel⟩
theorem lt_rows (n : Int) : ∀ l : List Nat, ((l.map (rowSign n)).flatMap lt).length = l.length ∧ ∀ c ∈ (l.map (rowSign n)).flatMap lt, c ∈ signs
  | [] => ⟨rfl, fun _ h => nomatch h⟩
  | k :: l => by
    refine hide fun P' hP' => ?_
    obtain ⟨c, hc, e⟩ := lt_rowSign n k
    obtain ⟨h1, h2⟩ := lt_rows n l
    refine hP' ?_
    clear hP'
    rw [List.map_cons, List.flatMap_cons, e]
    refine ⟨by simp only [List.length_append, List.length_cons, List.length_nil, h1]; omega, fun d hd => ?_⟩
    rcases List.mem_append.mp hd with hd | hd
    · rw [List.mem_singleton.mp hd]; exact hc
    · exact h2 d hd
theorem row_len (n : Int) : (rowText n).length = 9 := by
  rw [← lt_len, rowText, lt_join]
  exact (lt_rows n _).1
theorem row_signs (n : Int) : ∀ c ∈ lt (rowText n), c ∈ signs := by
  rw [rowText, lt_join]
  exact (lt_rows n _).2
theorem lt_slice {x : Str} {i : Int} (h0 : 0 ≤ i) (h2 : i ≤ x.length) : lt (Txt.slice x (some i) none) = (lt x).drop i.toNat := by
  have h := eq_of_beq (slice_closes_fromL (x := x) (i := i) (b := x.length) h0 h2 rfl)
  rw [h]
  show ((lt x).drop i.toNat).take _ = _
  refine List.take_of_length_le ?_
  rw [List.length_drop, lt_len]; omega
theorem mode_lt {m : Nat} (h : m < 512) : lt (modeText m) = 45 :: lt (rowText (m : Nat)) := by
  rw [modeText, lt_join, mode_signs h, List.flatMap_cons, rowText, lt_join, show lt (Str.ofString "-") = [45] by decide +kernel]
  rfl
theorem mode_tail {m : Nat} (h : m < 512) : Txt.slice (modeText m) (some 1) none = rowText (m : Nat) := by
  have h2 := mode_lt h
  have h3 : (modeText m).length = 10 := by
    rw [← lt_len, h2, List.length_cons, lt_len, row_len]
  refine lt_inj ?_
  rw [lt_slice (by omega) (by omega), h2]; rfl
theorem modeText_len {m : Nat} (h : m < 512) : (modeText m).length ≤ 10 := by
  have h2 := mode_lt h
  rw [← lt_len, h2, List.length_cons, lt_len, row_len]; omega
theorem rows_len : ∀ ms : List Int, ((ms.map rowText).flatMap lt).length = 9 * ms.length ∧ ∀ c ∈ (ms.map rowText).flatMap lt, c ∈ signs
  | [] => ⟨rfl, fun _ h => nomatch h⟩
  | m :: r => by
    obtain ⟨h1, h2⟩ := rows_len r
    rw [List.map_cons, List.flatMap_cons]
    refine ⟨by rw [List.length_append, h1, lt_len, row_len, List.length_cons]; omega, fun d hd => ?_⟩
    rcases List.mem_append.mp hd with hd | hd
    · exact row_signs m d hd
    · exact h2 d hd
/-- the text of some modes, side by side -/
def sideBySide (ms : List Int) : Str := Txt.join (Str.ofString "") (ms.map rowText)
theorem side_len (ms : List Int) : (sideBySide ms).length = 9 * ms.length := by
  rw [← lt_len, sideBySide, lt_join]; exact (rows_len ms).1
theorem side_signs (ms : List Int) : ∀ c ∈ lt (sideBySide ms), c ∈ signs := by
  rw [sideBySide, lt_join]; exact (rows_len ms).2
theorem sum_rows : ∀ ms : List Int, ((ms.map rowText).map (·.length)).sum = 9 * ms.length
  | [] => rfl
  | m :: r => by
    rw [List.map_cons, List.map_cons, List.sum_cons, sum_rows r, row_len, List.length_cons]; omega
theorem lists_eq {ms : List Int} (h : ∀ m ∈ ms, 0 ≤ m ∧ m < 512) : (ms.map fun m => Txt.slice (modeText m.toNat) (some 1) none) = ms.map rowText :=
  List.map_congr_left fun m hm => by
    obtain ⟨h1, h2⟩ := h m hm
    have e := mode_tail (m := m.toNat) (by omega)
    rw [Int.toNat_of_nonneg h1] at e
    exact e
/-- the signs of others, in a row -/
def others (m : Int) : Str := Txt.slice (rowText m) (some 6) none
theorem lt_others (m : Int) : lt (others m) = (lt (rowText m)).drop 6 := lt_slice (by omega) (by rw [row_len]; decide)
theorem others_signs (m : Int) : ∀ c ∈ lt (others m), c ∈ signs := fun c hc => by
  rw [lt_others] at hc
  exact row_signs m c (List.mem_of_mem_drop hc)
theorem others_ne (m : Int) : lt (others m) ≠ [] := fun e => by
  have h := congrArg List.length e
  rw [lt_others, List.length_drop, lt_len, row_len] at h
  exact absurd h (by decide)
theorem others_len (m : Int) : (others m).length = 3 := by
  rw [← lt_len, lt_others, List.length_drop, lt_len, row_len]
theorem last_row {ms : List Int} (h : 0 < ms.length) : (ms.map rowText).getD (-1 + ((ms.map rowText).length : Int)).toNat Str.empty = rowText (ms.getD (-1 + (ms.length : Int)).toNat 0) := by
  rw [List.length_map]
  have hl : (-1 + (ms.length : Int)).toNat < ms.length := by omega
  rw [List.getD_eq_getElem?_getD, List.getD_eq_getElem?_getD, List.getElem?_map, List.getElem?_eq_getElem hl]
  rfl
end Mine
end
section
open PySem PySem.W PyProof.Rows
set_option Elab.async false
namespace Mine
/-- one listing without its first sign -/
def ListEl (ys : List Value) (ms : List Int) (v y : Value) : Prop := ∃ m t u, v = .int m t ∧ y = .str (Txt.slice (modeText m.toNat) (some 1) none) u
theorem here_top {A : Around} {base h : Heap} {L : Addr} {m : Str → Option Value} {env : Env} (B : Below A base [] base) (F : Fr base L h m) (hf : env.frame = some L) (hk : env.scope.kind = .function) (L36 : 36 < L) : Here base [env] (A.deeper env) h := by
  have P := pushX (env := env) B F hf hk
  refine ⟨P.stack, P.stays, P.frames, fun e he q => ?_⟩
  rw [List.mem_singleton.mp he, hf] at q
  exact absurd (Option.some.inj q) (Nat.ne_of_gt L36)
theorem ints_get {vs : List Value} {ms : List Int} (h : IntsAre vs ms) : ∀ {i : Nat} {v : Value}, vs[i]? = some v → ∃ m t, v = .int m t ∧ m ∈ ms := by
  induction h with
  | nil => intro i v e; simp at e
  | cons m t r ih =>
    intro i v e
    cases i with
    | zero => cases e; exact ⟨m, t, rfl, .head _⟩
    | succ i => 
      refine hide fun P' hP' => ?_
      obtain ⟨m', t', h1, h2⟩ := ih (i := i) e
      refine hP' ?_
      clear hP'
      exact ⟨m', t', h1, .tail _ h2⟩
theorem news_all {base h h' : Heap} {L : Addr} {env : Env} {l : List (Addr × Obj)} (N : News base L h l) (K : KeptB [env] [] h h') (hf : env.frame = some L) : News base L h' l := fun p hp =>
  ⟨K.out _ _ (N p hp).1 (fun hm => by rw [frames_one hf] at hm; exact (N p hp).2.1 (List.mem_singleton.mp hm)) (by simp), (N p hp).2⟩
def RowOf (v y : Value) : Prop := ∃ m t u, v = .int m t ∧ y = .str (rowText m) u
theorem strs_take {vs : List Value} {ss : List Str} {n : Nat} (h : StrsAre vs ss) : StrsAre (vs.take n) (ss.take n) := by
  induction h generalizing n with
  | nil => rw [List.take_nil, List.take_nil]; exact .nil
  | cons y t r ih => cases n with
    | zero => exact .nil
    | succ n => exact .cons y t ih
theorem list_els {ys' : List Value} {ms' : List Int} {ys zs : List Value} {ms : List Int} (h : IntsAre ys ms) : Paired (ListEl ys' ms') ys zs → StrsAre zs (ms.map fun m => Txt.slice (modeText m.toNat) (some 1) none) := by
  induction h generalizing zs with
  | nil => intro p; cases p; exact .nil
  | cons m t r ih =>
    intro p
    cases p with
    | cons h p =>
      refine hide fun P' hP' => ?_
      obtain ⟨m', t', u, e1, e2⟩ := h
      refine hP' ?_
      clear hP'
      cases e1
      subst e2
      exact .cons _ u (ih p)
theorem ints_take {vs : List Value} {ns : List Int} {n : Nat} (h : IntsAre vs ns) : IntsAre (vs.take n) (ns.take n) := by
  induction h generalizing n with
  | nil => rw [List.take_nil, List.take_nil]; exact .nil
  | cons y t r ih => cases n with
    | zero => exact .nil
    | succ n => exact .cons y t ih
theorem rows_of {vs rs : List Value} {ns : List Int} (h : IntsAre vs ns) : Paired RowOf vs rs → StrsAre rs (ns.map rowText) := by
  induction h generalizing rs with
  | nil => intro p; cases p; exact .nil
  | cons m t r ih =>
    intro p
    cases p with
    | cons h p =>
      refine hide fun P' hP' => ?_
      obtain ⟨m', t', u, e1, e2⟩ := h
      refine hP' ?_
      clear hP'
      cases e1
      subst e2
      exact .cons _ u (ih p)
section
local macro_rules | `(tactic| walk_at $k:str) => if ["exec Assign cons ListComp", "pyIter ref", "subscriptTail Name Slice str ref", "call builtin:str.join", "subscriptTail Name Slice ref ref", "call builtin:sorted", "eval ListComp", "EltPost"].contains k.getString then `(tactic| (refine Hold.mk ?_)) else Lean.Macro.throwUnsupported
local macro_rules | `(tactic| walk_at "call ref") => `(tactic| ((with_reducible show wpAny _ _ (call (Value.ref 95) _ _) _ _ _); refine Hold.mk ?_))
local macro_rules | `(tactic| walk_at "call ref") => `(tactic| ((with_reducible show wpAny _ _ (call (Value.ref 105) _ _) _ _ _); refine Hold.mk ?_))
local macro_rules | `(tactic| walk_at "call ref") => `(tactic| ((with_reducible show wpAny _ _ (call (Value.ref 110) _ _) _ _ _); refine Hold.mk ?_))
local macro_rules | `(tactic| walk_at "execs cons") => `(tactic| ((with_reducible show wpAny _ _ (execs [_, _] _) _ _ _); refine Hold.mk ?_))
local macro_rules | `(tactic| walk_at "call ref") => `(tactic| ((with_reducible show wpAny _ _ (call (Value.ref 88) _ _) _ _ _); refine Hold.mk ?_))
local macro_rules | `(tactic| walk_at "call ref") => `(tactic| ((with_reducible show wpAny _ _ (call (Value.ref 100) _ _) _ _ _); refine Hold.mk ?_))
local macro_rules | `(tactic| k_room) => `(tactic| ((try simp only [Around.deeper, Around.mark]); omega))
set_option maxRecDepth 100000 in
set_option maxHeartbeats 2000000 in
theorem law_rest {w : World} {loose : List Str} {mean : ExcName → Option Value} {mg mb : Str → Option Value} {base : Heap} {A : Around} {s : Shared} {Q E : Value → Shared → Prop} {fcd : Value} {fa L D : Addr} {mm : Str → Option Value} {ys : List Value} {ms : List Int} {nD : Nat}
    (T0 : Top0 w loose mean mg mb base) (B : Below A base [] base) (hh : A.handled = none) (hroom : A.depth + 20 < recursionLimit) (hunits : A.units + 120 < cLine)
    (F : Fr base L s.heap mm) (tab : TabOk base s.heap) (hD : mm (Str.ofString "modes") = some (.ref D)) (hDl : s.heap.get? D = some (W.listOf ys.toArray nD)) (hDn : base.get? D = none ∧ D ≠ L ∧ D ≠ 36) (L36 : 36 < L) (hI : IntsAre ys ms) (hms : ms.length = 3 ∨ ms.length = 4) (hm : ∀ m ∈ ms, 0 ≤ m ∧ m < 512)
    (fin : ∀ h' tk' m', Fr base L h' m' → (∃ ps, h'.get? 36 = some (tabObj ps)) → Q (.bool true) { s with heap := h', toks := tk' }) :
    wpAny (model prg w) (A.deeper (envOfC (Str.ofString "law") lawScope L fa fcd)) (execs lawRest (envOfC (Str.ofString "law") lawScope L fa fcd)) (fun fl s' => Q (match fl with | .ret v => v | _ => .none) s') E s := by
  refine hide fun P' hP' => ?_
  obtain ⟨ha, dp, fr, gd, un⟩ := A
  obtain rfl : ha = none := hh
  refine hP' ?_
  clear hP'
  dsimp only at hroom hunits
  have r1 : dp + 1 + 8 < recursionLimit := by omega
  have u1 : un + 3 + 80 < cLine := by omega
  have X : (Mine.hd.heap_39 w.params).In base := T0.X
  have T := T0.T
  have e1 : lawRest = [_, _, _, _, _, _, _, _, _] := rfl
  have e2 : lawScope = { kind := _, names := _, isGenerator := _, isCoroutine := _, more := _ } := rfl
  rw [e1, e2]
  clear e1 e2
  revert X
  unfold prg
  k_fill
  intro X
  have C := T0.C
  refine hide fun P' hP' => ?_
  obtain ⟨R, TL, NR⟩ := led_of_tab F tab T0.n36 L36
  refine hP' ?_
  clear hP'
  have N : News base L s.heap ((D, W.listOf ys.toArray nD) :: R) := fun p hp => by
    rcases List.mem_cons.mp hp with rfl | hp
    · exact ⟨hDl, hDn.2.1, hDn.1⟩
    · exact NR p hp
  clear NR
  have hmi : Heap.Ns s.heap L (fun y => if y = Str.ofString "modes" then some (.ref D) else mm y) := ns_kst F.ns [(Str.ofString "modes", .ref D)] fun p hp => by rw [List.mem_singleton.mp hp]; exact hD
  replace F : Fr base L s.heap (fun y => if y = Str.ofString "modes" then some (.ref D) else mm y) := ⟨hmi, F.keep, F.above⟩
  w_strict (k_steps)
  refine Hold.of ?_
  refine AssignComp_at (cl := []) (fun _ => true) (ListEl ys ms) (by rfl) (by rfl) (by decide) rfl (by decide) rfl rfl rfl ?_
  w_strict (k_steps)
  refine Hold.of ?_
  have hyl : ys.length ≤ 4 := by have := hI.length; omega
  refine list_set (ListEl ys ms) rfl ⟨_, (newsAt N (.head _)).1, rfl, _, rfl⟩ (by rw [sizeLine_eq]; omega) F.ns ?elt ?done
  case elt =>
    intro C i v s₃ m₃ E' hC hv hns₃ hmv hst
    refine hide fun P' hP' => ?_
    obtain ⟨m, t, rfl, hmm⟩ := ints_get hI hv
    have F3 : Fr base C s₃.heap (fun y => if y = Str.ofString "mode" then some (.int m t) else m₃ y) :=
      ⟨ns_kst hns₃ [(Str.ofString "mode", .int m t)] (fun p hp => by rw [List.mem_singleton.mp hp]; exact hmv), fun b o e => hst b o (F.keep b o e), Nat.le_trans F.above (Nat.le_of_lt (Nat.lt_trans F.ns.lt hC))⟩
    have N3 : News base C s₃.heap ((D, W.listOf ys.toArray nD) :: R) := fun p hp =>
      ⟨hst _ _ (N p hp).1, Nat.ne_of_lt (Nat.lt_trans (Heap.lt_size (N p hp).1) hC), (N p hp).2.2⟩
    have F0 : Fr base L s₃.heap _ := F.kept hst
    obtain ⟨hp3, g3, d3, tk3, os3⟩ := s₃
    refine hP' ?_
    clear hP'
    w_strict (k_steps)
    all_goals (first | (show Addr; exact 0) | (show Str; exact Str.empty) | (show Value; exact .none) | (show List (Str × Addr); exact []) | skip)
    refine Hold.of ?_
    refine hide fun P' hP' => ?_
    obtain ⟨hm0, hm1⟩ := hm m hmm
    obtain ⟨k, rfl⟩ : ∃ k : Nat, m = (k : Int) := ⟨m.toNat, by omega⟩
    refine hP' ?_
    clear hP'
    refine mode_spec (m := k) T0 (here_top B F0 rfl rfl L36) rfl r1 u1 (tab.keeps (fun o e => hst _ _ e) fun b o _ _ _ e _ _ _ => hst _ _ e) (by omega) ?_
    intro h5 tk5 t5 st5
    have F5 : Fr base C h5 _ := F3.kept st5
    have N5 : News base C h5 _ := fun p hp => ⟨st5 _ _ (N3 p hp).1, (N3 p hp).2⟩
    clear F3 N3 F0
    dsimp only
    w_strict (k_steps)
    all_goals (first | (show Addr; exact 0) | (show Str; exact Str.empty) | (show Value; exact .none) | (show List (Str × Addr); exact []) | skip)
    refine Hold.of ?_
    rename Fr base C _ _ => F6
    rename News base C _ _ => N6
    refine slice_stay_sn (s := ⟨_, _, _, _, _⟩) F6 N6 st5 (fun h6 t6 k6 _ _ hG => ?_) (by rw [sizeLine_eq]; have := modeText_len (m := k) (by omega); omega)
    dsimp only
    w_strict (k_steps)
    exact Hold.of ⟨⟨_, _, _, rfl, rfl⟩, ⟨_, _, rfl, hG⟩⟩
  case done =>
    intro D' h' tk' zs hD' hpl hF hns' hst
    have hS := list_els hI hF
    rw [lists_eq hm] at hS
    have hfm : (ms.take (ms.length - 1)).length = ms.length - 1 := by rw [List.length_take]; omega
    have hsum := sum_rows (ms.take (ms.length - 1))
    have F1 : Fr base L h' (fun q => if q = Str.ofString "lists" then some (.ref D') else if q = Str.ofString "modes" then some (.ref D) else mm q) := ⟨hns', fun b o e => hst b o (fun z => by have z' : b = L := z; have := Heap.lt_size e; exact Nat.lt_irrefl _ (Nat.lt_of_lt_of_le (z' ▸ this) F.above)) (F.keep b o e), F.above⟩
    obtain ⟨nD', hpl⟩ := hpl
    have N1 : News base L h' ((D', W.listOf zs.toArray nD') :: (D, W.listOf ys.toArray nD) :: R) := fun p hp => by
      rcases List.mem_cons.mp hp with rfl | hp
      · refine ⟨hpl, fun z => ?_, ?_⟩
        · refine hide fun P' hP' => ?_
          obtain ⟨o', _, _, ho, _⟩ := F.ns
          refine hP' ?_
          clear hP'
          have z' : D' = L := z
          rw [z', ho] at hD'; cases hD'
        · cases q : base.get? D' with
          | none => rfl
          | some o' => rw [F.keep _ _ q] at hD'; cases hD'
      · exact ⟨hst _ _ (N p hp).2.1 (N p hp).1, (N p hp).2⟩
    clear F N
    dsimp only
    w_strict (k_steps)
    refine Hold.of ?_
    rename Fr _ _ _ _ => F2
    rename News _ _ _ _ => N2
    have hzl : zs.length = ms.length := by rw [strs_len hS, List.length_map]
    refine kmk_slice (lo := none) (hi := some (-1)) F2 N2 ⟨_, (newsAt N2 (.head _)).1, rfl, _, rfl⟩ IsPart.none (IsPart.int _ _) (fun D1 h2 F3 N3 l3 => ?_) (by with_unfolding_all rfl) (by intro _; with_unfolding_all rfl) (by rw [List.size_toArray, hzl, sizeLine_eq]; omega)
    have e3 := slicePick_butLast zs.toArray 1 (by decide)
    rw [show (-((1 : Nat) : Int)) = -1 by rfl] at e3
    rw [e3] at N3
    clear F2 N2 e3
    w_strict (k_steps)
    refine Hold.of ?_
    rename Fr _ _ _ _ => F4
    rename News _ _ _ _ => N4
    refine join_list (ys := (ms.take (ms.length - 1)).map rowText) ⟨_, (newsAt N4 (.head _)).1, rfl, _, rfl⟩ (by rw [List.map_take, ← hzl]; simpa using strs_take hS) (by rw [hsum, List.length_map, hfm, len_none]; omega) ?_
    intro t4 k4
    have htext : Txt.join (Str.ofString "") ((ms.take (ms.length - 1)).map rowText) = sideBySide (ms.take (ms.length - 1)) := rfl
    rw [htext]
    have htl := side_len (ms.take (ms.length - 1))
    have hts := side_signs (ms.take (ms.length - 1))
    rw [hfm] at htl
    generalize htx : sideBySide (ms.take (ms.length - 1)) = text at htl hts htext ⊢
    w_strict (k_steps)
    refine Hold.of ?_
    rename Fr _ _ _ _ => F5
    rename News _ _ _ _ => N5
    have tab5 := tab_of_led TL (fun p hp => N5 p (.tail _ (.tail _ (.tail _ hp)))) (fun p hp => hp)
    refine words_spec T0 (here_top B F5 rfl rfl L36) rfl r1 u1 tab5 (by omega) ?_
    intro h6 tk6 wa wvs K6 tab6 hwa hwl hws
    have F6 := fr_kept F5 K6 rfl T0.n36 L36
    refine hide fun P' hP' => ?_
    obtain ⟨R6, TL6, NR6⟩ := led_of_tab F6 tab6 T0.n36 L36
    obtain ⟨nwa, hwl⟩ := hwl
    refine hP' ?_
    clear hP'
    have N6 : News base L h6 ((wa, W.listOf wvs.toArray nwa) :: (D', W.listOf zs.toArray nD') :: (D, W.listOf ys.toArray nD) :: R6) := news_top hwa F5 hwl (news_call N5 K6 rfl tab5 NR6 [(D', zs.toArray, nD'), (D, ys.toArray, nD)] (fun q hq => by rcases List.mem_cons.mp hq with rfl | hq; exact .tail _ (.head _); rw [List.mem_singleton.mp hq]; exact .tail _ (.tail _ (.head _))))
    clear F5 N5
    dsimp only
    w_strict (k_steps)
    refine Hold.of ?_
    rename Fr _ _ _ _ => F7
    rename News _ _ _ _ => N7
    generalize hlst : List.getD _ _ Str.empty = lst
    rw [last_row (by omega)] at hlst
    generalize hlm : ms.getD (-1 + (ms.length : Int)).toNat 0 = lm at hlst
    subst hlst
    have hll := row_len lm
    refine slice_stay_sn (s := ⟨_, _, _, _, _⟩) F7 N7 (fun _ _ e => e) (fun h8 t8 k8 F8 N8 _ => ?_) (by rw [sizeLine_eq]; omega)
    have htail : Txt.slice (rowText lm) (some 6) none = others lm := rfl
    rw [htail]
    have hlast := others_len lm
    have hlsg := others_signs lm
    have hlne := others_ne lm
    generalize hlas : others lm = last at hlast hlsg hlne htail ⊢
    clear F7 N7
    w_strict (k_steps)
    refine Hold.of ?_
    rename Fr _ _ _ _ => F9
    rename News _ _ _ _ => N9
    have tab9 := tab_of_led TL6 (fun p hp => N9 p (.tail _ (.tail _ (.tail _ hp)))) (fun p hp => hp)
    refine words_spec T0 (here_top B F9 rfl rfl L36) rfl r1 u1 tab9 (by omega) ?_
    intro h10 tk10 wb wus K10 tab10 hwb hbl hbs
    have F10 := fr_kept F9 K10 rfl T0.n36 L36
    refine hide fun P' hP' => ?_
    obtain ⟨R10, TL10, NR10⟩ := led_of_tab F10 tab10 T0.n36 L36
    obtain ⟨nwb, hbl⟩ := hbl
    refine hP' ?_
    clear hP'
    have N10 : News base L h10 ((wb, W.listOf wus.toArray nwb) :: (wa, W.listOf wvs.toArray nwa) :: (D', W.listOf zs.toArray nD') :: (D, W.listOf ys.toArray nD) :: R10) := news_top hwb F9 hbl (news_call N9 K10 rfl tab9 NR10 [(wa, wvs.toArray, nwa), (D', zs.toArray, nD'), (D, ys.toArray, nD)] (mem3 (.head _) (.tail _ (.head _)) (.tail _ (.tail _ (.head _)))))
    clear F9 N9
    dsimp only
    w_strict (k_steps)
    refine Hold.of ?_
    rename Fr _ _ _ _ => F11
    rename News _ _ _ _ => N11
    refine sorted_strs2 (p := (wordsTo text 2).length) ⟨_, (newsAt N11 (.tail _ (.head _))).1, rfl, _, rfl⟩ hws (by rw [strs_len hws]; exact words_lt _) (fun h => words_runs (by rw [← strs_len hws]; exact h)) ?_
    intro so xs Da h12 hso hxp hxs hDa hDal st12
    obtain ⟨nDa, hDal⟩ := hDal
    have F12 := F11.kept st12
    have N12 := news_top hDa F11 hDal (fun p hp => ⟨st12 _ _ (N11 p hp).1, (N11 p hp).2⟩)
    clear F11 N11
    dsimp only
    w_strict (k_steps)
    refine Hold.of ?_
    rename Fr _ _ _ _ => F13
    rename News _ _ _ _ => N13
    refine sorted_strs2 (p := (wordsTo (text ++ last) 2).length) ⟨_, (newsAt N13 (.tail _ (.head _))).1, rfl, _, rfl⟩ hbs (by rw [strs_len hbs]; exact words_lt _) (fun h => words_runs (by rw [← strs_len hbs]; exact h)) ?_
    intro sp zs2 Db h14 hsp hyp hys hDb hDbl st14
    obtain ⟨nDb, hDbl⟩ := hDbl
    have F14 := F13.kept st14
    have N14 := news_top hDb F13 hDbl (fun p hp => ⟨st14 _ _ (N13 p hp).1, (N13 p hp).2⟩)
    clear F13 N13
    dsimp only
    w_strict (k_steps)
    refine Hold.of ?_
    have tab14 := tab_of_led TL10 (fun p hp => N14 p (.tail _ (.tail _ (.tail _ (.tail _ (.tail _ (.tail _ hp))))))) (fun p hp => hp)
    refine hide fun P' hP' => ?_
    obtain ⟨dx0, dlen, dsub, dsx, dsy⟩ := diff_pre (text := text) (last := last) hts hlsg (by omega) hxp hxs hyp hys
    refine hP' ?_
    clear hP'
    refine diff_spec T0 (here_top B F14 rfl rfl L36) rfl r1 u1 tab14 ⟨_, (newsAt N14 (.tail _ (.head _))).1⟩ ⟨_, (newsAt N14 (.head _)).1⟩ hso hsp dx0 dlen dsub dsx dsy ?_
    intro h15 tk15 T15 am au us KD hT hma hua hTt hma2 hua2 hus
    have K15 : Kept [_] h14 h15 := KD.kept (by simp)
    have F15 := fr_kept F14 K15 rfl T0.n36 L36
    refine hide fun P' hP' => ?_
    obtain ⟨nam, hma2⟩ := hma2
    obtain ⟨nau, hua2⟩ := hua2
    refine hP' ?_
    clear hP'
    have N15 : News base L h15 ((au, W.listOf us.toArray nau) :: (am, W.listOf #[] nam) :: (Da, W.listOf so.toArray nDa) :: (D', W.listOf zs.toArray nD') :: (D, W.listOf ys.toArray nD) :: R10) := news_top hua F14 hua2 (news_top hma F14 hma2 (news_call N14 K15 rfl tab14 (news_all (fun p hp => N14 p (.tail _ (.tail _ (.tail _ (.tail _ (.tail _ (.tail _ hp))))))) KD rfl) [(Da, so.toArray, nDa), (D', zs.toArray, nD'), (D, ys.toArray, nD)] (mem3 (.tail _ (.head _)) (.tail _ (.tail _ (.tail _ (.tail _ (.head _))))) (.tail _ (.tail _ (.tail _ (.tail _ (.tail _ (.head _)))))))))
    have hTi : IsTup h15 T15 #[.ref am, .ref au] := by
      refine hide fun P' hP' => ?_
      obtain ⟨o, n, h1, h2, h3⟩ := hTt
      refine hP' ?_
      clear hP'
      exact ⟨o, h1, h2, n, h3⟩
    clear F14 N14
    dsimp only
    w_strict (k_steps)
    refine Hold.of ?_
    refine ListComp_at (cl := []) (fun _ => true) RowOf (by rfl) (by decide) rfl (by decide) rfl ?_
    w_strict (k_steps)
    refine Hold.of ?_
    rename Fr _ _ _ _ => F16
    rename News _ _ _ _ => N16
    refine kmk_slice (lo := none) (hi := some (-1)) F16 N16 ⟨_, (newsAt N16 (.tail _ (.tail _ (.tail _ (.tail _ (.head _)))))).1, rfl, _, rfl⟩ IsPart.none (IsPart.int _ _) (fun D2 h17 F17 N17 l17 => ?_) (by with_unfolding_all rfl) (by intro _; with_unfolding_all rfl) (by rw [List.size_toArray, sizeLine_eq]; omega)
    have e17 := slicePick_butLast ys.toArray 1 (by decide)
    rw [show (-((1 : Nat) : Int)) = -1 by rfl] at e17
    rw [e17] at N17
    clear F16 N16 e17
    w_strict (k_steps)
    refine Hold.of ?_
    rename Fr _ _ _ _ => F18
    rename News _ _ _ _ => N18
    refine list_comp RowOf rfl ⟨_, (newsAt N18 (.head _)).1, rfl, _, rfl⟩ (by rw [sizeLine_eq]; simp; omega) ?elt2 ?done2
    case elt2 =>
      intro C i v s₃ m₃ E' hC hv hns₃ hmv hst
      have hv' : ∃ j : Nat, ys[j]? = some v := List.mem_iff_getElem?.mp (by simpa using List.mem_of_mem_take (List.mem_of_getElem? hv))
      refine hide fun P' hP' => ?_
      obtain ⟨j, hv'⟩ := hv'
      obtain ⟨m, t, rfl, hmm⟩ := ints_get hI hv'
      have F3 : Fr base C s₃.heap (fun y => if y = Str.ofString "mode" then some (.int m t) else m₃ y) :=
        ⟨ns_kst hns₃ [(Str.ofString "mode", .int m t)] (fun p hp => by rw [List.mem_singleton.mp hp]; exact hmv), fun b o e => hst b o (F18.keep b o e), Nat.le_trans F18.above (Nat.le_of_lt (Nat.lt_trans F18.ns.lt hC))⟩
      have N3 : News base C s₃.heap R10 := fun p hp =>
        ⟨hst _ _ (N18 p (by simp [hp])).1, Nat.ne_of_lt (Nat.lt_trans (Heap.lt_size (N18 p (by simp [hp])).1) hC), (N18 p (by simp [hp])).2.2⟩
      have tab3 : TabOk base s₃.heap := tab_of_led TL10 N3 (fun p hp => hp)
      have F0 : Fr base L s₃.heap _ := F18.kept hst
      obtain ⟨hp3, g3, d3, tk3, os3⟩ := s₃
      refine hP' ?_
      clear hP'
      w_strict (k_steps)
      all_goals (first | (show Addr; exact 0) | (show Str; exact Str.empty) | (show Value; exact .none) | (show List (Str × Addr); exact []) | skip)
      refine Hold.of ?_
      refine row_spec T0 (here_top B F0 rfl rfl L36) rfl r1 u1 tab3 ?_
      intro h5 tk5 t5 st5
      clear F3 N3 F0
      dsimp only
      w_strict (k_steps)
      exact Hold.of ⟨⟨_, _, _, rfl, rfl⟩, ⟨_, _, rfl, st5⟩⟩
    case done2 =>
      intro D3 h19 tk19 rs hD3 hrl hrF st19
      obtain ⟨nD3, hrl⟩ := hrl
      have F19 : Fr base L h19 _ := F18.kept st19
      have N19 := news_top hD3 F18 hrl (fun p hp => ⟨st19 _ _ (N18 p hp).1, (N18 p hp).2⟩)
      clear F18 N18
      dsimp only
      w_strict (k_steps)
      refine Hold.of ?_
      rename Fr _ _ _ _ => F20
      rename News _ _ _ _ => N20
      have hyl3 : ys.length = ms.length := hI.length
      have hrs : StrsAre rs ((ms.take (ms.length - 1)).map rowText) := rows_of (ints_take hI) (by rw [← hyl3]; simpa using hrF)
      refine join_list (ys := (ms.take (ms.length - 1)).map rowText) ⟨_, (newsAt N20 (.head _)).1, rfl, _, rfl⟩ (by simpa using hrs) (by rw [hsum, List.length_map, hfm, len_none]; omega) ?_
      intro t20 k20
      rw [htext]
      w_strict (k_steps)
      refine Hold.of ?_
      rename Fr _ _ _ _ => F21
      rename News _ _ _ _ => N21
      have tab21 : TabOk base _ := tab_of_led TL10 (fun p hp => N21 p (by simp [hp])) (fun p hp => hp)
      refine row_spec T0 (here_top B F21 rfl rfl L36) rfl r1 u1 tab21 ?_
      intro h22 tk22 t22 st22
      have F22 := F21.kept st22
      have N22 := fun p hp => (⟨st22 _ _ (N21 p hp).1, (N21 p hp).2⟩ : _ ∧ _)
      have N22 : News base L h22 _ := N22
      clear F21 N21
      dsimp only
      w_strict (k_steps)
      refine Hold.of ?_
      rename Fr _ _ _ _ => F23
      rename News _ _ _ _ => N23
      rw [hlm]
      refine slice_stay_sn (s := ⟨_, _, _, _, _⟩) F23 N23 (fun _ _ e => e) (fun h24 t24 k24 F24 N24 _ => ?_) (by rw [sizeLine_eq]; omega)
      rw [htail]
      clear F23 N23
      w_strict (k_steps)
      refine Hold.of ?_
      rename Fr _ _ _ _ => F25
      rename News _ _ _ _ => N25
      have tab25 : TabOk base _ := tab_of_led TL10 (fun p hp => N25 p (by simp [hp])) (fun p hp => hp)
      refine new_spec T0 (here_top B F25 rfl rfl L36) rfl r1 u1 tab25 (by omega) (by omega) hts hlsg hlne ?_
      intro h26 tk26 t26 due st26 hdue
      have F26 := F25.kept st26
      have N26 := fun p hp => (⟨st26 _ _ (N25 p hp).1, (N25 p hp).2⟩ : _ ∧ _)
      have N26 : News base L h26 _ := N26
      clear F25 N25
      dsimp only
      w_strict (k_steps)
      refine Hold.of ?_
      rename Fr _ _ _ _ => F27
      rename News _ _ _ _ => N27
      have N28 : News base L _ ((au, W.listOf us.toArray nau) :: (am, W.listOf #[] nam) :: R10) := fun p hp => N27 p (by
        rcases List.mem_cons.mp hp with rfl | hp
        · exact .tail _ (.tail _ (.head _))
        rcases List.mem_cons.mp hp with rfl | hp
        · exact .tail _ (.tail _ (.tail _ (.head _)))
        · simp [hp])
      have hfit := new_fit (text := text) (last := last) (due := due) hts hlsg hlne hdue
      have hdl : due.length ≤ 300 := by
        have h1 := hfit.1.length_le
        rw [List.length_append, lt_len, lt_len, lt_len] at h1
        omega
      have hul : us.length ≤ 200 := by
        have h1 := strs_len hus
        have h2 := List.length_filter_le (fun y => decide (y ∉ xs)) zs2
        have h3 := hyp.length_eq
        have h4 := words_lt (text ++ last)
        omega
      refine law_end T0 B rfl (by dsimp only; omega) (by dsimp only; omega) F27 TL10 N28 L36 rfl rfl rfl hus hul hdl (fun u hu => ((come_iff hts hlsg hxp hyp u).mp hu).1.2)
        (fun h3 => come_none hts hlsg hlne hdue hxp hyp h3) (fun h3 => come_due hts hlsg hlne hdue hxp hyp h3) fun h' tk' m' q1 q2 => ?_
      exact fin h' tk' m' q1 q2
end
end Mine
end
section
open PySem PySem.W PyProof.Rows
set_option Elab.async false
namespace Mine
local macro_rules | `(tactic| omega) => `(tactic| lia)
theorem law_pushed {w : World} {loose : List Str} {mean : ExcName → Option Value} {mg mb : Str → Option Value} {base : Heap} {A : Around} {s : Shared} {Q E : Value → Shared → Prop} {fcd : Value} {fa L D : Addr} {mm : Str → Option Value} {ys : List Value} {ns : List Int} {nD : Nat} {v : Int} {t : Tok}
    (T0 : Top0 w loose mean mg mb base) (B : Below A base [] base) (hh : A.handled = none) (hroom : A.depth + 20 < recursionLimit) (hunits : A.units + 120 < cLine)
    (F : Fr base L s.heap mm) (t36 : s.heap.get? 36 = some (tabObj #[])) (hD : mm (Str.ofString "modes") = some (.ref D)) (hDl : s.heap.get? D = some (W.listOf (ys.toArray.push (.int v t)) nD) ∧ D ≠ L ∧ base.get? D = none) (D36 : D ≠ 36) (L36 : 36 < L) (hI : IntsAre ys ns) (hms : ns.length = 2 ∨ ns.length = 3) (hm : ∀ m ∈ ns, 0 ≤ m ∧ m < 512) (hv : 0 ≤ v ∧ v < 512)
    (fin : ∀ h' tk' m', Fr base L h' m' → (∃ ps, h'.get? 36 = some (tabObj ps)) → Q (.bool true) { s with heap := h', toks := tk' }) :
    wpAny (model prg w) (A.deeper (envOfC (Str.ofString "law") lawScope L fa fcd)) (execs lawRest (envOfC (Str.ofString "law") lawScope L fa fcd)) (fun fl s' => Q (match fl with | .ret v => v | _ => .none) s') E s := by
  have snoc : ∀ {vs : List Value} {is : List Int}, IntsAre vs is → IntsAre (vs ++ [.int v t]) (is ++ [v]) := by
    intro vs is h
    induction h with
    | nil => exact .cons v t .nil
    | cons m t' r ih => exact .cons m t' ih
  refine law_rest (ys := ys ++ [.int v t]) (ms := ns ++ [v]) (nD := nD) T0 B hh hroom hunits F (.inl t36) hD ?_ ⟨hDl.2.2, hDl.2.1, D36⟩ L36 (snoc hI) ?_ ?_ fin
  · have := hDl.1
    simpa using this
  · rw [List.length_append, List.length_singleton]; omega
  · intro m hm'
    rcases List.mem_append.mp hm' with hm' | hm'
    · exact hm m hm'
    · rw [List.mem_singleton.mp hm']; exact hv
theorem law_done {w : World} {loose : List Str} {mean : ExcName → Option Value} {mg mb : Str → Option Value} {base : Heap} {A : Around} {s : Shared} {R : Flow → Shared → Prop} {E : Value → Shared → Prop} {fcd : Value} {fa L D : Addr} {mm : Str → Option Value} {ys : List Value} {ns : List Int} {nD : Nat} {v : Int} {t : Tok}
    (T0 : Top0 w loose mean mg mb base) (B : Below A base [] base) (hh : A.handled = none) (hroom : A.depth + 20 < recursionLimit) (hunits : A.units + 120 < cLine)
    (F : Fr base L s.heap mm) (t36 : s.heap.get? 36 = some (tabObj #[])) (hD : mm (Str.ofString "modes") = some (.ref D)) (hDl : s.heap.get? D = some (W.listOf (ys.toArray.push (.int v t)) nD) ∧ D ≠ L ∧ base.get? D = none) (D36 : D ≠ 36) (L36 : 36 < L) (hI : IntsAre ys ns) (hms : ns.length = 2 ∨ ns.length = 3) (hm : ∀ m ∈ ns, 0 ≤ m ∧ m < 512) (hv : 0 ≤ v ∧ v < 512)
    (fin : ∀ fl h' tk' m', (match fl with | .ret v => v | _ => .none) = Value.bool true → Fr base L h' m' → (∃ ps, h'.get? 36 = some (tabObj ps)) → R fl { s with heap := h', toks := tk' }) :
    wpAny (model prg w) (A.deeper (envOfC (Str.ofString "law") lawScope L fa fcd)) (execs lawRest (envOfC (Str.ofString "law") lawScope L fa fcd)) R E s :=
  wpAny_mono (law_pushed (Q := fun v s' => v = .bool true ∧ ∃ h' tk' m', s' = { s with heap := h', toks := tk' } ∧ Fr base L h' m' ∧ ∃ ps, h'.get? 36 = some (tabObj ps)) T0 B hh hroom hunits F t36 hD hDl D36 L36 hI hms hm hv fun h' tk' m' a b => ⟨rfl, h', tk', m', rfl, a, b⟩)
    (fun fl s' ⟨e, h', tk', m', e2, a, b⟩ => by subst e2; exact fin fl h' tk' m' e a b) fun _ _ x => x
theorem modes_len (l : List Int) : (((((l.take 4).length + (List.replicate (3 - (l.length : Int)).toNat [(0 : Int)]).flatten.length : Nat) : Int) - 1 - 0).toNat = 2) ∨ (((((l.take 4).length + (List.replicate (3 - (l.length : Int)).toNat [(0 : Int)]).flatten.length : Nat) : Int) - 1 - 0).toNat = 3) := by
  have h1 : (l.take 4).length = min 4 l.length := List.length_take
  have h2 : (List.replicate (3 - (l.length : Int)).toNat [(0 : Int)]).flatten.length = (3 - (l.length : Int)).toNat := by
    rw [List.length_flatten, List.map_replicate, List.sum_replicate_nat]
    exact Nat.mul_one _
  rw [h1, h2]
  omega
theorem modes_small (l : List Int) : ((((l.take 4).length + (List.replicate (3 - (l.length : Int)).toNat [(0 : Int)]).flatten.length : Nat) : Int) - 1 - 0).toNat ≤ 16777216 := by
  rcases modes_len l with h | h <;> rw [h] <;> decide
theorem fmod512 (a : Int) : 0 ≤ a.fmod 512 ∧ a.fmod 512 < 512 := by
  rw [Int.fmod_eq_emod_of_nonneg _ (by omega)]; omega
theorem rooms : callerA.depth + 20 < recursionLimit ∧ callerA.units + 120 < cLine := by decide
section
local macro_rules | `(tactic| walk_at "execs cons") => `(tactic| ((with_reducible show wpAny _ _ (execs [_, _, _, _, _, _, _, _, _] _) _ _ _); refine Hold.mk ?_))
local macro_rules | `(tactic| l_idx) => `(tactic| ((repeat (rename (_ ≠ _) ∧ _ => hz; clear hz)); (repeat (rename (_ ∧ _) ∧ _ => hz; clear hz)); (try simp only [List.length_append, List.length_cons, List.length_nil, List.length_map]); omega))
local macro_rules | `(tactic| l_fact) => `(tactic| ((repeat (rename (_ ≠ _) ∧ _ => hz; clear hz)); (repeat (rename (_ ∧ _) ∧ _ => hz; clear hz)); omega))
local macro_rules | `(tactic| size_fits) => `(tactic| (rw [sizeLine_eq]; exact modes_small _))
set_option maxRecDepth 100000 in
set_option maxHeartbeats 8000000 in
theorem whole : PySem.Challenge.rw_oy0123_01.Holds := by
  refine Mine.hd ?_
  w_strict (k_go0; (all_goals try k_fold); k_steps)
  refine Hold.of ?_
  rename (Mine.hd.heap_39 _).In _ => X1
  rename Top topProg _ _ _ _ _ => T1
  rename Below callerA _ _ _ => B1
  rename CodeHd _ _ _ => C1
  rename Fr _ _ _ _ => F1
  rename News _ _ _ _ => N1
  rename IntsAre ys _ => hI1
  rename TabsAt _ _ => hT1
  have n36 := N1 (36, tabObj #[]) (by simp)
  have hD1 := newsAt N1 (.head _)
  have L36 : 36 < _ := Heap.lt_size (hT1 (40, 36) (.head _)).2
  refine law_done (s := ⟨_, _, _, _, _⟩) ⟨X1, T1, C1, n36.2.2⟩ B1 rfl rooms.1 rooms.2 F1 n36.1 (if_pos rfl) hD1 ?d36 L36 hI1 ?len ?all (fmod512 _) ?fin
  case d36 =>
    intro z
    have := hD1.1
    rw [z, n36.1] at this
    cases this
  case len =>
    rw [List.length_map, rangeKs_length]
    exact modes_len _
  case all =>
    intro m hm
    refine hide fun P' hP' => ?_
    obtain ⟨k', _, rfl⟩ := List.mem_map.mp hm
    refine hP' ?_
    clear hP'
    exact fmod512 _
  case fin =>
    intro fl h' tk' m' e F9 G9
    cases fl with
    | ret v =>
      have e' : v = .bool true := e
      subst e'
      refine ⟨goodW_bool F9 (by assumption) (raisesW_false ?_) ?_, G9, trivial⟩
      · wrow_none_raised
      · kc_post
    | _ => cases e
end
end Mine
end
set_option maxRecDepth 100000 in
set_option maxHeartbeats 8000000 in
theorem PySem.Challenge.cw_oy0123_01_holds : PySem.Challenge.rw_oy0123_01.Holds := by
  exact Mine.whole

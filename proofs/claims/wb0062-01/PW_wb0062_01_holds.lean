import PyProof.Rows.All
import Wide.All
import OpenK.AllK
import Wide.FinOn
import PySem.Challenge.RW_wb0062_01
open PySem PySem.W PyProof.Rows PySem.Spec PySem.Calls
set_option Elab.async false
set_option maxRecDepth 100000
namespace Mine
section
local macro_rules | `(tactic| o_head $_) => `(tactic| assumption)
/-- says nothing: the kit's head names here what stands in the heap behind the top -/
theorem hd (h0 : PySem.Challenge.rw_wb0062_01.row.Holds) : PySem.Challenge.rw_wb0062_01.row.Holds := by
  k_head
end
end Mine
namespace Mine
theorem room0 {x a R : Nat} (h : x + a < R) : x < R := Nat.lt_of_le_of_lt (Nat.le_add_right x a) h
theorem room1 {x a b R : Nat} (h : x + a < R) (hb : Nat.ble b a = true) : x + b < R := Nat.lt_of_le_of_lt (Nat.add_le_add_left (Nat.le_of_ble_eq_true hb) x) h
theorem room2 {x a b c R : Nat} (h : x + a < R) (hb : Nat.ble (b + c) a = true) : x + b + c < R := by rw [Nat.add_assoc]; exact room1 h hb
theorem room3 {x a b c d R : Nat} (h : x + a < R) (hb : Nat.ble (b + c + d) a = true) : x + b + c + d < R := by rw [Nat.add_assoc x b c]; exact room2 h hb
noncomputable abbrev PG : Program := PySem.Challenge.rw_wb0062_01.row.prog
/-- the heap is kept but for the addresses of mu -/
def Ext (mu : List Addr) (h h' : Heap) : Prop := ∀ b o, b ∉ mu → h.get? b = some o → h'.get? b = some o
/-- a contract: f called with vs, mu the ledger of what it may turn -/
abbrev Con (w : World) (f : Addr) (vs : List Value) (dz uz : Nat) (mu : List (Addr × Obj)) (P : Heap → Prop) (Out : Heap → Value → List (Addr × Obj) → Heap → Prop) : Prop :=
  ∀ (p : Program) (loose : List Str) (mean : ExcName → Option Value) (mg mb : Str → Option Value)
    (dp un : Nat) (gd : Option (List Code)) (cn : Str) (cs : Scope) (a : Addr) (ccd : Value) (cl : List (Str × Addr)) (outer : List Env) (A₀ : Around) (base h₀ : Heap) (L : Addr) (m : Str → Option Value) (s : Shared)
    (Q E : Value → Shared → Prop),
    Below A₀ base outer h₀ → Fr h₀ L s.heap m → Frag.In (Mine.hd.heap_1 w.params) h₀ → News h₀ L s.heap mu → Top p loose mean mg mb h₀ → cs.kind = .function → P s.heap → dp + dz < recursionLimit → un + uz < cLine →
    (∀ r h' tk' mu', Fr h₀ L h' m → News h₀ L h' mu' → Ext (mu.map (·.1)) s.heap h' → Out s.heap r mu' h' → Q r { s with heap := h', toks := tk' }) →
    wpAny (model PySem.Challenge.rw_wb0062_01.row.prog w) (ktrTop dp un gd cn cs L a ccd cl outer) (call (.ref f) vs) Q E s
section
variable {prog : Program} {w : World} {A A₀ : Around} {s : Shared} {K : Frag} {L : Addr} {h₀ base : Heap} {m mg mb : Str → Option Value} {news : List (Addr × Obj)} {p : Program} {loose : List Str} {mean : ExcName → Option Value}
theorem con_def {env : Env} {outer : List Env} {R : Result → Shared → Prop} {name qual : Str} {params : Arguments} {body : List Stmt} {scope : Scope} {dV kV doc pm cdv ct oc : Value} {an od : Option Addr} {osl : Array (Option Value)} {f : Addr} {args : Args} {binds : List (Str × Value)}
    (B : Below A₀ base outer h₀) (F : Fr h₀ L s.heap m) (X₀ : K.In h₀) (N : News h₀ L s.heap news) (T : Top p loose mean mg mb h₀) (hA : A.frames = some (env :: outer)) (hf : env.frame = some L) (hke : env.scope.kind = .function)
    (ho : K.lookup f = some ⟨oc, od, .func (fnOf name qual params body scope dV kV doc pm an cdv ct), osl⟩) (hcd : codeIn K cdv qual = true) (hroom : A.depth < recursionLimit)
    (hbind : BindsTo s (fnOf name qual params body scope dV kV doc pm an cdv ct) args binds) (hloc : ∀ y ∈ binds, scope.names.lookup y.1 = some .local)
    (h : ∀ g L' h₁, Ext (news.map (·.1)) s.heap g → Fr h₀ L g m → Fr g L' h₁ (fun y => binds.reverse.lookup y) → News g L' h₁ news → Below A base (env :: outer) g → K.In g → Top p loose mean mg mb g →
      wpAny (model prog w) (A.deeper (envOf qual scope L' f cdv)) (execs body (envOf qual scope L' f cdv))
        (fun fl s' => LeaveK h₀ L m g R (match fl with | .ret v => v | _ => .none) s')
        (fun e s' => wpAny (model prog w) (A.deeper (envOf qual scope L' f cdv)) (leaving (envOf qual scope L' f cdv) e) (fun _ s'' => R (.error e) s'') (fun e' s'' => R (.error e') s'') s')
        { s with heap := h₁, toks := s.toks + binds.length })
    (hco : scope.isCoroutine = false) (hgen : scope.isGenerator = false) (hk : scope.kind = .function)
    (hcell : ∀ x ∈ scope.names, x.2 ≠ .cell) : codeAny (model prog w) A (.call (.ref f) args) R s := by
  obtain ⟨FG, BG, st, lv⟩ := groundX (R := R) B F N hA hf hke
  have X := X₀.keeps F.keep
  refine codeAny_call_def (fd := fnOf name qual params body scope dV kV doc pm an cdv ct) (body := body) (binds := binds) hroom (X _ _ ho) rfl (T.nolimit.keeps F.keep) (codeRec_of X hcd) rfl hbind hcell hloc (fun h₁ hns hk₁ => ?_) hco hgen hk
  exact wpAny_mono (h _ s.heap.objs.size h₁ (fun b o hb e => hideAll_get _ e hb) FG ⟨hns, fun b o e => hk₁ b o (of_hideAll _ e), Nat.le_of_eq (hideAll_size _ _)⟩
    (fun p hp => ⟨hk₁ _ _ (N p hp).1, Nat.ne_of_lt (Heap.lt_size (N p hp).1), hideAll_none _ (List.mem_map_of_mem hp)⟩) BG (X₀.keeps st) (T.keeps st)) (fun fl s' hl => lv _ _ hl) fun _ _ y => y
end
end Mine
namespace Mine
theorem con_use {w : World} {f : Addr} {vs : List Value} {dz uz : Nat} {mu : List (Addr × Obj)} {P : Heap → Prop} {Out : Heap → Value → List (Addr × Obj) → Heap → Prop} (C : Con w f vs dz uz mu P Out)
    {p : Program} {loose : List Str} {mean : ExcName → Option Value} {mg mb : Str → Option Value} {dp un : Nat} {gd : Option (List Code)} {cn : Str} {cs : Scope} {a : Addr} {ccd : Value} {cl : List (Str × Addr)} {outer : List Env} {A₀ : Around} {base h₀ : Heap} {L : Addr} {m : Str → Option Value} {s : Shared}
    {Q E : Value → Shared → Prop} (B : Below A₀ base outer h₀) (F : Fr h₀ L s.heap m) (X : Frag.In (Mine.hd.heap_1 w.params) h₀) (N : News h₀ L s.heap mu) (T : Top p loose mean mg mb h₀) (hk : cs.kind = .function) (hP : P s.heap) (hd : dp + dz < recursionLimit) (hu : un + uz < cLine)
    (ret : ∀ r h' tk' mu', Fr h₀ L h' m → News h₀ L h' mu' → Ext (mu.map (·.1)) s.heap h' → Out s.heap r mu' h' → Q r { s with heap := h', toks := tk' }) :
    wpAny (model PySem.Challenge.rw_wb0062_01.row.prog w) (ktrTop dp un gd cn cs L a ccd cl outer) (call (.ref f) vs) Q E s :=
  C _ _ _ _ _ _ _ _ _ _ _ _ _ _ _ _ _ _ _ _ _ _ B F X N T hk hP hd hu ret
section
variable {prog : Program} {w : World} {A A₀ : Around} {s : Shared} {K : Frag} {L : Addr} {h₀ base : Heap} {m mg mb : Str → Option Value} {news : List (Addr × Obj)} {p : Program} {loose : List Str} {mean : ExcName → Option Value}
theorem con_nest {env : Env} {outer : List Env} {R : Result → Shared → Prop} {name qual : Str} {params : Arguments} {body : List Stmt} {scope : Scope} {cl : List (Str × Addr)} {doc pm ctv : Value} {c' : Addr} {f : Addr} {args : Args} {binds : List (Str × Value)}
    (B : Below A₀ base outer h₀) (F : Fr h₀ L s.heap m) (X₀ : K.In h₀) (N : News h₀ L s.heap news) (T : Top p loose mean mg mb h₀) (hA : A.frames = some (env :: outer)) (hf : env.frame = some L) (hke : env.scope.kind = .function)
    (ho : (f, fnMade name qual params body scope cl doc pm c' ctv) ∈ news) (hcd : s.heap.CodeRec (.ref c') qual) (hroom : A.depth < recursionLimit)
    (hbind : BindsTo s (fnX name qual params body scope cl .none .none doc pm none (.ref c') ctv) args binds) (hloc : ∀ y ∈ binds, scope.names.lookup y.1 = some .local)
    (h : ∀ g L' h₁, Ext (news.map (·.1)) s.heap g → (∀ b o, s.heap.get? b = some o → h₁.get? b = some o) → Fr h₀ L g m → Fr g L' h₁ (fun y => binds.reverse.lookup y) → News g L' h₁ news → Below A base (env :: outer) g → K.In g → Top p loose mean mg mb g →
      wpAny (model prog w) (A.deeper (envX qual scope L' f (.ref c') cl)) (execs body (envX qual scope L' f (.ref c') cl))
        (fun fl s' => LeaveK h₀ L m g R (match fl with | .ret v => v | _ => .none) s')
        (fun e s' => wpAny (model prog w) (A.deeper (envX qual scope L' f (.ref c') cl)) (leaving (envX qual scope L' f (.ref c') cl) e) (fun _ s'' => R (.error e) s'') (fun e' s'' => R (.error e') s'') s')
        { s with heap := h₁, toks := s.toks + binds.length })
    (hco : scope.isCoroutine = false) (hgen : scope.isGenerator = false) (hk : scope.kind = .function)
    (hcell : ∀ x ∈ scope.names, x.2 ≠ .cell) : codeAny (model prog w) A (.call (.ref f) args) R s := by
  obtain ⟨FG, BG, st, lv⟩ := groundX (R := R) B F N hA hf hke
  refine codeAny_call_def (fd := fnX name qual params body scope cl .none .none doc pm none (.ref c') ctv) (body := body) (binds := binds) hroom (N _ ho).1 rfl (T.nolimit.keeps F.keep) hcd rfl hbind hcell hloc (fun h₁ hns hk₁ => ?_) hco hgen hk
  exact wpAny_mono (h _ s.heap.objs.size h₁ (fun b o hb e => hideAll_get _ e hb) hk₁ FG ⟨hns, fun b o e => hk₁ b o (of_hideAll _ e), Nat.le_of_eq (hideAll_size _ _)⟩
    (fun p hp => ⟨hk₁ _ _ (N p hp).1, Nat.ne_of_lt (Heap.lt_size (N p hp).1), hideAll_none _ (List.mem_map_of_mem hp)⟩) BG (X₀.keeps st) (T.keeps st)) (fun fl s' hl => lv _ _ hl) fun _ _ y => y
end
end Mine
namespace Mine
def Stop (P : Prop) : Prop := P
theorem stop_intro {P : Prop} (h : Stop P) : P := h
noncomputable def inn1 : Stmt := match PySem.Challenge.pw_wb0062_01.main.body with
  | _ :: _ :: _ :: _ :: .FunctionDef _ _ (_ :: f :: _) _ _ _ _ _ _ _ :: _ => f
  | _ => .Pass default
noncomputable def inn2 : Stmt := match PySem.Challenge.pw_wb0062_01.main.body with
  | _ :: _ :: _ :: _ :: _ :: .FunctionDef _ _ (f :: _) _ _ _ _ _ _ _ :: _ => f
  | _ => .Pass default
def IsMade (st : Stmt) (q : Str) (cl : List (Str × Addr)) (c' : Addr) (o : Obj) : Prop :=
  ∃ nm ps bd sc doc pm ctv, o = fnMade nm q ps bd sc cl doc pm c' ctv ∧ (match st with | .FunctionDef n a b _ _ _ s _ _ _ => nm = n ∧ ps = a ∧ bd = b ∧ sc = s | _ => False)
end Mine
namespace Mine
noncomputable def NoFields : List (Addr × Obj) → Prop
  | [] => True
  | p :: r => (∀ vs, p.2.data ≠ .fields vs) ∧ NoFields r
theorem NoFields.get {l : List (Addr × Obj)} : NoFields l → ∀ p ∈ l, ∀ vs, p.2.data ≠ .fields vs := by
  induction l with
  | nil => intro _ p hp; exact absurd hp List.not_mem_nil
  | cons q r ih =>
    intro h p hp
    rcases List.mem_cons.mp hp with rfl | hp
    · exact h.1
    · exact ih h.2 p hp
theorem code_ext {h₀ h h' : Heap} {L c : Addr} {q : Str} {news : List (Addr × Obj)} (N : News h₀ L h news) (C : h.CodeRec (.ref c) q) (hm : NoFields news) (X : Ext (news.map (·.1)) h h') : h'.CodeRec (.ref c) q := by
  obtain ⟨c₂, oc, vs, t, e, ho, hd, hv⟩ := C
  cases e
  refine ⟨c, oc, vs, t, rfl, X _ _ (fun hb => ?_) ho, hd, hv⟩
  obtain ⟨p, hp, e⟩ := List.mem_map.mp hb
  have h1 := (N p hp).1
  rw [e, ho] at h1
  cases h1
  exact hm.get p hp vs hd
theorem ext_fr {mu : List Addr} {h g h' : Heap} {L : Addr} {m : Str → Option Value} (HG : Ext mu h g) (F : Fr g L h' m) : Ext mu h h' := fun b o hb e => F.keep b o (HG b o hb e)
end Mine
namespace Mine
theorem codeHd_ext {h h' : Heap} {mu : List Addr} {c P : Addr} (C : CodeHd h c P) (X : Ext mu h h') (hc : c ∉ mu) : CodeHd h' c P :=
  let ⟨o, vs, file, tf, flags, tg, inF, text, tt, e, r⟩ := C; ⟨o, vs, file, tf, flags, tg, inF, text, tt, X _ _ hc e, r⟩
theorem fresh_of {h g : Heap} {mu : List Addr} {a : Addr} (X : Ext mu h g) (ha : a ∉ mu) (hg : g.get? a = none) : h.get? a = none := by
  cases q : h.get? a with
  | none => rfl
  | some o => rw [X a o ha q] at hg; cases hg
end Mine
namespace Mine
theorem con_defC {prog : Program} {w : World} {A A₀ : Around} {s : Shared} {K : Frag} {L : Addr} {h₀ base : Heap} {m mg mb : Str → Option Value} {news : List (Addr × Obj)} {p : Program} {loose : List Str} {mean : ExcName → Option Value} {env : Env} {outer : List Env} {R : Result → Shared → Prop} {name qual : Str} {params : Arguments} {body : List Stmt} {scope : Scope} {dV kV doc pm cdv ct oc : Value} {an od : Option Addr} {osl : Array (Option Value)} {f : Addr} {args : Args} {binds : List (Str × Value)}
    (B : Below A₀ base outer h₀) (F : Fr h₀ L s.heap m) (X₀ : K.In h₀) (N : News h₀ L s.heap news) (T : Top p loose mean mg mb h₀) (hA : A.frames = some (env :: outer)) (hf : env.frame = some L) (hke : env.scope.kind = .function)
    (ho : K.lookup f = some ⟨oc, od, .func (fnOf name qual params body scope dV kV doc pm an cdv ct), osl⟩) (hcd : codeIn K cdv qual = true) (hroom : A.depth < recursionLimit)
    (hbind : BindsTo s (fnOf name qual params body scope dV kV doc pm an cdv ct) args binds) (hkind : (binds.all fun y => scope.names.lookup y.1 == some .local || scope.names.lookup y.1 == some .cell) = true)
    (hnd : ((cellsFrom 0 scope.names []).map (·.1)).Nodup)
    (h : ∀ g L' h₁ tk cells, Ext (news.map (·.1)) s.heap g → Fr h₀ L g m → Fr g L' h₁ (bindL (envOfC qual scope L' f cdv).kindOf binds fun _ => none) → News g L' h₁ (cells ++ news) →
      CellsAre (bindC (envOfC qual scope L' f cdv).kindOf binds fun _ => none) (cellsFrom (L' + 1) scope.names []) cells → Below A base (env :: outer) g → K.In g → Top p loose mean mg mb g → (∀ p ∈ news, p.1 < L') →
      wpAny (model prog w) (A.deeper (envOfC qual scope L' f cdv)) (execs body (envOfC qual scope L' f cdv))
        (fun fl s' => LeaveK h₀ L m g R (match fl with | .ret v => v | _ => .none) s')
        (fun e s' => wpAny (model prog w) (A.deeper (envOfC qual scope L' f cdv)) (leaving (envOfC qual scope L' f cdv) e) (fun _ s'' => R (.error e) s'') (fun e' s'' => R (.error e') s'') s')
        { s with heap := h₁, toks := tk })
    (hco : scope.isCoroutine = false) (hgen : scope.isGenerator = false) (hk : scope.kind = .function) : codeAny (model prog w) A (.call (.ref f) args) R s := by
  obtain ⟨FG, BG, st, lv⟩ := groundX (R := R) B F N hA hf hke
  have X := X₀.keeps F.keep
  refine codeAny_call_function hroom (X _ _ ho) rfl hco hgen rfl (codeRec_of X hcd) (hbind _ _ _ _ ?_)
  refine wpAny_newFunctionEnv_cells hk (kindsX hkind _) fun env' he s' x => ?_
  subst he
  refine ⟨(T.nolimit.keeps F.keep).keeps x.toInCall.keep, codeAny_func ?_⟩
  obtain ⟨h₁, tk, rfl, _⟩ := x.done
  have hk₁ := x.toInCall.keep
  obtain ⟨cells, NC, Y⟩ := Cl.news (h₀ := s.heap) (Nat.le_refl _) fun n c hm => ⟨x.cell n c (lookup_of_mem_nodup (cellsFrom_names scope.names 0 (s.heap.objs.size + 1) [] [] rfl ▸ hnd) hm), x.above n c hm⟩
  refine wpAny_mono (h _ s.heap.objs.size h₁ tk cells (fun b o hb e => hideAll_get _ e hb) FG ⟨x.toInCall.ns, fun b o e => hk₁ b o (of_hideAll _ e), Nat.le_of_eq (hideAll_size _ _)⟩ (fun p hp => ?_) Y BG (X₀.keeps st) (T.keeps st) (fun p hp => Heap.lt_size (N p hp).1)) (fun fl s' hl => lv _ _ hl) fun _ _ y => y
  rcases List.mem_append.mp hp with hp | hp
  · refine ⟨(NC p hp).1, (NC p hp).2.1, ?_⟩
    cases q : (hideAll s.heap (news.map (·.1))).get? p.1 with
    | none => rfl
    | some o => have := of_hideAll _ q; rw [(NC p hp).2.2] at this; cases this
  · exact ⟨hk₁ _ _ (N p hp).1, Nat.ne_of_lt (Heap.lt_size (N p hp).1), hideAll_none _ (List.mem_map_of_mem hp)⟩
end Mine
namespace Mine
end Mine
namespace Mine
end Mine
namespace Mine
def TabShape (ps : Array Value) : Prop := ps = #[] ∨ ∃ (a b : Int) (v : Value), ps = #[rawInt a, rawInt b, v]
/-- an object that is no code object -/
def NoCode (o : Obj) : Prop := (∀ vs, o.data ≠ .fields vs) ∨ ∃ ps, o = tabObj ps ∧ TabShape ps
noncomputable def AllNoCode : List (Addr × Obj) → Prop
  | [] => True
  | p :: r => NoCode p.2 ∧ AllNoCode r
theorem news_join {h₀ h h' : Heap} {L : Addr} {mu : List Addr} {mu' rest news : List (Addr × Obj)} (N : News h₀ L h news) (X : Ext mu h h') (N9 : News h₀ L h' mu') (hr : ∀ p ∈ rest, p ∈ news ∧ p.1 ∉ mu) : News h₀ L h' (mu' ++ rest) := fun p hp => by
  rcases List.mem_append.mp hp with hp | hp
  · exact N9 p hp
  · exact ⟨X _ _ (hr p hp).2 (N p (hr p hp).1).1, (N p (hr p hp).1).2⟩
theorem ints_cons {vs : List Value} {d : Int} {r : List Int} (h : IntsAre vs (d :: r)) : ∃ t vs', vs = .int d t :: vs' ∧ IntsAre vs' r := by
  cases h with
  | cons i t h => exact ⟨t, _, rfl, h⟩
end Mine
namespace Mine
theorem news_all {h₀ h h' : Heap} {L : Addr} {mu' news : List (Addr × Obj)} (N : News h₀ L h news) (X : Ext [] h h') (N9 : News h₀ L h' mu') : News h₀ L h' (mu' ++ news) := fun p hp => by
  rcases List.mem_append.mp hp with hp | hp
  · exact N9 p hp
  · exact ⟨X _ _ List.not_mem_nil (N p hp).1, (N p hp).2⟩
theorem fresh_ne {h₀ h : Heap} {L D : Addr} {news : List (Addr × Obj)} (N : News h₀ L h news) (hf : h.get? D = none) : GnNe D news := gnNe_of fun p hp e => by
  have := (N p hp).1
  rw [e, hf] at this; cases this
end Mine
namespace Mine
theorem ext_mono {a b : List Addr} {h h' : Heap} (X : Ext a h h') (hs : ∀ x ∈ a, x ∈ b) : Ext b h h' := fun x o hb e => X x o (fun q => hb (hs x q)) e
/-- a code table in the ledger: its def not made yet (the second entry is the first again), or made: the code object beside it -/
def TabS (q : Str) (line col : Nat) (P : Addr) (ps : Array Value) (c : Addr) (o : Obj) : Prop :=
  (ps = #[] ∧ c = P ∧ o = tabObj #[]) ∨ (ps = #[rawInt line, rawInt col, .ref c] ∧ ∃ vs t, o.data = .fields vs ∧ vs[1]? = some (.str q t))
end Mine
namespace Mine
theorem tab_name {vs : Array Value} {q q' : Str} {t : Tok} (h : vs[1]? = some (.str q t)) (e : q = q') : vs[1]? = some (.str q' t) := e ▸ h
theorem not_two {a b d : Nat} (h1 : d ≠ a) (h2 : d ≠ b) : d ∉ [a, b] := fun h => by
  rcases List.mem_cons.mp h with e | e
  · exact h1 e
  · exact h2 (List.mem_singleton.mp e)
end Mine
namespace Mine
theorem old_away {h₀ h : Heap} {L c : Addr} {o : Obj} {news : List (Addr × Obj)} (e : h₀.get? c = some o) (N : News h₀ L h news) : c ∉ news.map (·.1) := fun hb => by
  obtain ⟨p, hp, e2⟩ := List.mem_map.mp hb
  have := (N p hp).2.2
  rw [e2, e] at this; cases this
end Mine
namespace Mine
def IsCodeO (q : Str) (o : Obj) : Prop := ∃ vs t, o.data = .fields vs ∧ vs[1]? = some (.str q t)
theorem IsCodeO.not_tab {q : Str} {o : Obj} {ps : Array Value} (C : IsCodeO q o) (hs : TabShape ps) : o ≠ tabObj ps := by
  rintro rfl
  obtain ⟨vs, t, hd, hv⟩ := C
  cases hd
  rcases hs with rfl | ⟨a, b, v, rfl⟩
  · have h2 : (none : Option Value) = some (Value.str q t) := hv
    cases h2
  · have h2 : some (rawInt b) = some (Value.str q t) := hv
    cases h2
theorem IsCodeO.not_code {q q' : Str} {o : Obj} (C : IsCodeO q o) (C' : IsCodeO q' o) : q = q' := by
  obtain ⟨vs, t, hd, hv⟩ := C
  obtain ⟨vs', t', hd', hv'⟩ := C'
  rw [hd] at hd'
  cases hd'
  rw [hv] at hv'
  cases hv'
  rfl
theorem TabS.shape {q : Str} {l c : Nat} {P : Addr} {ps : Array Value} {c1 : Addr} {o1 : Obj} (S : TabS q l c P ps c1 o1) : TabShape ps := by
  rcases S with ⟨rfl, _⟩ | ⟨rfl, _⟩
  · exact .inl rfl
  · exact .inr ⟨_, _, _, rfl⟩
theorem obj_away {h₀ h : Heap} {L a D : Addr} {o o' : Obj} {news : List (Addr × Obj)} (N : News h₀ L h news) (m : (a, o) ∈ news) (mD : (D, o') ∈ news) (ne : o ≠ o') : a ≠ D := fun e => by
  have h1 := (N _ m).1
  have h2 := (N _ mD).1
  dsimp only at h1 h2
  rw [e, h2] at h1
  exact ne (Option.some.inj h1).symm
theorem TabS.two {h₀ h : Heap} {L : Addr} {news : List (Addr × Obj)} {q q' : Str} {l c l' c' : Nat} {P P' : Addr} {ps ps' : Array Value} {c1 c2 : Addr} {o1 o2 : Obj} (N : News h₀ L h news) (m1 : (P, tabObj ps) ∈ news) (m2 : (c1, o1) ∈ news) (m3 : (P', tabObj ps') ∈ news) (m4 : (c2, o2) ∈ news)
    (S : TabS q l c P ps c1 o1) (S' : TabS q' l' c' P' ps' c2 o2) (hP : P' ≠ P) (hq : q ≠ q') : P' ∉ [P, c1] ∧ c2 ∉ [P, c1] := by
  have sh := S.shape
  have sh' := S'.shape
  rcases S with ⟨rfl, rfl, rfl⟩ | ⟨_, C⟩
  · rcases S' with ⟨rfl, rfl, rfl⟩ | ⟨_, C'⟩
    · exact ⟨not_two hP hP, not_two hP hP⟩
    · have h2 := obj_away N m4 m1 (IsCodeO.not_tab C' sh)
      exact ⟨not_two hP hP, not_two h2 h2⟩
  · have h1 := obj_away N m3 m2 (Ne.symm (IsCodeO.not_tab C sh'))
    rcases S' with ⟨rfl, rfl, rfl⟩ | ⟨_, C'⟩
    · exact ⟨not_two hP h1, not_two hP h1⟩
    · refine ⟨not_two hP h1, not_two (obj_away N m4 m1 (IsCodeO.not_tab C' sh)) (obj_away N m4 m2 fun e => ?_)⟩
      subst e
      exact hq (IsCodeO.not_code C C')
theorem TabS.not_seq {q : Str} {l c : Nat} {P : Addr} {ps : Array Value} {c1 : Addr} {o1 : Obj} (S : TabS q l c P ps c1 o1) {cl : Value} {xs : Array Value} {j : Nat} : o1 ≠ { cls := cl, data := .seq xs j } := by
  rcases S with ⟨rfl, rfl, rfl⟩ | ⟨_, vs, t, hd, _⟩
  · intro e; have := congrArg Obj.data e; cases this
  · rintro rfl; cases hd
theorem not_three {a b c d : Nat} (h1 : d ≠ a) (h2 : d ≠ b) (h3 : d ≠ c) : d ∉ [a, b, c] := fun h => by
  rcases List.mem_cons.mp h with e | e
  · exact h1 e
  · exact not_two h2 h3 e
theorem two_ne {a b d : Nat} (h : d ∉ [a, b]) : d ≠ a ∧ d ≠ b := ⟨fun e => h (e ▸ .head _), fun e => h (e ▸ .tail _ (.head _))⟩
end Mine
namespace Mine
def FreshBut (mu : List Addr) (h : Heap) (D : Addr) : Prop := ∀ o, h.get? D = some o → D ∈ mu
theorem fresh_but {h g : Heap} {mu : List Addr} {D : Addr} (X : Ext mu h g) (hg : g.get? D = none) : FreshBut mu h D := fun o e => Classical.byContradiction fun hn => by
  have := X D o hn e
  rw [hg] at this; cases this
end Mine
namespace Mine
theorem fr_norm4 {h₀ h : Heap} {L : Addr} {m : Str → Option Value} {a b c d : Str} {va vb vc vd : Value} (F : Fr h₀ L h m) (ha : m a = some va) (hb : m b = some vb) (hc : m c = some vc) (hd : m d = some vd) :
    Fr h₀ L h (fun y => if y = a then some va else if y = b then some vb else if y = c then some vc else if y = d then some vd else m y) := by
  have e : (fun y => if y = a then some va else if y = b then some vb else if y = c then some vc else if y = d then some vd else m y) = m := by
    funext y
    by_cases h1 : y = a
    · rw [if_pos h1, h1, ha]
    · rw [if_neg h1]
      by_cases h2 : y = b
      · rw [if_pos h2, h2, hb]
      · rw [if_neg h2]
        by_cases h3 : y = c
        · rw [if_pos h3, h3, hc]
        · rw [if_neg h3]
          by_cases h4 : y = d
          · rw [if_pos h4, h4, hd]
          · rw [if_neg h4]
  rw [e]; exact F
end Mine
namespace Mine
/-- what int_divmod gives: the pair, the two code tables grown -/
inductive DivOut (y : Nat) (b : Int) (mu : List Addr) (h : Heap) : Value → List (Addr × Obj) → Prop
  | mk (D : Addr) (u1 u2 : Tok) (j : Nat) (p1' : Array Value) (c1' : Addr) (o1' : Obj) (p2' : Array Value) (c2' : Addr) (o2' : Obj) :
    TabS "_int2digits.<locals>.inner" 32 4 30 p1' c1' o1' → TabS "_digits2int.<locals>.inner" 47 4 37 p2' c2' o2' → FreshBut mu h D →
    DivOut y b mu h (.ref D) [(30, tabObj p1'), (c1', o1'), (37, tabObj p2'), (c2', o2'), (D, { cls := .type "tuple", data := .seq #[.int ((y : Int) / b) u1, .int ((y : Int) % b) u2] j })]
theorem DivOut.mk' {y : Nat} {b : Int} {mu : List Addr} {h : Heap} {mu' : List (Addr × Obj)} (D : Addr) (u1 u2 : Tok) (j : Nat) (p1' : Array Value) (c1' : Addr) (o1' : Obj) (p2' : Array Value) (c2' : Addr) (o2' : Obj)
    (he : mu' = [(30, tabObj p1'), (c1', o1'), (37, tabObj p2'), (c2', o2'), (D, { cls := .type "tuple", data := .seq #[.int ((y : Int) / b) u1, .int ((y : Int) % b) u2] j })])
    (S1 : TabS "_int2digits.<locals>.inner" 32 4 30 p1' c1' o1') (S2 : TabS "_digits2int.<locals>.inner" 47 4 37 p2' c2' o2') (f : FreshBut mu h D) : DivOut y b mu h (.ref D) mu' := he ▸ .mk D u1 u2 j p1' c1' o1' p2' c2' o2' S1 S2 f
end Mine
namespace Mine
/-- the k figures of x to the base 2 ^ n, the lowest first -/
noncomputable def digs (n : Nat) : Nat → Nat → List Int
  | _, 0 => []
  | x, k + 1 => ((x % 2 ^ n : Nat) : Int) :: digs n (x / 2 ^ n) k
theorem digs_length (n : Nat) : ∀ (k x : Nat), (digs n x k).length = k
  | 0, _ => rfl
  | k + 1, x => by rw [digs, List.length_cons, digs_length n k]
theorem mod_split (x b c : Nat) : x % (b * c) % b = x % b := Nat.mod_mul_right_mod x b c
theorem digs_split (n : Nat) : ∀ (a b x : Nat), digs n x (a + b) = digs n (x % 2 ^ (n * a)) a ++ digs n (x / 2 ^ (n * a)) b
  | 0, b, x => by simp [digs]
  | a + 1, b, x => by
    have e : a + 1 + b = (a + b) + 1 := by omega
    have hp : 2 ^ (n * (a + 1)) = 2 ^ n * 2 ^ (n * a) := by rw [Nat.mul_succ, Nat.pow_add, Nat.mul_comm]
    rw [e, digs, digs_split n a b, digs, hp, List.cons_append, mod_split, Nat.mod_mul_right_div_self, Nat.div_div_eq_div_mul]
theorem land_high (x k : Nat) : x &&& (x / 2 ^ k * 2 ^ k) = x / 2 ^ k * 2 ^ k := by
  apply Nat.eq_of_testBit_eq
  intro i
  rw [Nat.testBit_and, Nat.testBit_mul_two_pow]
  by_cases h : k ≤ i
  · simp only [h, decide_true, Bool.true_and]
    rw [Nat.testBit_div_two_pow, Nat.sub_add_cancel h, Bool.and_self]
  · simp [h]
theorem bitAnd_nn (x y : Nat) : Builtin.bitAnd (x : Int) (y : Int) = ((x &&& y : Nat) : Int) := by
  unfold Builtin.bitAnd
  simp
theorem xor_low (x k : Nat) : Builtin.bitXor (x : Int) ((x : Int).fdiv (2 ^ k) * 2 ^ k) = ((x % 2 ^ k : Nat) : Int) := by
  have e : (x : Int).fdiv (2 ^ k) * 2 ^ k = ((x / 2 ^ k * 2 ^ k : Nat) : Int) := by
    rw [Int.fdiv_eq_ediv_of_nonneg _ (Int.pow_nonneg (by decide))]
    simp
  rw [e, _root_.PyProof.Rows.bitXor_and, bitAnd_nn, land_high]
  have := Nat.div_add_mod x (2 ^ k)
  rw [Nat.mul_comm] at this
  omega
theorem shr_cast (x k : Nat) : (x : Int).fdiv (2 ^ k) = ((x / 2 ^ k : Nat) : Int) := by
  rw [Int.fdiv_eq_ediv_of_nonneg _ (Int.pow_nonneg (by decide))]
  simp
theorem mid_eq (a : Int) : a.fdiv (2 ^ (1 : Int).toNat) = a / 2 := by
  rw [show ((2 : Int) ^ (1 : Int).toNat) = 2 from rfl]
  exact Int.fdiv_eq_ediv_of_nonneg _ (by decide)
theorem sh_nn {l r n : Int} (h : l < r) (hn : 6 ≤ n) : 0 ≤ ((l + r).fdiv (2 ^ (1 : Int).toNat) - l) * n := by
  rw [mid_eq]
  exact Int.mul_nonneg (by omega) (by omega)
theorem sh_le {l r n len : Int} (h0 : 0 ≤ l) (h : l < r) (h1 : r ≤ len) (h2 : len ≤ 6) (hn : 6 ≤ n) (hn' : n ≤ 7) : ((l + r).fdiv (2 ^ (1 : Int).toNat) - l) * n ≤ 1000000 := by
  rw [mid_eq]
  have h3 : (l + r) / 2 - l ≤ 6 := by omega
  have h4 : 0 ≤ (l + r) / 2 - l := by omega
  have := Int.mul_le_mul h3 hn' (by omega) (by omega)
  omega
theorem sh_toNat {l r : Int} {n : Nat} {a : Nat} (ha : (l + r) / 2 - l = (a : Int)) : (((l + r).fdiv (2 ^ (1 : Int).toNat) - l) * (n : Int)).toNat = n * a := by
  rw [mid_eq, ha]
  rw [← Int.natCast_mul, Int.toNat_natCast, Nat.mul_comm]
/-- a stretch is cut in its middle -/
structure Mid (l r M : Int) (k ka kb N : Nat) : Prop where
  hM : (l + r).fdiv (2 ^ (1 : Int).toNat) = M
  hh : (l + r) / 2 - l = (ka : Int)
  ha : M - l = (ka : Int)
  hb : r - M = (kb : Int)
  hk : k = ka + kb
  la : ka < k
  lb : kb < k
  lM : l < M
  Mr : M < r
  MN : M ≤ (N : Int)
  M0 : 0 ≤ M
  Mt : M.toNat = l.toNat + ka
  rt : r.toNat = l.toNat + (ka + kb)
  aN : l.toNat + ka ≤ N
  rN : l.toNat + (ka + kb) ≤ N
theorem mid_split {l r : Int} {k N : Nat} (hk : r - l = (k : Int)) (hl : 0 ≤ l) (hlr : l + 1 < r) (hr : r ≤ (N : Int)) : ∃ (M : Int) (ka kb : Nat), Mid l r M k ka kb N := by
  obtain ⟨M, hM, h1, h2⟩ : ∃ M, (l + r) / 2 = M ∧ l < M ∧ M < r := ⟨_, rfl, by omega, by omega⟩
  obtain ⟨ka, ha⟩ : ∃ ka : Nat, M - l = (ka : Int) := ⟨(M - l).toNat, (Int.toNat_of_nonneg (Int.sub_nonneg_of_le (Int.le_of_lt h1))).symm⟩
  obtain ⟨kb, hb⟩ : ∃ kb : Nat, r - M = (kb : Int) := ⟨(r - M).toNat, (Int.toNat_of_nonneg (Int.sub_nonneg_of_le (Int.le_of_lt h2))).symm⟩
  have e1 : k = ka + kb := by clear hM hl hr; omega
  have e2 : M.toNat = l.toNat + ka := by clear hM hr hk hb e1; omega
  have e3 : r.toNat = l.toNat + k := by clear hM hr ha hb e1 e2 h1 h2; omega
  have e4 : l.toNat + k ≤ N := by clear hM ha hb e1 e2 h1 h2; omega
  refine ⟨M, ka, kb, (mid_eq _).trans hM, by rw [hM]; exact ha, ha, hb, e1, ?_, ?_, h1, h2, Int.le_trans (Int.le_of_lt h2) hr, Int.le_of_lt (Int.lt_of_le_of_lt hl h1), e2, e1 ▸ e3, ?_, e1 ▸ e4⟩
  · clear hM e2 e3 e4 hl hr; omega
  · clear hM e2 e3 e4 hl hr; omega
  · clear hM e2 e3 ha hl hr h1 h2; omega
theorem toNat_one {l r : Int} (hk : r - l = ((1 : Nat) : Int)) (hl : 0 ≤ l) : r.toNat = l.toNat + 1 := by omega
theorem toNat_lt {l r : Int} {N : Nat} (hl : 0 ≤ l) (h : l < r) (hr : r ≤ (N : Int)) : l.toNat < N := by omega
/-- what stands behind the two halves -/
theorem halves (n : Nat) (ds : List Int) (x a b l : Nat) (h : l + (a + b) ≤ ds.length) :
    ((ds.take l ++ digs n (x % 2 ^ (n * a)) a ++ ds.drop (l + a)).take (l + a) ++ digs n (x / 2 ^ (n * a)) b ++ (ds.take l ++ digs n (x % 2 ^ (n * a)) a ++ ds.drop (l + a)).drop (l + (a + b))) = ds.take l ++ digs n x (a + b) ++ ds.drop (l + (a + b)) := by
  have e1 : (ds.take l ++ digs n (x % 2 ^ (n * a)) a).length = l + a := by rw [List.length_append, List.length_take, digs_length]; omega
  have e2 : (ds.take l ++ digs n (x % 2 ^ (n * a)) a ++ ds.drop (l + a)).take (l + a) = ds.take l ++ digs n (x % 2 ^ (n * a)) a := by
    rw [List.take_append_of_le_length (by omega), List.take_of_length_le (by omega)]
  have e3 : (ds.take l ++ digs n (x % 2 ^ (n * a)) a ++ ds.drop (l + a)).drop (l + (a + b)) = ds.drop (l + (a + b)) := by
    rw [List.drop_append, e1, List.drop_of_length_le (by omega), List.nil_append, List.drop_drop]
    congr 1
    omega
  rw [e2, e3, digs_split]
  simp only [List.append_assoc]
theorem halves_len (n : Nat) (ds : List Int) (x a l : Nat) (h : l + a ≤ ds.length) : (ds.take l ++ digs n x a ++ ds.drop (l + a)).length = ds.length := by
  rw [List.length_append, List.length_append, List.length_take, digs_length, List.length_drop]
  omega
theorem set_one (n : Nat) (ds : List Int) (x l : Nat) (hx : x < 2 ^ n) (h : l < ds.length) : ds.set l (x : Int) = ds.take l ++ digs n x 1 ++ ds.drop (l + 1) := by
  rw [digs, digs, Nat.mod_eq_of_lt hx, List.set_eq_take_append_cons_drop, if_pos h, List.append_assoc]
  rfl
end Mine
namespace Mine
theorem k_zero {n k : Nat} (hn : 6 ≤ (n : Int)) (hn' : (n : Int) ≤ 7) (hb : (((Builtin.Int.intBits ((0 : Nat) : Int) : Nat) : Int) + (n : Int) - 1).fdiv (n : Int) = (k : Int)) : k = 0 := by
  have h0 : Builtin.Int.intBits ((0 : Nat) : Int) = 0 := rfl
  rw [h0, Int.fdiv_eq_ediv_of_nonneg _ (by omega)] at hb
  have : n = 6 ∨ n = 7 := by omega
  rcases this with rfl | rfl <;> simp at hb <;> omega
theorem k_pos {n k y : Nat} (hy : y < 2 ^ (n * k)) (h : (y : Int) ≠ 0) : 0 < k := by
  rcases Nat.eq_zero_or_pos k with rfl | h1
  · simp at hy; omega
  · exact h1
theorem ints_whole {vs' : List Value} {ds : List Int} {n y k : Nat} (h : IntsAre vs' (ds.take (0 : Int).toNat ++ digs n y k ++ ds.drop (k : Int).toNat)) (hl : ds.length = k) : IntsAre vs' (digs n y k) := by
  have e : ds.take (0 : Int).toNat ++ digs n y k ++ ds.drop (k : Int).toNat = digs n y k := by
    rw [Int.toNat_natCast, List.drop_of_length_le (by omega)]
    simp
  rw [e] at h; exact h
end Mine
namespace Mine
theorem n1_eq {X : Int} {n1 k : Nat} (e3 : 0 ≤ X → (n1 : Int) = ((0 + 1 : Nat) : Int) * X) (hb : X = (k : Int)) : n1 = k := by
  subst hb
  have h := e3 (by omega)
  simp at h
  omega
theorem ints_nil_of {vs : List Value} {ds : List Int} {n y : Nat} (h : IntsAre vs ds) (hl : ds.length = 0) : IntsAre vs (digs n y 0) := by
  rw [List.eq_nil_of_length_eq_zero hl] at h; exact h
end Mine
namespace Mine
/-- the number of the figures, the lowest first -/
noncomputable def und (n : Nat) : List Int → Int
  | [] => 0
  | d :: r => d + 2 ^ n * und n r
theorem und_append (n : Nat) : ∀ a b : List Int, und n (a ++ b) = und n a + 2 ^ (n * a.length) * und n b
  | [], b => by simp [und]
  | d :: r, b => by
    rw [List.cons_append, und, und_append n r b, und, List.length_cons, Nat.mul_succ, Int.pow_add, Int.mul_add, Int.add_assoc]
    congr 2
    rw [← Int.mul_assoc, Int.mul_comm (2 ^ n) (2 ^ (n * r.length))]
def Fig (n : Nat) (ds : List Int) : Prop := ∀ d ∈ ds, 0 ≤ d ∧ d < 2 ^ n
theorem und_lt (n : Nat) : ∀ ds : List Int, Fig n ds → 0 ≤ und n ds ∧ und n ds < 2 ^ (n * ds.length)
  | [], _ => by simp [und]
  | d :: r, h => by
    have h1 := h d (.head _)
    have h2 := und_lt n r (fun x hx => h x (.tail _ hx))
    rw [und, List.length_cons, Nat.mul_succ, Int.pow_add]
    have hp : (0 : Int) < 2 ^ n := Int.pow_pos (by decide)
    have h3 : 0 ≤ 2 ^ n * und n r := Int.mul_nonneg (Int.le_of_lt hp) h2.1
    have h4 : 2 ^ n * (und n r + 1) ≤ 2 ^ n * 2 ^ (n * r.length) := Int.mul_le_mul_of_nonneg_left (by omega) (Int.le_of_lt hp)
    rw [Int.mul_add, Int.mul_one] at h4
    rw [Int.mul_comm (2 ^ (n * r.length))]
    omega
theorem fig_slice {n : Nat} {ds : List Int} (h : Fig n ds) (a k : Nat) : Fig n ((ds.drop a).take k) := fun d hd => h d (List.mem_of_mem_drop (List.mem_of_mem_take hd))
theorem und_slice (n : Nat) (ds : List Int) (l a b : Nat) (h : l + (a + b) ≤ ds.length) :
    und n ((ds.drop (l + a)).take b) * 2 ^ (n * a) + und n ((ds.drop l).take a) = und n ((ds.drop l).take (a + b)) := by
  have e : (ds.drop l).take (a + b) = (ds.drop l).take a ++ (ds.drop (l + a)).take b := by
    rw [List.take_add, List.drop_drop]
  have e2 : ((ds.drop l).take a).length = a := by rw [List.length_take, List.length_drop]; omega
  rw [e, und_append, e2, Int.mul_comm, Int.add_comm]
theorem und_one (n : Nat) (ds : List Int) (l : Nat) (h : l < ds.length) : und n ((ds.drop l).take 1) = ds.getD l 0 := by
  rw [List.drop_eq_getElem_cons h, List.take_succ_cons, List.take_zero, und, und, Int.mul_zero, Int.add_zero]
  rw [List.getD_eq_getElem?_getD, List.getElem?_eq_getElem h]
  rfl
theorem und_small {n : Nat} {ds : List Int} (hn : (n : Int) ≤ 7) (h : Fig n ds) (hk : ds.length ≤ 6) : (und n ds).natAbs < 2 ^ 64 := by
  have h1 := und_lt n ds h
  have h7 : n * ds.length ≤ 7 * 6 := Nat.mul_le_mul (by omega) hk
  have h8 := Nat.pow_le_pow_right (n := 2) (by decide) h7
  have h9 : (2 : Nat) ^ (7 * 6) < 2 ^ 64 := by decide
  have h10 : ((2 ^ (n * ds.length) : Nat) : Int) = 2 ^ (n * ds.length) := by simp
  omega
end Mine
namespace Mine
theorem und_whole (n : Nat) (ds : List Int) : und n ((ds.drop (0 : Int).toNat).take ds.length) = und n ds := by
  simp
theorem und_empty (n : Nat) (ds : List Int) (h : ¬ 0 < ds.length) : 0 = und n ds := by
  have : ds = [] := List.eq_nil_of_length_eq_zero (by omega)
  subst this; rfl
end Mine
namespace Mine
theorem bits_of_b {b : Int} (h1 : 32 ≤ b) (h2 : b < 128) : 6 ≤ ((Builtin.Int.intBits b : Nat) : Int) ∧ ((Builtin.Int.intBits b : Nat) : Int) ≤ 7 ∧ b < 2 ^ Builtin.Int.intBits b := by
  obtain ⟨m, rfl⟩ : ∃ m : Nat, b = (m : Int) := ⟨b.toNat, by omega⟩
  have hm1 : 32 ≤ m := by omega
  have hm2 : m < 128 := by omega
  clear h1 h2
  revert hm1
  revert m
  decide +kernel
theorem figs_k {n y : Nat} (hn : 6 ≤ (n : Int)) (hn' : (n : Int) ≤ 7) (hy : y < 2 ^ 30) : ∃ k : Nat, (((Builtin.Int.intBits (y : Int) : Nat) : Int) + (n : Int) - 1).fdiv (n : Int) = (k : Int) ∧ (k : Int) ≤ 5 ∧ y < 2 ^ (n * k) := by
  have hb : Builtin.Int.intBits (y : Int) ≤ 30 := intBits_le_iff.mpr (by simpa using hy)
  have hlt : y < 2 ^ Builtin.Int.intBits (y : Int) := by
    have := intBits_le_iff (m := Builtin.Int.intBits (y : Int)) (x := (y : Int))
    simpa using this.mp (Nat.le_refl _)
  generalize Builtin.Int.intBits (y : Int) = e at hb hlt
  have hc : n = 6 ∨ n = 7 := by omega
  rw [Int.fdiv_eq_ediv_of_nonneg _ (by omega)]
  refine ⟨(e + n - 1) / n, ?_, ?_, ?_⟩
  · rcases hc with rfl | rfl <;> omega
  · rcases hc with rfl | rfl <;> omega
  · refine Nat.lt_of_lt_of_le hlt (Nat.pow_le_pow_right (by decide) ?_)
    rcases hc with rfl | rfl <;> omega
end Mine
namespace Mine
theorem xb {r d : Int} {n : Nat} (hn' : (n : Int) ≤ 7) (hr : 0 ≤ r ∧ r < 128) (hd : 0 ≤ d ∧ d < 2 ^ n) : 0 ≤ r * 2 ^ (n : Int).toNat + d ∧ r * 2 ^ (n : Int).toNat + d < 2 ^ 40 := by
  rw [Int.toNat_natCast]
  have hp : (0 : Int) < 2 ^ n := Int.pow_pos (by decide)
  have h7 : (2 : Int) ^ n ≤ 128 := by
    have := Nat.pow_le_pow_right (n := 2) (by decide) (show n ≤ 7 by omega)
    have e : ((2 ^ n : Nat) : Int) = 2 ^ n := by simp
    omega
  have h1 : 0 ≤ r * 2 ^ n := Int.mul_nonneg hr.1 (Int.le_of_lt hp)
  have h2 : r * 2 ^ n ≤ 128 * 128 := Int.mul_le_mul (by omega) h7 (Int.le_of_lt hp) (by omega)
  omega
theorem fm_bd {x b : Int} (h3 : 32 ≤ b) (h4 : b < 128) : 0 ≤ x.fmod b ∧ x.fmod b < 128 := by
  rw [Int.fmod_eq_emod_of_nonneg _ (by omega)]
  have := Int.emod_nonneg x (show b ≠ 0 by omega)
  have := Int.emod_lt_of_pos x (show 0 < b by omega)
  omega
theorem zero_bd : (0 : Int) ≤ 0 ∧ (0 : Int) < 128 := by decide
theorem dg_bd (z n : Nat) : 0 ≤ ((z % 2 ^ n : Nat) : Int) ∧ ((z % 2 ^ n : Nat) : Int) < 2 ^ n := by
  have := Nat.mod_lt z (Nat.two_pow_pos n)
  have e : ((2 ^ n : Nat) : Int) = 2 ^ n := by simp
  omega
/-- long division, the highest figure first: the quotients in their order, the last rest -/
noncomputable def ldiv (n : Nat) (b : Int) : List Int → Int → List Int × Int
  | [], r => ([], r)
  | d :: ds, r => ((r * 2 ^ (n : Int).toNat + d).fdiv b :: (ldiv n b ds ((r * 2 ^ (n : Int).toNat + d).fmod b)).1, (ldiv n b ds ((r * 2 ^ (n : Int).toNat + d).fmod b)).2)
theorem ldiv_spec (n : Nat) (b : Int) (hb : 0 < b) : ∀ (ds : List Int) (r : Int), Fig n ds → 0 ≤ r → r < b →
    r * 2 ^ (n * ds.length) + und n ds.reverse = b * und n (ldiv n b ds r).1.reverse + (ldiv n b ds r).2 ∧ 0 ≤ (ldiv n b ds r).2 ∧ (ldiv n b ds r).2 < b ∧ Fig n (ldiv n b ds r).1 ∧ (ldiv n b ds r).1.length = ds.length
  | [], r, _, h0, h1 => by simp [ldiv, und, h0, h1, Fig]
  | d :: ds, r, hf, h0, h1 => by
    have hd := hf d (.head _)
    have hf' : Fig n ds := fun x hx => hf x (.tail _ hx)
    have hp : (0 : Int) < 2 ^ n := Int.pow_pos (by decide)
    have hx0 : 0 ≤ r * 2 ^ n := Int.mul_nonneg h0 (Int.le_of_lt hp)
    generalize hx : r * 2 ^ (n : Int).toNat + d = x
    have hx' : x = r * 2 ^ n + d := by rw [← hx, Int.toNat_natCast]
    have hm : x.fmod b = x % b := Int.fmod_eq_emod_of_nonneg _ (by omega)
    have hq : x.fdiv b = x / b := Int.fdiv_eq_ediv_of_nonneg _ (by omega)
    have m0 := Int.emod_nonneg x (show b ≠ 0 by omega)
    have m1 := Int.emod_lt_of_pos x hb
    obtain ⟨e, e1, e2, e3, e4⟩ := ldiv_spec n b hb ds (x % b) hf' m0 m1
    simp only [ldiv, hx, hm, hq]
    refine ⟨?_, e1, e2, ?_, ?_⟩
    · have u1 : ∀ z : Int, und n [z] = z := fun z => by simp [und]
      rw [List.reverse_cons, List.reverse_cons, und_append, und_append, List.length_reverse, List.length_reverse, e4, List.length_cons, u1, u1]
      have hxe := Int.mul_ediv_add_emod x b
      have this : r * 2 ^ (n * (ds.length + 1)) = (r * 2 ^ n) * 2 ^ (n * ds.length) := by
        rw [Nat.mul_succ, Int.pow_add, Int.mul_assoc, Int.mul_comm (2 ^ n)]
      have h5 : (r * 2 ^ n) * 2 ^ (n * ds.length) + 2 ^ (n * ds.length) * d = x * 2 ^ (n * ds.length) := by rw [hx', Int.add_mul, Int.mul_comm d]
      have h6 : b * (2 ^ (n * ds.length) * (x / b)) + x % b * 2 ^ (n * ds.length) = x * 2 ^ (n * ds.length) := by
        rw [Int.mul_left_comm, Int.mul_comm (2 ^ (n * ds.length)), ← Int.add_mul, hxe]
      rw [this, Int.mul_add]
      omega
    · intro z hz
      rcases List.mem_cons.mp hz with rfl | hz
      · refine ⟨Int.ediv_nonneg (by omega) (by omega), ?_⟩
        refine Int.ediv_lt_of_lt_mul hb ?_
        have h7 : (r + 1) * 2 ^ n ≤ b * 2 ^ n := Int.mul_le_mul_of_nonneg_right (by omega) (Int.le_of_lt hp)
        rw [Int.add_mul, Int.one_mul, Int.mul_comm b] at h7
        omega
      · exact e3 z hz
    · rw [List.length_cons, List.length_cons, e4]
theorem und_digs (n : Nat) : ∀ (k y : Nat), y < 2 ^ (n * k) → und n (digs n y k) = y
  | 0, y, h => by
    have : y = 0 := by simpa using h
    subst this; rfl
  | k + 1, y, h => by
    have hp : 0 < 2 ^ n := Nat.two_pow_pos n
    rw [Nat.mul_succ, Nat.pow_add, Nat.mul_comm] at h
    have h2 : y / 2 ^ n < 2 ^ (n * k) := Nat.div_lt_of_lt_mul h
    rw [digs, und, und_digs n k _ h2]
    have := Nat.div_add_mod y (2 ^ n)
    have e : ((2 ^ n : Nat) : Int) = 2 ^ n := by simp
    rw [← e, ← Int.natCast_mul]
    omega
theorem fig_digs (n : Nat) : ∀ (k y : Nat), Fig n (digs n y k)
  | 0, _ => fun _ h => absurd h List.not_mem_nil
  | k + 1, y => fun d hd => by
    rcases List.mem_cons.mp hd with rfl | hd
    · exact dg_bd y n
    · exact fig_digs n k _ d hd
/-- the division's end -/
theorem ldiv_end {n k y : Nat} {b : Int} (h3 : 32 ≤ b) (hy : y < 2 ^ (n * k)) :
    und n (ldiv n b (digs n y k).reverse 0).1.reverse = (y : Int) / b ∧ (ldiv n b (digs n y k).reverse 0).2 = (y : Int) % b ∧ Fig n (ldiv n b (digs n y k).reverse 0).1.reverse ∧ (ldiv n b (digs n y k).reverse 0).1.reverse.length = k := by
  have hf : Fig n (digs n y k).reverse := fun d hd => fig_digs n k y d (List.mem_reverse.mp hd)
  obtain ⟨e, e1, e2, e3, e4⟩ := ldiv_spec n b (by omega) _ 0 hf (by decide) (by omega)
  rw [List.reverse_reverse, und_digs n k y hy, Int.zero_mul, Int.zero_add] at e
  have h := Int.ediv_emod_unique (a := (y : Int)) (b := b) (r := (ldiv n b (digs n y k).reverse 0).2) (q := und n (ldiv n b (digs n y k).reverse 0).1.reverse) (by omega)
  have := h.mpr ⟨by omega, e1, e2⟩
  exact ⟨this.1.symm, this.2.symm, fun d hd => e3 d (List.mem_reverse.mp hd), by rw [List.length_reverse, e4, List.length_reverse, digs_length]⟩
end Mine
namespace Mine
theorem ints_append {a b : List Value} {x y : List Int} (h : IntsAre a x) (h2 : IntsAre b y) : IntsAre (a ++ b) (x ++ y) := by
  induction h with
  | nil => exact h2
  | cons i t _ ih => exact .cons i t ih
theorem ints_rev {a : List Value} {x : List Int} (h : IntsAre a x) : IntsAre a.reverse x.reverse := by
  induction h with
  | nil => exact .nil
  | cons i t _ ih =>
    rw [List.reverse_cons, List.reverse_cons]
    exact ints_append ih (.cons i t .nil)
end Mine
section
local macro_rules | `(tactic| ktr_rel) => `(tactic| first
  | exact Nat.lt_succ_self _
  | assumption
  | exact And.left (by assumption)
  | exact And.right (by assumption)
  | exact And.left (And.right (by assumption))
  | exact And.right (And.right (by assumption))
  | exact And.left (And.right (And.right (by assumption)))
  | exact And.right (And.right (And.right (by assumption)))
  | (refine Nat.lt_succ_of_lt ?_; ktr_rel))
local macro_rules | `(tactic| k_ne) => `(tactic| ((refine neN ?_); (try dsimp only); first
  | (refine Nat.ne_of_lt ?_; ktr_rel)
  | (refine Nat.ne_of_gt ?_; ktr_rel)))
local macro_rules | `(tactic| ktr_room) => `(tactic| ((try dsimp only [depth_under_make, depth_under_kw, depth_in1, depth_deeper, depth_caller, ktrTop]); first
  | exact Mine.room1 (by assumption) (Eq.refl true)
  | exact Mine.room2 (by assumption) (Eq.refl true)
  | exact Mine.room3 (by assumption) (Eq.refl true)
  | exact Mine.room0 (by assumption)))
local macro_rules | `(tactic| ktr_units) => `(tactic| ((try dsimp only [units_in1, units_deeper, Around.mark_units, units_caller, ktrTop]); first
  | exact Mine.room1 (by assumption) (Eq.refl true)
  | exact Mine.room2 (by assumption) (Eq.refl true)
  | exact Mine.room3 (by assumption) (Eq.refl true)
  | exact Mine.room0 (by assumption)))
local macro_rules | `(tactic| ktr_enter) => `(tactic| (refine' Mine.con_def ?k1 ?k2 ?k3 ?k4 ?k5 ?kA ?kF ?kK ?k6 ?k7 ?k8 ?k9 ?kB ?_ ?c2 ?c3 ?c4 ?c5; (case kA => exact rfl); (case kF => exact rfl); (case kK => assumption); (case k1 => k_asm); (case k2 => k_asm); (case k3 => k_asm); (case k4 => k_asm); (case k5 => k_asm); (case k6 => k_is); (case k7 => k_is); (case k8 => ktr_room); (case k9 => exact BindsTo.of_eq rfl); (case c5 => decide); (case kB => exact locs rfl); (case c2 => exact rfl); (case c3 => exact rfl); (case c4 => exact rfl); k_whole; intro g' L' h' HG FG' F' N' B' X' T'; (try dsimp only); (try k_fold)))
local macro_rules | `(tactic| k_room) => `(tactic| ktr_room)
local macro_rules | `(tactic| k_units) => `(tactic| ktr_units)
namespace Mine
theorem rs_T4 : True := by
  w_top off
  exact trivial
local macro_rules | `(tactic| walk_at "eval Name") => `(tactic| (k_here; k_dflt (refine' nameX_F ?N ?c ?m ?d ?_ ?a ?b; (case a => rfl); (case b => rfl); (case N => k_asm); (case c => rfl); (case m => k_mem); (case d => with_reducible assumption); k_whole)))
local macro_rules | `(tactic| walk_at "binaryOp RShift int int") => `(tactic| (k_here; (with_reducible refine rshift_int ?kb1 ?_); (case kb1 => first | decide | exact sh_nn (by assumption) (by assumption))))
local macro_rules | `(tactic| walk_at "binaryOp LShift int int") => `(tactic| (k_here; (with_reducible refine lshift_int_small ?kb1 ?kb2 ?kb3 ?_); (case kb1 => exact sh_nn (by assumption) (by assumption)); (case kb2 => exact sh_le (by assumption) (by assumption) (by assumption) (by assumption) (by assumption) (by assumption)); (case kb3 => assumption)))
local macro_rules | `(tactic| walk_at "callWith ref") => `(tactic| (k_here; k_dflt (refine' callWith_F ?k1 ?_; (case k1 => exact FnAt.of (by k_asm) (by k_mem)); k_whole)))
local macro_rules | `(tactic| walk_at "call ref") => `(tactic| (refine stop_intro ?_))
set_option maxHeartbeats 2000000 in
theorem inner1 (w : World) (q : Str) (f c' cD cI cN D : Addr) (oF oD oI oN : Obj) (n : Nat) (tn : Tok) (hn : 6 ≤ (n : Int)) (hn' : (n : Int) ≤ 7) (d1 : f ≠ D) (d2 : cD ≠ D) (d3 : cI ≠ D) (d4 : cN ≠ D)
    (hF : IsMade inn1 q [("n", cN), ("inner", cI), ("a_digits", cD)] c' oF) (hD : oD.data = .cell (some (.ref D))) (hI : oI.data = .cell (some (.ref f))) (hN : oN.data = .cell (some (.int n tn))) :
    ∀ (k : Nat) (y : Nat) (x l r : Int) (t1 t2 t3 : Tok) (vs : List Value) (ds : List Int) (j : Nat), x = y → r - l = (k : Int) → 0 ≤ l → l < r → r ≤ (ds.length : Int) → (ds.length : Int) ≤ 6 → y < 2 ^ (n * k) → IntsAre vs ds →
    Con w f [.int x t1, .int l t2, .int r t3] (k + 2) (8 * (k + 2)) [(f, oF), (cD, oD), (cI, oI), (cN, oN), (D, listOf vs.toArray j)] (fun h => h.CodeRec (.ref c') q)
      (fun _ v mu' _ => v = .none ∧ ∃ vs' ds', IntsAre vs' ds' ∧ ds' = ds.take l.toNat ++ digs n y k ++ ds.drop r.toNat ∧ mu' = [(f, oF), (cD, oD), (cI, oI), (cN, oN), (D, listOf vs'.toArray j)]) := by
  obtain ⟨nm, ps, bd, sc, doc, pm, ctv, rfl, hm⟩ := hF
  dsimp only [inn1, PySem.Challenge.pw_wb0062_01] at hm
  obtain ⟨rfl, rfl, rfl, rfl⟩ := hm
  intro k
  induction k using Nat.strongRecOn with
  | ind k IH =>
  intro y x l r t1 t2 t3 vs ds j hxy hk hl hlr hr hlen hx1 hvs
  subst hxy
  unfold Con
  k_fill
  intro p loose mean mg mb dp un gd cn cs a ccd cl outer A₀ base h₀ L m s Q E B F X N T hkf hP hd hu hret
  have hup : (((y : Nat) : Int).fdiv (2 ^ (((l + r).fdiv (2 ^ (1 : Int).toNat) - l) * (n : Int)).toNat)).natAbs < 2 ^ 64 := by
    rw [shr_cast, Int.natAbs_natCast]
    have h7 : n * k ≤ 7 * 6 := Nat.mul_le_mul (by omega) (by omega)
    have := Nat.pow_le_pow_right (n := 2) (by decide) h7
    have := Nat.div_le_self y (2 ^ (((l + r).fdiv (2 ^ (1 : Int).toNat) - l) * (n : Int)).toNat)
    have : (2 : Nat) ^ (7 * 6) < 2 ^ 64 := by decide
    omega
  refine wpAny_call ?_
  k_dflt (refine' con_nest ?k1 ?k2 ?k3 ?k4 ?k5 ?kA ?kF ?kK ?k6 ?k7 ?k8 ?k9 ?kB ?_ ?c2 ?c3 ?c4 ?c5; (case kA => exact rfl); (case kF => exact rfl); (case kK => assumption); (case k1 => k_asm); (case k2 => k_asm); (case k3 => k_asm); (case k4 => k_asm); (case k5 => k_asm); (case k6 => k_mem); (case k7 => exact hP); (case k8 => ktr_room); (case k9 => exact BindsTo.of_eq rfl); (case c5 => decide); (case kB => exact locs rfl); (case c2 => exact rfl); (case c3 => exact rfl); (case c4 => exact rfl); k_whole; intro g' L' h' HG HK FG' F' N' B' X' T'; (try dsimp only); (try k_fold))
  k_steps
  · -- one figure
    have hk1 : k = 1 := by omega
    subst hk1
    refine hret _ _ _ _ (by assumption) (by assumption) (fun b o hb e => Fr.keep (by assumption) b o (HG b o hb e)) ⟨rfl, _, _, by assumption, ?_, rfl⟩
    rw [toNat_one hk hl]
    exact set_one n ds y l.toNat (by simpa using hx1) (toNat_lt hl hlr hr)
  · have hlr2 : l + 1 < r := by omega
    obtain ⟨M, ka, kb, S⟩ := mid_split hk hl hlr2 hr
    have hM := S.hM
    have hla := S.la
    have hlb := S.lb
    have hkk := S.hk
    have hshn := sh_toNat (n := n) S.hh
    have hpow : 2 ^ (n * k) = 2 ^ (n * ka) * 2 ^ (n * kb) := by rw [hkk, Nat.mul_add, Nat.pow_add]
    have hlow := xor_low y (n * ka)
    have hupp := shr_cast y (n * ka)
    have hB : y / 2 ^ (n * ka) < 2 ^ (n * kb) := by
      rw [Nat.div_lt_iff_lt_mul (Nat.two_pow_pos _), Nat.mul_comm, ← hpow]; exact hx1
    unfold Stop
    k_dflt (refine' con_use (IH ka hla (y % 2 ^ (n * ka)) _ _ _ _ _ _ vs ds j ?e1 ?e2 hl ?e3 ?e4 hlen ?e5 hvs) ?k1 ?k2 ?k3 ?k4 ?k5 ?kK ?kP ?kd ?ku ?_; (case e1 => (rw [hshn]; exact hlow)); (case e2 => (rw [hM]; exact S.ha)); (case e3 => (rw [hM]; exact S.lM)); (case e4 => (rw [hM]; exact S.MN)); (case e5 => exact Nat.mod_lt _ (Nat.two_pow_pos _)); (case k1 => k_asm); (case k2 => k_asm); (case k3 => k_asm); (case k4 => k_asm); (case k5 => k_asm); (case kK => exact rfl); (case kP => exact code_ext N hP ⟨(fun _ e => nomatch e), (fun _ e => by rw [hD] at e; cases e), (fun _ e => by rw [hI] at e; cases e), (fun _ e => by rw [hN] at e; cases e), (fun _ e => nomatch e), trivial⟩ (ext_fr HG (by k_asm))); (case kd => ktr_room); (case ku => ktr_units))
    intro r9 h9 tk9 mu9 F9 N9 X9 O9
    obtain ⟨rfl, vs1, ds1, hv1, hd1, rfl⟩ := O9
    (try dsimp only); (try k_fold)
    k_steps
    unfold Stop
    have hl1 : ds1.length = ds.length := by
      rw [hd1, show ((l + r).fdiv (2 ^ (1 : Int).toNat)).toNat = l.toNat + ka by rw [hM]; exact S.Mt]
      exact halves_len n ds _ ka l.toNat S.aN
    k_dflt (refine' con_use (IH kb hlb (y / 2 ^ (n * ka)) _ _ _ _ _ _ vs1 ds1 j ?e1 ?e2 ?e0 ?e3 ?e4 ?e6 hB hv1) ?k1 ?k2 ?k3 ?k4 ?k5 ?kK ?kP ?kd ?ku ?_; (case e1 => (rw [hshn]; exact hupp)); (case e2 => (rw [hM]; exact S.hb)); (case e0 => (rw [hM]; exact S.M0)); (case e3 => (rw [hM]; exact S.Mr)); (case e4 => (rw [hl1]; exact hr)); (case e6 => (rw [hl1]; exact hlen)); (case k1 => k_asm); (case k2 => k_asm); (case k3 => k_asm); (case k4 => k_asm); (case k5 => k_asm); (case kK => exact rfl); (case kP => exact code_ext N hP ⟨(fun _ e => nomatch e), (fun _ e => by rw [hD] at e; cases e), (fun _ e => by rw [hI] at e; cases e), (fun _ e => by rw [hN] at e; cases e), (fun _ e => nomatch e), trivial⟩ (ext_fr HG (by k_asm))); (case kd => ktr_room); (case ku => ktr_units))
    intro r9 h9 tk9 mu9 F9 N9 X9 O9
    obtain ⟨rfl, vs2, ds2, hv2, hd2, rfl⟩ := O9
    (try dsimp only); (try k_fold)
    k_steps
    refine hret _ _ _ _ (by assumption) (by assumption) (ext_fr HG (by assumption)) ⟨rfl, _, _, hv2, ?_, rfl⟩
    rw [hd2, hd1, hM, S.Mt, S.rt, hkk]
    exact halves n ds y ka kb l.toNat S.rN
theorem inner1_call {w : World} {q : Str} {f c' cD cI cN D P : Addr} {oF oD oI oN oP oC : Obj} {n : Nat} {tn : Tok} {k y : Nat} {x l r : Int} {t1 t2 t3 : Tok} {vs : List Value} {ds : List Int} {j : Nat} {news : List (Addr × Obj)}
    {p : Program} {loose : List Str} {mean : ExcName → Option Value} {mg mb : Str → Option Value} {dp un : Nat} {gd : Option (List Code)} {cn : Str} {cs : Scope} {a : Addr} {ccd : Value} {cl : List (Str × Addr)} {outer : List Env} {A₀ : Around} {base h₀ : Heap} {L : Addr} {m : Str → Option Value} {s : Shared}
    {Q E : Value → Shared → Prop}
    (N : News h₀ L s.heap news) (m1 : (f, oF) ∈ news) (hF : IsMade inn1 q [("n", cN), ("inner", cI), ("a_digits", cD)] c' oF)
    (m2 : (cD, oD) ∈ news) (hD : oD.data = .cell (some (.ref D))) (m3 : (cI, oI) ∈ news) (hI : oI.data = .cell (some (.ref f))) (m4 : (cN, oN) ∈ news) (hN : oN.data = .cell (some (.int n tn)))
    (m5 : (D, listOf vs.toArray j) ∈ news) (hvs : IntsAre vs ds) (m6 : (P, oP) ∈ news) (hPd : ∃ xs, oP.data = .fields xs) (m7 : (c', oC) ∈ news) (hcd : ∃ vs t, oC.data = .fields vs ∧ vs[1]? = some (.str q t))
    (hn : 6 ≤ (n : Int)) (hn' : (n : Int) ≤ 7) (hx : x = (y : Int)) (hk : r - l = (k : Int)) (hl : 0 ≤ l) (hlr : l < r) (hr : r ≤ (ds.length : Int)) (hlen : (ds.length : Int) ≤ 6) (hy : y < 2 ^ (n * k))
    (B : Below A₀ base outer h₀) (F : Fr h₀ L s.heap m) (X : Frag.In (Mine.hd.heap_1 w.params) h₀) (T : Top p loose mean mg mb h₀) (hkf : cs.kind = .function) (hd : dp + (k + 2) < recursionLimit) (hu : un + 8 * (k + 2) < cLine)
    (ret : ∀ h' tk' vs', Fr h₀ L h' m → News h₀ L h' [(P, oP), (c', oC), (f, oF), (cD, oD), (cI, oI), (cN, oN), (D, listOf vs'.toArray j)] → IntsAre vs' (ds.take l.toNat ++ digs n y k ++ ds.drop r.toNat) → Q .none { s with heap := h', toks := tk' }) :
    wpAny (model PySem.Challenge.rw_wb0062_01.row.prog w) (ktrTop dp un gd cn cs L a ccd cl outer) (call (.ref f) [.int x t1, .int l t2, .int r t3]) Q E s := by
  have gD := (N _ m5).1
  have gF := (N _ m1).1
  have g2 := (N _ m2).1
  have g3 := (N _ m3).1
  have g4 := (N _ m4).1
  have gP := (N _ m6).1
  have gC := (N _ m7).1
  obtain ⟨cvs, ct, hcd1, hcd2⟩ := hcd
  have hc : s.heap.CodeRec (.ref c') q := codeRec_news N m7 hcd1 hcd2
  have hFd : ∃ fd, oF.data = .func fd := by
    obtain ⟨nm, ps, bd, sc, doc, pm, ctv, rfl, _⟩ := hF
    exact ⟨_, rfl⟩
  obtain ⟨fd, hFd⟩ := hFd
  obtain ⟨xs, hPd⟩ := hPd
  have d1 : f ≠ D := fun e => by rw [← e, gF] at gD; cases gD; cases hFd
  have d2 : cD ≠ D := fun e => by rw [← e, g2] at gD; cases gD; cases hD
  have d3 : cI ≠ D := fun e => by rw [← e, g3] at gD; cases gD; cases hI
  have d4 : cN ≠ D := fun e => by rw [← e, g4] at gD; cases gD; cases hN
  have N5 : News h₀ L s.heap [(f, oF), (cD, oD), (cI, oI), (cN, oN), (D, listOf vs.toArray j)] := by
    intro z hz
    simp only [List.mem_cons, List.not_mem_nil, or_false] at hz
    rcases hz with rfl | rfl | rfl | rfl | rfl <;> exact N _ (by assumption)
  have hnf : NoFields [(f, oF), (cD, oD), (cI, oI), (cN, oN), (D, listOf vs.toArray j)] := ⟨(fun _ e => by rw [hFd] at e; cases e), (fun _ e => by rw [hD] at e; cases e), (fun _ e => by rw [hI] at e; cases e), (fun _ e => by rw [hN] at e; cases e), (fun _ e => nomatch e), trivial⟩
  refine con_use (inner1 w q f c' cD cI cN D oF oD oI oN n tn hn hn' d1 d2 d3 d4 hF hD hI hN k y x l r t1 t2 t3 vs ds j hx hk hl hlr hr hlen hy hvs) B F X N5 T hkf hc hd hu ?_
  intro r9 h9 tk9 mu9 F9 N9 X9 O9
  obtain ⟨rfl, vs1, ds1, hv1, rfl, rfl⟩ := O9
  refine ret _ _ vs1 F9 ?_ hv1
  have away : ∀ (b : Addr) (o : Obj) (xs : Array Value), s.heap.get? b = some o → o.data = .fields xs → b ∉ [(f, oF), (cD, oD), (cI, oI), (cN, oN), (D, listOf vs.toArray j)].map (·.1) := fun b o xs e hxs hb => by
    obtain ⟨y, hy, e2⟩ := List.mem_map.mp hb
    have h1 := (N5 y hy).1
    rw [e2, e] at h1
    cases h1
    exact hnf.get y hy xs hxs
  intro z hz
  rcases List.mem_cons.mp hz with rfl | hz
  · exact ⟨X9 _ _ (away _ _ xs gP hPd) gP, (N _ m6).2⟩
  · rcases List.mem_cons.mp hz with rfl | hz
    · exact ⟨X9 _ _ (away _ _ cvs gC hcd1) gC, (N _ m7).2⟩
    · exact N9 z hz
end Mine
namespace Mine
local macro_rules | `(tactic| walk_at "none of the walk's keys") => `(tactic| fail)
theorem rs_T7 : True := by
  w_top off
  exact trivial
local macro_rules | `(tactic| walk_at "eval Name") => `(tactic| (k_here; k_dflt (refine' nameX_F ?N ?c ?m ?d ?_ ?a ?b; (case a => rfl); (case b => rfl); (case N => k_asm); (case c => rfl); (case m => k_mem); (case d => with_reducible assumption); k_whole)))
local macro_rules | `(tactic| walk_at "binaryOp RShift int int") => `(tactic| (k_here; (with_reducible refine rshift_int ?kb1 ?_); (case kb1 => first | decide | exact sh_nn (by assumption) (by assumption))))
local macro_rules | `(tactic| walk_at "binaryOp LShift int int") => `(tactic| (k_here; (with_reducible refine lshift_int_small ?kb1 ?kb2 ?kb3 ?_); (case kb1 => exact sh_nn (by assumption) (by assumption)); (case kb2 => exact sh_le (by assumption) (by assumption) (by assumption) (by assumption) (by assumption) (by assumption)); (case kb3 => assumption)))
local macro_rules | `(tactic| walk_at "callWith ref") => `(tactic| (k_here; k_dflt (refine' callWith_F ?k1 ?_; (case k1 => exact FnAt.of (by k_asm) (by k_mem)); k_whole)))
local macro_rules | `(tactic| walk_at "call ref") => `(tactic| (refine stop_intro ?_))
set_option maxHeartbeats 2000000 in
theorem inner2 (w : World) (q : Str) (f c' cD cI cN D : Addr) (oF oD oI oN : Obj) (n : Nat) (tn : Tok) (hn : 6 ≤ (n : Int)) (hn' : (n : Int) ≤ 7)
    (hF : IsMade inn2 q [("n", cN), ("inner", cI), ("digits", cD)] c' oF) (hD : oD.data = .cell (some (.ref D))) (hI : oI.data = .cell (some (.ref f))) (hN : oN.data = .cell (some (.int n tn))) :
    ∀ (k : Nat) (l r : Int) (t2 t3 : Tok) (vs : List Value) (ds : List Int) (j : Nat), r - l = (k : Int) → 0 ≤ l → l < r → r ≤ (ds.length : Int) → (ds.length : Int) ≤ 6 → Fig n ds → IntsAre vs ds →
    Con w f [.int l t2, .int r t3] (k + 2) (8 * (k + 2)) [(f, oF), (cD, oD), (cI, oI), (cN, oN), (D, listOf vs.toArray j)] (fun h => h.CodeRec (.ref c') q)
      (fun _ v mu' _ => mu' = [(f, oF), (cD, oD), (cI, oI), (cN, oN), (D, listOf vs.toArray j)] ∧ ∃ t, v = .int (und n ((ds.drop l.toNat).take k)) t) := by
  obtain ⟨nm, ps, bd, sc, doc, pm, ctv, rfl, hm⟩ := hF
  dsimp only [inn2, PySem.Challenge.pw_wb0062_01] at hm
  obtain ⟨rfl, rfl, rfl, rfl⟩ := hm
  intro k
  induction k using Nat.strongRecOn with
  | ind k IH =>
  intro l r t2 t3 vs ds j hk hl hlr hr hlen hfig hvs
  unfold Con
  k_fill
  intro p loose mean mg mb dp un gd cn cs a ccd cl outer A₀ base h₀ L m s Q E B F X N T hkf hP hd hu hret
  refine wpAny_call ?_
  k_dflt (refine' con_nest ?k1 ?k2 ?k3 ?k4 ?k5 ?kA ?kF ?kK ?k6 ?k7 ?k8 ?k9 ?kB ?_ ?c2 ?c3 ?c4 ?c5; (case kA => exact rfl); (case kF => exact rfl); (case kK => assumption); (case k1 => k_asm); (case k2 => k_asm); (case k3 => k_asm); (case k4 => k_asm); (case k5 => k_asm); (case k6 => k_mem); (case k7 => exact hP); (case k8 => ktr_room); (case k9 => exact BindsTo.of_eq rfl); (case c5 => decide); (case kB => exact locs rfl); (case c2 => exact rfl); (case c3 => exact rfl); (case c4 => exact rfl); k_whole; intro g' L' h' HG HK FG' F' N' B' X' T'; (try dsimp only); (try k_fold))
  k_steps
  · -- one figure
    have hk1 : k = 1 := by omega
    subst hk1
    refine hret _ _ _ _ (by assumption) (by assumption) (ext_fr HG (by k_asm)) ⟨rfl, _, congrArg (Value.int · _) ?_⟩
    rw [und_one n ds l.toNat (by omega)]
  · have hlr2 : l + 1 < r := by omega
    obtain ⟨M, ka, kb, S⟩ := mid_split hk hl hlr2 hr
    have hM := S.hM
    have hla := S.la
    have hlb := S.lb
    have hkk := S.hk
    have hshn := sh_toNat (n := n) S.hh
    unfold Stop
    k_dflt (refine' con_use (IH kb hlb _ _ _ _ vs ds j ?e1 ?e2 ?e3 ?e4 hlen hfig hvs) ?k1 ?k2 ?k3 ?k4 ?k5 ?kK ?kP ?kd ?ku ?_; (case e1 => (rw [hM]; exact S.hb)); (case e2 => (rw [hM]; exact S.M0)); (case e3 => (rw [hM]; exact S.Mr)); (case e4 => exact hr); (case k1 => k_asm); (case k2 => k_asm); (case k3 => k_asm); (case k4 => k_asm); (case k5 => k_asm); (case kK => exact rfl); (case kP => exact code_ext N hP ⟨(fun _ e => nomatch e), (fun _ e => by rw [hD] at e; cases e), (fun _ e => by rw [hI] at e; cases e), (fun _ e => by rw [hN] at e; cases e), (fun _ e => nomatch e), trivial⟩ (ext_fr HG (by k_asm))); (case kd => ktr_room); (case ku => ktr_units))
    intro r9 h9 tk9 mu9 F9 N9 X9 O9
    obtain ⟨rfl, t9, rfl⟩ := O9
    have hsm : (und n ((ds.drop ((l + r).fdiv (2 ^ (1 : Int).toNat)).toNat).take kb)).natAbs < 2 ^ 64 := und_small hn' (fig_slice hfig _ _) (by rw [List.length_take]; omega)
    (try dsimp only); (try k_fold)
    k_steps
    unfold Stop
    k_dflt (refine' con_use (IH ka hla _ _ _ _ vs ds j ?e1 ?e2 ?e3 ?e4 hlen hfig hvs) ?k1 ?k2 ?k3 ?k4 ?k5 ?kK ?kP ?kd ?ku ?_; (case e1 => (rw [hM]; exact S.ha)); (case e2 => exact hl); (case e3 => (rw [hM]; exact S.lM)); (case e4 => (rw [hM]; exact S.MN)); (case k1 => k_asm); (case k2 => k_asm); (case k3 => k_asm); (case k4 => k_asm); (case k5 => k_asm); (case kK => exact rfl); (case kP => exact code_ext N hP ⟨(fun _ e => nomatch e), (fun _ e => by rw [hD] at e; cases e), (fun _ e => by rw [hI] at e; cases e), (fun _ e => by rw [hN] at e; cases e), (fun _ e => nomatch e), trivial⟩ (ext_fr HG (by k_asm))); (case kd => ktr_room); (case ku => ktr_units))
    intro r9 h9 tk9 mu9 F9 N9 X9 O9
    obtain ⟨rfl, t9, rfl⟩ := O9
    (try dsimp only); (try k_fold)
    k_steps
    refine hret _ _ _ _ (by assumption) (by assumption) (ext_fr HG (by assumption)) ⟨rfl, _, congrArg (Value.int · _) ?_⟩
    rw [hshn, hM, S.Mt, hkk]
    exact und_slice n ds l.toNat ka kb S.rN
theorem inner2_call {w : World} {q : Str} {f c' cD cI cN D P : Addr} {oF oD oI oN oP oC : Obj} {n : Nat} {tn : Tok} {k : Nat} {l r : Int} {t2 t3 : Tok} {vs : List Value} {ds : List Int} {j : Nat} {news : List (Addr × Obj)}
    {p : Program} {loose : List Str} {mean : ExcName → Option Value} {mg mb : Str → Option Value} {dp un : Nat} {gd : Option (List Code)} {cn : Str} {cs : Scope} {a : Addr} {ccd : Value} {cl : List (Str × Addr)} {outer : List Env} {A₀ : Around} {base h₀ : Heap} {L : Addr} {m : Str → Option Value} {s : Shared}
    {Q E : Value → Shared → Prop}
    (N : News h₀ L s.heap news) (m1 : (f, oF) ∈ news) (hF : IsMade inn2 q [("n", cN), ("inner", cI), ("digits", cD)] c' oF)
    (m2 : (cD, oD) ∈ news) (hD : oD.data = .cell (some (.ref D))) (m3 : (cI, oI) ∈ news) (hI : oI.data = .cell (some (.ref f))) (m4 : (cN, oN) ∈ news) (hN : oN.data = .cell (some (.int n tn)))
    (m5 : (D, listOf vs.toArray j) ∈ news) (hvs : IntsAre vs ds) (m6 : (P, oP) ∈ news) (hPd : ∃ xs, oP.data = .fields xs) (m7 : (c', oC) ∈ news) (hcd : ∃ vs t, oC.data = .fields vs ∧ vs[1]? = some (.str q t))
    (hn : 6 ≤ (n : Int)) (hn' : (n : Int) ≤ 7) (hk : r - l = (k : Int)) (hl : 0 ≤ l) (hlr : l < r) (hr : r ≤ (ds.length : Int)) (hlen : (ds.length : Int) ≤ 6) (hfig : Fig n ds)
    (B : Below A₀ base outer h₀) (F : Fr h₀ L s.heap m) (X : Frag.In (Mine.hd.heap_1 w.params) h₀) (T : Top p loose mean mg mb h₀) (hkf : cs.kind = .function) (hd : dp + (k + 2) < recursionLimit) (hu : un + 8 * (k + 2) < cLine)
    (ret : ∀ h' tk' t, Fr h₀ L h' m → News h₀ L h' [(P, oP), (c', oC), (f, oF), (cD, oD), (cI, oI), (cN, oN), (D, listOf vs.toArray j)] → Q (.int (und n ((ds.drop l.toNat).take k)) t) { s with heap := h', toks := tk' }) :
    wpAny (model PySem.Challenge.rw_wb0062_01.row.prog w) (ktrTop dp un gd cn cs L a ccd cl outer) (call (.ref f) [.int l t2, .int r t3]) Q E s := by
  have gP := (N _ m6).1
  have gC := (N _ m7).1
  obtain ⟨cvs, ct, hcd1, hcd2⟩ := hcd
  have hc : s.heap.CodeRec (.ref c') q := codeRec_news N m7 hcd1 hcd2
  have hFd : ∃ fd, oF.data = .func fd := by
    obtain ⟨nm, ps, bd, sc, doc, pm, ctv, rfl, _⟩ := hF
    exact ⟨_, rfl⟩
  obtain ⟨fd, hFd⟩ := hFd
  obtain ⟨xs, hPd⟩ := hPd
  have N5 : News h₀ L s.heap [(f, oF), (cD, oD), (cI, oI), (cN, oN), (D, listOf vs.toArray j)] := by
    intro z hz
    simp only [List.mem_cons, List.not_mem_nil, or_false] at hz
    rcases hz with rfl | rfl | rfl | rfl | rfl <;> exact N _ (by assumption)
  have hnf : NoFields [(f, oF), (cD, oD), (cI, oI), (cN, oN), (D, listOf vs.toArray j)] := ⟨(fun _ e => by rw [hFd] at e; cases e), (fun _ e => by rw [hD] at e; cases e), (fun _ e => by rw [hI] at e; cases e), (fun _ e => by rw [hN] at e; cases e), (fun _ e => nomatch e), trivial⟩
  refine con_use (inner2 w q f c' cD cI cN D oF oD oI oN n tn hn hn' hF hD hI hN k l r t2 t3 vs ds j hk hl hlr hr hlen hfig hvs) B F X N5 T hkf hc hd hu ?_
  intro r9 h9 tk9 mu9 F9 N9 X9 O9
  obtain ⟨rfl, t9, rfl⟩ := O9
  refine ret _ _ t9 F9 ?_
  have away : ∀ (b : Addr) (o : Obj) (xs : Array Value), s.heap.get? b = some o → o.data = .fields xs → b ∉ [(f, oF), (cD, oD), (cI, oI), (cN, oN), (D, listOf vs.toArray j)].map (·.1) := fun b o xs e hxs hb => by
    obtain ⟨y, hy, e2⟩ := List.mem_map.mp hb
    have h1 := (N5 y hy).1
    rw [e2, e] at h1
    cases h1
    exact hnf.get y hy xs hxs
  intro z hz
  rcases List.mem_cons.mp hz with rfl | hz
  · exact ⟨X9 _ _ (away _ _ xs gP hPd) gP, (N _ m6).2⟩
  · rcases List.mem_cons.mp hz with rfl | hz
    · exact ⟨X9 _ _ (away _ _ cvs gC hcd1) gC, (N _ m7).2⟩
    · exact N9 z hz
end Mine
namespace Mine
theorem rs_T6 : True := by
  w_top off
  exact trivial
local macro_rules | `(tactic| walk_at "call ref") => `(tactic| (refine stop_intro ?_))
local macro_rules | `(tactic| ktr_enter) => `(tactic| (refine' con_defC ?k1 ?k2 ?k3 ?k4 ?k5 ?kA ?kF ?kK ?k6 ?k7 ?k8 ?k9 ?kB ?kD ?_ ?c2 ?c3 ?c4; (case kA => exact rfl); (case kF => exact rfl); (case kK => assumption); (case k1 => k_asm); (case k2 => k_asm); (case k3 => k_asm); (case k4 => k_asm); (case k5 => k_asm); (case k6 => k_is); (case k7 => k_is); (case k8 => ktr_room); (case k9 => exact BindsTo.of_eq rfl); (case kB => exact rfl); (case kD => decide +kernel); (case c2 => exact rfl); (case c3 => exact rfl); (case c4 => exact rfl); k_whole; intro g' L' h' tk' cells' HG FG' F' N' Y' B' X' T' l1; (try k_lt l1); k_cells Y'; (try simp only [List.cons_append, List.nil_append] at N'); (try dsimp only); (try k_fold)))
set_option maxHeartbeats 2000000 in
theorem int2digits (w : World) (n y k : Nat) (t1 t2 : Tok) (hn : 6 ≤ (n : Int)) (hn' : (n : Int) ≤ 7) (ps : Array Value) (c1 : Addr) (o1 : Obj) (hS : TabS "_int2digits.<locals>.inner" 32 4 30 ps c1 o1) (hb : (((Builtin.Int.intBits (y : Int) : Nat) : Int) + (n : Int) - 1).fdiv (n : Int) = (k : Int)) (hk5 : (k : Int) ≤ 5) (hy : y < 2 ^ (n * k)) :
    Con w 35 [.int y t1, .int n t2] 20 200 [(30, tabObj ps), (c1, o1)] (fun h => CodeHd h 34 30)
      (fun h r mu' _ => ∃ vs D j ps' c' o', r = .ref D ∧ mu' = [(30, tabObj ps'), (c', o'), (D, listOf vs.toArray j)] ∧ IntsAre vs (digs n y k) ∧ TabS "_int2digits.<locals>.inner" 32 4 30 ps' c' o' ∧ h.get? D = none) := by
  unfold Con
  k_fill
  intro p loose mean mg mb dp un gd cn cs a ccd cl outer A₀ base h₀ L m s Q E B F X N T hkf hC hd hu hret
  rcases hS with ⟨rfl, rfl, rfl⟩ | ⟨rfl, cvs, ct, cd1, cd2⟩
  · have N0 := cb_drop N (List.forall_mem_cons.mpr ⟨.head _, List.forall_mem_nil _⟩)
    clear N
    refine wpAny_call ?_
    k_dflt ktr_enter
    rename Ext _ _ _ => HG
    have C9 := codeHd_ext hC HG (by simp)
    k_steps
    · unfold Stop
      rename IntsAre _ _ => hv0
      rename (0 ≤ _ → _ = _ * _) => e3
      rename (List.length (List.flatten _) = _) => e1
      rename (_ ≠ (0 : Int)) => hy0
      have hn1 := (n1_eq e3 hb).symm
      have hkp := k_pos hy hy0
      subst hn1
      k_dflt (refine' inner1_call (k := k) (y := y) (n := n) (P := 30) ?N ?m1 ?hF ?m2 ?hD ?m3 ?hI ?m4 ?hN ?m5 hv0 ?m6 ?hPd ?m7 ?hcd hn hn' ?hx ?hk ?hl ?hlr ?hr ?hlen hy ?k1 ?k2 ?k3 ?k5 ?kK ?kd ?ku ?_; (case N => k_asm); (case m1 => k_mem); (case hF => exact ⟨_, _, _, _, _, _, _, rfl, ⟨rfl, rfl, rfl, rfl⟩⟩); (case m2 => k_mem); (case hD => assumption); (case m3 => k_mem); (case hI => assumption); (case m4 => k_mem); (case hN => assumption); (case m5 => k_mem); (case m6 => k_mem); (case hPd => exact ⟨_, rfl⟩); (case m7 => k_mem); (case hcd => exact ⟨_, _, by assumption, by assumption⟩); (case hx => rfl); (case hk => omega); (case hl => decide); (case hlr => omega); (case hr => omega); (case hlen => omega); (case k1 => k_asm); (case k2 => k_asm); (case k3 => k_asm); (case k5 => k_asm); (case kK => exact rfl); (case kd => ktr_room); (case ku => ktr_units))
      intro h9 tk9 vs9 F9 N9 hv9
      (try dsimp only); (try k_fold)
      k_steps
      k_dflt (refine' hret _ _ _ [(30, tabObj ?psa1), (?ca1, ?oa1), (?Da1, listOf ?vsa1.toArray ?ja1)] ?kf (cb_drop ?kN (List.forall_mem_cons.mpr ⟨?a1, List.forall_mem_cons.mpr ⟨?a2, List.forall_mem_cons.mpr ⟨?a3, List.forall_mem_nil _⟩⟩⟩)) ?ke ⟨?vsa1, ?Da1, ?ja1, ?psa1, ?ca1, ?oa1, rfl, rfl, ?hi, .inr ⟨?hps, ?hct⟩, ?hf⟩; (case kf => k_asm); (case kN => k_asm); (case a1 => k_mem); (case hps => rfl); (case a2 => k_mem); (case a3 => k_mem); (case ke => exact ext_mono (ext_fr HG (by k_asm)) (by intro z hz; rw [List.mem_singleton.mp hz]; exact .head _)); (case hi => exact ints_whole hv9 e1); (case hct => exact ⟨_, _, by assumption, tab_name (by assumption) (by kernel_rfl)⟩); (case hf => exact fresh_of HG (by simp only [List.map_cons, List.map_nil, List.mem_singleton]; refine neN ?_; omega) (News.fresh (by k_asm) (by k_mem))))
    · rename IntsAre _ _ => hv0
      rename (0 ≤ _ → _ = _ * _) => e3
      rename (List.length (List.flatten _) = _) => e1
      rename (_ = (0 : Int)) => hy0
      have hn1 := (n1_eq e3 hb).symm
      subst hn1
      have hyz : y = 0 := by omega
      subst hyz
      have hk0 := k_zero hn hn' hb
      subst hk0
      k_dflt (refine' hret _ _ _ [(30, tabObj ?psa2), (?ca2, ?oa2), (?Da2, listOf ?vsa2.toArray ?ja2)] ?kf (cb_drop ?kN (List.forall_mem_cons.mpr ⟨?a1, List.forall_mem_cons.mpr ⟨?a2, List.forall_mem_cons.mpr ⟨?a3, List.forall_mem_nil _⟩⟩⟩)) ?ke ⟨?vsa2, ?Da2, ?ja2, ?psa2, ?ca2, ?oa2, rfl, rfl, ?hi, .inr ⟨?hps, ?hct⟩, ?hf⟩; (case kf => k_asm); (case kN => k_asm); (case a1 => k_mem); (case hps => rfl); (case a2 => k_mem); (case a3 => k_mem); (case ke => exact ext_mono (ext_fr HG (by k_asm)) (by intro z hz; rw [List.mem_singleton.mp hz]; exact .head _)); (case hi => exact ints_nil_of hv0 e1); (case hct => exact ⟨_, _, by assumption, tab_name (by assumption) (by kernel_rfl)⟩); (case hf => exact fresh_of HG (by simp only [List.map_cons, List.map_nil, List.mem_singleton]; refine neN ?_; omega) (News.fresh (by k_asm) (by k_mem))))
  · have h34 := old_away (X 34 _ (by k_is)) N
    refine wpAny_call ?_
    k_dflt ktr_enter
    rename Ext _ _ _ => HG
    have C9 := codeHd_ext hC HG (h34)
    k_steps
    · unfold Stop
      rename IntsAre _ _ => hv0
      rename (0 ≤ _ → _ = _ * _) => e3
      rename (List.length (List.flatten _) = _) => e1
      rename (_ ≠ (0 : Int)) => hy0
      have hn1 := (n1_eq e3 hb).symm
      have hkp := k_pos hy hy0
      subst hn1
      k_dflt (refine' inner1_call (k := k) (y := y) (n := n) (P := 30) ?N ?m1 ?hF ?m2 ?hD ?m3 ?hI ?m4 ?hN ?m5 hv0 ?m6 ?hPd ?m7 ?hcd hn hn' ?hx ?hk ?hl ?hlr ?hr ?hlen hy ?k1 ?k2 ?k3 ?k5 ?kK ?kd ?ku ?_; (case N => k_asm); (case m1 => k_mem); (case hF => exact ⟨_, _, _, _, _, _, _, rfl, ⟨rfl, rfl, rfl, rfl⟩⟩); (case m2 => k_mem); (case hD => assumption); (case m3 => k_mem); (case hI => assumption); (case m4 => k_mem); (case hN => assumption); (case m5 => k_mem); (case m6 => k_mem); (case hPd => exact ⟨_, rfl⟩); (case m7 => k_mem); (case hcd => exact ⟨_, _, cd1, tab_name cd2 (by kernel_rfl)⟩); (case hx => rfl); (case hk => omega); (case hl => decide); (case hlr => omega); (case hr => omega); (case hlen => omega); (case k1 => k_asm); (case k2 => k_asm); (case k3 => k_asm); (case k5 => k_asm); (case kK => exact rfl); (case kd => ktr_room); (case ku => ktr_units))
      intro h9 tk9 vs9 F9 N9 hv9
      (try dsimp only); (try k_fold)
      k_steps
      k_dflt (refine' hret _ _ _ [(30, tabObj ?psb1), (?cb1, ?ob1), (?Db1, listOf ?vsb1.toArray ?jb1)] ?kf (cb_drop ?kN (List.forall_mem_cons.mpr ⟨?a1, List.forall_mem_cons.mpr ⟨?a2, List.forall_mem_cons.mpr ⟨?a3, List.forall_mem_nil _⟩⟩⟩)) ?ke ⟨?vsb1, ?Db1, ?jb1, ?psb1, ?cb1, ?ob1, rfl, rfl, ?hi, .inr ⟨?hps, ?hct⟩, ?hf⟩; (case kf => k_asm); (case kN => k_asm); (case a1 => k_mem); (case hps => rfl); (case a2 => k_mem); (case a3 => k_mem); (case ke => exact ext_fr HG (by k_asm)); (case hi => exact ints_whole hv9 e1); (case hct => exact ⟨_, _, cd1, cd2⟩); (case hf => exact fresh_of HG (by refine not_two ?_ ?_ <;> (dsimp only; refine neN ?_; omega)) (News.fresh (by k_asm) (by k_mem))))
    · rename IntsAre _ _ => hv0
      rename (0 ≤ _ → _ = _ * _) => e3
      rename (List.length (List.flatten _) = _) => e1
      rename (_ = (0 : Int)) => hy0
      have hn1 := (n1_eq e3 hb).symm
      subst hn1
      have hyz : y = 0 := by omega
      subst hyz
      have hk0 := k_zero hn hn' hb
      subst hk0
      k_dflt (refine' hret _ _ _ [(30, tabObj ?psb2), (?cb2, ?ob2), (?Db2, listOf ?vsb2.toArray ?jb2)] ?kf (cb_drop ?kN (List.forall_mem_cons.mpr ⟨?a1, List.forall_mem_cons.mpr ⟨?a2, List.forall_mem_cons.mpr ⟨?a3, List.forall_mem_nil _⟩⟩⟩)) ?ke ⟨?vsb2, ?Db2, ?jb2, ?psb2, ?cb2, ?ob2, rfl, rfl, ?hi, .inr ⟨?hps, ?hct⟩, ?hf⟩; (case kf => k_asm); (case kN => k_asm); (case a1 => k_mem); (case hps => rfl); (case a2 => k_mem); (case a3 => k_mem); (case ke => exact ext_fr HG (by k_asm)); (case hi => exact ints_nil_of hv0 e1); (case hct => exact ⟨_, _, cd1, cd2⟩); (case hf => exact fresh_of HG (by refine not_two ?_ ?_ <;> (dsimp only; refine neN ?_; omega)) (News.fresh (by k_asm) (by k_mem))))
end Mine
namespace Mine
local macro_rules | `(tactic| walk_at "none of the walk's keys") => `(tactic| fail)
theorem rs_T8 : True := by
  w_top off
  exact trivial
local macro_rules | `(tactic| walk_at "call ref") => `(tactic| (refine stop_intro ?_))
local macro_rules | `(tactic| ktr_enter) => `(tactic| (refine' con_defC ?k1 ?k2 ?k3 ?k4 ?k5 ?kA ?kF ?kK ?k6 ?k7 ?k8 ?k9 ?kB ?kD ?_ ?c2 ?c3 ?c4; (case kA => exact rfl); (case kF => exact rfl); (case kK => assumption); (case k1 => k_asm); (case k2 => k_asm); (case k3 => k_asm); (case k4 => k_asm); (case k5 => k_asm); (case k6 => k_is); (case k7 => k_is); (case k8 => ktr_room); (case k9 => exact BindsTo.of_eq rfl); (case kB => exact rfl); (case kD => decide +kernel); (case c2 => exact rfl); (case c3 => exact rfl); (case c4 => exact rfl); k_whole; intro g' L' h' tk' cells' HG FG' F' N' Y' B' X' T' l1; (try k_lt l1); k_cells Y'; (try simp only [List.cons_append, List.nil_append] at N'); (try dsimp only); (try k_fold)))
set_option maxHeartbeats 2000000 in
theorem digits2int (w : World) (n : Nat) (D : Addr) (t2 : Tok) (vs : List Value) (ds : List Int) (j : Nat) (hn : 6 ≤ (n : Int)) (hn' : (n : Int) ≤ 7) (ps : Array Value) (c1 : Addr) (o1 : Obj) (hS : TabS "_digits2int.<locals>.inner" 47 4 37 ps c1 o1) (hv : IntsAre vs ds) (hfig : Fig n ds) (hlen : (ds.length : Int) ≤ 6) :
    Con w 42 [.ref D, .int n t2] 20 200 [(37, tabObj ps), (c1, o1), (D, listOf vs.toArray j)] (fun h => CodeHd h 41 37)
      (fun _ r mu' _ => ∃ t ps' c' o', r = .int (und n ds) t ∧ mu' = [(37, tabObj ps'), (c', o'), (D, listOf vs.toArray j)] ∧ TabS "_digits2int.<locals>.inner" 47 4 37 ps' c' o') := by
  unfold Con
  k_fill
  intro p loose mean mg mb dp un gd cn cs a ccd cl outer A₀ base h₀ L m s Q E B F X N T hkf hC hd hu hret
  have hvl := hv.length
  have hDP : D ≠ 37 := fun e => by
    have h1 := (N _ (.tail _ (.tail _ (.head _)))).1
    have h2 := (N _ (.head _)).1
    dsimp only at h1 h2
    rw [e, h2] at h1
    have h3 := congrArg Obj.cls (Option.some.inj h1)
    cases h3
  rcases hS with ⟨rfl, rfl, rfl⟩ | ⟨rfl, cvs, ct, cd1, cd2⟩
  · have N0 := cb_drop N (List.forall_mem_cons.mpr ⟨.head _, List.forall_mem_cons.mpr ⟨.tail _ (.tail _ (.head _)), List.forall_mem_nil _⟩⟩)
    have h41 := old_away (X 41 _ (by k_is)) N0
    clear N
    refine wpAny_call ?_
    k_dflt ktr_enter
    rename Ext _ _ _ => HG
    have C9 := codeHd_ext hC HG (h41)
    k_steps
    · unfold Stop
      k_dflt (refine' inner2_call (k := ds.length) (n := n) (P := 37) ?N ?m1 ?hF ?m2 ?hD ?m3 ?hI ?m4 ?hN ?m5 hv ?m6 ?hPd ?m7 ?hcd hn hn' ?hk ?hl ?hlr ?hr hlen hfig ?k1 ?k2 ?k3 ?k5 ?kK ?kd ?ku ?_; (case N => k_asm); (case m1 => k_mem); (case hF => exact ⟨_, _, _, _, _, _, _, rfl, ⟨rfl, rfl, rfl, rfl⟩⟩); (case m2 => k_mem); (case hD => assumption); (case m3 => k_mem); (case hI => assumption); (case m4 => k_mem); (case hN => assumption); (case m5 => k_mem); (case m6 => k_mem); (case hPd => exact ⟨_, rfl⟩); (case m7 => k_mem); (case hcd => exact ⟨_, _, by assumption, by assumption⟩); (case hk => (try simp only [List.size_toArray]); omega); (case hl => decide); (case hlr => (try simp only [List.size_toArray]); omega); (case hr => (try simp only [List.size_toArray]); omega); (case k1 => k_asm); (case k2 => k_asm); (case k3 => k_asm); (case k5 => k_asm); (case kK => exact rfl); (case kd => ktr_room); (case ku => ktr_units))
      intro h9 tk9 t9 F9 N9
      (try dsimp only); (try k_fold)
      k_steps
      k_dflt (refine' hret _ _ _ [(37, tabObj ?psa1), (?ca1, ?oa1), (D, listOf vs.toArray j)] ?kf (cb_drop ?kN (List.forall_mem_cons.mpr ⟨?a1, List.forall_mem_cons.mpr ⟨?a2, List.forall_mem_cons.mpr ⟨?a3, List.forall_mem_nil _⟩⟩⟩)) ?ke ⟨?ta1, ?psa1, ?ca1, ?oa1, ?hi, rfl, .inr ⟨?hps, ?hct⟩⟩; (case kf => k_asm); (case kN => k_asm); (case a1 => k_mem); (case hps => rfl); (case a2 => k_mem); (case a3 => k_mem); (case ke => exact ext_mono (ext_fr HG (by k_asm)) (by intro z hz; rcases List.mem_cons.mp hz with e | e; (rw [e]; exact .head _); (rw [List.mem_singleton.mp e]; exact .tail _ (.tail _ (.head _))))); (case hi => exact congrArg (Value.int · _) (und_whole n ds)); (case hct => exact ⟨_, _, by assumption, tab_name (by assumption) (by kernel_rfl)⟩))
    · rename (¬ 0 < _) => hz
      k_dflt (refine' hret _ _ _ [(37, tabObj ?psa2), (?ca2, ?oa2), (D, listOf vs.toArray j)] ?kf (cb_drop ?kN (List.forall_mem_cons.mpr ⟨?a1, List.forall_mem_cons.mpr ⟨?a2, List.forall_mem_cons.mpr ⟨?a3, List.forall_mem_nil _⟩⟩⟩)) ?ke ⟨?ta2, ?psa2, ?ca2, ?oa2, ?hi, rfl, .inr ⟨?hps, ?hct⟩⟩; (case kf => k_asm); (case kN => k_asm); (case a1 => k_mem); (case hps => rfl); (case a2 => k_mem); (case a3 => k_mem); (case ke => exact ext_mono (ext_fr HG (by k_asm)) (by intro z hz; rcases List.mem_cons.mp hz with e | e; (rw [e]; exact .head _); (rw [List.mem_singleton.mp e]; exact .tail _ (.tail _ (.head _))))); (case hi => exact congrArg (Value.int · _) (und_empty n ds hz)); (case hct => exact ⟨_, _, by assumption, tab_name (by assumption) (by kernel_rfl)⟩))
  · have h41 := old_away (X 41 _ (by k_is)) N
    refine wpAny_call ?_
    k_dflt ktr_enter
    rename Ext _ _ _ => HG
    have C9 := codeHd_ext hC HG (h41)
    k_steps
    · unfold Stop
      k_dflt (refine' inner2_call (k := ds.length) (n := n) (P := 37) ?N ?m1 ?hF ?m2 ?hD ?m3 ?hI ?m4 ?hN ?m5 hv ?m6 ?hPd ?m7 ?hcd hn hn' ?hk ?hl ?hlr ?hr hlen hfig ?k1 ?k2 ?k3 ?k5 ?kK ?kd ?ku ?_; (case N => k_asm); (case m1 => k_mem); (case hF => exact ⟨_, _, _, _, _, _, _, rfl, ⟨rfl, rfl, rfl, rfl⟩⟩); (case m2 => k_mem); (case hD => assumption); (case m3 => k_mem); (case hI => assumption); (case m4 => k_mem); (case hN => assumption); (case m5 => k_mem); (case m6 => k_mem); (case hPd => exact ⟨_, rfl⟩); (case m7 => k_mem); (case hcd => exact ⟨_, _, cd1, tab_name cd2 (by kernel_rfl)⟩); (case hk => (try simp only [List.size_toArray]); omega); (case hl => decide); (case hlr => (try simp only [List.size_toArray]); omega); (case hr => (try simp only [List.size_toArray]); omega); (case k1 => k_asm); (case k2 => k_asm); (case k3 => k_asm); (case k5 => k_asm); (case kK => exact rfl); (case kd => ktr_room); (case ku => ktr_units))
      intro h9 tk9 t9 F9 N9
      (try dsimp only); (try k_fold)
      k_steps
      k_dflt (refine' hret _ _ _ [(37, tabObj ?psb1), (?cb1, ?ob1), (D, listOf vs.toArray j)] ?kf (cb_drop ?kN (List.forall_mem_cons.mpr ⟨?a1, List.forall_mem_cons.mpr ⟨?a2, List.forall_mem_cons.mpr ⟨?a3, List.forall_mem_nil _⟩⟩⟩)) ?ke ⟨?tb1, ?psb1, ?cb1, ?ob1, ?hi, rfl, .inr ⟨?hps, ?hct⟩⟩; (case kf => k_asm); (case kN => k_asm); (case a1 => k_mem); (case hps => rfl); (case a2 => k_mem); (case a3 => k_mem); (case ke => exact ext_fr HG (by k_asm)); (case hi => exact congrArg (Value.int · _) (und_whole n ds)); (case hct => exact ⟨_, _, cd1, cd2⟩))
    · rename (¬ 0 < _) => hz
      k_dflt (refine' hret _ _ _ [(37, tabObj ?psb2), (?cb2, ?ob2), (D, listOf vs.toArray j)] ?kf (cb_drop ?kN (List.forall_mem_cons.mpr ⟨?a1, List.forall_mem_cons.mpr ⟨?a2, List.forall_mem_cons.mpr ⟨?a3, List.forall_mem_nil _⟩⟩⟩)) ?ke ⟨?tb2, ?psb2, ?cb2, ?ob2, ?hi, rfl, .inr ⟨?hps, ?hct⟩⟩; (case kf => k_asm); (case kN => k_asm); (case a1 => k_mem); (case hps => rfl); (case a2 => k_mem); (case a3 => k_mem); (case ke => exact ext_fr HG (by k_asm)); (case hi => exact congrArg (Value.int · _) (und_empty n ds hz)); (case hct => exact ⟨_, _, cd1, cd2⟩))
end Mine
namespace Mine
theorem rs_T9 : True := by
  w_top off
  exact trivial
local macro_rules | `(tactic| walk_at "call ref") => `(tactic| (refine stop_intro ?_))
set_option maxHeartbeats 2000000 in
theorem div2n1n (w : World) (x y n : Int) (t1 t2 t3 : Tok) (h0 : 0 ≤ x) (h1 : x < 2 ^ 40) (h3 : 0 < y) (h4 : y < 128) (h5 : 6 ≤ n) (h6 : n ≤ 7) :
    Con w 21 [.int x t1, .int y t2, .int n t3] 20 200 [] (fun _ => True) (fun h r mu' _ => ∃ D u1 u2 j, r = .ref D ∧ mu' = [(D, { cls := .type "tuple", data := .seq #[.int (x.fdiv y) u1, .int (x.fmod y) u2] j })] ∧ h.get? D = none) := by
  unfold Con
  k_fill
  intro p loose mean mg mb dp un gd cn cs a ccd cl outer A₀ base h₀ L m s Q E B F X N T hkf hP hd hu hret
  have hbx : ((Builtin.Int.intBits x : Nat) : Int) ≤ 64 := by
    have := intBits_le_64 (k := x) (by omega) (by omega)
    omega
  refine wpAny_call ?_
  k_dflt ktr_enter
  rename Ext _ _ _ => HG
  k_steps
  refine hret _ _ _ _ (by k_asm) (by k_asm) (ext_fr HG (by k_asm)) ⟨_, _, _, _, rfl, rfl, fresh_of HG (by simp) (News.fresh (by k_asm) (by k_mem))⟩
end Mine
namespace Mine
theorem rs_T10b : True := by
  w_top off
  exact trivial
local macro_rules | `(tactic| walk_at "call ref") => `(tactic| (refine stop_intro ?_))
abbrev Q1 : Str := "_int2digits.<locals>.inner"
abbrev Q2 : Str := "_digits2int.<locals>.inner"
local macro_rules | `(tactic| walk_at "pyIter ref") => `(tactic| (refine stop_intro ?_))
local macro_rules | `(tactic| walk_at "UnrEnd") => `(tactic| (refine stop_intro ?_))
set_option maxHeartbeats 4000000 in
theorem divmod_pos (w : World) (y : Nat) (b : Int) (t1 t2 : Tok) (hy : y < 2 ^ 30) (h3 : 32 ≤ b) (h4 : b < 128) (p1 p2 : Array Value) (c1 c2 : Addr) (o1 o2 : Obj) (hS1 : TabS "_int2digits.<locals>.inner" 32 4 30 p1 c1 o1) (hS2 : TabS "_digits2int.<locals>.inner" 47 4 37 p2 c2 o2) :
    Con w 49 [.int y t1, .int b t2] 60 800 [(30, tabObj p1), (c1, o1), (37, tabObj p2), (c2, o2)] (fun h => CodeHd h 34 30 ∧ CodeHd h 41 37)
      (fun h r mu' _ => DivOut y b [30, c1, 37, c2] h r mu') := by
  unfold Con
  k_fill
  intro p loose mean mg mb dp un gd cn cs a ccd cl outer A₀ base h₀ L m s Q E B F X N T hkf hP hd hu hret
  obtain ⟨hC1, hC2⟩ := hP
  obtain ⟨hn, hn', hbn⟩ := bits_of_b h3 h4
  obtain ⟨k, hk, hk5, hyk⟩ := figs_k hn hn' hy
  have hb0 : 0 < b := by omega
  have hend := ldiv_end h3 hyk
  refine wpAny_call ?_
  k_dflt ktr_enter
  rename Ext _ _ _ => HG
  k_steps
  unfold Stop
  rename News _ _ _ _ => N1
  k_dflt (refine' con_use (int2digits w (Builtin.Int.intBits b) y k _ _ hn hn' p1 c1 o1 hS1 hk hk5 hyk) ?k1 ?k2 ?k3 ?k4 ?k5 ?kK ?kP ?kd ?ku ?_; (case k1 => k_asm); (case k2 => k_asm); (case k3 => k_asm); (case k4 => exact cb_drop N1 (List.forall_mem_cons.mpr ⟨.head _, List.forall_mem_cons.mpr ⟨.tail _ (.head _), List.forall_mem_nil _⟩⟩)); (case k5 => k_asm); (case kK => exact rfl); (case kP => exact codeHd_ext hC1 (ext_fr HG (by k_asm)) (old_away (X 34 _ (by k_is)) N)); (case kd => ktr_room); (case ku => ktr_units))
  intro r9 h9 tk9 mu9 F9 N9 X9 O9
  obtain ⟨vs, D, j, p1', c1', o1', rfl, rfl, hv, hS1', hf⟩ := O9
  have hap := TabS.two N1 (by k_mem) (by k_mem) (by k_mem) (by k_mem) hS1 hS2 (by decide) (by decide)
  have N2 := news_join N1 X9 N9 (rest := [(37, tabObj p2), (c2, o2)]) (List.forall_mem_cons.mpr ⟨⟨by k_mem, hap.1⟩, List.forall_mem_cons.mpr ⟨⟨by k_mem, hap.2⟩, List.forall_mem_nil _⟩⟩)
  simp only [List.cons_append, List.nil_append] at N2
  clear N1 N9
  (try dsimp only); (try k_fold)
  k_steps
  unfold Stop
  rename News _ _ _ _ => N3
  rename Fr _ _ _ _ => F3
  have F4 := fr_norm4 (a := "r") (b := "q_digits") (c := "n") (d := "b") F3 rfl rfl rfl rfl
  have hvl := hv.length
  have hdl := digs_length (Builtin.Int.intBits b) k y
  refine iter_revUnr (ax := D) (lo := listOf vs.toArray j) (vs := vs) (n := j) (by rfl) F4 N3 (by k_offL) (by k_mem) rfl rfl ?_
  refine' (show ∀ (ws : List Value) (ds : List Int) (qs : List Value) (qi : List Int) (R : Int) (tr : Tok) (jq : Nat) (u : Str → Option Value), IntsAre ws ds → Fig (Builtin.Int.intBits b) ds → IntsAre qs qi → 0 ≤ R → R < b →
      ldiv (Builtin.Int.intBits b) b (digs (Builtin.Int.intBits b) y k).reverse 0 = (qi ++ (ldiv (Builtin.Int.intBits b) b ds R).1, (ldiv (Builtin.Int.intBits b) b ds R).2) →
      RevRest _ _ _ _ _ _ _ _ _ _ _ _ ws (fun y_1 => if y_1 = "r" then some (.int R tr) else if y_1 = "q_digits" then some (.ref _) else if y_1 = "n" then some (.int (Builtin.Int.intBits b) _) else if y_1 = "b" then some (.int b _) else u y_1)
        [(_, listOf qs.toArray jq), (30, tabObj p1'), (c1', o1'), (D, listOf vs.toArray j), (37, tabObj p2), (c2, o2)] from ?key) vs.reverse (digs (Builtin.Int.intBits b) y k).reverse [] [] 0 _ 0 _ (ints_rev hv) (fun d hd => fig_digs _ k y d (List.mem_reverse.mp hd)) IntsAre.nil (by decide) hb0 (by rfl)
  case key =>
    clear N3 F3 F4
    intro ws
    induction ws with
    | nil =>
      intro ds qs qi R tr jq u hw hfg hq h0 h1 hrel
      cases hw
      simp only [ldiv, List.append_nil] at hrel
      have hql : qs.length = qi.length := hq.length
      rw [hrel] at hend
      dsimp only at hend
      obtain ⟨he1, he2, he3, he4⟩ := hend
      rw [List.length_reverse] at he4
      refine RevRest.zero (fun hx tkx Fx Nx => ?_)
      k_steps
      (try dsimp only)
      k_dflt (refine' kl_reverse (l := qs.reverse) ?F ?N ?e ?U ?z ?_; (case F => k_asm); (case N => k_asm); (case e => exact rfl); (case U => k_upd); (case z => (rw [sizeLine_eq]; show qs.length ≤ _; omega)))
      intro hr Fr9 Nr9
      (try dsimp only); (try k_fold)
      k_steps
      unfold Stop
      rename News _ _ _ _ => N3
      k_dflt (refine' con_use (digits2int w (Builtin.Int.intBits b) _ _ qs.reverse qi.reverse jq hn hn' p2 c2 o2 hS2 (ints_rev hq) he3 ?hlen) ?k1 ?k2 ?k3 (cb_drop N3 (List.forall_mem_cons.mpr ⟨?a1, List.forall_mem_cons.mpr ⟨?a2, List.forall_mem_cons.mpr ⟨?a3, List.forall_mem_nil _⟩⟩⟩)) ?k5 ?kK ?kP ?kd ?ku ?_; (case k1 => k_asm); (case k2 => k_asm); (case k3 => k_asm); (case a1 => k_mem); (case a2 => k_mem); (case a3 => k_mem); (case hlen => (rw [List.length_reverse, he4]; omega)); (case k5 => k_asm); (case kK => exact rfl); (case kP => exact codeHd_ext hC2 (ext_fr HG (by k_asm)) (old_away (X 41 _ (by k_is)) N)); (case kd => ktr_room); (case ku => ktr_units))
      intro r9 h9 tk9 mu9 F9 N9 X9 O9
      obtain ⟨t9, p2', c2', o2', rfl, rfl, hS2'⟩ := O9
      have hap := TabS.two N3 (by k_mem) (by k_mem) (by k_mem) (by k_mem) hS2 hS1' (by decide) (by decide)
      have hap1 := two_ne hap.1
      have hap2 := two_ne hap.2
      have N4 := news_join N3 X9 N9 (rest := [(30, tabObj p1'), (c1', o1')]) (List.forall_mem_cons.mpr ⟨⟨by k_mem, not_three hap1.1 hap1.2 (obj_away N3 (o := tabObj p1') (by k_mem) (by k_mem) (fun e => by have := congrArg Obj.cls e; cases this))⟩, List.forall_mem_cons.mpr ⟨⟨by k_mem, not_three hap2.1 hap2.2 (obj_away N3 (by k_mem) (by k_mem) hS1'.not_seq)⟩, List.forall_mem_nil _⟩⟩)
      simp only [List.cons_append, List.nil_append] at N4
      clear N9 N3
      (try dsimp only); (try k_fold)
      k_steps
      k_dflt (refine' hret _ _ _ [(30, tabObj p1'), (c1', o1'), (37, tabObj p2'), (c2', o2'), (?DK, _)] ?kf (cb_drop ?kN (List.forall_mem_cons.mpr ⟨?a1, List.forall_mem_cons.mpr ⟨?a2, List.forall_mem_cons.mpr ⟨?a3, List.forall_mem_cons.mpr ⟨?a4, List.forall_mem_cons.mpr ⟨?a5, List.forall_mem_nil _⟩⟩⟩⟩⟩)) ?ke (DivOut.mk' ?DK _ _ _ p1' c1' o1' p2' c2' o2' ?he hS1' hS2' ?hf); (case kf => k_asm); (case kN => k_asm); (case a1 => k_mem); (case a2 => k_mem); (case a3 => k_mem); (case a4 => k_mem); (case a5 => k_mem); (case ke => exact ext_fr HG (by k_asm)); (case he => (rw [← he1, ← he2])); (case hf => exact fresh_but HG (News.fresh (by k_asm) (by k_mem))))
    | cons v r ih =>
      intro ds qs qi R tr jq u hw hfg hq h0 h1 hrel
      cases hw with
      | cons d t hw =>
      rename_i ds
      have hd := hfg d (.head _)
      refine RevRest.succ (fun it9 hx tkx hitc Fx Nx => ?_)
      k_steps
      unfold Stop
      rename News _ _ _ _ => N3
      have hql : qs.length = qi.length := hq.length
      have hqk : qi.length < k := by
        have e := congrArg (fun z => z.1.length) hrel
        have e2 := hend.2.2.2
        simp only [List.length_append, ldiv, List.length_cons, List.length_reverse] at e e2
        omega
      have hxb := xb (n := Builtin.Int.intBits b) hn' ⟨h0, by omega⟩ hd
      k_dflt (refine' con_use (div2n1n w _ b _ _ _ _ hxb.1 hxb.2 hb0 h4 hn hn') ?k1 ?k2 ?k3 ?k4 ?k5 ?kK ?kP ?kd ?ku ?_; (case k1 => k_asm); (case k2 => k_asm); (case k3 => k_asm); (case k4 => exact News.nil); (case k5 => k_asm); (case kK => exact rfl); (case kP => trivial); (case kd => ktr_room); (case ku => ktr_units))
      intro r9 h9 tk9 mu9 F9 N9 X9 O9
      obtain ⟨D9, q9, u9, j9, rfl, rfl, hf9⟩ := O9
      have l9 := fresh_ne N3 hf9
      have N4 := news_all N3 X9 N9
      simp only [List.cons_append, List.nil_append] at N4
      simp only [GnNe, and_true] at l9
      clear N9 N3
      (try dsimp only); (try k_fold)
      k_steps
      unfold Stop
      rename Fr _ _ _ _ => F5
      rename News _ _ _ _ => N5
      have F6 := fr_norm4 (a := "r") (b := "q_digits") (c := "n") (d := "b") F5 rfl rfl rfl rfl
      simp only [List.push_toArray] at N5
      have hfm := fm_bd (x := R * 2 ^ ((Builtin.Int.intBits b : Nat) : Int).toNat + d) h3 h4
      have hfl : (R * 2 ^ ((Builtin.Int.intBits b : Nat) : Int).toNat + d).fmod b < b := by
        rw [Int.fmod_eq_emod_of_nonneg _ (by omega)]
        exact Int.emod_lt_of_pos _ hb0
      refine UnrEnd.intro F6 N5 [(_, listOf (qs ++ [Value.int ((R * 2 ^ ((Builtin.Int.intBits b : Nat) : Int).toNat + d).fdiv b) q9]).toArray (jq + 1)), (30, tabObj p1'), (c1', o1'), (D, listOf vs.toArray j), (37, tabObj p2), (c2, o2)] (List.forall_mem_cons.mpr ⟨by k_mem, List.forall_mem_cons.mpr ⟨by k_mem, List.forall_mem_cons.mpr ⟨by k_mem, List.forall_mem_cons.mpr ⟨by k_mem, List.forall_mem_cons.mpr ⟨by k_mem, List.forall_mem_cons.mpr ⟨by k_mem, List.forall_mem_cons.mpr ⟨by k_mem, List.forall_mem_nil _⟩⟩⟩⟩⟩⟩⟩) (by k_all) ⟨by k_mem, ih ds _ (qi ++ [_]) _ _ _ _ hw (fun z hz => hfg z (.tail _ hz)) (ints_append hq (.cons _ _ .nil)) hfm.1 hfl (by rw [hrel]; simp only [ldiv, List.append_assoc, List.singleton_append])⟩
end Mine
namespace Mine
theorem rs_T11 : True := by
  w_top off
  exact trivial
local macro_rules | `(tactic| walk_at "call ref") => `(tactic| (refine stop_intro ?_))
set_option maxHeartbeats 4000000 in
theorem intdivmod (w : World) (y : Nat) (b : Int) (t1 t2 : Tok) (hy : y < 2 ^ 30) (h3 : 32 ≤ b) (h4 : b < 128) (p1 p2 : Array Value) (c1 c2 : Addr) (o1 o2 : Obj) (hS1 : TabS "_int2digits.<locals>.inner" 32 4 30 p1 c1 o1) (hS2 : TabS "_digits2int.<locals>.inner" 47 4 37 p2 c2 o2) :
    Con w 56 [.int y t1, .int b t2] 70 900 [(30, tabObj p1), (c1, o1), (37, tabObj p2), (c2, o2)] (fun h => CodeHd h 34 30 ∧ CodeHd h 41 37)
      (fun h r mu' _ => DivOut y b [30, c1, 37, c2] h r mu') := by
  unfold Con
  k_fill
  intro p loose mean mg mb dp un gd cn cs a ccd cl outer A₀ base h₀ L m s Q E B F X N T hkf hP hd hu hret
  obtain ⟨hC1, hC2⟩ := hP
  have hy0 : 0 ≤ (y : Int) := by omega
  have hbz : b ≠ 0 := by omega
  have hbn : ¬ b < 0 := by omega
  have hyn : ¬ (y : Int) < 0 := by omega
  refine wpAny_call ?_
  k_dflt ktr_enter
  rename Ext _ _ _ => HG
  k_steps
  all_goals try (exfalso; omega)
  unfold Stop
  rename News _ _ _ _ => N1
  k_dflt (refine' con_use (divmod_pos w y b _ _ hy h3 h4 p1 p2 c1 c2 o1 o2 hS1 hS2) ?k1 ?k2 ?k3 ?k4 ?k5 ?kK ?kP ?kd ?ku ?_; (case k1 => k_asm); (case k2 => k_asm); (case k3 => k_asm); (case k4 => exact N1); (case k5 => k_asm); (case kK => exact rfl); (case kP => exact ⟨codeHd_ext hC1 (ext_fr HG (by k_asm)) (old_away (X 34 _ (by k_is)) N), codeHd_ext hC2 (ext_fr HG (by k_asm)) (old_away (X 41 _ (by k_is)) N)⟩); (case kd => ktr_room); (case ku => ktr_units))
  intro r9 h9 tk9 mu9 F9 N9 X9 O9
  obtain ⟨D, u1, u2, j, p1', c1', o1', p2', c2', o2', hS1', hS2', hf⟩ := O9
  clear N1
  (try dsimp only); (try k_fold)
  k_steps
  k_dflt (refine' hret _ _ _ [(30, tabObj p1'), (c1', o1'), (37, tabObj p2'), (c2', o2'), (D, _)] ?kf ?kN ?ke (.mk D _ _ _ p1' c1' o1' p2' c2' o2' hS1' hS2' ?hf); (case kf => k_asm); (case kN => k_asm); (case ke => exact ext_fr HG (by k_asm)); (case hf => exact fresh_but HG (News.fresh (by k_asm) (by k_mem))))
end Mine
namespace Mine
local macro_rules | `(tactic| walk_at "none of the walk's keys") => `(tactic| fail)
theorem rs_T12 : True := by
  w_top off
  exact trivial
local macro_rules | `(tactic| walk_at "call ref") => `(tactic| (refine stop_intro ?_))
def fH (hue : Nat) : UInt64 := PySem.Float64.ofFrac (decide ((hue : Int) < 0) != decide ((16 : Int) < 0)) (hue : Int).natAbs (Int.natAbs 16)
def fD (depth : Nat) : UInt64 := PySem.Float64.ofFrac (decide ((depth : Int) < 0) != decide ((4 : Int) < 0)) (depth : Int).natAbs (Int.natAbs 4)
abbrev hm (f : UInt64) : UInt64 := PySem.Float64.mul f 4618441417868443648
abbrev iv (f : UInt64) : Int := Flt.toInt PySem.Float64.truncOf (hm f)
abbrev ff (f : UInt64) : UInt64 := PySem.Float64.sub (hm f) (PySem.Float64.ofInt (iv f))
abbrev pP (g : UInt64) : UInt64 := PySem.Float64.mul (PySem.Float64.ofInt 32) (PySem.Float64.sub 4607182418800017408 g)
abbrev pQ (f g : UInt64) : UInt64 := PySem.Float64.mul (PySem.Float64.ofInt 32) (PySem.Float64.sub 4607182418800017408 (PySem.Float64.mul g (ff f)))
abbrev pT (f g : UInt64) : UInt64 := PySem.Float64.mul (PySem.Float64.ofInt 32) (PySem.Float64.sub 4607182418800017408 (PySem.Float64.mul g (PySem.Float64.sub 4607182418800017408 (ff f))))
abbrev FP (x : UInt64) (n : Int) : Prop := PySem.Float64.isNaN x = false ∧ PySem.Float64.isInf x = false ∧ PySem.Float64.isFinite x = true ∧ Flt.toInt PySem.Float64.truncOf x = n
def far (hue : Nat) (c : Int) : Int := (if (c - 3 * (hue : Int)).fmod 48 < (3 * (hue : Int) - c).fmod 48 then (c - 3 * (hue : Int)).fmod 48 else (3 * (hue : Int) - c).fmod 48) - 8
def shr (hue depth : Nat) (c : Int) : Int := 32 - (depth : Int) * (if 8 < (if 0 > far hue c then 0 else far hue c) then 8 else (if 0 > far hue c then 0 else far hue c))
abbrev HsvOk (f g : UInt64) (a b c : Int) : Prop :=
  (PySem.Float64.cmp g 0 == some Ordering.eq) = false ∧ PySem.Float64.isNaN (hm f) = false ∧ PySem.Float64.isInf (hm f) = false ∧ 0 ≤ iv f ∧ iv f ≤ 5 ∧
  (iv f = 0 → 32 = a ∧ FP (pT f g) b ∧ FP (pP g) c) ∧ (iv f = 1 → FP (pQ f g) a ∧ 32 = b ∧ FP (pP g) c) ∧ (iv f = 2 → FP (pP g) a ∧ 32 = b ∧ FP (pT f g) c) ∧
  (iv f = 3 → FP (pP g) a ∧ FP (pQ f g) b ∧ 32 = c) ∧ (iv f = 4 → FP (pT f g) a ∧ FP (pP g) b ∧ 32 = c) ∧ (iv f = 5 → 32 = a ∧ FP (pP g) b ∧ FP (pQ f g) c)
set_option synthInstance.maxHeartbeats 2000000 in
set_option synthInstance.maxSize 4000 in
theorem hsv_tab : ∀ hue : Fin 16, ∀ d : Fin 3, HsvOk (fH hue) (fD (d + 1)) (shr hue (d + 1) 0) (shr hue (d + 1) 16) (shr hue (d + 1) 32) := by decide +kernel
def PartOf (v : Value) (n : Int) : Prop := (∃ t, v = .int n t) ∨ ∃ x t, v = .float x t ∧ FP x n
theorem fm6 {i k : Int} (h0 : 0 ≤ i) (h5 : i ≤ 5) (e : i.fmod 6 = k) : i = k := by
  rw [Int.fmod_eq_emod_of_nonneg i (by decide)] at e; omega
theorem none6 {i : Int} (h0 : 0 ≤ i) (h5 : i ≤ 5) (e0 : i.fmod 6 ≠ 0) (e1 : i.fmod 6 ≠ 1) (e2 : i.fmod 6 ≠ 2) (e3 : i.fmod 6 ≠ 3) (e4 : i.fmod 6 ≠ 4) (e5 : i.fmod 6 ≠ 5) : False := by
  rw [Int.fmod_eq_emod_of_nonneg i (by decide)] at e0 e1 e2 e3 e4 e5; omega
set_option maxHeartbeats 4000000 in
theorem hsv (w : World) (f g : UInt64) (a1 b1 c1 : Int) (t1 t2 t3 : Tok) (ho : HsvOk f g a1 b1 c1) :
    Con w 63 [.float f t1, .float g t2, .int 32 t3] 20 200 [] (fun _ => True)
      (fun h r mu' _ => ∃ D a b c j, r = .ref D ∧ mu' = [(D, { cls := .type "tuple", data := .seq #[a, b, c] j })] ∧ PartOf a a1 ∧ PartOf b b1 ∧ PartOf c c1 ∧ h.get? D = none) := by
  unfold Con
  k_fill
  intro p loose mean mg mb dp un gd cn cs a ccd cl outer A₀ base h₀ L m s Q E B F X N T hkf hP hd hu hret
  obtain ⟨q1, q2, q3, q4, q5, r0, r1, r2, r3, r4, r5⟩ := ho
  have hs : (iv f).natAbs < 2 ^ 1024 - 2 ^ 970 := by
    have e : (6 : Nat) ≤ 2 ^ 1024 - 2 ^ 970 := by decide +kernel
    have : (iv f).natAbs < 6 := by omega
    exact Nat.lt_of_lt_of_le this e
  refine wpAny_call ?_
  k_dflt ktr_enter
  rename Ext _ _ _ => HG
  k_steps
  all_goals try (rename (_ == some Ordering.eq) = true => hx; rw [q1] at hx; cases hx)
  all_goals try (rename PySem.Float64.isNaN _ = true => hx; rw [q2] at hx; cases hx)
  all_goals try (rename PySem.Float64.isInf _ = true => hx; rw [q3] at hx; cases hx)
  all_goals try (exact absurd (by assumption) (Nat.not_le_of_lt hs))
  all_goals try (exact (none6 q4 q5 (by assumption) (by assumption) (by assumption) (by assumption) (by assumption) (by assumption)).elim)
  · rename Int.fmod _ _ = 0 => he
    obtain ⟨e1, e2, e3⟩ := r0 (fm6 q4 q5 he)
    k_dflt (refine' hret _ _ _ _ ?kf ?kN ?ke ⟨_, _, _, _, _, rfl, rfl, .inl ⟨_, congrArg (Value.int · _) e1⟩, .inr ⟨_, _, rfl, e2⟩, .inr ⟨_, _, rfl, e3⟩, ?hz⟩; (case kf => k_asm); (case kN => k_asm); (case ke => exact ext_fr HG (by k_asm)); (case hz => exact fresh_of HG List.not_mem_nil (News.fresh (by k_asm) (by k_mem))))
  · rename Int.fmod _ _ = 1 => he
    obtain ⟨e1, e2, e3⟩ := r1 (fm6 q4 q5 he)
    k_dflt (refine' hret _ _ _ _ ?kf ?kN ?ke ⟨_, _, _, _, _, rfl, rfl, .inr ⟨_, _, rfl, e1⟩, .inl ⟨_, congrArg (Value.int · _) e2⟩, .inr ⟨_, _, rfl, e3⟩, ?hz⟩; (case kf => k_asm); (case kN => k_asm); (case ke => exact ext_fr HG (by k_asm)); (case hz => exact fresh_of HG List.not_mem_nil (News.fresh (by k_asm) (by k_mem))))
  · rename Int.fmod _ _ = 2 => he
    obtain ⟨e1, e2, e3⟩ := r2 (fm6 q4 q5 he)
    k_dflt (refine' hret _ _ _ _ ?kf ?kN ?ke ⟨_, _, _, _, _, rfl, rfl, .inr ⟨_, _, rfl, e1⟩, .inl ⟨_, congrArg (Value.int · _) e2⟩, .inr ⟨_, _, rfl, e3⟩, ?hz⟩; (case kf => k_asm); (case kN => k_asm); (case ke => exact ext_fr HG (by k_asm)); (case hz => exact fresh_of HG List.not_mem_nil (News.fresh (by k_asm) (by k_mem))))
  · rename Int.fmod _ _ = 3 => he
    obtain ⟨e1, e2, e3⟩ := r3 (fm6 q4 q5 he)
    k_dflt (refine' hret _ _ _ _ ?kf ?kN ?ke ⟨_, _, _, _, _, rfl, rfl, .inr ⟨_, _, rfl, e1⟩, .inr ⟨_, _, rfl, e2⟩, .inl ⟨_, congrArg (Value.int · _) e3⟩, ?hz⟩; (case kf => k_asm); (case kN => k_asm); (case ke => exact ext_fr HG (by k_asm)); (case hz => exact fresh_of HG List.not_mem_nil (News.fresh (by k_asm) (by k_mem))))
  · rename Int.fmod _ _ = 4 => he
    obtain ⟨e1, e2, e3⟩ := r4 (fm6 q4 q5 he)
    k_dflt (refine' hret _ _ _ _ ?kf ?kN ?ke ⟨_, _, _, _, _, rfl, rfl, .inr ⟨_, _, rfl, e1⟩, .inr ⟨_, _, rfl, e2⟩, .inl ⟨_, congrArg (Value.int · _) e3⟩, ?hz⟩; (case kf => k_asm); (case kN => k_asm); (case ke => exact ext_fr HG (by k_asm)); (case hz => exact fresh_of HG List.not_mem_nil (News.fresh (by k_asm) (by k_mem))))
  · rename Int.fmod _ _ = 5 => he
    obtain ⟨e1, e2, e3⟩ := r5 (fm6 q4 q5 he)
    k_dflt (refine' hret _ _ _ _ ?kf ?kN ?ke ⟨_, _, _, _, _, rfl, rfl, .inl ⟨_, congrArg (Value.int · _) e1⟩, .inr ⟨_, _, rfl, e2⟩, .inr ⟨_, _, rfl, e3⟩, ?hz⟩; (case kf => k_asm); (case kN => k_asm); (case ke => exact ext_fr HG (by k_asm)); (case hz => exact fresh_of HG List.not_mem_nil (News.fresh (by k_asm) (by k_mem))))
end Mine
namespace Mine
theorem rs_T13n : True := by
  w_top off
  exact trivial
section
theorem wp_gentk {prog : Program} {w : World} {A : Around} {α : Type} {t : Sem α} {Q : α → Shared → Prop} {E : Value → Shared → Prop} {h : Heap} {gs dr os} {X n : Nat} (hX : 0 < X + n) (k : ∀ tk, 0 < tk → wpAny (model prog w) A t Q E ⟨h, gs, dr, tk, os⟩) : wpAny (model prog w) A t Q E ⟨h, gs, dr, X + n, os⟩ := k _ hX
/-- one replacement of the escapes -/
def rep (c r x : Str) : Str := if (Builtin.Str.occurrences x c 0 x.length 1).isEmpty then x else Txt.replace x c r
local macro_rules | `(tactic| walk_at "call builtin:str.replace") => `(tactic| (refine SC.replaceW (by (show @Ne Nat _ _); omega) (by (show @Ne Nat _ _); omega) (by (show @Ne Nat _ _); omega) (by assumption) (by omega) (by omega) ?_; intro _ _))
theorem mcp (o : Expr) (env : Env) (f : Bool) (l c1 c2 d1 d2 d3 : Nat) : methodCallPos f o env ⟨l, c1, l, c2⟩ ⟨l, d1, d3, d2⟩ = pure ⟨l, d1, d3, d2⟩ := by
  unfold methodCallPos
  rw [if_pos (by simp)]
theorem MethodCallL {M : Model} {A : Around} {E : Value → Shared → Prop} {s : Shared} {env : Env} {q5 : Pos} {l c1 c2 d1 d2 d3 : Nat} {c r : Str} {q7 q8 : Pos} {k2 k3 : Nat} {Q : Value → Shared → Prop}
    (h : wpAny M A (eval (.Name "text" q5) env) (fun ov s₁ => wpAny M A (getMethod ov "replace" (do return (← importBound (.Name "text" q5) env).getD true)) (fun fx s₂ => wpAny M A (callWith ⟨l, d1, d3, d2⟩ fx.1 fx.2 (backTo ⟨l, d1, d3, d2⟩ (starEach [.Constant (.str c) k2 q7, .Constant (.str r) k3 q8] env)) []) Q E s₂) E s₁) E s) :
    wpAny M A (eval (.Call (.Attribute (.Name "text" q5) "replace" ⟨l, c1, l, c2⟩) [.Constant (.str c) k2 q7, .Constant (.str r) k3 q8] [] ⟨l, d1, d3, d2⟩) env) Q E s := by
  refine MethodCall_ h ?_
  have e : eval (.Call (.Attribute (.Name "text" q5) "replace" ⟨l, c1, l, c2⟩) [.Constant (.str c) k2 q7, .Constant (.str r) k3 q8] [] ⟨l, d1, d3, d2⟩) env = (do
      let ov ← eval (.Name "text" q5) env
      standAt (Pos.atName ⟨l, c1, l, c2⟩)
      let (f, first) ← holding [ov] (getMethod ov "replace" (do return (← importBound (.Name "text" q5) env).getD true))
      let callPos ← methodCallPos true (.Name "text" q5) env ⟨l, c1, l, c2⟩ ⟨l, d1, d3, d2⟩
      callWith callPos f first (backTo ⟨l, d1, d3, d2⟩ (starEach [.Constant (.str c) k2 q7, .Constant (.str r) k3 q8] env)) []) := rfl
  rw [e]
  simp only [mcp]
  rfl
local macro_rules | `(tactic| walk_at "eval Call Attribute") => `(tactic| refine MethodCallL ?_)
def escSc : Scope := ⟨.function, [("text", .local), ("TypeError", .globalImplicit), ("AttributeError", .globalImplicit), ("_raise_serialization_error", .globalImplicit)], false, false, []⟩
theorem lk1 (y n : Str) (v : Value) : List.lookup y [(n, v)] = if y = n then some v else none := by
  unfold List.lookup
  by_cases h : y = n
  · subst h; simp
  · rw [if_neg h, show (y == n) = false from beq_false_of_ne h]; rfl
set_option maxHeartbeats 1000000 in
theorem if_rep (w : World) {q0 q1 q2 q3 q4 q5 q7 q8 q9 : Pos} {l c1 c2 d1 d2 d3 : Nat} {k1 k2 k3 : Nat} {c r x : Str} {t0 : Tok} {nm : Str} {L a : Addr} {cd : Value}
    {A : Around} {h₀ : Heap} {s : Shared} {Q : Flow → Shared → Prop} {E : Value → Shared → Prop} {m : Str → Option Value} (F : Fr h₀ L s.heap m) (hm : ∀ y, m y = if y = "text" then some (.str x t0) else none)
    (hx : x.length ≤ 1000) (hcr : (c == r) = false) (hr : r.length ≤ 14)
    (hQ : ∀ h' tk' t', Fr h₀ L h' (fun y => if y = "text" then some (.str (rep c r x) t') else none) → News h₀ L h' [] → Q .next { s with heap := h', toks := tk' }) :
    wpAny (model PySem.Challenge.rw_wb0062_01.row.prog w) A (exec (.If (.Compare (.Constant (.str c) k1 q1) [.In] [.Name "text" q2] q3) [.Assign [.Name "text" q4] (.Call (.Attribute (.Name "text" q5) "replace" ⟨l, c1, l, c2⟩) [.Constant (.str c) k2 q7, .Constant (.str r) k3 q8] [] ⟨l, d1, d3, d2⟩) q0] [] q9) (envOf nm escSc L a cd)) Q E s := by
  obtain rfl : m = (fun (y : Str) => if y = ("text" : Str) then some (.str x t0) else none) := funext hm
  obtain ⟨h, gs, dr, tk, os⟩ := s
  dsimp only at F hQ ⊢
  dsimp only [escSc]
  have N := News.nil (h₀ := h₀) (L := L) (h := h)
  k_steps
  · refine hQ _ _ t0 ?_ (by assumption)
    unfold rep
    rw [if_pos (by assumption)]
    exact F
  · rename Fr _ _ _ _ => F'
    rename_i _ tR _ _ _
    refine hQ _ _ tR ?_ (by assumption)
    unfold rep
    rw [if_neg (by simp only [*]; decide)]
    refine Eq.mp ?_ F'
    congr 1
    funext y
    by_cases hy : y = "text"
    · simp only [if_pos hy]
    · simp only [if_neg hy]
end
section
local macro_rules | `(tactic| walk_at "no such key, b") => `(tactic| fail)
local macro_rules | `(tactic| walk_at "no such key, c") => `(tactic| fail)
local macro_rules | `(tactic| walk_at "exec If") => `(tactic| (k_dflt (refine' if_rep _ ?k1 ?k2 ?k3 ?k4 ?k5 ?_; (case k1 => k_asm); (case k2 => (intro y; (first | exact lk1 _ _ _ | rfl))); (case k3 => assumption); (case k4 => decide); (case k5 => decide)); intro h' tk' t' F' N'))
/-- a contract of a call that needs a token counter that is not nought -/
abbrev ConT (w : World) (f : Addr) (vs : List Value) (dz uz : Nat) (mu : List (Addr × Obj)) (P : Heap → Prop) (Out : Heap → Value → List (Addr × Obj) → Heap → Prop) : Prop :=
  ∀ (p : Program) (loose : List Str) (mean : ExcName → Option Value) (mg mb : Str → Option Value)
    (dp un : Nat) (gd : Option (List Code)) (cn : Str) (cs : Scope) (a : Addr) (ccd : Value) (cl : List (Str × Addr)) (outer : List Env) (A₀ : Around) (base h₀ : Heap) (L : Addr) (m : Str → Option Value) (s : Shared)
    (Q E : Value → Shared → Prop),
    Below A₀ base outer h₀ → Fr h₀ L s.heap m → Frag.In (Mine.hd.heap_1 w.params) h₀ → News h₀ L s.heap mu → Top p loose mean mg mb h₀ → cs.kind = .function → 0 < s.toks → P s.heap → dp + dz < recursionLimit → un + uz < cLine →
    (∀ r h' tk' mu', Fr h₀ L h' m → News h₀ L h' mu' → Ext (mu.map (·.1)) s.heap h' → Out s.heap r mu' h' → Q r { s with heap := h', toks := tk' }) →
    wpAny (model PySem.Challenge.rw_wb0062_01.row.prog w) (ktrTop dp un gd cn cs L a ccd cl outer) (call (.ref f) vs) Q E s
def sgn (k : Nat) : Str := match k with | 0 => "&" | 1 => "<" | 2 => ">" | 3 => "\"" | _ => "\t"
def wrt (hand k : Nat) : Str := match hand, k with
  | _, 0 => "&amp;" | _, 1 => "&lt;"
  | 0, 2 => "&gt;" | 0, 3 => "\"" | 0, _ => "\t"
  | 1, 2 => "&gt;" | 1, 3 => "&quot;" | 1, _ => "&#09;"
  | _, 2 => ">" | _, 3 => "&quot;" | _, _ => "&#x9;"
def escLens (x : Str) : Prop := Str.length x ≤ 1000 ∧ Str.length (rep "&" "&amp;" x) ≤ 1000 ∧ Str.length (rep "<" "&lt;" (rep "&" "&amp;" x)) ≤ 1000 ∧ Str.length (rep ">" "&gt;" (rep "<" "&lt;" (rep "&" "&amp;" x))) ≤ 1000 ∧ Str.length (rep "\"" "&quot;" (rep ">" "&gt;" (rep "<" "&lt;" (rep "&" "&amp;" x)))) ≤ 1000 ∧ Str.length (rep "\r" "&#13;" (rep "\"" "&quot;" (rep ">" "&gt;" (rep "<" "&lt;" (rep "&" "&amp;" x))))) ≤ 1000 ∧ Str.length (rep "\n" "&#10;" (rep "\r" "&#13;" (rep "\"" "&quot;" (rep ">" "&gt;" (rep "<" "&lt;" (rep "&" "&amp;" x)))))) ≤ 1000 ∧ Str.length (rep "\"" "&quot;" (rep "<" "&lt;" (rep "&" "&amp;" x))) ≤ 1000 ∧ Str.length (rep "\t" "&#x9;" (rep "\"" "&quot;" (rep "<" "&lt;" (rep "&" "&amp;" x)))) ≤ 1000 ∧ Str.length (rep "\n" "&#xA;" (rep "\t" "&#x9;" (rep "\"" "&quot;" (rep "<" "&lt;" (rep "&" "&amp;" x))))) ≤ 1000
theorem lens_sgn : ∀ k, k < 5 → escLens (sgn k) := by
  unfold escLens
  decide +kernel
set_option maxHeartbeats 1000000 in
theorem escd_0 (w : World) (x : Str) (t1 t2 : Tok) (hx : escLens x) :
    Con w 105 [.int 0 t1, .str x t2] 30 300 [] (fun _ => True)
      (fun _ r mu' _ => (∃ t, r = .str (rep ">" "&gt;" (rep "<" "&lt;" (rep "&" "&amp;" x))) t) ∧ mu' = []) := by
  obtain ⟨l0, l1, l2, _, _, _, _, _, _, _⟩ := hx
  unfold Con
  k_fill
  intro p loose mean mg mb dp un gd cn cs a ccd cl outer A₀ base h₀ L m s Q E B F X N T hkf hP hd hu hret
  refine wpAny_call ?_
  k_dflt ktr_enter
  rename Ext _ _ _ => HG
  k_steps
  k_dflt (refine' hret _ _ _ [] ?kf ?kN ?ke ⟨⟨_, rfl⟩, rfl⟩; (case kf => k_asm); (case kN => exact News.nil); (case ke => exact ext_fr HG (by k_asm)))
set_option maxHeartbeats 1000000 in
theorem escd_1 (w : World) (x : Str) (t1 t2 : Tok) (hx : escLens x) :
    Con w 105 [.int 1 t1, .str x t2] 30 300 [] (fun _ => True)
      (fun _ r mu' _ => (∃ t, r = .str (rep "\t" "&#09;" (rep "\n" "&#10;" (rep "\r" "&#13;" (rep "\"" "&quot;" (rep ">" "&gt;" (rep "<" "&lt;" (rep "&" "&amp;" x))))))) t) ∧ mu' = []) := by
  obtain ⟨l0, l1, l2, l3, l4, l5, l6, _, _, _⟩ := hx
  unfold Con
  k_fill
  intro p loose mean mg mb dp un gd cn cs a ccd cl outer A₀ base h₀ L m s Q E B F X N T hkf hP hd hu hret
  refine wpAny_call ?_
  k_dflt ktr_enter
  rename Ext _ _ _ => HG
  k_steps
  k_dflt (refine' hret _ _ _ [] ?kf ?kN ?ke ⟨⟨_, rfl⟩, rfl⟩; (case kf => k_asm); (case kN => exact News.nil); (case ke => exact ext_fr HG (by k_asm)))
set_option maxHeartbeats 1000000 in
theorem escd_2 (w : World) (x : Str) (t1 t2 : Tok) (hx : escLens x) :
    Con w 105 [.int 2 t1, .str x t2] 30 300 [] (fun _ => True)
      (fun _ r mu' _ => (∃ t, r = .str (rep "\r" "&#xD;" (rep "\n" "&#xA;" (rep "\t" "&#x9;" (rep "\"" "&quot;" (rep "<" "&lt;" (rep "&" "&amp;" x)))))) t) ∧ mu' = []) := by
  obtain ⟨l0, l1, l2, _, _, _, _, l7, l8, l9⟩ := hx
  unfold Con
  k_fill
  intro p loose mean mg mb dp un gd cn cs a ccd cl outer A₀ base h₀ L m s Q E B F X N T hkf hP hd hu hret
  refine wpAny_call ?_
  k_dflt ktr_enter
  rename Ext _ _ _ => HG
  k_steps
  k_dflt (refine' hret _ _ _ [] ?kf ?kN ?ke ⟨⟨_, rfl⟩, rfl⟩; (case kf => k_asm); (case kN => exact News.nil); (case ke => exact ext_fr HG (by k_asm)))
end
theorem esc_0 : ∀ k, k < 5 → (fun x : Str => (rep ">" "&gt;" (rep "<" "&lt;" (rep "&" "&amp;" x)))) (sgn k) = wrt 0 k := by decide +kernel
theorem esc_1 : ∀ k, k < 5 → (fun x : Str => (rep "\t" "&#09;" (rep "\n" "&#10;" (rep "\r" "&#13;" (rep "\"" "&quot;" (rep ">" "&gt;" (rep "<" "&lt;" (rep "&" "&amp;" x)))))))) (sgn k) = wrt 1 k := by decide +kernel
theorem esc_2 : ∀ k, k < 5 → (fun x : Str => (rep "\r" "&#xD;" (rep "\n" "&#xA;" (rep "\t" "&#x9;" (rep "\"" "&quot;" (rep "<" "&lt;" (rep "&" "&amp;" x))))))) (sgn k) = wrt 2 k := by decide +kernel
theorem escaped (w : World) (hand k : Nat) (t1 t2 : Tok) (hh : hand < 3) (hk : k < 5) :
    ConT w 105 [.int hand t1, .str (sgn k) t2] 30 300 [] (fun _ => True) (fun _ r mu' _ => (∃ t, r = .str (wrt hand k) t) ∧ mu' = []) := by
  have h3 : hand = 0 ∨ hand = 1 ∨ hand = 2 := by omega
  rcases h3 with rfl | rfl | rfl
  · have h := escd_0 w (sgn k) t1 t2 (lens_sgn k hk)
    have e := esc_0 k hk
    dsimp only at e
    rw [e] at h
    intro p loose mean mg mb dp un gd cn cs a ccd cl outer A₀ base h₀ L m s Q E B F X N T hkf _
    exact h p loose mean mg mb dp un gd cn cs a ccd cl outer A₀ base h₀ L m s Q E B F X N T hkf
  · have h := escd_1 w (sgn k) t1 t2 (lens_sgn k hk)
    have e := esc_1 k hk
    dsimp only at e
    rw [e] at h
    intro p loose mean mg mb dp un gd cn cs a ccd cl outer A₀ base h₀ L m s Q E B F X N T hkf _
    exact h p loose mean mg mb dp un gd cn cs a ccd cl outer A₀ base h₀ L m s Q E B F X N T hkf
  · have h := escd_2 w (sgn k) t1 t2 (lens_sgn k hk)
    have e := esc_2 k hk
    dsimp only at e
    rw [e] at h
    intro p loose mean mg mb dp un gd cn cs a ccd cl outer A₀ base h₀ L m s Q E B F X N T hkf _
    exact h p loose mean mg mb dp un gd cn cs a ccd cl outer A₀ base h₀ L m s Q E B F X N T hkf
end Mine
namespace Mine
theorem rs_T14n : True := by
  w_top off
  exact trivial
local macro_rules | `(tactic| walk_at "subscriptTail") => `(tactic| (refine stop_intro ?_))
theorem row_of {hand : Nat} {g h : Heap} {L R0 R1 R2 R : Addr} {r0 r1 r2 : Array Value} (hh : hand < 3) (N : News g L h [(R, listOf #[.ref R0, .ref R1, .ref R2] 0), (R2, listOf r2 0), (R1, listOf r1 0), (R0, listOf r0 0)])
    (e0 : ∀ k, k < 5 → ∃ t, r0[k]? = some (.str (wrt 0 k) t)) (e1 : ∀ k, k < 5 → ∃ t, r1[k]? = some (.str (wrt 1 k) t)) (e2 : ∀ k, k < 5 → ∃ t, r2[k]? = some (.str (wrt 2 k) t)) :
    ∃ (RH : Addr) (row : Array Value), #[Value.ref R0, Value.ref R1, Value.ref R2][((hand : Nat) : Int).toNat]? = some (.ref RH) ∧ h.get? RH = some (listOf row 0) ∧ ∀ k, k < 5 → ∃ t, row[k]? = some (.str (wrt hand k) t) := by
  have h3 : hand = 0 ∨ hand = 1 ∨ hand = 2 := by omega
  rcases h3 with rfl | rfl | rfl
  · exact ⟨R0, r0, rfl, (N _ (.tail _ (.tail _ (.tail _ (.head _))))).1, e0⟩
  · exact ⟨R1, r1, rfl, (N _ (.tail _ (.tail _ (.head _)))).1, e1⟩
  · exact ⟨R2, r2, rfl, (N _ (.tail _ (.head _))).1, e2⟩
theorem five {r : Array Value} {f : Nat → Str} {a b c d e : Tok} (h : r = #[.str (f 0) a, .str (f 1) b, .str (f 2) c, .str (f 3) d, .str (f 4) e]) : ∀ k, k < 5 → ∃ t, r[k]? = some (.str (f k) t) := by
  subst h
  intro k hk
  have h5 : k = 0 ∨ k = 1 ∨ k = 2 ∨ k = 3 ∨ k = 4 := by omega
  rcases h5 with rfl | rfl | rfl | rfl | rfl <;> exact ⟨_, rfl⟩
set_option maxHeartbeats 1000000 in
theorem spelledX (w : World) (hand k : Nat) (x : Str) (t1 t2 : Tok) (hh : hand < 3) (hk : k < 5) (hx : Txt.find "&<>\"\t" x = (k : Int)) :
    Con w 112 [.int hand t1, .str x t2] 30 300 [] (fun _ => True)
      (fun _ r mu' _ => (∃ t, r = .str (wrt hand k) t) ∧ mu' = []) := by
  unfold Con
  k_fill
  intro p loose mean mg mb dp un gd cn cs a ccd cl outer A₀ base h₀ L m s Q E B F X N T hkf hP hd hu hret
  have hfi : Txt.find "&<>\"\t" x ≠ -1 := by omega
  refine wpAny_call ?_
  k_dflt ktr_enter
  rename Ext _ _ _ => HG
  k_steps
  unfold Stop
  rename News _ _ _ _ => N3
  obtain ⟨RH, row, hit, hmem, hrow⟩ := row_of hh N3 (five (f := wrt 0) rfl) (five (f := wrt 1) rfl) (five (f := wrt 2) rfl)
  refine item_list ⟨_, (N3 _ (List.Mem.head _)).1, rfl, _, rfl⟩ (by omega) (by omega) hit ?_ (by with_unfolding_all rfl) (fun _ => by with_unfolding_all rfl)
  k_steps
  · exact absurd (by assumption) hfi
  unfold Stop
  obtain ⟨tw, hw⟩ := hrow k hk
  refine item_listR ⟨_, hmem, rfl, _, rfl⟩ (by omega) (by omega) (by rw [hx]; exact hw) ?_ (by with_unfolding_all rfl)
  k_steps
  k_dflt (refine' hret _ _ _ [] ?kf ?kN ?ke ⟨⟨_, rfl⟩, rfl⟩; (case kf => k_asm); (case kN => exact News.nil); (case ke => exact ext_fr HG (by k_asm)))
end Mine
namespace Mine
theorem find_sgn : ∀ k, k < 5 → Txt.find "&<>\"\t" (sgn k) = (k : Int) := by decide +kernel
theorem spelled (w : World) (hand k : Nat) (t1 t2 : Tok) (hh : hand < 3) (hk : k < 5) :
    Con w 112 [.int hand t1, .str (sgn k) t2] 30 300 [] (fun _ => True) (fun _ r mu' _ => (∃ t, r = .str (wrt hand k) t) ∧ mu' = []) :=
  spelledX w hand k (sgn k) t1 t2 hh hk (find_sgn k hk)
end Mine
namespace Mine
theorem rs_G1 : True := by
  w_top off
  exact trivial
/-- the generator's own def -/
noncomputable def gdef : Stmt := match PySem.Challenge.pw_wb0062_01.main.body with
  | _ :: _ :: _ :: _ :: _ :: _ :: _ :: _ :: _ :: _ :: _ :: _ :: g :: _ => g
  | _ => .Pass default
def bodyOf : Stmt → List Stmt
  | .FunctionDef _ _ b _ _ _ _ _ _ _ => b
  | _ => []
def scopeOf (d : Scope) : Stmt → Scope
  | .FunctionDef _ _ _ _ _ _ s _ _ _ => s
  | _ => d
def secondOf : List Stmt → Stmt
  | _ :: s :: _ => s
  | _ => .Pass default
def targetOf : Stmt → Expr
  | .For t _ _ _ _ => t
  | _ => default
def loopOf : Stmt → List Stmt
  | .For _ _ b _ _ => b
  | _ => []
noncomputable abbrev gloop : Stmt := secondOf (bodyOf gdef)
section
variable {M : Model} {A : Around} {R : GenEnd} {Y : Protocol} {n : Nat} {s₀ : Shared} {c : Code} {fs : List Frame} {s : Shared} {env : Env}
  {K : Flow → Sem Fin} {H : Value → Sem Fin} {gd : Bool → Bool} {lv : List Value → List Value}
theorem seg_bindw {α β : Type} {m : Sem α} {f : α → Sem β} {K : β → Sem Fin} {H : Value → Sem Fin}
    (h : wpAny M (A.over c fs) m (fun a s' => Seg M A R Y n s₀ c ((f a).wrap K H gd lv) fs s') (fun x s' => Seg M A R Y n s₀ c (H x) fs s') s) : Seg M A R Y n s₀ c ((m >>= f).wrap K H gd lv) fs s := by
  rw [Sem.bind_eq_wrap', Sem.wrap_wrap]
  exact seg_wrap h
end
/-- what the generator leaves as it stands: all that stood when it was made, but its own names -/
def OldBut (hc : Heap) (Lg : Addr) (h h' : Heap) : Prop := ∀ b o, b ≠ Lg → hc.get? b ≠ none → h.get? b = some o → h'.get? b = some o
/-- what the caller must leave as it stands: the old, the generator's names, its walker, its list -/
def GKeep (g : Heap) (Lg it ax : Addr) (h h' : Heap) : Prop := ∀ b o, (b = Lg ∨ b = it ∨ b = ax ∨ g.get? b = some o) → h.get? b = some o → h'.get? b = some o
/-- the protocol: figure after figure -/
def GY (hc g : Heap) (Lg it ax : Addr) (ns : List Int) : Protocol := fun n s₀ v s₁ κ =>
  (∃ h₁ t₁, s₁ = { s₀ with heap := h₁, toks := t₁ } ∧ OldBut hc Lg s₀.heap h₁) ∧ (∃ t, v = .int (ns.getD (2 - n) 0) t) ∧ (∃ o, s₁.heap.get? Lg = some o) ∧ (∃ o, s₁.heap.get? it = some o) ∧
    (n ≠ 0 → ∀ s'', GKeep g Lg it ax s₁.heap s''.heap → κ (.send .none) s'')
def GR (_hc : Heap) : GenEnd := fun _ _ _ _ => False
abbrev GRR : GenEnd := fun n s₀ r s₁ => r = .ok .next ∧ (fun (_ : Nat) (_ _ : Shared) => False) n s₀ s₁
set_option maxHeartbeats 2000000 in
theorem gen_loop (w : World) (A1 : Around) {p : Program} {loose : List Str} {mean : ExcName → Option Value} {mg mb : Str → Option Value} (g hc : Heap) (Lg it ax : Addr) (ccd : Value) (ns : List Int) (vs : List Value) (fs : List Frame)
    (X : Frag.In (Mine.hd.heap_1 w.params) g) (T : Top p loose mean mg mb g) (hns : IntsAre vs ns) (hlen : ns.length = 3) (hne : ∀ v ∈ ns, v ≠ 127 ∧ v ≠ 0)
    (hitg : it ≠ Lg) (haxg : ax ≠ Lg) (hax : ax ≠ it) (hfree : hc.get? it = none) (hcd : ∀ b o, g.get? b = some o → hc.get? b ≠ none)
    (hfs : splitAtGen fs = none) (hfg : fs.any Frame.guarded = false) :
    ∀ (n k : Nat), n + k = 3 → ∀ (s₀ s : Shared) (m : Str → Option Value), Fr g Lg s.heap m → s.heap.IsListIter it ax k → s.heap.IsList ax vs.toArray → (∃ h t, s = { s₀ with heap := h, toks := t }) → OldBut hc Lg s₀.heap s.heap → 0 < n →
      Seg (model PySem.Challenge.rw_wb0062_01.row.prog w) A1 GRR (GY hc g Lg it ax ns) n s₀ (.forLoop (targetOf gloop) (.ref it) (loopOf gloop) [] (envOf "_grouping_intervals" (scopeOf default gdef) Lg 70 ccd))
        ((model PySem.Challenge.rw_wb0062_01.row.prog w).den (.forLoop (targetOf gloop) (.ref it) (loopOf gloop) [] (envOf "_grouping_intervals" (scopeOf default gdef) Lg 70 ccd))) fs s := by
  dsimp only [gloop, secondOf, bodyOf, gdef, targetOf, loopOf, scopeOf, PySem.Challenge.pw_wb0062_01]
  revert X
  k_fill
  intro X
  intro n
  induction n with
  | zero => intro k _ s₀ s m _ _ _ _ _ h0; exact absurd h0 (Nat.lt_irrefl _)
  | succ n IH =>
  intro k hk s₀ s m F hit hl hs ho _
  obtain ⟨hh, ht, rfl⟩ := hs
  have hlt : k < ns.length := by omega
  obtain ⟨t, hx⟩ := hns.get k ns[k] (by simp [hlt])
  show Seg _ A1 _ _ _ _ _ ((forTurn _ _ _ _ _).onRaise _) fs _
  unfold forTurn
  rw [Sem.onRaise_eq_wrap]
  refine seg_bindw (wpAny_standAt ?_)
  refine seg_bindw (wpAny_onRaise (wpAny_pyNext_list_item hit hl (by simpa using hx) fun h' hit' hs' => ?_))
  dsimp only
  refine seg_bindw (wpAny_of_eq (a := ()) (by rfl) ?_)
  have hLg : Lg < hh.objs.size := F.ns.lt
  have F1 : Fr g Lg h' m := ⟨F.ns.sameBut hs' (Ne.symm hitg), fun b o e => (hs'.2 b (fun q => by
    have := hcd b o e
    rw [q] at this; exact this hfree)).trans (F.keep b o e), F.above⟩
  refine seg_bindw (wpAny_assign_Name (wpAny_storeName_local rfl F1.ns (fun h₂ hn₂ hs₂ => ?_) (by rfl)))
  have F2 := F1.set hn₂ hs₂
  have hit2 := hit'.extBut hs₂.extBut hitg
  have hl2 := (hl.extBut hs'.extBut hax).extBut hs₂.extBut haxg
  have ho2 : OldBut hc Lg s₀.heap h₂ := fun b o h1 h2 e => (hs₂.2 b h1).trans ((hs'.2 b (fun q => h2 (q ▸ hfree))).trans (ho b o h1 h2 e))
  rw [Sem.bind_eq_wrap', Sem.wrap_wrap]
  refine seg_execs_cons ?_
  refine seg_wrap ?_
  obtain ⟨hv1, hv2⟩ := hne ns[k] (List.getElem_mem _)
  k_steps
  · exact absurd (by assumption) hv1
  dsimp only
  refine seg_execs_cons ?_
  refine seg_wrap ?_
  k_steps
  · exact absurd (by assumption) hv2
  dsimp only
  refine seg_execs_cons ?_
  refine seg_Expr_Yield hfs (by rfl) hfg ?_
  k_steps
  rename_i kap hkap
  refine ⟨⟨_, _, rfl, ho2⟩, ⟨t, ?_⟩, (let ⟨o, _, _, e, _⟩ := F2.ns; ⟨o, e⟩), (let ⟨o, e, _⟩ := hit2; ⟨o, e⟩), fun hn0 s'' hE => ?_⟩
  · have e2 : 2 - n = k := by omega
    rw [e2, List.getD_eq_getElem?_getD, List.getElem?_eq_getElem hlt]
    rfl
  refine hkap _ _ ?_
  dsimp only at hE ⊢
  have F3 : Fr g Lg s''.heap _ := ⟨F2.ns.at' fun o e => hE _ o (.inl rfl) e, fun b o e => hE b o (.inr (.inr (.inr e))) (F2.keep b o e), F2.above⟩
  have hit3 : s''.heap.IsListIter it ax (k + 1) := hit2.at fun o e => hE _ o (.inr (.inl rfl)) e
  have hl3 : s''.heap.IsList ax vs.toArray := hl2.at fun o e => hE _ o (.inr (.inr (.inl rfl))) e
  refine seg_execs_cons ?_
  refine seg_wrap ?_
  refine wpAny_Assign_Name (ld F3 rfl (wpAny_storeName_local rfl F3.ns (fun h₄ hn₄ hs₄ => ?_) (by rfl))) (by rfl)
  have F4 := F3.set hn₄ hs₄
  dsimp only
  refine seg_execs_nil ?_
  dsimp only
  exact seg_again (by rfl) (IH (k + 1) (by omega) s'' _ _ F4 (hit3.extBut hs₄.extBut hitg) (hl3.extBut hs₄.extBut haxg) ⟨_, _, rfl⟩ (fun b o h1 _ e => (hs₄.2 b h1).trans e) (Nat.pos_of_ne_zero hn0))
set_option maxHeartbeats 2000000 in
theorem gen_start (w : World) (A1 : Around) {p : Program} {loose : List Str} {mean : ExcName → Option Value} {mg mb : Str → Option Value} (g hc : Heap) (Lg ax : Addr) (ccd : Value) (ns : List Int) (vs : List Value)
    (X : Frag.In (Mine.hd.heap_1 w.params) g) (T : Top p loose mean mg mb g) (hns : IntsAre vs ns) (hlen : ns.length = 3) (hne : ∀ v ∈ ns, v ≠ 127 ∧ v ≠ 0)
    (haxg : ax ≠ Lg) (hcd : ∀ b o, g.get? b = some o → hc.get? b ≠ none)
    (s : Shared) (m : Str → Option Value) (F : Fr g Lg s.heap m) (hm : m "grouping" = some (.ref ax)) (hl : s.heap.IsList ax vs.toArray) (hsz : hc.objs.size ≤ s.heap.objs.size) :
      Seg (model PySem.Challenge.rw_wb0062_01.row.prog w) A1 GRR (GY hc g Lg s.heap.objs.size ax ns) 3 s (.func (bodyOf gdef) (envOf "_grouping_intervals" (scopeOf default gdef) Lg 70 ccd))
        ((model PySem.Challenge.rw_wb0062_01.row.prog w).den (.func (bodyOf gdef) (envOf "_grouping_intervals" (scopeOf default gdef) Lg 70 ccd))) [] s := by
  have main := gen_loop w A1 (p := p) (loose := loose) (mean := mean) (mg := mg) (mb := mb) g hc Lg s.heap.objs.size ax ccd ns vs
  dsimp only [gloop, secondOf, bodyOf, gdef, targetOf, loopOf, scopeOf, PySem.Challenge.pw_wb0062_01] at main ⊢
  refine seg_func ?_
  refine seg_execs_cons ?_
  refine seg_wrap ?_
  refine wpAny_Assign_Name (wpAny_Constant_none (wpAny_storeName_local rfl F.ns (fun h₁ hn₁ hs₁ => ?_) (by rfl))) (by rfl)
  have F1 := F.set hn₁ hs₁
  dsimp only
  refine seg_execs_cons ?_
  rw [exec_For]
  refine seg_bindw (wpAny_standAt ?_)
  refine seg_bindw (ld F1 (v := .ref ax) ((if_neg (by decide)).trans hm) ?_)
  refine seg_bindw (wpAny_of_eq (a := .ref ax) (by rfl) ?_)
  refine seg_bindw (wpAny_standAt ?_)
  refine seg_bindw (wpAny_holding (wpAny_pyIter_list (hl.extBut hs₁.extBut haxg) ?_))
  refine seg_call (fun pp => ?_)
  have hLg : Lg < s.heap.objs.size := F.ns.lt
  obtain ⟨ol, hol, _⟩ := id hl
  have haxs : ax < s.heap.objs.size := Heap.lt_size hol
  have hz : h₁.objs.size = s.heap.objs.size := hs₁.1
  rw [hz]
  have hl1 := hl.extBut hs₁.extBut haxg
  refine main _ X T hns hlen hne (Nat.ne_of_gt hLg) haxg (Nat.ne_of_lt haxs) (Heap.get?_none_of_le hsz) hcd (by rfl) (by rfl) 3 0 rfl s _ _ (F1.push _) ?_ (hl1.push _) ⟨_, _, rfl⟩ ?_ (by decide)
  · exact ⟨_, hz ▸ Heap.get?_push_size _ rfl, rfl, rfl⟩
  · exact fun b o h1 h2 e => Heap.get?_push_of_some _ ((hs₁.2 b h1).trans e)
end Mine
namespace Mine
theorem rs_R3 : True := by
  w_top off
  exact trivial
local macro_rules | `(tactic| walk_at "call ref") => `(tactic| (refine stop_intro ?_))
local macro_rules | `(tactic| walk_at "pyIter ref") => `(tactic| (refine stop_intro ?_))
local macro_rules | `(tactic| walk_at "exec Assign cons ListComp") => `(tactic| (refine stop_intro ?_))
local macro_rules | `(tactic| walk_at "exec For Name Call cons nil") => `(tactic| (refine stop_intro ?_))
noncomputable def rdef : Stmt := match PySem.Challenge.pw_wb0062_01.main.body with
  | _ :: _ :: _ :: _ :: _ :: _ :: _ :: _ :: _ :: _ :: _ :: _ :: _ :: _ :: _ :: _ :: _ :: _ :: _ :: _ :: _ :: g :: _ => g
  | _ => .Pass default
def thirdOf : List Stmt → Stmt
  | _ :: _ :: s :: _ => s
  | _ => .Pass default
def fifthOf : List Stmt → Stmt
  | _ :: _ :: _ :: _ :: s :: _ => s
  | _ => .Pass default
def after5 : List Stmt → List Stmt
  | _ :: _ :: _ :: _ :: _ :: s => s
  | _ => []
noncomputable abbrev rloop : Stmt := thirdOf (bodyOf rdef)
noncomputable abbrev gfor : Stmt := fifthOf (loopOf rloop)
def pre3 (a b : Int) : Nat → Int
  | 0 => 0
  | 1 => a
  | _ => a + b
def nth3 (a b c : Int) : Nat → Int
  | 0 => a
  | 1 => b
  | _ => c
section
variable {prog : Program} {w : World} {A A₀ : Around} {s : Shared} {K : Frag} {L : Addr} {h₀ base : Heap} {m mg mb : Str → Option Value} {news : List (Addr × Obj)} {p : Program} {loose : List Str} {mean : ExcName → Option Value}
theorem gen_def {R : Result → Shared → Prop} {name qual : Str} {params : Arguments} {body : List Stmt} {scope : Scope} {dV kV doc pm cdv ct oc : Value} {an od : Option Addr} {osl : Array (Option Value)} {f : Addr} {args : Args} {binds : List (Str × Value)}
    (F : Fr h₀ L s.heap m) (X₀ : K.In h₀) (N : News h₀ L s.heap news) (T : Top p loose mean mg mb h₀)
    (ho : K.lookup f = some ⟨oc, od, .func (fnOf name qual params body scope dV kV doc pm an cdv ct), osl⟩) (hcd : codeIn K cdv qual = true) (hroom : A.depth < recursionLimit)
    (hbind : BindsTo s (fnOf name qual params body scope dV kV doc pm an cdv ct) args binds) (hloc : ∀ y ∈ binds, scope.names.lookup y.1 = some .local)
    (h : ∀ h₁ Lg a o tk, L < Lg → Lg < a → h₁.objs.size = a + 1 → Fr h₀ Lg h₁ (fun y => binds.reverse.lookup y) → Fr h₀ L h₁ m → News h₀ L h₁ ((a, o) :: news) → h₁.IsGen a s.gens.size → (∀ b o, s.heap.get? b = some o → b ≠ Lg) →
      R (.ok (.ret (.ref a))) { s with heap := h₁, toks := tk, gens := s.gens.push (.fresh (.func body (envOf qual scope Lg f cdv))) })
    (hco : scope.isCoroutine = false) (hgen : scope.isGenerator = true) (hk : scope.kind = .function)
    (hcell : ∀ x ∈ scope.names, x.2 ≠ .cell) : codeAny (model prog w) A (.call (.ref f) args) R s := by
  have X := X₀.keeps F.keep
  refine codeAny_call_generator hroom (X _ _ ho) rfl hco hgen rfl (codeRec_of X hcd) (hbind _ _ _ _ ?_)
  refine wpAny_newFunctionEnv hcell hloc (fun h' hns hs => ?_) hk
  have kp : ∀ b o, s.heap.get? b = some o → h'.get? b = some o := fun b o e => (hs.2 b (Nat.ne_of_lt (Heap.lt_size e))).trans (Heap.get?_push_of_some _ e)
  have hz : h'.objs.size = s.heap.objs.size + 1 := hs.1.trans (Heap.size_push ..)
  have hL : L < s.heap.objs.size := F.ns.lt
  refine ⟨(T.nolimit.keeps F.keep).keeps kp, ?_⟩
  have kp2 : ∀ o b o', s.heap.get? b = some o' → (h'.push o).get? b = some o' := fun o b o' e => Heap.get?_push_of_some _ (kp _ _ e)
  have e0 : ∀ b, h₀.objs.size ≤ b → h₀.get? b = none := fun b hb => Heap.get?_none_of_le hb
  refine h _ _ _ { cls := .type "generator", data := .fields #[.int s.gens.size 0, .str name (s.toks + binds.length), .str qual (s.toks + binds.length + 1)] } (s.toks + binds.length + 1 + 1) hL (by rw [hz]; exact Nat.lt_succ_self _) (Heap.size_push ..) ⟨(hns.push _), fun b o e => kp2 _ _ _ (F.keep b o e), Nat.le_trans F.above (Nat.le_of_lt hL)⟩ ⟨F.ns.at' fun o e => kp2 _ _ _ e, fun b o e => kp2 _ _ _ (F.keep b o e), F.above⟩ ?_ ⟨_, _, _, Heap.get?_push_size _ rfl, rfl, rfl, rfl⟩ (fun b o e => Nat.ne_of_lt (Heap.lt_size e))
  refine List.forall_mem_cons.mpr ⟨⟨Heap.get?_push_size _ rfl, ?_, ?_⟩, fun p hp => ⟨kp2 _ _ _ (N p hp).1, (N p hp).2⟩⟩
  · exact Nat.ne_of_gt (hz ▸ Nat.lt_trans hL (Nat.lt_succ_self _))
  · exact e0 _ (Nat.le_trans F.above (Nat.le_trans (Nat.le_of_lt hL) (hz ▸ Nat.le_succ _)))
end
theorem stop_post {α : Type} {M : Model} {A : Around} {c : Sem α} {Q : α → Shared → Prop} {E : Value → Shared → Prop} {s : Shared} (h : wpAny M A c (fun f s => Stop (Q f s)) E s) : wpAny M A c Q E s := h
theorem setGen_push {s : Shared} {h h1 : Heap} {tk t1 : Nat} {gs x y : GenState} : Shared.setGen { (Shared.setGen { s with heap := h, toks := tk, gens := s.gens.push gs } s.gens.size x) with heap := h1, toks := t1 } s.gens.size y = { s with heap := h1, toks := t1, gens := s.gens.push y } := by
  have e : (s.gens.push gs).setIfInBounds s.gens.size y = s.gens.push y := by
    apply Array.ext_getElem?
    intro i
    rw [Array.getElem?_setIfInBounds, Array.getElem?_push, Array.getElem?_push]
    by_cases h : s.gens.size = i
    · subst h; simp
    · rw [if_neg h, if_neg (Ne.symm h), if_neg (Ne.symm h)]
  simp [Shared.setGen, e]
theorem fr_same {h₀ h : Heap} {L : Addr} {m m' : Str → Option Value} (F : Fr h₀ L h m) (e : ∀ y, m y = m' y) : Fr h₀ L h m' := (funext e) ▸ F
theorem ints3 {a b c : Int} {ta tb tc : Tok} : IntsAre [.int a ta, .int b tb, .int c tc] [a, b, c] := .cons _ _ (.cons _ _ (.cons _ _ .nil))
theorem gkeep_of {h₀ h3 h5 : Heap} {L Lg it ga D : Addr} {oL oi og oD : Obj} {news : List (Addr × Obj)} (N3 : News h₀ L h3 ((Lg, oL) :: (it, oi) :: (ga, og) :: (D, oD) :: news)) (N5 : News h₀ L h5 ((Lg, oL) :: (it, oi) :: (ga, og) :: (D, oD) :: news))
    (k3 : ∀ b o, h₀.get? b = some o → h3.get? b = some o) (k5 : ∀ b o, h₀.get? b = some o → h5.get? b = some o) : GKeep h₀ Lg it D h3 h5 := by
  have one : ∀ p, p ∈ ((Lg, oL) :: (it, oi) :: (ga, og) :: (D, oD) :: news) → ∀ o, h3.get? p.1 = some o → h5.get? p.1 = some o := fun p hp o e => by
    have e1 := (N3 p hp).1
    rw [e] at e1; cases e1
    exact (N5 p hp).1
  rintro b o (rfl | rfl | rfl | e0) e
  · exact one (b, oL) (.head _) o e
  · exact one (b, oi) (.tail _ (.head _)) o e
  · exact one (b, oD) (.tail _ (.tail _ (.tail _ (.head _)))) o e
  · exact k5 _ _ e0
theorem kinds_norm1 {k k' k0 : Int} {v1 v2 v3 v4 v5 : Tok} {P S N : Int} {D : Addr} (u' u : Str → Option Value) (e : k' = k) (hu : ∀ y : Str, y ≠ "size" → u' y = u y) (y : Str) :
    (if y = "kind" then some (Value.int k' v1) else if y = "size" then some (.int N v2) else if y = "kind" then some (.int k0 v5) else if y = "ahead" then some (.int P v3) else if y = "slot" then some (.int S v4) else if y = "shares" then some (.ref D) else u' y) =
    (if y = "kind" then some (Value.int k v1) else if y = "ahead" then some (.int P v3) else if y = "slot" then some (.int S v4) else if y = "shares" then some (.ref D) else if y = "size" then some (.int N v2) else u y) := by
  subst e
  by_cases k1 : y = "kind"
  · rw [if_pos k1, if_pos k1]
  by_cases k2 : y = "size"
  · subst k2; rfl
  rw [if_neg k1, if_neg k2, if_neg k1, if_neg k1, if_neg k2, hu y k2]
theorem kinds_norm2 {k k' : Int} {v0 v1 v2 v3 v4 v5 : Tok} {P P' S : Int} {k0 P0 : Int} {D : Addr} (u' : Str → Option Value) (N : Int) {e1 : k' = k} {e2 : P' = P} (y : Str) :
    (if y = "ahead" then some (Value.int P' v3) else if y = "kind" then some (Value.int k' v1) else if y = "size" then some (.int N v2) else if y = "kind" then some (.int k0 v5) else if y = "ahead" then some (.int P0 v0) else if y = "slot" then some (.int S v4) else if y = "shares" then some (.ref D) else u' y) =
    (if y = "kind" then some (Value.int k v1) else if y = "ahead" then some (.int P v3) else if y = "slot" then some (.int S v4) else if y = "shares" then some (.ref D) else (fun y : Str => if y = "size" then some (Value.int N v2) else u' y) y) := by
  subst e1 e2
  by_cases k1 : y = "kind"
  · subst k1; rfl
  by_cases k2 : y = "ahead"
  · subst k2; rfl
  by_cases k3 : y = "size"
  · subst k3; rfl
  dsimp only
  rw [if_neg k2, if_neg k1, if_neg k3, if_neg k1, if_neg k2, if_neg k1, if_neg k2, if_neg k3]
theorem getD3 {a b c : Int} {i : Nat} (h : i ≤ 2) : [a, b, c].getD (2 - (3 - i - 1)) 0 = nth3 a b c i := by
  rcases i with _ | _ | _ | i
  · rfl
  · rfl
  · rfl
  · omega
theorem pre3_next {a b c : Int} {i : Nat} (h : i ≤ 2) : (i < 2 → pre3 a b (i + 1) = pre3 a b i + nth3 a b c i) ∧ (i = 2 → pre3 a b i + nth3 a b c i = a + b + c) := by
  rcases i with _ | _ | _ | i
  · exact ⟨fun _ => (Int.zero_add _).symm, fun h => by omega⟩
  · exact ⟨fun _ => rfl, fun h => by omega⟩
  · exact ⟨fun h => by omega, fun _ => rfl⟩
  · omega
set_option maxHeartbeats 4000000 in
theorem gen_for (w : World) (sl a b c : Int) (ts t1 t2 ta tb tc : Tok) (n2 : Nat) (D2 : Addr) (news : List (Addr × Obj)) (u : Str → Option Value)
   (ha : 8 ≤ a ∧ a ≤ 32) (hb : 8 ≤ b ∧ b ≤ 32) (hc : 8 ≤ c ∧ c ≤ 32) (hs0 : 0 ≤ sl) (hs1 : sl < a + b + c)
    (p : Program) (loose : List Str) (mean : ExcName → Option Value) (mg mb : Str → Option Value)
    (dp un : Nat) (gd : Option (List Code)) (outer : List Env) (A₀ : Around) (base h₀ : Heap) (L : Addr) (s : Shared)
    (Q : Flow → Shared → Prop) (E : Value → Shared → Prop)
    (B : Below A₀ base outer h₀) (F : Fr h₀ L s.heap (fun y => if y = "kind" then some (.int (-1) t1) else if y = "ahead" then some (.int 0 t2) else if y = "slot" then some (.int sl ts) else if y = "shares" then some (.ref D2) else u y))
    (X : Frag.In (Mine.hd.heap_1 w.params) h₀) (N : News h₀ L s.heap ((D2, listOf #[.int a ta, .int b tb, .int c tc] n2) :: news)) (T : Top p loose mean mg mb h₀) (hd : dp + 20 < recursionLimit) (hu : un + 200 < cLine)
    (hQ : ∀ (kd : Nat) (h' : Heap) (tk' : Nat) (gs : GenState) (t1 t2 t3 : Tok), kd < 3 → pre3 a b kd ≤ sl → sl < pre3 a b kd + nth3 a b c kd → gs.bare = true →
      Fr h₀ L h' (fun y => if y = "kind" then some (.int kd t1) else if y = "ahead" then some (.int (pre3 a b kd) t2) else if y = "slot" then some (.int sl ts) else if y = "shares" then some (.ref D2) else if y = "size" then some (.int (nth3 a b c kd) t3) else u y) → News h₀ L h' ((D2, listOf #[.int a ta, .int b tb, .int c tc] n2) :: news) →
      Q .next { s with heap := h', toks := tk', gens := s.gens.push gs }) :
    wpAny (model PySem.Challenge.rw_wb0062_01.row.prog w) (ktrTop dp un gd "_law_read" (scopeOf default rdef) L 117 (.ref 116) [] outer) (exec gfor (envOf "_law_read" (scopeOf default rdef) L 117 (.ref 116))) Q E s := by
  have GS := fun A1 hc' Lg => gen_start w A1 (p := p) (loose := loose) (mean := mean) (mg := mg) (mb := mb) h₀ hc' Lg D2 (.ref 69) [a, b, c] [.int a ta, .int b tb, .int c tc] X T ints3 rfl (fun v hv => ⟨fun e => by simp at hv; omega, fun e => by simp at hv; omega⟩)
  dsimp only [gfor, fifthOf, rloop, thirdOf, bodyOf, rdef, gdef, secondOf, targetOf, loopOf, scopeOf, PySem.Challenge.pw_wb0062_01] at GS ⊢
  revert X
  k_fill
  intro X
  refine wpAny_For ?_
  k_steps
  unfold Stop
  refine wpAny_call ?_
  k_dflt (refine' gen_def ?k1 ?k3 ?k4 ?k5 ?k6 ?k7 ?k8 ?k9 ?kB ?_ ?c2 ?c3 ?c4 ?c5; (case k1 => k_asm); (case k3 => k_asm); (case k4 => k_asm); (case k5 => k_asm); (case k6 => k_is); (case k7 => k_is); (case k8 => ktr_room); (case k9 => exact BindsTo.of_eq rfl); (case c5 => decide); (case kB => exact locs rfl); (case c2 => exact rfl); (case c3 => exact rfl); (case c4 => exact rfl))
  intro h1 Lg ga og tkg hL1 hL2 hsz Fg F1 N1 hgen hLgn
  refine wpAny_pyIter_gen hgen ?_
  have hLs : L < s.heap.objs.size := F.ns.lt
  have hDne : D2 ≠ Lg := hLgn _ _ (N _ (List.Mem.head _)).1
  have GS1 := fun A1 => GS A1 h1 Lg hDne (fun b o e => by rw [F1.keep b o e]; intro q; cases q)
  clear GS
  refine codeAny_forLoop (fun n s' => ∃ i h' tk m' gs, i ≤ 2 ∧ n = 3 - i ∧ s' = { s with heap := h', toks := tk, gens := s.gens.push gs } ∧
    Fr h₀ L h' m' ∧ (∃ tk ta u', m' = (fun y : Str => if y = "kind" then some (Value.int ((i : Int) - 1) tk) else if y = "ahead" then some (.int (pre3 a b i) ta) else if y = "slot" then some (.int sl ts) else if y = "shares" then some (.ref D2) else u' y) ∧ ∀ y : Str, y ≠ "size" → u' y = u y) ∧
    News h₀ L h' ((ga, og) :: (D2, listOf #[.int a ta, .int b tb, .int c tc] n2) :: news) ∧
    (∀ s'' : Shared, s''.heap = h' → gs.Goes (model PySem.Challenge.rw_wb0062_01.row.prog w) (ktrTop dp un gd "_law_read" (scopeOf default rdef) L 117 (.ref 116) [] outer).in1 GRR (GY h1 h₀ Lg h1.objs.size D2 [a, b, c]) (3 - i) (.send .none) s'') ∧
    pre3 a b i ≤ sl) ?turn 3 ⟨0, h1, tkg, _, _, by omega, rfl, rfl, F1, ⟨t1, t2, u, rfl, fun _ _ => rfl⟩, N1, ?goes, hs0⟩
  case goes =>
    intro s'' hs''
    refine ⟨rfl, ?_⟩
    have q := GS1 (ktrTop dp un gd "_law_read" (scopeOf default rdef) L 117 (.ref 116) [] outer).in1 s'' _ (hs'' ▸ Fg) rfl (hs'' ▸ ⟨_, (N1 _ (List.Mem.tail _ (List.Mem.head _))).1, rfl, _, rfl⟩) (hs'' ▸ Nat.le_refl _)
    rw [hs''] at q
    exact q
  case turn =>
    intro n s' hI
    obtain ⟨i, h', tk, m', gs, hi, rfl, rfl, F2, ⟨t4, t5, u', rfl, hu'⟩, N2, hgo, hp⟩ := hI
    refine wpAny_pyNext_genexpQ (n := 3 - i) rfl (T.nolimit.keeps F2.keep) (by ktr_room) (g := s.gens.size) (gs := gs) ?hg ?hgs (hgo _ rfl) (fun v s₁ gs' hb hY => ?_) (fun s₁ hP => hP.elim)
    case hg =>
      obtain ⟨o, nm, qn, ho, r⟩ := hgen
      have := (N1 _ (List.Mem.head _)).1
      rw [ho] at this; cases this
      exact ⟨_, nm, qn, (N2 _ (List.Mem.head _)).1, r⟩
    case hgs => exact Array.getElem?_push_size
    obtain ⟨⟨h3, t3, rfl, hold⟩, ⟨tv, rfl⟩, ⟨oL, eL⟩, ⟨oi, ei⟩, hnext⟩ := hY
    rw [setGen_push]
    rw [getD3 hi]
    have hnx : i < 2 → ∀ s'' : Shared, GKeep h₀ Lg h1.objs.size D2 h3 s''.heap → gs'.Goes (model PySem.Challenge.rw_wb0062_01.row.prog w) (ktrTop dp un gd "_law_read" (scopeOf default rdef) L 117 (.ref 116) [] outer).in1 GRR (GY h1 h₀ Lg h1.objs.size D2 [a, b, c]) (3 - (i + 1)) (.send .none) s'' := fun hi2 s'' hG => by
      have := hnext (by omega) s'' hG
      rcases i with _ | _ | i
      · exact this
      · exact this
      · omega
    clear hnext hgo
    have hpn := pre3_next (a := a) (b := b) (c := c) hi
    have old : ∀ b o, h1.get? b ≠ none → b ≠ Lg → h'.get? b = some o → h3.get? b = some o := fun b o h1 h2 e => hold b o h2 h1 e
    have hLg0 : ∀ b o, h₀.get? b = some o → b ≠ Lg := fun b o e => Nat.ne_of_lt (Nat.lt_of_lt_of_le (Heap.lt_size e) (Nat.le_trans F.above (Nat.le_of_lt hL1)))
    have alive : ∀ {h : Heap} {b o}, h.get? b = some o → h.get? b ≠ none := fun e q => by rw [q] at e; cases e
    have F3 : Fr h₀ L h3 _ := ⟨F2.ns.at' fun o e => old _ o (let ⟨_, _, _, e, _⟩ := F1.ns; alive e) (Nat.ne_of_lt hL1) e, fun b o e => old b o (alive (F1.keep b o e)) (hLg0 b o e) (F2.keep b o e), F2.above⟩
    have N3 : News h₀ L h3 ((Lg, oL) :: (h1.objs.size, oi) :: (ga, og) :: (D2, listOf #[.int a ta, .int b tb, .int c tc] n2) :: news) := by
      refine List.forall_mem_cons.mpr ⟨⟨eL, Nat.ne_of_gt hL1, ?_⟩, List.forall_mem_cons.mpr ⟨⟨ei, ?_, ?_⟩, fun p hp => ⟨old _ _ (alive (N1 p hp).1) ?_ (N2 p hp).1, (N2 p hp).2⟩⟩⟩
      · exact Heap.get?_none_of_le (Nat.le_trans F.above (Nat.le_of_lt hL1))
      · exact Nat.ne_of_gt (Nat.lt_of_lt_of_le hL1 (by rw [hsz]; exact Nat.le_of_lt (Nat.lt_succ_of_lt hL2)))
      · exact Heap.get?_none_of_le (Nat.le_trans F.above (Nat.le_of_lt (Nat.lt_of_lt_of_le hL1 (by rw [hsz]; exact Nat.le_of_lt (Nat.lt_succ_of_lt hL2)))))
      · rcases List.mem_cons.mp hp with rfl | hp
        · exact Nat.ne_of_gt hL2
        · exact hLgn _ _ (N p hp).1
    clear hold N2 F2 eL ei
    dsimp only
    refine wpAny_assign_Name (wpAny_storeName_local rfl F3.ns (fun h4 hn4 hs4 => ?_) (by rfl))
    have F4 := F3.set hn4 hs4
    have N4 := N3.set hs4
    have NK : i < 2 → ∀ h5, News h₀ L h5 ((Lg, oL) :: (h1.objs.size, oi) :: (ga, og) :: (D2, listOf #[.int a ta, .int b tb, .int c tc] n2) :: news) → (∀ b o, h₀.get? b = some o → h5.get? b = some o) → ∀ s'' : Shared, s''.heap = h5 →
        gs'.Goes (model PySem.Challenge.rw_wb0062_01.row.prog w) (ktrTop dp un gd "_law_read" (scopeOf default rdef) L 117 (.ref 116) [] outer).in1 GRR (GY h1 h₀ Lg h1.objs.size D2 [a, b, c]) (3 - (i + 1)) (.send .none) s'' := fun hi2 h5 N5 k5 s'' e => hnx hi2 s'' (e ▸ gkeep_of N3 N5 F3.keep k5)
    clear F3 hn4 N3 hnx hs4 Fg F1 N1 GS1 old
    refine stop_post ?_
    (try dsimp only); (try k_fold)
    k_steps
    · rename Fr _ _ _ _ => F5
      rename News _ _ _ _ => N5
      rename sl < _ => hlt
      show Q .next _
      refine hQ i _ _ gs' _ _ tv (by omega) hp hlt hb (fr_same F5 (kinds_norm1 u' u (by omega) hu')) (fun p hp => N5 p (List.Mem.tail _ (List.Mem.tail _ (List.Mem.tail _ hp))))
    · rename Fr _ _ _ _ => F5
      rename News _ _ _ _ => N5
      rename ¬ (sl < _) => hlt
      have hi2 : i < 2 := by
        rcases Nat.lt_or_ge i 2 with h | h
        · exact h
        · have := hpn.2 (by omega); omega
      refine ⟨3 - (i + 1), by omega, i + 1, _, _, _, gs', by omega, rfl, rfl, fr_same F5 (kinds_norm2 u' (nth3 a b c i) (e1 := by omega) (e2 := (hpn.1 hi2).symm)), ⟨_, _, _, rfl, ?_⟩, fun p hp => N5 p (List.Mem.tail _ (List.Mem.tail _ hp)), NK hi2 _ N5 F5.keep, ?_⟩
      · intro y hy
        rw [if_neg hy]; exact hu' y hy
      · rw [hpn.1 hi2]; omega
end Mine
namespace Mine
theorem rs_R4 : True := by
  w_top off
  exact trivial
local macro_rules | `(tactic| walk_at "call ref") => `(tactic| (refine stop_intro ?_))
local macro_rules | `(tactic| walk_at "call builtin:list.append") => `(tactic| (refine stop_intro ?_))
theorem wrt_len (hand k : Nat) : 1 ≤ (wrt hand k).length ∧ (wrt hand k).length ≤ 6 := by
  unfold wrt
  split <;> exact ⟨by decide, by decide⟩
local macro_rules | `(tactic| walk_at "inplaceOp Add str str") => `(tactic| (refine SB.iadd (fun t' k => ?_) (by rw [sizeLine_eq]; omega)))
def sgs (off : Nat) : Str := match off with | 0 => "&<>" | 1 => "<>\"" | _ => ">\"\t"
theorem conT_use {w : World} {f : Addr} {vs : List Value} {dz uz : Nat} {mu : List (Addr × Obj)} {P : Heap → Prop} {Out : Heap → Value → List (Addr × Obj) → Heap → Prop} (C : ConT w f vs dz uz mu P Out)
    {p : Program} {loose : List Str} {mean : ExcName → Option Value} {mg mb : Str → Option Value} {dp un : Nat} {gd : Option (List Code)} {cn : Str} {cs : Scope} {a : Addr} {ccd : Value} {cl : List (Str × Addr)} {outer : List Env} {A₀ : Around} {base h₀ : Heap} {L : Addr} {m : Str → Option Value} {s : Shared}
    {Q E : Value → Shared → Prop} (B : Below A₀ base outer h₀) (F : Fr h₀ L s.heap m) (X : Frag.In (Mine.hd.heap_1 w.params) h₀) (N : News h₀ L s.heap mu) (T : Top p loose mean mg mb h₀) (hk : cs.kind = .function) (htk : 0 < s.toks) (hP : P s.heap) (hd : dp + dz < recursionLimit) (hu : un + uz < cLine)
    (ret : ∀ r h' tk' mu', Fr h₀ L h' m → News h₀ L h' mu' → Ext (mu.map (·.1)) s.heap h' → Out s.heap r mu' h' → Q r { s with heap := h', toks := tk' }) :
    wpAny (model PySem.Challenge.rw_wb0062_01.row.prog w) (ktrTop dp un gd cn cs L a ccd cl outer) (call (.ref f) vs) Q E s :=
  C _ _ _ _ _ _ _ _ _ _ _ _ _ _ _ _ _ _ _ _ _ _ B F X N T hk htk hP hd hu ret
theorem hue_cast (hue n : Nat) : ((hue : Int) + (n : Int)).fmod 16 = ((hue + n) % 16 : Nat) := by
  rw [Int.fmod_eq_emod_of_nonneg _ (by decide)]
  omega
theorem fr_norm7 {h₀ h : Heap} {L : Addr} {m : Str → Option Value} {v1 v2 v3 v4 v5 v6 v7 : Value} (F : Fr h₀ L h m) (h1 : m "number" = some v1) (h2 : m "hue" = some v2) (h3 : m "depth" = some v3) (h4 : m "hand" = some v4) (h5 : m "signs" = some v5) (h6 : m "page" = some v6) (h7 : m "kinds" = some v7) :
    Fr h₀ L h (fun y => if y = "number" then some v1 else if y = "hue" then some v2 else if y = "depth" then some v3 else if y = "hand" then some v4 else if y = "signs" then some v5 else if y = "page" then some v6 else if y = "kinds" then some v7 else m y) := by
  refine fr_same F fun y => ?_
  by_cases k1 : y = "number"
  · rw [if_pos k1, k1, h1]
  by_cases k2 : y = "hue"
  · rw [if_neg k1, if_pos k2, k2, h2]
  by_cases k3 : y = "depth"
  · rw [if_neg k1, if_neg k2, if_pos k3, k3, h3]
  by_cases k4 : y = "hand"
  · rw [if_neg k1, if_neg k2, if_neg k3, if_pos k4, k4, h4]
  by_cases k5 : y = "signs"
  · rw [if_neg k1, if_neg k2, if_neg k3, if_neg k4, if_pos k5, k5, h5]
  by_cases k6 : y = "page"
  · rw [if_neg k1, if_neg k2, if_neg k3, if_neg k4, if_neg k5, if_pos k6, k6, h6]
  by_cases k7 : y = "kinds"
  · rw [if_neg k1, if_neg k2, if_neg k3, if_neg k4, if_neg k5, if_neg k6, if_pos k7, k7, h7]
  rw [if_neg k1, if_neg k2, if_neg k3, if_neg k4, if_neg k5, if_neg k6, if_neg k7]
theorem nth3_get (a b c : Int) {k : Nat} (h : k < 3) : [a, b, c].getD ((k : Int)).toNat 0 = nth3 a b c k := by
  rw [Int.toNat_natCast]
  match k, h with
  | 0, _ => rfl
  | 1, _ => rfl
  | 2, _ => rfl
set_option maxHeartbeats 4000000 in
theorem turnC (w : World) (hand hue off : Nat) (q sl ah a b c kI : Int) (kd : Nat) (hk : kI = 0 ∧ kd = 0 ∨ kI = 1 ∧ kd = 1 ∨ kI = 2 ∧ kd = 2) (sg pg : Str) (ts t1 t2 t3 t4 t5 t6 t7 t8 t9 ta tb tc dv : Tok) (dpt : Value) (sz : Value) (n2 j : Nat) (D2 KD : Addr) (ks : List Value) (news : List (Addr × Obj)) (u : Str → Option Value)
   (hhand : hand < 3) (hoff : off < 3) (hks : ks.length ≤ 6) (hpg : pg.length ≤ 36) (hq0 : 0 ≤ q) (hq1 : q < 1073741824) (hKD : D2 ≠ KD) (hKn : ∀ p ∈ news, p.1 ≠ KD) (hsl : (sg.length : Int) = 3) (hsi : Txt.item sg kI = sgn (off + kd))
    (p : Program) (loose : List Str) (mean : ExcName → Option Value) (mg mb : Str → Option Value)
    (dp un : Nat) (gd : Option (List Code)) (outer : List Env) (A₀ : Around) (base h₀ : Heap) (L : Addr) (s : Shared)
    (Q : Flow → Shared → Prop) (E : Value → Shared → Prop)
    (B : Below A₀ base outer h₀) (F : Fr h₀ L s.heap (fun y => if y = "kind" then some (.int kI t1) else if y = "ahead" then some (.int ah t2) else if y = "slot" then some (.int sl ts) else if y = "shares" then some (.ref D2) else if y = "size" then some sz else if y = "number" then some (.int q t3) else if y = "hue" then some (.int hue t4) else if y = "depth" then some dpt else if y = "hand" then some (.int hand t6) else if y = "signs" then some (.str sg t7) else if y = "page" then some (.str pg t8) else if y = "kinds" then some (.ref KD) else u y))
    (X : Frag.In (Mine.hd.heap_1 w.params) h₀) (N : News h₀ L s.heap ((D2, listOf #[.int a ta, .int b tb, .int c tc] n2) :: (KD, listOf ks.toArray j) :: news)) (T : Top p loose mean mg mb h₀) (hd : dp + 50 < recursionLimit) (hu : un + 500 < cLine)
    (hQ : ∀ (h' : Heap) (tk' : Nat) (x1 x2 x3 : Tok) (u' : Str → Option Value),
      Fr h₀ L h' (fun y : Str => if y = "number" then some (Value.int (q * nth3 a b c kd + sl - ah) x1) else if y = "hue" then some (Value.int (((hue + (wrt hand (off + kd)).length) % 16 : Nat) : Int) x2) else if y = "depth" then some dpt else if y = "hand" then some (Value.int hand t6) else if y = "signs" then some (Value.str sg t7) else if y = "page" then some (Value.str (pg ++ wrt hand (off + kd)) x3) else if y = "kinds" then some (Value.ref KD) else u' y) →
      News h₀ L h' ((D2, listOf #[Value.int a ta, Value.int b tb, Value.int c tc] n2) :: (KD, listOf (ks ++ [Value.int kI t1]).toArray (j + 1)) :: news) → Q .next { s with heap := h', toks := tk' }) :
    wpAny (model PySem.Challenge.rw_wb0062_01.row.prog w) (ktrTop dp un gd "_law_read" (scopeOf default rdef) L 117 (.ref 116) [] outer) (execs (after5 (loopOf rloop)) (envOf "_law_read" (scopeOf default rdef) L 117 (.ref 116))) Q E s := by
  dsimp only [after5, rloop, thirdOf, bodyOf, rdef, loopOf, scopeOf, PySem.Challenge.pw_wb0062_01] at F ⊢
  revert X
  k_fill
  intro X
  obtain ⟨rfl, hk3⟩ : kI = (kd : Int) ∧ kd < 3 := by
    rcases hk with ⟨rfl, rfl⟩ | ⟨rfl, rfl⟩ | ⟨rfl, rfl⟩ <;> exact ⟨rfl, by decide⟩
  clear hk
  k_steps
  all_goals try (exfalso; omega)
  unfold Stop
  rw [hsi]
  k_dflt (refine' conT_use (escaped w hand (off + kd) _ _ hhand (by omega)) ?k1 ?k2 ?k3 ?k4 ?k5 ?kK ?kt ?kP ?kd ?ku ?_; (case k1 => k_asm); (case k2 => k_asm); (case k3 => k_asm); (case k4 => exact News.nil); (case k5 => k_asm); (case kK => exact rfl); (case kt => exact Nat.succ_pos _); (case kP => trivial); (case kd => ktr_room); (case ku => ktr_units))
  intro r9 h9 tk9 mu9 F9 N9 X9 O9
  obtain ⟨⟨tw, rfl⟩, rfl⟩ := O9
  have N4 := news_all N X9 N9
  simp only [List.nil_append] at N4
  clear N9 N X9
  dsimp only
  k_steps
  unfold Stop
  rename Fr _ _ _ _ => F5
  rename News _ _ _ _ => N5
  refine append_second F5 N5 hKD hKn (fun h6 F6 N6 => ?_) (by rw [sizeLine_eq]; simp; omega)
  rw [List.push_toArray] at N6
  have hw := wrt_len hand (off + kd)
  clear F5 N5
  dsimp only
  k_steps
  rename Fr _ _ _ _ => F8
  rename News _ _ _ _ => N8
  refine hQ _ _ _ _ _ _ (fr_norm7 F8 (congrArg (fun z => some (Value.int z _)) ?hn) (congrArg (fun z => some (Value.int z _)) (hue_cast hue _)) rfl rfl rfl rfl rfl) N8
  case hn =>
    rw [nth3_get a b c hk3]
end Mine
namespace Mine
theorem rs_T16n : True := by
  w_top off
  exact trivial
local macro_rules | `(tactic| walk_at "call ref") => `(tactic| (refine stop_intro ?_))
section
local macro_rules | `(tactic| walk_at "call builtin:list.append") => `(tactic| (refine stop_intro ?_))
noncomputable def sdef : Stmt := match PySem.Challenge.pw_wb0062_01.main.body with
  | _ :: _ :: _ :: _ :: _ :: _ :: _ :: _ :: _ :: _ :: _ :: _ :: _ :: _ :: _ :: _ :: _ :: _ :: _ :: _ :: _ :: _ :: g :: _ => g
  | _ => .Pass default
theorem fr_norm3 {h₀ h : Heap} {L : Addr} {m : Str → Option Value} {v1 v2 v3 : Value} (F : Fr h₀ L h m) (h1 : m "hue" = some v1) (h2 : m "depth" = some v2) (h3 : m "shares" = some v3) :
    Fr h₀ L h (fun y => if y = "hue" then some v1 else if y = "depth" then some v2 else if y = "shares" then some v3 else m y) := by
  refine fr_same F fun y => ?_
  by_cases k1 : y = "hue"
  · rw [if_pos k1, k1, h1]
  by_cases k2 : y = "depth"
  · rw [if_neg k1, if_pos k2, k2, h2]
  by_cases k3 : y = "shares"
  · rw [if_neg k1, if_neg k2, if_pos k3, k3, h3]
  rw [if_neg k1, if_neg k2, if_neg k3]
theorem fr_corner {h₀ h : Heap} {L : Addr} {m : Str → Option Value} {v0 v1 v2 v3 : Value} (F : Fr h₀ L h m) (h0 : m "corner" = some v0) (h1 : m "hue" = some v1) (h2 : m "depth" = some v2) (h3 : m "shares" = some v3) :
    Fr h₀ L h (fun y => if y = "corner" then some v0 else if y = "hue" then some v1 else if y = "depth" then some v2 else if y = "shares" then some v3 else m y) := by
  refine fr_same (fr_norm3 F h1 h2 h3) fun y => ?_
  by_cases k1 : y = "corner"
  · subst k1
    exact h0
  · rw [if_neg k1]
set_option maxHeartbeats 4000000 in
theorem sh_turn (w : World) (hue depth : Nat) (t1 t2 tc : Tok) (c : Int) (h3 : 1 ≤ depth) (h4 : depth ≤ 3) (sv : Array Value) (hsz : sv.size ≤ 3) (j : Nat) (S I I2 : Addr) (oI oI2 : Obj) (hIS : I ≠ S) (hIS2 : I2 ≠ S) (u : Str → Option Value)
    (p : Program) (loose : List Str) (mean : ExcName → Option Value) (mg mb : Str → Option Value)
    (dp un : Nat) (gd : Option (List Code)) (outer : List Env) (h₀ : Heap) (L : Addr) (s : Shared)
    (Q : Flow → Shared → Prop) (E : Value → Shared → Prop)
    (F : Fr h₀ L s.heap (fun y => if y = "corner" then some (.int c tc) else if y = "hue" then some (.int hue t1) else if y = "depth" then some (.int depth t2) else if y = "shares" then some (.ref S) else u y))
    (X : Frag.In (Mine.hd.heap_1 w.params) h₀) (N : News h₀ L s.heap [(I, oI), (I2, oI2), (S, listOf sv j)]) (T : Top p loose mean mg mb h₀)
    (hQ : ∀ (h' : Heap) (tk' : Nat) (t : Tok) (u' : Str → Option Value),
      Fr h₀ L h' (fun y => if y = "hue" then some (.int hue t1) else if y = "depth" then some (.int depth t2) else if y = "shares" then some (.ref S) else u' y) →
      News h₀ L h' [(I, oI), (I2, oI2), (S, listOf (sv.push (.int (shr hue depth c) t)) (j + 1))] → Q .next { s with heap := h', toks := tk' }) :
    wpAny (model PySem.Challenge.rw_wb0062_01.row.prog w) (ktrTop dp un gd "_law_shares" (scopeOf default sdef) L 124 (.ref 123) [] outer) (execs (loopOf (secondOf (bodyOf sdef))) (envOf "_law_shares" (scopeOf default sdef) L 124 (.ref 123))) Q E s := by
  dsimp only [secondOf, bodyOf, sdef, loopOf, scopeOf, PySem.Challenge.pw_wb0062_01] at F ⊢
  revert X
  k_fill
  intro X
  k_steps
  unfold Stop
  rename Fr _ _ _ _ => F5
  rename News _ _ _ _ => N5
  refine append_K F5 N5 (Upd.tail hIS (Upd.tail hIS2 (Upd.head (fun p hp => absurd hp List.not_mem_nil)))) (fun h6 F6 N6 => ?_) (by rw [sizeLine_eq]; omega)
  clear F5 N5
  dsimp only
  k_steps
  exact hQ _ _ _ _ (fr_norm3 F6 rfl rfl rfl) N6
end
section
local macro_rules | `(tactic| walk_at "no such key, d") => `(tactic| fail)
local macro_rules | `(tactic| walk_at "execs cons") => `(tactic| ((with_reducible show wpAny _ _ (execs (Stmt.Assign _ (Expr.Call _ _ _ _) _ :: _) _) _ _ _); (refine stop_intro ?_)))
set_option maxHeartbeats 4000000 in
theorem shares (w : World) (hue depth : Nat) (t1 t2 : Tok) (h1 : hue < 16) (h3 : 1 ≤ depth) (h4 : depth ≤ 3) :
    Con w 124 [.int hue t1, .int depth t2] 20 300 [] (fun _ => True)
      (fun h r mu' _ => ∃ D a b c j, r = .ref D ∧ mu' = [(D, listOf #[.int (shr hue depth 0) a, .int (shr hue depth 16) b, .int (shr hue depth 32) c] j)] ∧ h.get? D = none) := by
  unfold Con
  k_fill
  intro p loose mean mg mb dp un gd cn cs a ccd cl outer A₀ base h₀ L m s Q E B F X N T hkf hP hd hu hret
  refine wpAny_call ?_
  k_dflt ktr_enter
  rename Ext _ _ _ => HG
  k_steps
  rename Frag.In _ _ => X''
  rename Top _ _ _ _ _ _ => T''
  rename _ ∧ _ => l1
  have hA := Nat.ne_of_gt l1.2
  rename @LT.lt Nat _ _ _ => l2
  have hB := Nat.ne_of_gt l2
  unfold Stop
  rename Fr _ _ _ _ => F5
  rename News _ _ _ _ => N5
  refine sh_turn w hue depth _ _ _ _ h3 h4 _ (Nat.le_of_ble_eq_true rfl) _ _ _ _ _ _ hA hB _ _ _ _ _ _ _ _ _ _ _ _ _ _ _ (fr_corner F5 rfl rfl rfl rfl) X'' N5 T'' ?_
  intro h5 tk5 t5 u5 F6 N6
  clear F5 N5
  k_steps
  unfold Stop
  rename Fr _ _ _ _ => F5
  rename News _ _ _ _ => N5
  refine sh_turn w hue depth _ _ _ _ h3 h4 _ (Nat.le_of_ble_eq_true rfl) _ _ _ _ _ _ hA hB _ _ _ _ _ _ _ _ _ _ _ _ _ _ _ (fr_corner F5 rfl rfl rfl rfl) X'' N5 T'' ?_
  intro h5 tk5 t5 u5 F6 N6
  clear F5 N5
  k_steps
  unfold Stop
  rename Fr _ _ _ _ => F5
  rename News _ _ _ _ => N5
  refine sh_turn w hue depth _ _ _ _ h3 h4 _ (Nat.le_of_ble_eq_true rfl) _ _ _ _ _ _ hA hB _ _ _ _ _ _ _ _ _ _ _ _ _ _ _ (fr_corner F5 rfl rfl rfl rfl) X'' N5 T'' ?_
  intro h5 tk5 t5 u5 F6 N6
  clear F5 N5
  k_steps
  rename News _ _ _ _ => N3
  refine hret _ _ _ _ (by k_asm) (cb_drop N3 (List.forall_mem_cons.mpr ⟨List.Mem.tail _ (List.Mem.head _), List.forall_mem_nil _⟩)) (ext_fr HG (by k_asm)) ?_
  exact ⟨_, _, _, _, _, rfl, rfl, fresh_of HG List.not_mem_nil (News.fresh (by k_asm) (List.Mem.tail _ (List.Mem.head _)))⟩
end
end Mine
namespace Mine
theorem shr_sum {hue depth : Nat} (h1 : hue < 16) (h3 : 1 ≤ depth) (h4 : depth ≤ 3) : 8 ≤ shr hue depth 0 ∧ shr hue depth 0 ≤ 32 ∧ 8 ≤ shr hue depth 16 ∧ shr hue depth 16 ≤ 32 ∧ 8 ≤ shr hue depth 32 ∧ shr hue depth 32 ≤ 32 ∧ 48 ≤ shr hue depth 0 + shr hue depth 16 + shr hue depth 32 := by
  have t : ∀ a : Fin 16, ∀ d : Fin 3, 8 ≤ shr a (d + 1) 0 ∧ shr a (d + 1) 0 ≤ 32 ∧ 8 ≤ shr a (d + 1) 16 ∧ shr a (d + 1) 16 ≤ 32 ∧ 8 ≤ shr a (d + 1) 32 ∧ shr a (d + 1) 32 ≤ 32 ∧ 48 ≤ shr a (d + 1) 0 + shr a (d + 1) 16 + shr a (d + 1) 32 := by decide +kernel
  have e := t ⟨hue, h1⟩ ⟨depth - 1, by omega⟩
  have e2 : depth - 1 + 1 = depth := by omega
  dsimp only at e
  rw [e2] at e
  exact e
def tot (hue depth : Nat) : Int := shr hue depth 0 + shr hue depth 16 + shr hue depth 32
def nthS (h depth k : Nat) : Int := nth3 (shr h depth 0) (shr h depth 16) (shr h depth 32) k
def preS (h depth k : Nat) : Int := pre3 (shr h depth 0) (shr h depth 16) k
/-- one turn of the reading, in plain words -/
structure Step (depth hand off n h k n' h' : Nat) : Prop where
  k3 : k < 3
  lo : preS h depth k ≤ (n : Int) % tot h depth
  hi : (n : Int) % tot h depth < preS h depth k + nthS h depth k
  num : (n' : Int) = (n : Int) / tot h depth * nthS h depth k + (n : Int) % tot h depth - preS h depth k
  hue : h' = (h + (wrt hand (off + k)).length) % 16
theorem nthS_bd {h depth k : Nat} (h1 : h < 16) (h3 : 1 ≤ depth) (h4 : depth ≤ 3) : 8 ≤ nthS h depth k ∧ nthS h depth k ≤ 32 ∧ 0 ≤ preS h depth k ∧ preS h depth k + nthS h depth k ≤ tot h depth ∧ 48 ≤ tot h depth ∧ tot h depth ≤ 96 := by
  have e := shr_sum h1 h3 h4
  unfold tot
  rcases k with _ | _ | k
  · show 8 ≤ shr h depth 0 ∧ shr h depth 0 ≤ 32 ∧ (0 : Int) ≤ 0 ∧ 0 + shr h depth 0 ≤ _ ∧ _ ∧ _
    omega
  · show 8 ≤ shr h depth 16 ∧ shr h depth 16 ≤ 32 ∧ (0 : Int) ≤ shr h depth 0 ∧ shr h depth 0 + shr h depth 16 ≤ _ ∧ _ ∧ _
    omega
  · show 8 ≤ shr h depth 32 ∧ shr h depth 32 ≤ 32 ∧ (0 : Int) ≤ shr h depth 0 + shr h depth 16 ∧ shr h depth 0 + shr h depth 16 + shr h depth 32 ≤ _ ∧ _ ∧ _
    omega
theorem step_num {depth n h k : Nat} (h1 : h < 16) (h3 : 1 ≤ depth) (h4 : depth ≤ 3) (lo : preS h depth k ≤ (n : Int) % tot h depth) :
    ∃ n' : Nat, (n' : Int) = (n : Int) / tot h depth * nthS h depth k + (n : Int) % tot h depth - preS h depth k ∧ n' ≤ n ∧ 0 ≤ (n : Int) / tot h depth ∧ (n : Int) / tot h depth ≤ n := by
  obtain ⟨b1, b2, b3, b4, b5, b6⟩ := nthS_bd (k := k) h1 h3 h4
  have q0 : 0 ≤ (n : Int) / tot h depth := Int.ediv_nonneg (by omega) (by omega)
  have q1 : (n : Int) / tot h depth ≤ n := Int.ediv_le_self _ (by omega)
  have e := Int.mul_ediv_add_emod (n : Int) (tot h depth)
  have m1 : (n : Int) / tot h depth * nthS h depth k ≤ (n : Int) / tot h depth * tot h depth := Int.mul_le_mul_of_nonneg_left (by omega) q0
  have m0 : 0 ≤ (n : Int) / tot h depth * nthS h depth k := Int.mul_nonneg q0 (by omega)
  rw [Int.mul_comm] at e
  refine ⟨((n : Int) / tot h depth * nthS h depth k + (n : Int) % tot h depth - preS h depth k).toNat, ?_, ?_, q0, q1⟩ <;> omega
/-- turn after turn -/
inductive Run (depth hand off n0 h0 : Nat) : List Nat → Nat → Nat → Prop
  | nil : Run depth hand off n0 h0 [] n0 h0
  | snoc {ks : List Nat} {n h k n' h' : Nat} : Run depth hand off n0 h0 ks n h → Step depth hand off n h k n' h' → Run depth hand off n0 h0 (ks ++ [k]) n' h'
def pageOf (hand off : Nat) (ks : List Nat) : Str := ks.foldl (fun p k => p ++ wrt hand (off + k)) ""
theorem pageOf_snoc (hand off : Nat) (ks : List Nat) (k : Nat) : pageOf hand off (ks ++ [k]) = pageOf hand off ks ++ wrt hand (off + k) := by
  unfold pageOf; rw [List.foldl_append]; rfl
theorem str_len_append (a b : Str) : (a ++ b).length = a.length + b.length := by
  exact size_cat ..
theorem pageOf_len (hand off : Nat) (ks : List Nat) : (pageOf hand off ks).length ≤ 6 * ks.length := by
  have h : ∀ (ks : List Nat) (p : Str), (ks.foldl (fun p k => p ++ wrt hand (off + k)) p).length ≤ p.length + 6 * ks.length := by
    intro ks
    induction ks with
    | nil => intro p; exact Nat.le_refl _
    | cons k ks ih =>
      intro p
      have e := ih (p ++ wrt hand (off + k))
      have w := wrt_len hand (off + k)
      rw [str_len_append] at e
      rw [List.foldl_cons, List.length_cons]
      omega
  have e := h ks ""
  have z : ("" : Str).length = 0 := rfl
  unfold pageOf
  omega
theorem intsAre_snoc {vs : List Value} {ks : List Int} (h : IntsAre vs ks) (k : Int) (t : Tok) : IntsAre (vs ++ [.int k t]) (ks ++ [k]) := by
  induction h with
  | nil => exact .cons _ _ .nil
  | cons i t' _ ih => exact .cons _ _ ih
theorem intsAre_len {vs : List Value} {ks : List Int} (h : IntsAre vs ks) : vs.length = ks.length := by
  induction h with
  | nil => rfl
  | cons i t' _ ih => rw [List.length_cons, List.length_cons, ih]
/-- what _law_read gives -/
inductive ReadOut (depth hand off number hue : Nat) (mu : List Addr) (h : Heap) : Value → List (Addr × Obj) → Prop
  | mk (D KD : Addr) (kv : List Value) (ks : List Nat) (n' h' jx jk : Nat) (u v : Tok) (p1' : Array Value) (c1' : Addr) (o1' : Obj) (p2' : Array Value) (c2' : Addr) (o2' : Obj) :
    IntsAre kv (ks.map Int.ofNat) → Run depth hand off number hue ks n' h' → ks.length = 6 → TabS "_int2digits.<locals>.inner" 32 4 30 p1' c1' o1' → TabS "_digits2int.<locals>.inner" 47 4 37 p2' c2' o2' → FreshBut mu h D → FreshBut mu h KD →
    ReadOut depth hand off number hue mu h (.ref D) [(D, { cls := .type "tuple", data := .seq #[.ref KD, .str (pageOf hand off ks) u, .int (n' : Nat) v] jx }), (KD, listOf kv.toArray jk), (30, tabObj p1'), (c1', o1'), (37, tabObj p2'), (c2', o2')]
/-- the reading's loop ahead of the turn i = 6 - n -/
inductive RInv (depth hand off number hue : Nat) (sg : Str) (t3 t4 t5 : Tok) (KD IT : Addr) (h₀ : Heap) (L : Addr) (ri : Int → Int → Obj) (s : Shared) (n : Nat) : Shared → Prop
  | mk (i : Nat) (h : Heap) (tk : Nat) (gs : Array GenState) (ks : List Nat) (kv : List Value) (j n' hue' : Nat) (x1 x2 x3 : Tok) (p1' p2' : Array Value) (c1' c2' : Addr) (o1' o2' : Obj) (u' : Str → Option Value) :
      i ≤ 6 → n = 6 - i → (AllBare s.gens → AllBare gs) → ks.length = i → IntsAre kv (ks.map Int.ofNat) → Run depth hand off number hue ks n' hue' → n' ≤ number → hue' < 16 → TabS "_int2digits.<locals>.inner" 32 4 30 p1' c1' o1' → TabS "_digits2int.<locals>.inner" 47 4 37 p2' c2' o2' →
      Fr h₀ L h (fun y : Str => if y = "number" then some (Value.int (n' : Int) x1) else if y = "hue" then some (Value.int (hue' : Int) x2) else if y = "depth" then some (Value.int depth t3) else if y = "hand" then some (Value.int hand t4) else if y = "signs" then some (Value.str sg t5) else if y = "page" then some (Value.str (pageOf hand off ks) x3) else if y = "kinds" then some (Value.ref KD) else u' y) →
      News h₀ L h [(KD, listOf kv.toArray j), (30, tabObj p1'), (c1', o1'), (37, tabObj p2'), (c2', o2'), (IT, ri (i : Int) (6 - (i : Int)))] →
      RInv depth hand off number hue sg t3 t4 t5 KD IT h₀ L ri s n { s with heap := h, toks := tk, gens := gs }
abbrev ConG (w : World) (f : Addr) (vs : List Value) (dz uz : Nat) (mu : List (Addr × Obj)) (P : Heap → Prop) (Out : Heap → Value → List (Addr × Obj) → Heap → Prop) : Prop :=
  ∀ (p : Program) (loose : List Str) (mean : ExcName → Option Value) (mg mb : Str → Option Value)
    (dp un : Nat) (gd : Option (List Code)) (cn : Str) (cs : Scope) (a : Addr) (ccd : Value) (cl : List (Str × Addr)) (outer : List Env) (A₀ : Around) (base h₀ : Heap) (L : Addr) (m : Str → Option Value) (s : Shared)
    (Q E : Value → Shared → Prop),
    Below A₀ base outer h₀ → Fr h₀ L s.heap m → Frag.In (Mine.hd.heap_1 w.params) h₀ → News h₀ L s.heap mu → Top p loose mean mg mb h₀ → cs.kind = .function → P s.heap → dp + dz < recursionLimit → un + uz < cLine →
    (∀ r h' tk' gs' mu', (AllBare s.gens → AllBare gs') → Fr h₀ L h' m → News h₀ L h' mu' → Ext (mu.map (·.1)) s.heap h' → Out s.heap r mu' h' → Q r { s with heap := h', toks := tk', gens := gs' }) →
    wpAny (model PySem.Challenge.rw_wb0062_01.row.prog w) (ktrTop dp un gd cn cs L a ccd cl outer) (call (.ref f) vs) Q E s
theorem conG_use {w : World} {f : Addr} {vs : List Value} {dz uz : Nat} {mu : List (Addr × Obj)} {P : Heap → Prop} {Out : Heap → Value → List (Addr × Obj) → Heap → Prop} (C : ConG w f vs dz uz mu P Out)
    {p : Program} {loose : List Str} {mean : ExcName → Option Value} {mg mb : Str → Option Value} {dp un : Nat} {gd : Option (List Code)} {cn : Str} {cs : Scope} {a : Addr} {ccd : Value} {cl : List (Str × Addr)} {outer : List Env} {A₀ : Around} {base h₀ : Heap} {L : Addr} {m : Str → Option Value} {s : Shared}
    {Q E : Value → Shared → Prop} (B : Below A₀ base outer h₀) (F : Fr h₀ L s.heap m) (X : Frag.In (Mine.hd.heap_1 w.params) h₀) (N : News h₀ L s.heap mu) (T : Top p loose mean mg mb h₀) (hk : cs.kind = .function) (hP : P s.heap) (hd : dp + dz < recursionLimit) (hu : un + uz < cLine)
    (ret : ∀ r h' tk' gs' mu', (AllBare s.gens → AllBare gs') → Fr h₀ L h' m → News h₀ L h' mu' → Ext (mu.map (·.1)) s.heap h' → Out s.heap r mu' h' → Q r { s with heap := h', toks := tk', gens := gs' }) :
    wpAny (model PySem.Challenge.rw_wb0062_01.row.prog w) (ktrTop dp un gd cn cs L a ccd cl outer) (call (.ref f) vs) Q E s :=
  C _ _ _ _ _ _ _ _ _ _ _ _ _ _ _ _ _ _ _ _ _ _ B F X N T hk hP hd hu ret
end Mine
namespace Mine
theorem rs_R5 : True := by
  w_top off
  exact trivial
local macro_rules | `(tactic| walk_at "call ref") => `(tactic| (refine stop_intro ?_))
local macro_rules | `(tactic| walk_at "pyIter ref") => `(tactic| (refine stop_intro ?_))
local macro_rules | `(tactic| walk_at "exec For Name Call cons nil") => `(tactic| (refine stop_intro ?_))
local macro_rules | `(tactic| walk_at "exec Assign cons ListComp") => `(tactic| (refine stop_intro ?_))
theorem nameG_B {M : Model} {A : Around} {E : Value → Shared → Prop} {s : Shared} {h₀ : Heap} {L : Addr} {m : Str → Option Value} {env : Env} {K : Frag} {mg mb : Str → Option Value} {p : Program} {loose : List Str} {mean : ExcName → Option Value} {x : Str} {pos : Pos} {v : Value} {Q : Value → Shared → Prop} (F : Fr h₀ L s.heap m) (X : K.In h₀) (T : Top p loose mean mg mb h₀)
    (e : nsIn K mainGlobals x = some none) (hv : bootBuiltins x = some v) (hn : x ≠ "__name__") (hg : env.globals = mainGlobals) (hb : env.builtins = builtinsNs) (hk : env.scope.kind = .function) (hx : env.kindOf x = some .globalImplicit) (hd : (x == ("__debug__" : Str)) = false) (h : Q v s) :
    wpAny M A (eval (.Name x pos) env) Q E s :=
  Name_function_global hk hx (loadGlobal_builtin (env := env) (by rw [hg]; exact T.g.keeps F.keep) (mg_none_of X (topRead_of T).g e) (by rw [hb]; exact T.b.keeps F.keep) ((T.builtins x hn).trans hv) h) hd
theorem PartOf.int {n k : Int} {t : Tok} (h : PartOf (.int n t) k) : n = k := by
  rcases h with ⟨_, e⟩ | ⟨_, _, e, _⟩
  · cases e; rfl
  · cases e
theorem PartOf.float {n : Int} {x : UInt64} {t : Tok} (h : PartOf (.float x t) n) : Flt.toInt PySem.Float64.truncOf x = n := by
  rcases h with ⟨_, e⟩ | ⟨_, _, e, h⟩
  · cases e
  · cases e; exact h.2.2.2
theorem three_ints {vs : List Value} {ys : Array Value} {a b c : Value} {x y z : Int} (hl : vs.length = 3) (hP : ∀ (j : Nat) (v : Value), vs[j]? = some v → #[a, b, c][j]? = some v)
    (hF : Paired (fun v y => ∀ n, PartOf v n → ∃ t, y = .int n t) (vs.filter fun _ => true) ys.toList) (pa : PartOf a x) (pb : PartOf b y) (pc : PartOf c z) : ∃ t u v, ys = #[.int x t, .int y u, .int z v] := by
  match vs, hl with
  | [v0, v1, v2], _ =>
    have e0 := hP 0 v0 rfl
    have e1 := hP 1 v1 rfl
    have e2 := hP 2 v2 rfl
    cases e0; cases e1; cases e2
    have hF' : Paired (fun v y => ∀ n, PartOf v n → ∃ t, y = .int n t) [a, b, c] ys.toList := hF
    obtain ⟨ys⟩ := ys
    cases hF' with | cons f0 hF' =>
    cases hF' with | cons f1 hF' =>
    cases hF' with | cons f2 hF' =>
    cases hF'
    obtain ⟨t, rfl⟩ := f0 _ pa
    obtain ⟨u, rfl⟩ := f1 _ pb
    obtain ⟨v, rfl⟩ := f2 _ pc
    exact ⟨t, u, v, rfl⟩
theorem tabs_away {h₀ h : Heap} {L D : Addr} {news : List (Addr × Obj)} {q q' : Str} {l c l' c' : Nat} {P P' : Addr} {ps ps' : Array Value} {c1 c2 : Addr} {o1 o2 : Obj} {its : Array Value} {j : Nat} (N : News h₀ L h news) (m1 : (P, tabObj ps) ∈ news) (m2 : (c1, o1) ∈ news) (m3 : (P', tabObj ps') ∈ news) (m4 : (c2, o2) ∈ news) (mD : (D, listOf its j) ∈ news)
    (S : TabS q l c P ps c1 o1) (S' : TabS q' l' c' P' ps' c2 o2) : D ∉ [P, c1, P', c2] := fun h => by
  have k : ∀ ps : Array Value, listOf its j ≠ tabObj ps := fun ps e => by have := congrArg Obj.data e; cases this
  rcases List.mem_cons.mp h with e | h
  · exact obj_away N mD m1 (k _) e
  rcases List.mem_cons.mp h with e | h
  · exact obj_away N mD m2 (Ne.symm S.not_seq) e
  exact not_two (obj_away N mD m3 (k _)) (obj_away N mD m4 (Ne.symm S'.not_seq)) h
def rit (x l : Int) : Obj := { cls := .type "range_iterator", dict := none, data := .fields #[rawInt x, rawInt l, rawInt 1], slots := #[] }
theorem rit_not_tab {x l : Int} {ps : Array Value} : rit x l ≠ tabObj ps := fun e => by have := congrArg Obj.cls e; cases this
theorem TabS.not_rit {q : Str} {l c : Nat} {P : Addr} {ps : Array Value} {c1 : Addr} {o1 : Obj} (S : TabS q l c P ps c1 o1) {x y : Int} : rit x y ≠ o1 := by
  rcases S with ⟨rfl, rfl, rfl⟩ | ⟨_, vs, t, hd, hv⟩
  · exact rit_not_tab
  · rintro rfl
    cases hd
    have h2 : some (rawInt y) = some (Value.str q t) := hv
    cases h2
theorem rit_away {h₀ h : Heap} {L D : Addr} {news : List (Addr × Obj)} {q q' : Str} {l c l' c' : Nat} {P P' : Addr} {ps ps' : Array Value} {c1 c2 : Addr} {o1 o2 : Obj} {x y : Int} (N : News h₀ L h news) (m1 : (P, tabObj ps) ∈ news) (m2 : (c1, o1) ∈ news) (m3 : (P', tabObj ps') ∈ news) (m4 : (c2, o2) ∈ news) (mD : (D, rit x y) ∈ news)
    (S : TabS q l c P ps c1 o1) (S' : TabS q' l' c' P' ps' c2 o2) : D ∉ [P, c1, P', c2] := fun h => by
  rcases List.mem_cons.mp h with e | h
  · exact obj_away N mD m1 rit_not_tab e
  rcases List.mem_cons.mp h with e | h
  · exact obj_away N mD m2 S.not_rit e
  exact not_two (obj_away N mD m3 rit_not_tab) (obj_away N mD m4 S'.not_rit) h
theorem list_not_rit {its : Array Value} {j : Nat} {x y : Int} : rit x y ≠ listOf its j := fun e => by have := congrArg Obj.data e; cases this
theorem hsv_ok {hue depth : Nat} (h1 : hue < 16) (h3 : 1 ≤ depth) (h4 : depth ≤ 3) : HsvOk (fH hue) (fD depth) (shr hue depth 0) (shr hue depth 16) (shr hue depth 32) := by
  have e := hsv_tab ⟨hue, h1⟩ ⟨depth - 1, by omega⟩
  have e2 : depth - 1 + 1 = depth := by omega
  dsimp only at e
  rw [e2] at e
  exact e
local macro_rules | `(tactic| walk_at "eval Name") => `(tactic| (k_inBlock; (with_reducible rename Fr _ _ _ _ => kF); k_dflt (refine' nameG_B kF ?k1 ?k2 ?k3 ?k8 ?k9 ?k4 ?k5 ?k6 ?k7 ?k10 ?_; (case k4 => rfl); (case k5 => rfl); (case k6 => rfl); (case k7 => rfl); (case k10 => decide); (case k1 => k_asm); (case k2 => k_asm); (case k3 => k_is); (case k8 => exact PyProof.Rows.boot_int); (case k9 => decide); k_whole)))
set_option maxHeartbeats 4000000 in
theorem turn (w : World) (number : Nat) (hue depth hand : Nat) (off : Nat) (sg pg : Str) (t1 t2 t3 t4 t5 t6 : Tok) (h1 : hue < 16) (h3 : 1 ≤ depth) (h4 : depth ≤ 3) (hnum : number < 2 ^ 30) (hhand : hand < 3) (hoff : off < 3) (hsl : (sg.length : Int) = 3) (hsi : ∀ k : Nat, k < 3 → Txt.item sg (k : Int) = sgn (off + k)) (hpg : pg.length ≤ 36) (KD IT : Addr) (ix iy : Int) (ks : List Value) (hks : ks.length ≤ 6) (j : Nat) (u : Str → Option Value) (p1 p2 : Array Value) (c1 c2 : Addr) (o1 o2 : Obj)
   (hS1 : TabS "_int2digits.<locals>.inner" 32 4 30 p1 c1 o1) (hS2 : TabS "_digits2int.<locals>.inner" 47 4 37 p2 c2 o2)
    (p : Program) (loose : List Str) (mean : ExcName → Option Value) (mg mb : Str → Option Value)
    (dp un : Nat) (gd : Option (List Code)) (outer : List Env) (A₀ : Around) (base h₀ : Heap) (L : Addr) (s : Shared)
    (Q : Flow → Shared → Prop) (E : Value → Shared → Prop)
    (B : Below A₀ base outer h₀) (F : Fr h₀ L s.heap (fun y => if y = "number" then some (.int number t1) else if y = "hue" then some (.int hue t2) else if y = "depth" then some (.int depth t3) else if y = "hand" then some (.int hand t4) else if y = "signs" then some (.str sg t5) else if y = "page" then some (.str pg t6) else if y = "kinds" then some (.ref KD) else u y))
    (X : Frag.In (Mine.hd.heap_1 w.params) h₀) (hC1 : CodeHd h₀ 34 30) (hC2 : CodeHd h₀ 41 37) (N : News h₀ L s.heap [(KD, listOf ks.toArray j), (30, tabObj p1), (c1, o1), (37, tabObj p2), (c2, o2), (IT, rit ix iy)]) (T : Top p loose mean mg mb h₀) (hd : dp + 90 < recursionLimit) (hu : un + 2000 < cLine)
    (hQ : ∀ (k n' h' : Nat) (hp : Heap) (tk' : Nat) (gs : GenState) (x0 x1 x2 x3 : Tok) (p1' p2' : Array Value) (c1' c2' : Addr) (o1' o2' : Obj) (u' : Str → Option Value),
      Step depth hand off number hue k n' h' → n' ≤ number → gs.bare = true → TabS "_int2digits.<locals>.inner" 32 4 30 p1' c1' o1' → TabS "_digits2int.<locals>.inner" 47 4 37 p2' c2' o2' →
      Fr h₀ L hp (fun y : Str => if y = "number" then some (Value.int (n' : Int) x1) else if y = "hue" then some (Value.int (h' : Int) x2) else if y = "depth" then some (Value.int depth t3) else if y = "hand" then some (Value.int hand t4) else if y = "signs" then some (Value.str sg t5) else if y = "page" then some (Value.str (pg ++ wrt hand (off + k)) x3) else if y = "kinds" then some (Value.ref KD) else u' y) →
      News h₀ L hp [(KD, listOf (ks ++ [Value.int (k : Int) x0]).toArray (j + 1)), (30, tabObj p1'), (c1', o1'), (37, tabObj p2'), (c2', o2'), (IT, rit ix iy)] → Q .next { s with heap := hp, toks := tk', gens := s.gens.push gs }) :
    wpAny (model PySem.Challenge.rw_wb0062_01.row.prog w) (ktrTop dp un gd "_law_read" (scopeOf default rdef) L 117 (.ref 116) [] outer) (execs (loopOf rloop) (envOf "_law_read" (scopeOf default rdef) L 117 (.ref 116))) Q E s := by
  dsimp only [rloop, thirdOf, bodyOf, rdef, targetOf, loopOf, scopeOf, PySem.Challenge.pw_wb0062_01]
  revert X
  k_fill
  intro X
  k_steps
  unfold Stop
  refine wpAny_Assign_ListComp_walk (fun _ => true) (fun v y => ∀ n, PartOf v n → ∃ t, y = .int n t) (by with_unfolding_all rfl) (by decide) (by decide) rfl (by decide) (by decide) (by rfl) (by rfl) ?_ (fun _ => rfl)
  k_steps
  unfold Stop
  rename Fr _ _ _ _ => F3
  k_dflt (refine' con_use (hsv w _ _ (shr hue depth 0) (shr hue depth 16) (shr hue depth 32) _ _ _ (hsv_ok h1 h3 h4)) ?k1 ?k2 ?k3 ?k4 ?k5 ?kK ?kP ?kd ?ku ?_; (case k1 => k_asm); (case k2 => k_asm); (case k3 => k_asm); (case k4 => exact News.nil); (case k5 => k_asm); (case kK => exact rfl); (case kP => trivial); (case kd => ktr_room); (case ku => ktr_units))
  intro r9 h9 tk9 mu9 F9 N9 X9 O9
  obtain ⟨D, a, b, c, j9, rfl, rfl, pa, pb, pc, hf9⟩ := O9
  have N4 := news_all N X9 N9
  simp only [List.cons_append, List.nil_append] at N4
  clear N9
  refine wpAny_pyIter_tuple (items := #[a, b, c]) ⟨_, (N4 (D, _) (List.Mem.head _)).1, rfl, _, rfl⟩ ?_
  have hDl : D < h9.objs.size := Heap.lt_size (N4 (D, _) (List.Mem.head _)).1
  refine ⟨_, _, _, _, _, _, _, rfl, Walks.tuple rfl _ D (Nat.ne_of_lt hDl) #[a, b, c], (show 3 ≤ sizeLine by rw [sizeLine_eq]; decide), ⟨⟨_, Heap.get?_push_size _ rfl, rfl, rfl⟩, ⟨_, Heap.get?_push_of_some _ (N4 (D, _) (List.Mem.head _)).1, rfl, _, rfl⟩⟩, ?fp, ?wr, (F9.push _).ns, ?quiet, ?fin⟩
  case fp =>
    intro x hx
    have hz : ∀ o, (h9.push o).objs.size = h9.objs.size + 1 := fun o => Heap.size_push ..
    dsimp only
    rw [hz]
    rcases List.mem_cons.mp hx with rfl | hx
    · exact Nat.lt_succ_self _
    · rw [List.mem_singleton.mp hx]; exact Nat.lt_succ_of_lt hDl
  case wr => exact fun hx => Nat.ne_of_lt F9.ns.lt (List.mem_singleton.mp hx)
  case quiet =>
    refine ⟨fun C i v s₃ m₃ E' hPv hn hm hk ht => ?_, fun C i v s₃ m₃ E' hPv hp hn hm hk ht => ?_⟩
    · exact wpAny_pure ⟨rfl, ⟨_, _, rfl, fun _ _ e => e⟩⟩
    · have hk2 : ∀ x o, h9.get? x = some o → s₃.heap.get? x = some o := fun x o e => hk x o (fun q => Nat.ne_of_lt (Heap.lt_size e) (List.mem_singleton.mp q)) (Heap.get?_push_of_some _ e)
      clear hk
      have hvn : ∃ n, PartOf v n := by
        rcases i with _ | _ | _ | i
        · cases hPv; exact ⟨_, pa⟩
        · cases hPv; exact ⟨_, pb⟩
        · cases hPv; exact ⟨_, pc⟩
        · cases hPv
      obtain ⟨n0, hvn⟩ := hvn
      rcases hvn with ⟨tv, rfl⟩ | ⟨xv, tv, rfl, hx1, hx2, hx3, hx4⟩
      · k_steps
        rename PartOf _ _ => hq
        exact congrArg (Value.int · _) (PartOf.int hq)
        exact ⟨_, _, rfl, fun _ _ e => e⟩
      · k_steps
        rename PartOf _ _ => hq
        exact congrArg (Value.int · _) (PartOf.float hq)
        exact ⟨_, _, rfl, fun _ _ e => e⟩
  case fin =>
    intro D2 h2 tk2 ys vs hD hl hpl hlen hP hF hns hk
    have hk2 : ∀ x o, x ≠ L → h9.get? x = some o → h2.get? x = some o := fun x o hx e => hk x o hx (fun q => Nat.ne_of_lt (Heap.lt_size e) (List.mem_singleton.mp q)) (Heap.get?_push_of_some _ e)
    have F5 := Fr.mk hns (fun b o e => hk2 b o (Nat.ne_of_lt (Nat.lt_of_lt_of_le (Heap.lt_size e) F9.above)) (F9.keep b o e)) F9.above
    have N5 : News h₀ L h2 _ := fun p hp => ⟨hk2 _ _ (N4 p hp).2.1 (N4 p hp).1, (N4 p hp).2⟩
    obtain ⟨ta, tb, tc, hys⟩ := three_ints hlen hP hF pa pb pc
    subst hys
    obtain ⟨n2, hD2⟩ := hpl
    have hD9 : h9.get? D2 = none := by
      cases q : h9.get? D2 with
      | none => rfl
      | some o =>
        have e := hD
        dsimp only at e
        rw [Heap.get?_push_of_some _ q] at e; cases e
    have hDK : D2 ≠ KD := fun e => by
      have := (N4 _ (List.Mem.tail _ (List.Mem.head _))).1
      dsimp only at this
      rw [← e, hD9] at this; cases this
    have hDL : D2 ≠ L := fun q => by
      obtain ⟨o, _, _, ho, _⟩ := F9.ns
      rw [← q, hD9] at ho; cases ho
    have hD0 : h₀.get? D2 = none := by
      cases q : h₀.get? D2 with
      | none => rfl
      | some o => rw [F9.keep _ _ q] at hD9; cases hD9
    have N6 : News h₀ L h2 ((D2, listOf #[.int (shr hue depth 0) ta, .int (shr hue depth 16) tb, .int (shr hue depth 32) tc] n2) :: [(KD, listOf ks.toArray j), (30, tabObj p1), (c1, o1), (37, tabObj p2), (c2, o2), (IT, rit ix iy)]) := List.forall_mem_cons.mpr ⟨⟨hD2, hDL, hD0⟩, fun p hp => N5 p (List.mem_cons_of_mem _ hp)⟩
    clear N5
    k_steps
    unfold Stop
    rename News _ _ _ _ => N7
    rename Fr _ _ _ _ => F7
    have hsb := shr_sum h1 h3 h4
    k_dflt (refine' con_use (intdivmod w number _ _ _ hnum ?b1 ?b2 p1 p2 c1 c2 o1 o2 hS1 hS2) ?k1 ?k2 ?k3 ?k4 ?k5 ?kK ?kP ?kd ?ku ?_; (case b1 => omega); (case b2 => omega); (case k1 => k_asm); (case k2 => k_asm); (case k3 => k_asm); (case k4 => exact List.forall_mem_cons.mpr ⟨N7 _ (by k_mem), List.forall_mem_cons.mpr ⟨N7 _ (by k_mem), List.forall_mem_cons.mpr ⟨N7 _ (by k_mem), List.forall_mem_cons.mpr ⟨N7 _ (by k_mem), List.forall_mem_nil _⟩⟩⟩⟩); (case k5 => k_asm); (case kK => exact rfl); (case kP => exact ⟨codeHd_ext hC1 (fun b o _ e => F7.keep b o e) List.not_mem_nil, codeHd_ext hC2 (fun b o _ e => F7.keep b o e) List.not_mem_nil⟩); (case kd => ktr_room); (case ku => ktr_units))
    intro r8 h8 tk8 mu8 F8 N8 X8 O8
    obtain ⟨D3, u1, u2, j3, p1', c1', o1', p2', c2', o2', hS1', hS2', hf3⟩ := O8
    have eb : shr hue depth 0 + (shr hue depth 16 + (shr hue depth 32 + 0)) = tot hue depth := by unfold tot; omega
    rw [eb] at N8
    have hDo := tabs_away N7 (by k_mem) (by k_mem) (by k_mem) (by k_mem) (List.Mem.head _) hS1 hS2
    have hKo := tabs_away N7 (by k_mem) (by k_mem) (by k_mem) (by k_mem) (List.Mem.tail _ (List.Mem.head _)) hS1 hS2
    have hIo := rit_away N7 (by k_mem) (by k_mem) (by k_mem) (by k_mem) (D := IT) (x := ix) (y := iy) (by k_mem) hS1 hS2
    have N9 : News h₀ L h8 [(D3, { cls := .type "tuple", data := .seq #[.int ((number : Int) / tot hue depth) u1, .int ((number : Int) % tot hue depth) u2] j3 }), (D2, listOf #[.int (shr hue depth 0) ta, .int (shr hue depth 16) tb, .int (shr hue depth 32) tc] n2), (KD, listOf ks.toArray j), (30, tabObj p1'), (c1', o1'), (37, tabObj p2'), (c2', o2'), (IT, rit ix iy)] := List.forall_mem_cons.mpr ⟨N8 _ (by k_mem), List.forall_mem_cons.mpr ⟨⟨X8 _ _ hDo (N7 _ (List.Mem.head _)).1, (N7 _ (List.Mem.head _)).2⟩, List.forall_mem_cons.mpr ⟨⟨X8 _ _ hKo (N7 _ (List.Mem.tail _ (List.Mem.head _))).1, (N7 _ (List.Mem.tail _ (List.Mem.head _))).2⟩, fun p hp => (List.mem_append (s := [(30, tabObj p1'), (c1', o1'), (37, tabObj p2'), (c2', o2')]) (t := [(IT, rit ix iy)]) |>.mp hp).elim (fun hp => N8 p (List.mem_of_mem_take (i := 4) hp)) fun hp => (List.mem_singleton.mp hp).symm ▸ (have m : (IT, rit ix iy) ∈ _ := (by k_mem : (IT, rit ix iy) ∈ [(D2, listOf #[.int (shr hue depth 0) ta, .int (shr hue depth 16) tb, .int (shr hue depth 32) tc] n2), (KD, listOf ks.toArray j), (30, tabObj p1), (c1, o1), (37, tabObj p2), (c2, o2), (IT, rit ix iy)]); ⟨X8 _ _ hIo (N7 _ m).1, (N7 _ m).2⟩)⟩⟩⟩
    clear N8 N7 F7 X8
    dsimp only
    k_steps
    unfold Stop
    rename News _ _ _ _ => N10
    rename Fr _ _ _ _ => F10
    have N11 : News h₀ L _ ((D2, listOf #[.int (shr hue depth 0) ta, .int (shr hue depth 16) tb, .int (shr hue depth 32) tc] n2) :: (KD, listOf ks.toArray j) :: [(30, tabObj p1'), (c1', o1'), (37, tabObj p2'), (c2', o2'), (IT, rit ix iy)]) := fun p hp => N10 p (List.Mem.tail _ hp)
    have hKt : ∀ p ∈ [(30, tabObj p1'), (c1', o1'), (37, tabObj p2'), (c2', o2'), (IT, rit ix iy)], p.1 ≠ KD := fun p hp e => (List.mem_append (s := [(30, tabObj p1'), (c1', o1'), (37, tabObj p2'), (c2', o2')]) (t := [(IT, rit ix iy)]) |>.mp hp).elim (fun hp => tabs_away N11 (by k_mem) (by k_mem) (by k_mem) (by k_mem) (List.Mem.tail _ (List.Mem.head _)) hS1' hS2' (e ▸ List.mem_map_of_mem (f := (·.1)) hp)) fun hp => obj_away N11 (a := IT) (D := KD) (o := rit ix iy) (by k_mem) (List.Mem.tail _ (List.Mem.head _)) list_not_rit (by rw [← e, List.mem_singleton.mp hp])
    have F11 := fr_norm4 (a := "kind") (b := "ahead") (c := "slot") (d := "shares") (fr_norm7 F10 rfl rfl rfl rfl rfl rfl rfl) rfl rfl rfl rfl
    clear F10 N10
    refine gen_for w _ _ _ _ _ _ _ ta tb tc n2 D2 _ _ ?b1 ?b2 ?b3 ?b4 ?b5 p loose mean mg mb dp un gd outer A₀ base h₀ L _ _ _ B F11 X N11 T ?hd ?hu ?_
    case b1 => exact ⟨hsb.1, hsb.2.1⟩
    case b2 => exact ⟨hsb.2.2.1, hsb.2.2.2.1⟩
    case b3 => exact ⟨hsb.2.2.2.2.1, hsb.2.2.2.2.2.1⟩
    case b4 => exact Int.emod_nonneg _ (by unfold tot; omega)
    case b5 => exact Int.emod_lt_of_pos _ (by unfold tot; omega)
    case hd => ktr_room
    case hu => ktr_units
    intro kd h12 tk12 gs y1 y2 y3 hk3 hlo hhi hbare F12 N12
    obtain ⟨n', hn', hle, hq0, hq1⟩ := step_num (k := kd) h1 h3 h4 hlo
    dsimp only
    refine turnC w hand hue off _ _ _ _ _ _ (kd : Int) kd (by omega) sg pg _ _ _ _ _ t1 _ _ _ t1 _ _ _ t1 _ _ n2 j D2 KD ks _ _ hhand hoff hks hpg hq0 (by omega) hDK hKt hsl (hsi kd hk3) p loose mean mg mb dp un gd outer A₀ base h₀ L _ Q E B F12 X N12 T (by ktr_room) (by ktr_units) ?_
    intro h13 tk13 x1 x2 x3 u' F13 N13
    refine hQ kd n' _ h13 tk13 gs _ x1 x2 x3 p1' p2' c1' c2' o1' o2' u' ⟨hk3, hlo, hhi, hn', rfl⟩ hle hbare hS1' hS2' ?_ (fun p hp => N13 p (List.Mem.tail _ hp))
    rw [hn']
    exact F13
end Mine
namespace Mine
theorem rit_zero : rit 0 6 = rit ((0 : Nat) : Int) (6 - ((0 : Nat) : Int)) := rfl
theorem rit_next {i : Nat} : rit ((i : Int) + 1) (6 - (i : Int) - 1) = rit ((i + 1 : Nat) : Int) (6 - ((i + 1 : Nat) : Int)) := by
  rw [show ((i + 1 : Nat) : Int) = (i : Int) + 1 from rfl, show (6 : Int) - ((i : Int) + 1) = 6 - (i : Int) - 1 by omega]
set_option maxHeartbeats 4000000 in
theorem read_loop (w : World) (number : Nat) (hue depth hand : Nat) (off : Nat) (sg : Str) (t1 t2 t3 t4 t5 t6 : Tok) (h1 : hue < 16) (h3 : 1 ≤ depth) (h4 : depth ≤ 3) (hnum : number < 2 ^ 30) (hhand : hand < 3) (hoff : off < 3) (hsl : (sg.length : Int) = 3) (hsi : ∀ k : Nat, k < 3 → Txt.item sg (k : Int) = sgn (off + k)) (KD IT : Addr) (u : Str → Option Value) (p1 p2 : Array Value) (c1 c2 : Addr) (o1 o2 : Obj)
   (hS1 : TabS "_int2digits.<locals>.inner" 32 4 30 p1 c1 o1) (hS2 : TabS "_digits2int.<locals>.inner" 47 4 37 p2 c2 o2)
    (p : Program) (loose : List Str) (mean : ExcName → Option Value) (mg mb : Str → Option Value)
    (dp un : Nat) (gd : Option (List Code)) (outer : List Env) (A₀ : Around) (base h₀ : Heap) (L : Addr) (s : Shared)
    (R : Result → Shared → Prop)
    (B : Below A₀ base outer h₀) (F : Fr h₀ L s.heap (fun y => if y = "number" then some (.int number t1) else if y = "hue" then some (.int hue t2) else if y = "depth" then some (.int depth t3) else if y = "hand" then some (.int hand t4) else if y = "signs" then some (.str sg t5) else if y = "page" then some (.str "" t6) else if y = "kinds" then some (.ref KD) else u y))
    (X : Frag.In (Mine.hd.heap_1 w.params) h₀) (hC1 : CodeHd h₀ 34 30) (hC2 : CodeHd h₀ 41 37) (N : News h₀ L s.heap [(KD, listOf #[] 0), (30, tabObj p1), (c1, o1), (37, tabObj p2), (c2, o2), (IT, rit 0 6)]) (T : Top p loose mean mg mb h₀) (hd : dp + 90 < recursionLimit) (hu : un + 2000 < cLine)
    (hR : ∀ (h' : Heap) (tk' : Nat) (gs' : Array GenState) (ks : List Nat) (kv : List Value) (j n' hue' : Nat) (x1 x2 x3 : Tok) (p1' p2' : Array Value) (c1' c2' : Addr) (o1' o2' : Obj) (u' : Str → Option Value),
      (AllBare s.gens → AllBare gs') → ks.length = 6 → IntsAre kv (ks.map Int.ofNat) → Run depth hand off number hue ks n' hue' → TabS "_int2digits.<locals>.inner" 32 4 30 p1' c1' o1' → TabS "_digits2int.<locals>.inner" 47 4 37 p2' c2' o2' →
      Fr h₀ L h' (fun y : Str => if y = "number" then some (Value.int (n' : Int) x1) else if y = "hue" then some (Value.int (hue' : Int) x2) else if y = "depth" then some (Value.int depth t3) else if y = "hand" then some (Value.int hand t4) else if y = "signs" then some (Value.str sg t5) else if y = "page" then some (Value.str (pageOf hand off ks) x3) else if y = "kinds" then some (Value.ref KD) else u' y) →
      News h₀ L h' [(KD, listOf kv.toArray j), (30, tabObj p1'), (c1', o1'), (37, tabObj p2'), (c2', o2')] → R (.ok .next) { s with heap := h', toks := tk', gens := gs' }) :
    codeAny (model PySem.Challenge.rw_wb0062_01.row.prog w) (ktrTop dp un gd "_law_read" (scopeOf default rdef) L 117 (.ref 116) [] outer) (.forLoop (targetOf rloop) (.ref IT) (loopOf rloop) [] (envOf "_law_read" (scopeOf default rdef) L 117 (.ref 116))) R s := by
  refine codeAny_forLoop (fun n s' => RInv depth hand off number hue sg t3 t4 t5 KD IT h₀ L rit s n s') ?turn 6 (.mk 0 _ _ _ [] [] 0 number hue t1 t2 t6 p1 p2 c1 c2 o1 o2 u (Nat.zero_le _) rfl id rfl .nil .nil (Nat.le_refl _) h1 hS1 hS2 F (rit_zero ▸ N)) (fun _ => rfl)
  rintro n s' ⟨i, h, tk, gs, ks, kv, j, n', hue', x1, x2, x3, p1', p2', c1', c2', o1', o2', u', hi, rfl, hgs, hks, hkv, hrun, hle, hh, hS1', hS2', F', N'⟩
  have hIo := rit_away N' (P := 30) (P' := 37) (D := IT) (by k_mem) (by k_mem) (by k_mem) (by k_mem) (by k_mem) hS1' hS2'
  have hIK : IT ≠ KD := obj_away N' (a := IT) (by k_mem) (List.Mem.head _) list_not_rit
  have hIall : ∀ p ∈ [(KD, listOf kv.toArray j), (30, tabObj p1'), (c1', o1'), (37, tabObj p2'), (c2', o2')], p.1 ≠ IT := fun p hp e => by
    rcases List.mem_cons.mp hp with rfl | hp
    · exact hIK e.symm
    · exact hIo (e ▸ List.mem_map_of_mem (f := (·.1)) hp)
  have hit := N' (IT, rit (i : Int) (6 - (i : Int))) (by k_mem)
  have hI0 : ∀ b o, h₀.get? b = some o → b ≠ IT := fun b o e q => by have := hit.2.2; dsimp only at this; rw [← q, e] at this; cases this
  by_cases hlt : i < 6
  · refine wpAny_pyNext_range_item hit.1 (by omega) (fun h5 hit5 hs5 => ?_)
    have F5 : Fr h₀ L h5 _ := ⟨F'.ns.sameBut hs5 (Ne.symm hit.2.1), fun b o e => (hs5.2 b (hI0 b o e)).trans (F'.keep b o e), F'.above⟩
    have N5 : News h₀ L h5 ([(KD, listOf kv.toArray j), (30, tabObj p1'), (c1', o1'), (37, tabObj p2'), (c2', o2')] ++ [(IT, rit ((i + 1 : Nat) : Int) (6 - ((i + 1 : Nat) : Int)))]) := fun p hp => by
      rcases List.mem_append.mp hp with hp | hp
      · exact ⟨(hs5.2 _ (hIall p hp)).trans (N' p (List.mem_append_left _ hp)).1, (N' p (List.mem_append_left _ hp)).2⟩
      · rw [List.mem_singleton.mp hp]
        exact ⟨rit_next ▸ hit5, hit.2⟩
    dsimp only
    refine wpAny_assign_Name (wpAny_storeName_local rfl F5.ns (fun h6 hn6 hs6 => ?_) (by rfl))
    have F6 := fr_norm7 (F5.set hn6 hs6) rfl rfl rfl rfl rfl rfl rfl
    have N6 := N5.set hs6
    have hlen := pageOf_len hand off ks
    refine turn w n' hue' depth hand off sg (pageOf hand off ks) _ _ _ _ _ _ hh h3 h4 (by omega) hhand hoff hsl hsi (by omega) KD IT _ _ kv (by rw [intsAre_len hkv, List.length_map]; omega) j _ p1' p2' c1' c2' o1' o2' hS1' hS2' p loose mean mg mb dp un gd outer A₀ base h₀ L _ _ _ B F6 X hC1 hC2 N6 T hd hu ?_
    intro k n2 hue2 hp tk2 gn x0 y1 y2 y3 p1'' p2'' c1'' c2'' o1'' o2'' u2 hst hle2 hbare hS1'' hS2'' F7 N7
    refine ⟨6 - (i + 1), by omega, .mk (i + 1) hp tk2 (gs.push gn) (ks ++ [k]) (kv ++ [.int (k : Int) x0]) (j + 1) n2 hue2 y1 y2 y3 p1'' p2'' c1'' c2'' o1'' o2'' u2 hlt rfl (fun hb => (hgs hb).push hbare) (by rw [List.length_append, hks]; rfl) ?_ (.snoc hrun hst) (Nat.le_trans hle2 hle) ?_ hS1'' hS2'' ?_ N7⟩
    · rw [List.map_append]; exact intsAre_snoc hkv _ _
    · rw [hst.hue]; exact Nat.mod_lt _ (by decide)
    · rw [pageOf_snoc]; exact F7
  · have hi6 : i = 6 := by omega
    subst hi6
    refine wpAny_pyNext_range_end rfl hit.1 (by decide) (fun h5 hx5 => ?_)
    have F5 : Fr h₀ L h5 _ := ⟨F'.ns.extBut hx5 (Ne.symm hit.2.1), fun b o e => hx5 b o (hI0 b o e) (F'.keep b o e), F'.above⟩
    have N5 : News h₀ L h5 [(KD, listOf kv.toArray j), (30, tabObj p1'), (c1', o1'), (37, tabObj p2'), (c2', o2')] := fun p hp =>
      ⟨hx5 _ _ (hIall p hp) (N' p (List.mem_append_left [_] hp)).1, (N' p (List.mem_append_left [_] hp)).2⟩
    dsimp only
    refine wpAny_execs_nil ?_
    exact hR h5 _ gs ks kv j n' hue' x1 x2 x3 p1' p2' c1' c2' o1' o2' u' hgs hks hkv hrun hS1' hS2' F5 N5
end Mine
namespace Mine
theorem rs_R6 : True := by
  w_top off
  exact trivial
local macro_rules | `(tactic| walk_at "call ref") => `(tactic| (refine stop_intro ?_))
local macro_rules | `(tactic| walk_at "pyIter ref") => `(tactic| (refine stop_intro ?_))
local macro_rules | `(tactic| walk_at "exec For Name Call cons nil") => `(tactic| (refine stop_intro ?_))
theorem news_rit {h₀ h : Heap} {L : Addr} {news : List (Addr × Obj)} {m : Str → Option Value} (N : News h₀ L h news) (F : Fr h₀ L h m) : News h₀ L (h.push (rit 0 6)) (news ++ [(h.objs.size, rit 0 6)]) := fun p hp => by
  rcases List.mem_append.mp hp with hp | hp
  · exact ⟨Heap.get?_push_of_some _ (N p hp).1, (N p hp).2⟩
  · rw [List.mem_singleton.mp hp]
    exact ⟨Heap.get?_push_size _ rfl, Nat.ne_of_gt F.ns.lt, Heap.get?_none_of_le (Nat.le_trans F.above (Nat.le_of_lt F.ns.lt))⟩
set_option maxHeartbeats 4000000 in
theorem lawread (w : World) (number hue depth hand off : Nat) (sg : Str) (t1 t2 t3 t4 t5 : Tok) (h1 : hue < 16) (h3 : 1 ≤ depth) (h4 : depth ≤ 3) (hnum : number < 2 ^ 30) (hhand : hand < 3) (hoff : off < 3) (hsl : (sg.length : Int) = 3) (hsi : ∀ k : Nat, k < 3 → Txt.item sg (k : Int) = sgn (off + k))
   (p1 p2 : Array Value) (c1 c2 : Addr) (o1 o2 : Obj)
   (hS1 : TabS "_int2digits.<locals>.inner" 32 4 30 p1 c1 o1) (hS2 : TabS "_digits2int.<locals>.inner" 47 4 37 p2 c2 o2) :
    ConG w 117 [.int number t1, .int hue t2, .int depth t3, .int hand t4, .str sg t5] 110 3000 [(30, tabObj p1), (c1, o1), (37, tabObj p2), (c2, o2)] (fun h => CodeHd h 34 30 ∧ CodeHd h 41 37)
      (fun h r mu' _ => ReadOut depth hand off number hue [30, c1, 37, c2] h r mu') := by
  unfold ConG
  k_fill
  intro p loose mean mg mb dp un gd cn cs a ccd cl outer A₀ base h₀ L m s Q E B F X N T hkf hP hd hu hret
  obtain ⟨hC1, hC2⟩ := hP
  refine wpAny_call ?_
  k_dflt ktr_enter
  rename Ext _ _ _ => HG
  k_steps
  unfold Stop
  refine wpAny_For ?_
  k_steps
  unfold Stop
  rename IsRange _ _ _ _ _ _ _ _ => hr
  rename Fr _ _ _ _ => F3
  rename News _ _ _ _ => N3
  rename Top _ _ _ _ _ _ => T3
  rename Frag.In _ _ => X3
  rename Below _ _ _ _ => B3
  refine wpAny_pyIter_range hr (by decide) ?_
  have F4 := fr_norm7 (F3.push (rit 0 6)) rfl rfl rfl rfl rfl rfl rfl
  have N4 := news_rit N3 F3
  have hC1' : CodeHd _ 34 30 := codeHd_ext hC1 HG (old_away (X 34 _ (by k_is)) N)
  have hC2' : CodeHd _ 41 37 := codeHd_ext hC2 HG (old_away (X 41 _ (by k_is)) N)
  clear N3 F3 hr
  dsimp only [List.cons_append, List.nil_append] at N4
  refine read_loop w number hue depth hand off sg t1 t2 t3 t4 t5 _ h1 h3 h4 hnum hhand hoff hsl hsi _ _ _ p1 p2 c1 c2 o1 o2 hS1 hS2 p loose mean mg mb _ _ _ _ _ _ _ _ _ _ B3 F4 X3 hC1' hC2' N4 T3 (by ktr_room) (by ktr_units) ?_
  intro h7 tk7 gs7 ks kv j n' hue' x1 x2 x3 p1' p2' c1' c2' o1' o2' u' hgs hks hkv hrun hS1' hS2' F7 N7
  clear F4 N4
  dsimp only
  k_steps
  rename News _ _ _ _ => NF
  refine hret _ _ _ gs7 _ hgs (by k_asm) NF (ext_fr HG (by k_asm)) (.mk _ _ kv ks n' hue' _ j _ _ p1' c1' o1' p2' c2' o2' hkv hrun hks hS1' hS2' ?_ ?_)
  · clear NF
    k_dflt exact fresh_but HG (News.fresh (by k_asm) (by k_mem))
  · clear NF
    k_dflt exact fresh_but HG (News.fresh (by k_asm) (by k_mem))
end Mine
namespace Mine
/-- the steps laid by: each a pair of the shares' list and the kind; their hue and kind beside -/
inductive SA (depth : Nat) (news : List (Addr × Obj)) : List Value → List (Nat × Nat) → Prop
  | nil : SA depth news [] []
  | cons {D S : Addr} {jS jT h k : Nat} {x ta tb tc : Tok} {vs : List Value} {l : List (Nat × Nat)} : (D, { cls := .type "tuple", data := .seq #[Value.ref S, Value.int (k : Int) x] jT }) ∈ news →
      (S, listOf #[Value.int (shr h depth 0) ta, Value.int (shr h depth 16) tb, Value.int (shr h depth 32) tc] jS) ∈ news → SA depth news vs l → SA depth news (.ref D :: vs) ((h, k) :: l)
theorem SA.mono {depth : Nat} {a b : List (Addr × Obj)} {vs : List Value} {l : List (Nat × Nat)} (h : SA depth a vs l) (hs : ∀ p ∈ a, p ∈ b) : SA depth b vs l := by
  induction h with
  | nil => exact .nil
  | cons m1 m2 _ ih => exact .cons (hs _ m1) (hs _ m2) ih
theorem SA.append {depth : Nat} {a : List (Addr × Obj)} {vs ws : List Value} {l r : List (Nat × Nat)} (h : SA depth a vs l) (g : SA depth a ws r) : SA depth a (vs ++ ws) (l ++ r) := by
  induction h with
  | nil => exact g
  | cons m1 m2 _ ih => exact .cons m1 m2 ih
theorem SA.rev {depth : Nat} {a : List (Addr × Obj)} {vs : List Value} {l : List (Nat × Nat)} (h : SA depth a vs l) : SA depth a vs.reverse l.reverse := by
  induction h with
  | nil => exact .nil
  | cons m1 m2 _ ih => rw [List.reverse_cons, List.reverse_cons]; exact ih.append (.cons m1 m2 .nil)
theorem SA.len {depth : Nat} {a : List (Addr × Obj)} {vs : List Value} {l : List (Nat × Nat)} (h : SA depth a vs l) : vs.length = l.length := by
  induction h with
  | nil => rfl
  | cons _ _ _ ih => rw [List.length_cons, List.length_cons, ih]
theorem SA.get {depth : Nat} {a : List (Addr × Obj)} {vs : List Value} {l : List (Nat × Nat)} (g : SA depth a vs l) : ∀ (i : Nat) (hi : i < l.length), ∃ (D S : Addr) (jS jT : Nat) (x ta tb tc : Tok), vs[i]? = some (.ref D) ∧
    (D, { cls := .type "tuple", data := .seq #[Value.ref S, Value.int (l[i].2 : Int) x] jT }) ∈ a ∧ (S, listOf #[Value.int (shr l[i].1 depth 0) ta, Value.int (shr l[i].1 depth 16) tb, Value.int (shr l[i].1 depth 32) tc] jS) ∈ a := by
  induction g with
  | nil => intro i hi; exact absurd hi (Nat.not_lt_zero _)
  | cons m1 m2 _ ih =>
    intro i hi
    cases i with
    | zero => exact ⟨_, _, _, _, _, _, _, _, rfl, m1, m2⟩
    | succ i => exact ih i (Nat.lt_of_succ_lt_succ hi)
/-- the hue behind a row of kinds, and the hue each kind was told at -/
noncomputable def hueAt (hand off : Nat) : Nat → List Nat → Nat
  | h, [] => h
  | h, k :: ks => hueAt hand off ((h + (wrt hand (off + k)).length) % 16) ks
noncomputable def path (hand off : Nat) : Nat → List Nat → List (Nat × Nat)
  | _, [] => []
  | h, k :: ks => (h, k) :: path hand off ((h + (wrt hand (off + k)).length) % 16) ks
theorem path_snoc (hand off : Nat) : ∀ (ks : List Nat) (h k : Nat), path hand off h (ks ++ [k]) = path hand off h ks ++ [(hueAt hand off h ks, k)]
  | [], _, _ => rfl
  | a :: ks, h, k => by
    show (h, a) :: path hand off _ (ks ++ [k]) = (h, a) :: (path hand off _ ks ++ [(hueAt hand off _ ks, k)])
    rw [path_snoc hand off ks _ k]
theorem hueAt_snoc (hand off : Nat) : ∀ (ks : List Nat) (h k : Nat), hueAt hand off h (ks ++ [k]) = (hueAt hand off h ks + (wrt hand (off + k)).length) % 16
  | [], _, _ => rfl
  | a :: ks, h, k => hueAt_snoc hand off ks _ k
theorem hueAt_lt (hand off : Nat) : ∀ (ks : List Nat) (h : Nat), h < 16 → hueAt hand off h ks < 16
  | [], _, hh => hh
  | _ :: ks, _, _ => hueAt_lt hand off ks _ (Nat.mod_lt _ (by decide))
theorem path_len (hand off : Nat) : ∀ (ks : List Nat) (h : Nat), (path hand off h ks).length = ks.length
  | [], _ => rfl
  | _ :: ks, _ => congrArg (· + 1) (path_len hand off ks _)
theorem path_ok (hand off : Nat) : ∀ (ks : List Nat) (h : Nat), h < 16 → (∀ k ∈ ks, k < 3) → ∀ e ∈ path hand off h ks, e.1 < 16 ∧ e.2 < 3
  | [], _, _, _, _, he => nomatch he
  | k :: ks, h, hh, hk, e, he => by
    rcases List.mem_cons.mp he with rfl | he
    · exact ⟨hh, hk k (.head _)⟩
    · exact path_ok hand off ks _ (Nat.mod_lt _ (by decide)) (fun k hk' => hk k (.tail _ hk')) e he
/-- one sign laid in, in plain words -/
def enc (depth : Nat) (e : Nat × Nat) (n : Int) : Int := n / nthS e.1 depth e.2 * tot e.1 depth + preS e.1 depth e.2 + n % nthS e.1 depth e.2
theorem enc_bd {depth : Nat} {e : Nat × Nat} {n : Int} (h1 : e.1 < 16) (h3 : 1 ≤ depth) (h4 : depth ≤ 3) (hn : 0 ≤ n) : 0 ≤ enc depth e n ∧ enc depth e n + 8 ≤ 9 * (n + 8) := by
  obtain ⟨b1, b2, b3, b4, b5, b6⟩ := nthS_bd (k := e.2) h1 h3 h4
  have s := shr_sum h1 h3 h4
  have hb : tot e.1 depth ≤ 9 * nthS e.1 depth e.2 ∧ preS e.1 depth e.2 ≤ 64 := by
    obtain ⟨h, k⟩ := e
    unfold tot
    dsimp only at s ⊢
    rcases k with _ | _ | k
    · show _ ≤ 9 * shr h depth 0 ∧ (0 : Int) ≤ 64
      omega
    · show _ ≤ 9 * shr h depth 16 ∧ shr h depth 0 ≤ 64
      omega
    · show _ ≤ 9 * shr h depth 32 ∧ shr h depth 0 + shr h depth 16 ≤ 64
      omega
  have q0 : 0 ≤ n / nthS e.1 depth e.2 := Int.ediv_nonneg hn (by omega)
  have r0 : 0 ≤ n % nthS e.1 depth e.2 := Int.emod_nonneg _ (by omega)
  have eq := Int.mul_ediv_add_emod n (nthS e.1 depth e.2)
  have m0 : 0 ≤ n / nthS e.1 depth e.2 * tot e.1 depth := Int.mul_nonneg q0 (by omega)
  have m1 : n / nthS e.1 depth e.2 * tot e.1 depth ≤ n / nthS e.1 depth e.2 * (9 * nthS e.1 depth e.2) := Int.mul_le_mul_of_nonneg_left hb.1 q0
  have m2 : n / nthS e.1 depth e.2 * (9 * nthS e.1 depth e.2) = 9 * (nthS e.1 depth e.2 * (n / nthS e.1 depth e.2)) := by
    rw [Int.mul_comm, Int.mul_assoc]
  unfold enc
  omega
/-- a row of signs laid in, the last one first -/
def laid (depth : Nat) (l : List (Nat × Nat)) (n : Int) : Int := l.foldr (enc depth) n
theorem laid_bd {depth : Nat} (h3 : 1 ≤ depth) (h4 : depth ≤ 3) : ∀ {l : List (Nat × Nat)} {n : Int}, (∀ e ∈ l, e.1 < 16 ∧ e.2 < 3) → 0 ≤ n → 0 ≤ laid depth l n ∧ laid depth l n + 8 ≤ 9 ^ l.length * (n + 8)
  | [], n, _, hn => ⟨hn, by show n + 8 ≤ 1 * (n + 8); omega⟩
  | e :: l, n, hl, hn => by
    obtain ⟨a, b⟩ := laid_bd h3 h4 (l := l) (fun x hx => hl x (.tail _ hx)) hn
    obtain ⟨c, d⟩ := enc_bd (hl e (.head _)).1 h3 h4 a
    refine ⟨c, ?_⟩
    show enc depth e (laid depth l n) + 8 ≤ 9 ^ (l.length + 1) * (n + 8)
    have p : (9 : Int) ^ (l.length + 1) * (n + 8) = 9 * (9 ^ l.length * (n + 8)) := by
      rw [Int.pow_succ, Int.mul_comm (9 ^ l.length) 9, Int.mul_assoc]
    rw [p]
    omega
end Mine
namespace Mine
theorem rs_L1 : True := by
  w_top off
  exact trivial
local macro_rules | `(tactic| walk_at "call ref") => `(tactic| (refine stop_intro ?_))
local macro_rules | `(tactic| walk_at "call builtin:list.append") => `(tactic| (refine stop_intro ?_))
noncomputable def ldef : Stmt := match PySem.Challenge.pw_wb0062_01.main.body with
  | _ :: _ :: _ :: _ :: _ :: _ :: _ :: _ :: _ :: _ :: _ :: _ :: _ :: _ :: _ :: _ :: _ :: _ :: _ :: _ :: _ :: _ :: _ :: g :: _ => g
  | _ => .Pass default
noncomputable abbrev lfor1 : Stmt := secondOf (bodyOf ldef)
noncomputable abbrev lfor2 : Stmt := thirdOf (bodyOf ldef)
theorem fr_norm6 {h₀ h : Heap} {L : Addr} {m : Str → Option Value} {v1 v2 v3 v4 v5 v6 : Value} (F : Fr h₀ L h m) (h1 : m "steps" = some v1) (h2 : m "hue" = some v2) (h3 : m "depth" = some v3) (h4 : m "hand" = some v4) (h5 : m "signs" = some v5) (h6 : m "number" = some v6) :
    Fr h₀ L h (fun y => if y = "steps" then some v1 else if y = "hue" then some v2 else if y = "depth" then some v3 else if y = "hand" then some v4 else if y = "signs" then some v5 else if y = "number" then some v6 else m y) := by
  refine fr_same F fun y => ?_
  by_cases k1 : y = "steps"
  · rw [if_pos k1, k1, h1]
  by_cases k2 : y = "hue"
  · rw [if_neg k1, if_pos k2, k2, h2]
  by_cases k3 : y = "depth"
  · rw [if_neg k1, if_neg k2, if_pos k3, k3, h3]
  by_cases k4 : y = "hand"
  · rw [if_neg k1, if_neg k2, if_neg k3, if_pos k4, k4, h4]
  by_cases k5 : y = "signs"
  · rw [if_neg k1, if_neg k2, if_neg k3, if_neg k4, if_pos k5, k5, h5]
  by_cases k6 : y = "number"
  · rw [if_neg k1, if_neg k2, if_neg k3, if_neg k4, if_neg k5, if_pos k6, k6, h6]
  rw [if_neg k1, if_neg k2, if_neg k3, if_neg k4, if_neg k5, if_neg k6]
theorem allLt_get {d : Addr} {l : List (Addr × Obj)} : AllLt d l → ∀ p ∈ l, @LT.lt Nat _ p.1 d := by
  induction l with
  | nil => intro _ p hp; exact absurd hp List.not_mem_nil
  | cons q r ih =>
    intro h p hp
    rcases List.mem_cons.mp hp with rfl | hp
    · exact h.1
    · exact ih h.2 p hp
set_option maxHeartbeats 4000000 in
theorem lturn1 (w : World) (hue depth hand off k : Nat) (sg : Str) (t0 t1 t2 t3 t4 : Tok) (nv : Value) (j : Nat) (ST : Addr) (sv : List Value) (news : List (Addr × Obj)) (u : Str → Option Value)
   (hk3 : k < 3) (h1 : hue < 16) (h3 : 1 ≤ depth) (h4 : depth ≤ 3) (hhand : hand < 3) (hoff : off < 3) (hsv : sv.length ≤ 6) (hn : ∀ p ∈ news, p.1 ≠ ST) (hsl : (sg.length : Int) = 3) (hsi : Txt.item sg (k : Int) = sgn (off + k))
    (p : Program) (loose : List Str) (mean : ExcName → Option Value) (mg mb : Str → Option Value)
    (dp un : Nat) (gd : Option (List Code)) (outer : List Env) (A₀ : Around) (base h₀ : Heap) (L : Addr) (s : Shared)
    (Q : Flow → Shared → Prop) (E : Value → Shared → Prop)
    (B : Below A₀ base outer h₀) (F : Fr h₀ L s.heap (fun y => if y = "kind" then some (.int k t0) else if y = "steps" then some (.ref ST) else if y = "hue" then some (.int hue t1) else if y = "depth" then some (.int depth t2) else if y = "hand" then some (.int hand t3) else if y = "signs" then some (.str sg t4) else if y = "number" then some nv else u y))
    (X : Frag.In (Mine.hd.heap_1 w.params) h₀) (N : News h₀ L s.heap ((ST, listOf sv.toArray j) :: news)) (T : Top p loose mean mg mb h₀) (hd : dp + 50 < recursionLimit) (hu : un + 500 < cLine)
    (hQ : ∀ (h' : Heap) (tk' : Nat) (D S : Addr) (jS jT : Nat) (x1 x0 ta tb tc : Tok) (u' : Str → Option Value), (∀ p ∈ ((ST, listOf (sv ++ [Value.ref D]).toArray (j + 1)) :: news), p.1 ≠ D ∧ p.1 ≠ S) →
      Fr h₀ L h' (fun y : Str => if y = "steps" then some (Value.ref ST) else if y = "hue" then some (Value.int (((hue + (wrt hand (off + k)).length) % 16 : Nat) : Int) x1) else if y = "depth" then some (Value.int depth t2) else if y = "hand" then some (Value.int hand t3) else if y = "signs" then some (Value.str sg t4) else if y = "number" then some nv else u' y) →
      News h₀ L h' ((D, { cls := .type "tuple", data := .seq #[Value.ref S, Value.int (k : Int) x0] jT }) :: (S, listOf #[Value.int (shr hue depth 0) ta, Value.int (shr hue depth 16) tb, Value.int (shr hue depth 32) tc] jS) :: (ST, listOf (sv ++ [Value.ref D]).toArray (j + 1)) :: news) → Q .next { s with heap := h', toks := tk' }) :
    wpAny (model PySem.Challenge.rw_wb0062_01.row.prog w) (ktrTop dp un gd "_law_laid" (scopeOf default ldef) L 131 (.ref 130) [] outer) (execs (loopOf lfor1) (envOf "_law_laid" (scopeOf default ldef) L 131 (.ref 130))) Q E s := by
  dsimp only [lfor1, secondOf, bodyOf, ldef, loopOf, scopeOf, PySem.Challenge.pw_wb0062_01] at F ⊢
  revert X
  k_fill
  intro X
  k_steps
  unfold Stop
  rename Fr _ _ _ _ => F3
  k_dflt (refine' con_use (shares w hue depth _ _ h1 h3 h4) ?k1 ?k2 ?k3 ?k4 ?k5 ?kK ?kP ?kd ?ku ?_; (case k1 => k_asm); (case k2 => k_asm); (case k3 => k_asm); (case k4 => exact News.nil); (case k5 => k_asm); (case kK => exact rfl); (case kP => trivial); (case kd => ktr_room); (case ku => ktr_units))
  intro r9 h9 tk9 mu9 F9 N9 X9 O9
  obtain ⟨S, a, b, c, jS, rfl, rfl, hf9⟩ := O9
  have hSS : S ≠ ST := fun e => by
    have := (N _ (List.Mem.head _)).1
    rw [← e, hf9] at this; cases this
  have hNS : ∀ p ∈ news, p.1 ≠ S := fun p hp e => by
    have := (N p (List.mem_cons_of_mem _ hp)).1
    rw [e, hf9] at this; cases this
  have N4 := news_all N X9 N9
  simp only [List.cons_append, List.nil_append] at N4
  clear N9 N X9 F3
  (try dsimp only)
  k_steps
  unfold Stop
  rename Fr _ _ _ _ => F5
  rename News _ _ _ _ => N5
  rename _ ∧ _ => l1
  refine append_K F5 N5 (Upd.tail (Nat.ne_of_gt l1.2.1) (Upd.tail hSS (Upd.head hn))) (fun h6 F6 N6 => ?_) (by rw [sizeLine_eq]; simp; omega)
  rw [List.push_toArray] at N6
  clear F5 N5
  rename Addr => D
  have hap : ∀ p ∈ ((ST, listOf (sv ++ [Value.ref D]).toArray (j + 1)) :: news), p.1 ≠ D ∧ p.1 ≠ S := fun p hp => by
    rcases List.mem_cons.mp hp with rfl | hp
    · exact ⟨Nat.ne_of_lt l1.2.1, Ne.symm hSS⟩
    · exact ⟨Nat.ne_of_lt (allLt_get l1.2.2 p hp), hNS p hp⟩
  (try dsimp only)
  k_steps
  all_goals try (exfalso; omega)
  unfold Stop
  rename Fr _ _ _ _ => F7
  rename News _ _ _ _ => N7
  rw [hsi]
  k_dflt (refine' con_use (spelled w hand (off + k) _ _ hhand (by omega)) ?k1 ?k2 ?k3 ?k4 ?k5 ?kK ?kP ?kd ?ku ?_; (case k1 => k_asm); (case k2 => k_asm); (case k3 => k_asm); (case k4 => exact News.nil); (case k5 => k_asm); (case kK => exact rfl); (case kP => trivial); (case kd => ktr_room); (case ku => ktr_units))
  intro r9 h9 tk9 mu9 F9 N9 X9 O9
  obtain ⟨⟨tw, rfl⟩, rfl⟩ := O9
  have N8 := news_all N7 X9 N9
  simp only [List.nil_append] at N8
  clear N9 N7 X9 F7
  have hw := wrt_len hand (off + k)
  (try dsimp only)
  k_steps
  rename Fr _ _ _ _ => F8
  rename News _ _ _ _ => N8
  refine hQ _ _ _ _ _ _ _ _ _ _ _ _ hap (fr_norm6 F8 rfl (congrArg (fun z => some (Value.int z _)) (hue_cast hue _)) rfl rfl rfl rfl) N8
end Mine
namespace Mine
set_option maxHeartbeats 4000000 in
theorem laid_loop1 (w : World) (hue depth hand off : Nat) (sg : Str) (t1 t2 t3 t4 : Tok) (nv : Value) (ST IT KD : Addr) (oI : Obj) (kv : List Value) (ks : List Nat) (u : Str → Option Value)
   (hkv : IntsAre kv (ks.map Int.ofNat)) (hks : ks.length = 6) (hk3 : ∀ k ∈ ks, k < 3) (h1 : hue < 16) (h3 : 1 ≤ depth) (h4 : depth ≤ 3) (hhand : hand < 3) (hoff : off < 3) (hsl : (sg.length : Int) = 3) (hsi : ∀ k : Nat, k < 3 → Txt.item sg (k : Int) = sgn (off + k))
    (p : Program) (loose : List Str) (mean : ExcName → Option Value) (mg mb : Str → Option Value)
    (dp un : Nat) (gd : Option (List Code)) (outer : List Env) (A₀ : Around) (base h₀ : Heap) (L : Addr) (s : Shared)
    (R : Result → Shared → Prop)
    (B : Below A₀ base outer h₀) (F : Fr h₀ L s.heap (fun y => if y = "steps" then some (.ref ST) else if y = "hue" then some (.int hue t1) else if y = "depth" then some (.int depth t2) else if y = "hand" then some (.int hand t3) else if y = "signs" then some (.str sg t4) else if y = "number" then some nv else u y))
    (X : Frag.In (Mine.hd.heap_1 w.params) h₀) (hKD : h₀.IsList KD kv.toArray) (N : News h₀ L s.heap [(ST, listOf #[] 0), (IT, oI)]) (hSI : ST ≠ IT) (hit : s.heap.IsListIter IT KD 0) (T : Top p loose mean mg mb h₀) (hd : dp + 50 < recursionLimit) (hu : un + 500 < cLine)
    (hR : ∀ (h' : Heap) (tk' : Nat) (sv : List Value) (sn : List (Addr × Obj)) (j : Nat) (x1 : Tok) (u' : Str → Option Value), SA depth sn sv (path hand off hue ks) → (∀ p ∈ sn, p.1 ≠ ST) →
      Fr h₀ L h' (fun y : Str => if y = "steps" then some (Value.ref ST) else if y = "hue" then some (Value.int (hueAt hand off hue ks : Int) x1) else if y = "depth" then some (Value.int depth t2) else if y = "hand" then some (Value.int hand t3) else if y = "signs" then some (Value.str sg t4) else if y = "number" then some nv else u' y) →
      News h₀ L h' ((ST, listOf sv.toArray j) :: sn) → R (.ok .next) { s with heap := h', toks := tk' }) :
    codeAny (model PySem.Challenge.rw_wb0062_01.row.prog w) (ktrTop dp un gd "_law_laid" (scopeOf default ldef) L 131 (.ref 130) [] outer) (.forLoop (targetOf lfor1) (.ref IT) (loopOf lfor1) [] (envOf "_law_laid" (scopeOf default ldef) L 131 (.ref 130))) R s := by
  have hIL : IT ≠ L ∧ h₀.get? IT = none := (N (IT, oI) (List.Mem.tail _ (List.Mem.head _))).2
  refine codeAny_forLoop (fun n s' => ∃ (i : Nat) (h : Heap) (tk : Nat) (sv : List Value) (sn : List (Addr × Obj)) (j : Nat) (x1 : Tok) (u' : Str → Option Value),
      i ≤ 6 ∧ n = 6 - i ∧ s' = { s with heap := h, toks := tk } ∧ SA depth sn sv (path hand off hue (ks.take i)) ∧ (∀ p ∈ sn, p.1 ≠ ST ∧ p.1 ≠ IT) ∧ h.IsListIter IT KD i ∧
      Fr h₀ L h (fun y : Str => if y = "steps" then some (Value.ref ST) else if y = "hue" then some (Value.int (hueAt hand off hue (ks.take i) : Int) x1) else if y = "depth" then some (Value.int depth t2) else if y = "hand" then some (Value.int hand t3) else if y = "signs" then some (Value.str sg t4) else if y = "number" then some nv else u' y) ∧
      News h₀ L h ((ST, listOf sv.toArray j) :: sn)) ?turn 6 ⟨0, _, _, [], [], 0, t1, u, Nat.zero_le _, rfl, rfl, .nil, (fun _ h => nomatch h), hit, F, fun p hp => (List.mem_singleton.mp hp) ▸ N _ (List.Mem.head _)⟩ (fun _ => rfl)
  rintro n s' ⟨i, h, tk, sv, sn, j, x1, u', hi, rfl, rfl, hsa, hsn, hit', F', N'⟩
  have hI0 : ∀ b o, h₀.get? b = some o → b ≠ IT := fun b o e q => by have := hIL.2; rw [← q, e] at this; cases this
  have hl : h.IsList KD kv.toArray := hKD.at fun o e => F'.keep _ o e
  have hlen := hkv.length
  rw [List.length_map, hks] at hlen
  by_cases hlt : i < 6
  · have hik : i < ks.length := by omega
    obtain ⟨t, hx⟩ := hkv.get i (Int.ofNat ks[i]) (by rw [List.getElem?_map, List.getElem?_eq_getElem hik]; rfl)
    refine wpAny_pyNext_list_item hit' hl (by simpa using hx) (fun h5 hit5 hs5 => ?_)
    have F5 : Fr h₀ L h5 _ := ⟨F'.ns.sameBut hs5 (Ne.symm hIL.1), fun b o e => (hs5.2 b (hI0 b o e)).trans (F'.keep b o e), F'.above⟩
    have hne : ∀ p ∈ ((ST, listOf sv.toArray j) :: sn), p.1 ≠ IT := fun p hp => by
      rcases List.mem_cons.mp hp with rfl | hp
      · exact hSI
      · exact (hsn p hp).2
    have N5 : News h₀ L h5 ((ST, listOf sv.toArray j) :: sn) := fun p hp => ⟨(hs5.2 _ (hne p hp)).trans (N' p hp).1, (N' p hp).2⟩
    dsimp only
    refine wpAny_assign_Name (wpAny_storeName_local rfl F5.ns (fun h6 hn6 hs6 => ?_) (by rfl))
    have F6 := F5.set hn6 hs6
    have N6 := N5.set hs6
    obtain ⟨oJ, eJ, cJ, dJ⟩ := hit5.extBut hs6.extBut hIL.1
    have N7 : News h₀ L h6 ((ST, listOf sv.toArray j) :: (IT, oJ) :: sn) := fun p hp => by
      rcases List.mem_cons.mp hp with rfl | hp
      · exact N6 _ (List.Mem.head _)
      · rcases List.mem_cons.mp hp with rfl | hp
        · exact ⟨eJ, hIL⟩
        · exact N6 _ (List.Mem.tail _ hp)
    refine lturn1 w (hueAt hand off hue (ks.take i)) depth hand off ks[i] sg _ _ _ _ _ nv j ST sv ((IT, oJ) :: sn) _ (hk3 _ (List.getElem_mem _)) (hueAt_lt hand off _ _ h1) h3 h4 hhand hoff (by rw [hsa.len, path_len, List.length_take]; omega) ?hap hsl (hsi _ (hk3 _ (List.getElem_mem _))) p loose mean mg mb dp un gd outer A₀ base h₀ L _ _ _ B F6 X N7 T hd hu ?_
    case hap =>
      intro p hp
      rcases List.mem_cons.mp hp with rfl | hp
      · exact Ne.symm hSI
      · exact (hsn p hp).1
    intro h8 tk8 D S jS jT y1 y0 ta tb tc u8 hap F8 N8
    have etk : ks.take (i + 1) = ks.take i ++ [ks[i]] := (List.take_append_getElem hik).symm
    refine ⟨6 - (i + 1), by omega, i + 1, h8, tk8, sv ++ [.ref D], (D, { cls := .type "tuple", data := .seq #[Value.ref S, Value.int (ks[i] : Int) y0] jT }) :: (S, listOf #[Value.int (shr (hueAt hand off hue (ks.take i)) depth 0) ta, Value.int (shr (hueAt hand off hue (ks.take i)) depth 16) tb, Value.int (shr (hueAt hand off hue (ks.take i)) depth 32) tc] jS) :: sn, j + 1, y1, u8, by omega, rfl, rfl, ?_, ?_, ⟨oJ, ?_, cJ, dJ⟩, ?_, ?_⟩
    · rw [etk, path_snoc]
      exact (hsa.mono fun p hp => List.Mem.tail _ (List.Mem.tail _ hp)).append (.cons (List.Mem.head _) (List.Mem.tail _ (List.Mem.head _)) .nil)
    · have a1 := hap _ (List.Mem.head _)
      have a2 := hap _ (List.Mem.tail _ (List.Mem.head _))
      intro p hp
      rcases List.mem_cons.mp hp with rfl | hp
      · exact ⟨Ne.symm a1.1, Ne.symm a2.1⟩
      · rcases List.mem_cons.mp hp with rfl | hp
        · exact ⟨Ne.symm a1.2, Ne.symm a2.2⟩
        · exact hsn p hp
    · exact (N8 (IT, oJ) (List.Mem.tail _ (List.Mem.tail _ (List.Mem.tail _ (List.Mem.head _))))).1
    · rw [etk, hueAt_snoc]; exact F8
    · intro p hp
      rcases List.mem_cons.mp hp with rfl | hp
      · exact N8 _ (List.Mem.tail _ (List.Mem.tail _ (List.Mem.head _)))
      · rcases List.mem_cons.mp hp with rfl | hp
        · exact N8 _ (List.Mem.head _)
        · rcases List.mem_cons.mp hp with rfl | hp
          · exact N8 _ (List.Mem.tail _ (List.Mem.head _))
          · exact N8 _ (List.Mem.tail _ (List.Mem.tail _ (List.Mem.tail _ (List.Mem.tail _ hp))))
  · have hi6 : i = 6 := by omega
    subst hi6
    have etk : ks.take 6 = ks := List.take_of_length_le (by omega)
    rw [etk] at hsa F'
    refine wpAny_pyNext_list_end rfl hit' hl (by simp; omega) (fun h5 hx5 => ?_)
    have F5 : Fr h₀ L h5 _ := ⟨F'.ns.extBut hx5 (Ne.symm hIL.1), fun b o e => hx5 b o (hI0 b o e) (F'.keep b o e), F'.above⟩
    have N5 : News h₀ L h5 ((ST, listOf sv.toArray j) :: sn) := fun p hp => by
      refine ⟨hx5 _ _ ?_ (N' p hp).1, (N' p hp).2⟩
      rcases List.mem_cons.mp hp with rfl | hp
      · exact hSI
      · exact (hsn p hp).2
    dsimp only
    refine wpAny_execs_nil ?_
    exact hR h5 _ sv sn j x1 u' hsa (fun p hp => (hsn p hp).1) F5 N5
end Mine
namespace Mine
local macro_rules | `(tactic| walk_at "none of the walk's keys") => `(tactic| fail)
theorem rs_L3 : True := by
  w_top off
  exact trivial
theorem gd0 (a b c : Int) : [a, b, c].getD (Int.toNat 0) 0 = a := rfl
theorem gd1 (a b c : Int) : [a, b, c].getD (Int.toNat 1) 0 = b := rfl
theorem gd2 (a b c : Int) : [a, b, c].getD (Int.toNat 2) 0 = c := rfl
local macro_rules | `(tactic| walk_at "binaryOp FloorDiv int int") => `(tactic| (simp only [gd0, gd1, gd2]))
local macro_rules | `(tactic| walk_at "binaryOp Mod int int") => `(tactic| (simp only [gd0, gd1, gd2]))
theorem fr_num {h₀ h : Heap} {L : Addr} {V V' : Int} {t : Tok} {u' : Str → Option Value} (F : Fr h₀ L h (fun y : Str => if y = "number" then some (Value.int V t) else u' y)) (e : V = V') : Fr h₀ L h (fun y : Str => if y = "number" then some (Value.int V' t) else u' y) := e ▸ F
theorem encf {n d t p t' p' : Int} (hd : 0 ≤ d) (ht : t' = t) (hp : p' = p) : n.fdiv d * t' + p' + n.fmod d = n / d * t + p + n % d := by
  rw [Int.fdiv_eq_ediv_of_nonneg n hd, Int.fmod_eq_emod_of_nonneg n hd, ht, hp]
set_option maxHeartbeats 4000000 in
theorem lturn2 (w : World) (n a b c kI : Int) (k : Nat) (hk : kI = 0 ∧ k = 0 ∨ kI = 1 ∧ k = 1 ∨ kI = 2 ∧ k = 2) (t0 t1 t2 ta tb tc : Tok) (jS jT : Nat) (D S : Addr) (news : List (Addr × Obj)) (u : Str → Option Value)
   (ha : 8 ≤ a ∧ a ≤ 32) (hb : 8 ≤ b ∧ b ≤ 32) (hc : 8 ≤ c ∧ c ≤ 32) (hn0 : 0 ≤ n) (hn1 : n < 1152921504606846976)
    (p : Program) (loose : List Str) (mean : ExcName → Option Value) (mg mb : Str → Option Value)
    (dp un : Nat) (gd : Option (List Code)) (outer : List Env) (A₀ : Around) (base h₀ : Heap) (L : Addr) (s : Shared)
    (Q : Flow → Shared → Prop) (E E' : Value → Shared → Prop)
    (B : Below A₀ base outer h₀) (F : Fr h₀ L s.heap (fun y => if y = "number" then some (.int n t1) else u y))
    (X : Frag.In (Mine.hd.heap_1 w.params) h₀) (N : News h₀ L s.heap ((D, { cls := .type "tuple", data := .seq #[Value.ref S, Value.int kI t0] jT }) :: (S, listOf #[.int a ta, .int b tb, .int c tc] jS) :: news)) (T : Top p loose mean mg mb h₀) (hd : dp + 50 < recursionLimit) (hu : un + 500 < cLine)
    (hQ : ∀ (h' : Heap) (tk' : Nat) (x1 : Tok) (u' : Str → Option Value), Fr h₀ L h' (fun y : Str => if y = "number" then some (Value.int (n / nth3 a b c k * (a + b + c) + pre3 a b k + n % nth3 a b c k) x1) else u' y) →
      News h₀ L h' ((D, { cls := .type "tuple", data := .seq #[Value.ref S, Value.int kI t0] jT }) :: (S, listOf #[.int a ta, .int b tb, .int c tc] jS) :: news) → Q .next { s with heap := h', toks := tk' }) :
    wpAny (model PySem.Challenge.rw_wb0062_01.row.prog w) (ktrTop dp un gd "_law_laid" (scopeOf default ldef) L 131 (.ref 130) [] outer) (assign (targetOf lfor2) (envOf "_law_laid" (scopeOf default ldef) L 131 (.ref 130)) (.ref D))
      (fun _ s₂ => wpAny (model PySem.Challenge.rw_wb0062_01.row.prog w) (ktrTop dp un gd "_law_laid" (scopeOf default ldef) L 131 (.ref 130) [] outer) (execs (loopOf lfor2) (envOf "_law_laid" (scopeOf default ldef) L 131 (.ref 130))) Q E' s₂) E s := by
  dsimp only [lfor2, thirdOf, bodyOf, ldef, loopOf, targetOf, scopeOf, PySem.Challenge.pw_wb0062_01] at F ⊢
  revert X
  k_fill
  intro X
  rcases hk with ⟨rfl, rfl⟩ | ⟨rfl, rfl⟩ | ⟨rfl, rfl⟩
  · k_steps
    rename Fr _ _ _ _ => F8
    rename News _ _ _ _ => N8
    exact hQ _ _ _ _ (fr_num F8 (encf (p := 0) (by omega) (by omega) (by omega))) (fun p hp => N8 p (List.Mem.tail _ hp))
  · k_steps
    rename Fr _ _ _ _ => F8
    rename News _ _ _ _ => N8
    exact hQ _ _ _ _ (fr_num F8 (encf (p := a) (by omega) (by omega) (by omega))) (fun p hp => N8 p (List.Mem.tail _ hp))
  · k_steps
    rename Fr _ _ _ _ => F8
    rename News _ _ _ _ => N8
    exact hQ _ _ _ _ (fr_num F8 (encf (p := a + b) (by omega) (by omega) (by omega))) (fun p hp => N8 p (List.Mem.tail _ hp))
end Mine
namespace Mine
theorem lot_list {M : Model} {A : Around} {E : Value → Shared → Prop} {Q : Unit → Shared → Prop} {s : Shared} {elts : List Expr} {k : Nat} {pos : Pos} {it ax a : Addr} {i : Nat} (hit : s.heap.IsListIter it ax i) (h : Q () s) :
    wpAny M A (letOwnedTupleGo (.Tuple elts k pos) (.ref it) (.ref a)) Q E s := by
  obtain ⟨⟨cls, dict, data, slots⟩, ho, hc, hd⟩ := hit
  dsimp only at hc hd
  subst hc hd
  unfold letOwnedTupleGo
  refine wpAny_bind (wpAny_load ho ?_)
  dsimp only
  rw [if_neg (fun h => absurd (Bool.and_eq_true_iff.mp h).1 (by decide))]
  exact wpAny_pure h
/-- the signs laid in, from the first of a row on -/
def layl (depth : Nat) (l : List (Nat × Nat)) (n : Int) : Int := l.foldl (fun n e => enc depth e n) n
theorem layl_rev (depth : Nat) (l : List (Nat × Nat)) (n : Int) : layl depth l.reverse n = laid depth l n := by
  unfold layl laid; rw [List.foldl_reverse]
theorem layl_bd {depth : Nat} (h3 : 1 ≤ depth) (h4 : depth ≤ 3) {l : List (Nat × Nat)} {n : Int} (hl : ∀ e ∈ l, e.1 < 16 ∧ e.2 < 3) (hn : 0 ≤ n) : 0 ≤ layl depth l n ∧ layl depth l n + 8 ≤ 9 ^ l.length * (n + 8) := by
  have e := laid_bd h3 h4 (l := l.reverse) (n := n) (fun e he => hl e (List.mem_reverse.mp he)) hn
  rw [List.length_reverse] at e
  rw [← layl_rev, List.reverse_reverse] at e
  exact e
set_option maxHeartbeats 4000000 in
theorem laid_loop2 (w : World) (depth : Nat) (n0 : Nat) (t1 : Tok) (RL IT : Addr) (oI : Obj) (jR : Nat) (zs : List Value) (l : List (Nat × Nat)) (sn : List (Addr × Obj)) (u : Str → Option Value)
   (hsa : SA depth sn zs l) (hll : l.length = 6) (hlo : ∀ e ∈ l, e.1 < 16 ∧ e.2 < 3) (hsn : ∀ p ∈ sn, p.1 ≠ IT) (h3 : 1 ≤ depth) (h4 : depth ≤ 3) (hn0 : n0 < 2 ^ 30)
    (p : Program) (loose : List Str) (mean : ExcName → Option Value) (mg mb : Str → Option Value)
    (dp un : Nat) (gd : Option (List Code)) (outer : List Env) (A₀ : Around) (base h₀ : Heap) (L : Addr) (s : Shared)
    (R : Result → Shared → Prop)
    (B : Below A₀ base outer h₀) (F : Fr h₀ L s.heap (fun y => if y = "number" then some (.int n0 t1) else u y))
    (X : Frag.In (Mine.hd.heap_1 w.params) h₀) (N : News h₀ L s.heap ((IT, oI) :: (RL, listOf zs.toArray jR) :: sn)) (hRI : RL ≠ IT) (hit : s.heap.IsListIter IT RL 0) (T : Top p loose mean mg mb h₀) (hd : dp + 50 < recursionLimit) (hu : un + 500 < cLine)
    (hR : ∀ (h' : Heap) (tk' : Nat) (x1 : Tok) (u' : Str → Option Value), Fr h₀ L h' (fun y : Str => if y = "number" then some (Value.int (layl depth l n0) x1) else u' y) → R (.ok .next) { s with heap := h', toks := tk' }) :
    codeAny (model PySem.Challenge.rw_wb0062_01.row.prog w) (ktrTop dp un gd "_law_laid" (scopeOf default ldef) L 131 (.ref 130) [] outer) (.forLoop (targetOf lfor2) (.ref IT) (loopOf lfor2) [] (envOf "_law_laid" (scopeOf default ldef) L 131 (.ref 130))) R s := by
  have hIL : IT ≠ L ∧ h₀.get? IT = none := (N (IT, oI) (List.Mem.head _)).2
  refine codeAny_forLoop_any (fun n s' => ∃ (i : Nat) (h : Heap) (tk : Nat) (x1 : Tok) (u' : Str → Option Value),
      i ≤ 6 ∧ n = 6 - i ∧ s' = { s with heap := h, toks := tk } ∧ h.IsListIter IT RL i ∧
      Fr h₀ L h (fun y : Str => if y = "number" then some (Value.int (layl depth (l.take i) n0) x1) else u' y) ∧ News h₀ L h ((RL, listOf zs.toArray jR) :: sn)) ?turn 6 ⟨0, _, _, t1, u, Nat.zero_le _, rfl, rfl, hit, F, fun p hp => N p (List.Mem.tail _ hp)⟩
  rintro n s' ⟨i, h, tk, x1, u', hi, rfl, rfl, hit', F', N'⟩
  have hI0 : ∀ b o, h₀.get? b = some o → b ≠ IT := fun b o e q => by have := hIL.2; rw [← q, e] at this; cases this
  have hl : h.IsList RL zs.toArray := ⟨_, (N' _ (List.Mem.head _)).1, rfl, _, rfl⟩
  have hlen := hsa.len
  have hne : ∀ p ∈ ((RL, listOf zs.toArray jR) :: sn), p.1 ≠ IT := fun p hp => by
    rcases List.mem_cons.mp hp with rfl | hp
    · exact hRI
    · exact hsn p hp
  by_cases hlt : i < 6
  · have hil : i < l.length := by omega
    obtain ⟨D, S, jS, jT, x, ta, tb, tc, hx, m1, m2⟩ := hsa.get i hil
    refine wpAny_pyNext_list_item hit' hl (by simpa using hx) (fun h5 hit5 hs5 => ?_)
    have F5 : Fr h₀ L h5 _ := ⟨F'.ns.sameBut hs5 (Ne.symm hIL.1), fun b o e => (hs5.2 b (hI0 b o e)).trans (F'.keep b o e), F'.above⟩
    have N5 : News h₀ L h5 ((RL, listOf zs.toArray jR) :: sn) := fun p hp => ⟨(hs5.2 _ (hne p hp)).trans (N' p hp).1, (N' p hp).2⟩
    obtain ⟨oJ, eJ, cJ, dJ⟩ := id hit5
    dsimp only
    refine lot_list hit5 ?_
    have N7 : News h₀ L h5 ((D, { cls := .type "tuple", data := .seq #[Value.ref S, Value.int (l[i].2 : Int) x] jT }) :: (S, listOf #[Value.int (shr l[i].1 depth 0) ta, Value.int (shr l[i].1 depth 16) tb, Value.int (shr l[i].1 depth 32) tc] jS) :: (IT, oJ) :: (RL, listOf zs.toArray jR) :: sn) := fun p hp => by
      rcases List.mem_cons.mp hp with rfl | hp
      · exact N5 _ (List.Mem.tail _ m1)
      · rcases List.mem_cons.mp hp with rfl | hp
        · exact N5 _ (List.Mem.tail _ m2)
        · rcases List.mem_cons.mp hp with rfl | hp
          · exact ⟨eJ, hIL⟩
          · exact N5 _ hp
    obtain ⟨e1, e2⟩ := hlo l[i] (List.getElem_mem hil)
    have hb := shr_sum e1 h3 h4
    obtain ⟨n1, n2⟩ := layl_bd (l := l.take i) (n := (n0 : Int)) h3 h4 (fun e he => hlo e (List.mem_of_mem_take he)) (by omega)
    have hpw : (9 : Int) ^ (l.take i).length ≤ 531441 := by
      have : ∀ j : Nat, j ≤ 6 → (9 : Int) ^ j ≤ 531441 := by decide
      exact this _ (by rw [List.length_take]; omega)
    have n3 : (9 : Int) ^ (l.take i).length * ((n0 : Int) + 8) ≤ 531441 * ((n0 : Int) + 8) := Int.mul_le_mul_of_nonneg_right hpw (by omega)
    refine lturn2 w (layl depth (l.take i) n0) (shr l[i].1 depth 0) (shr l[i].1 depth 16) (shr l[i].1 depth 32) (l[i].2 : Int) l[i].2 (by omega) x _ x ta tb tc jS jT D S _ _ ⟨hb.1, hb.2.1⟩ ⟨hb.2.2.1, hb.2.2.2.1⟩ ⟨hb.2.2.2.2.1, hb.2.2.2.2.2.1⟩ n1 (by omega) p loose mean mg mb dp un gd outer A₀ base h₀ L _ _ _ _ B F5 X N7 T hd hu ?_
    intro h8 tk8 y1 u8 F8 N8
    have etk : l.take (i + 1) = l.take i ++ [l[i]] := (List.take_append_getElem hil).symm
    refine ⟨6 - (i + 1), by omega, i + 1, h8, tk8, y1, u8, by omega, rfl, rfl, ⟨oJ, (N8 (IT, oJ) (List.Mem.tail _ (List.Mem.tail _ (List.Mem.head _)))).1, cJ, dJ⟩, ?_, fun p hp => N8 p (List.Mem.tail _ (List.Mem.tail _ (List.Mem.tail _ hp)))⟩
    have ev : layl depth (l.take (i + 1)) n0 = enc depth l[i] (layl depth (l.take i) n0) := by
      rw [etk]; unfold layl; rw [List.foldl_append]; rfl
    rw [ev]
    exact F8
  · have hi6 : i = 6 := by omega
    subst hi6
    have etk : l.take 6 = l := List.take_of_length_le (by omega)
    rw [etk] at F'
    refine wpAny_pyNext_list_end rfl hit' hl (by simp; omega) (fun h5 hx5 => ?_)
    have F5 : Fr h₀ L h5 _ := ⟨F'.ns.extBut hx5 (Ne.symm hIL.1), fun b o e => hx5 b o (hI0 b o e) (F'.keep b o e), F'.above⟩
    dsimp only
    refine wpAny_execs_nil ?_
    exact hR h5 _ x1 u' F5
end Mine
namespace Mine
theorem rs_L5 : True := by
  w_top off
  exact trivial
local macro_rules | `(tactic| walk_at "pyIter ref") => `(tactic| (refine stop_intro ?_))
local macro_rules | `(tactic| walk_at "exec For Name Name cons nil") => `(tactic| (refine stop_intro ?_))
local macro_rules | `(tactic| walk_at "exec For Tuple Subscript cons nil") => `(tactic| (refine stop_intro ?_))
local macro_rules | `(tactic| walk_at "subscriptTail Name Slice ref ref") => `(tactic| (refine stop_intro ?_))
theorem news_swap {h₀ h : Heap} {L : Addr} {p q : Addr × Obj} {r : List (Addr × Obj)} (N : News h₀ L h (p :: q :: r)) : News h₀ L h (q :: p :: r) := fun x hx => by
  rcases List.mem_cons.mp hx with rfl | hx
  · exact N _ (List.Mem.tail _ (List.Mem.head _))
  · rcases List.mem_cons.mp hx with rfl | hx
    · exact N _ (List.Mem.head _)
    · exact N _ (List.Mem.tail _ (List.Mem.tail _ hx))
theorem news_nil_of {h₀ h : Heap} {L : Addr} {m : Str → Option Value} (_F : Fr h₀ L h m) : News h₀ L h [] := News.nil
theorem fr_norm1 {h₀ h : Heap} {L : Addr} {m : Str → Option Value} {v1 : Value} (F : Fr h₀ L h m) (h1 : m "number" = some v1) : Fr h₀ L h (fun y : Str => if y = "number" then some v1 else m y) := by
  refine fr_same F fun y => ?_
  by_cases k1 : y = "number"
  · rw [if_pos k1, k1, h1]
  rw [if_neg k1]
set_option maxHeartbeats 4000000 in
theorem lawlaid (w : World) (number hue depth hand off : Nat) (sg : Str) (t0 t1 t2 t3 t4 : Tok) (KD : Addr) (kv : List Value) (ks : List Nat)
   (hkv : IntsAre kv (ks.map Int.ofNat)) (hks : ks.length = 6) (hk3 : ∀ k ∈ ks, k < 3) (h1 : hue < 16) (h3 : 1 ≤ depth) (h4 : depth ≤ 3) (hhand : hand < 3) (hoff : off < 3) (hn0 : number < 2 ^ 30) (hsl : (sg.length : Int) = 3) (hsi : ∀ k : Nat, k < 3 → Txt.item sg (k : Int) = sgn (off + k)) :
    Con w 131 [.int number t0, .ref KD, .int hue t1, .int depth t2, .int hand t3, .str sg t4] 80 1000 [] (fun h => h.IsList KD kv.toArray)
      (fun _ r mu' _ => (∃ t, r = .int (laid depth (path hand off hue ks) number) t) ∧ mu' = []) := by
  unfold Con
  k_fill
  intro p loose mean mg mb dp un gd cn cs a ccd cl outer A₀ base h₀ L m s Q E B F X N T hkf hP hd hu hret
  refine wpAny_call ?_
  k_dflt ktr_enter
  rename Ext _ _ _ => HG
  have hK := Heap.IsList.at hP fun o e => HG _ o List.not_mem_nil e
  clear hP
  k_steps
  unfold Stop
  refine wpAny_For ?_
  k_steps
  unfold Stop
  rename Fr _ _ _ _ => F3
  rename News _ _ _ _ => N3
  rename Top _ _ _ _ _ _ => T3
  rename Frag.In _ _ => X3
  rename Below _ _ _ _ => B3
  refine wpAny_pyIter_list (hK.at fun o e => F3.keep _ o e) ?_
  have F4 := fr_norm6 (F3.push { cls := .type "list_iterator", data := .fields #[.ref KD, .int 0 0] }) rfl rfl rfl rfl rfl rfl
  have N4 := News.push F3 N3 { cls := .type "list_iterator", data := .fields #[.ref KD, .int 0 0] }
  have hSI := Nat.ne_of_lt (Heap.lt_size (N3 _ (List.Mem.head _)).1)
  have N5 := news_swap N4
  clear F3 N3 N4
  refine laid_loop1 w hue depth hand off sg t1 t2 t3 t4 _ _ _ KD _ kv ks _ hkv hks hk3 h1 h3 h4 hhand hoff hsl hsi p loose mean mg mb _ _ _ _ _ _ _ _ _ _ B3 F4 X3 hK N5 hSI ⟨_, Heap.get?_push_size _ rfl, rfl, rfl⟩ T3 (by ktr_room) (by ktr_units) ?_
  intro h5 tk5 sv sn j x1 u' hsa hsn F5 N6
  clear F4 N5
  (try dsimp only)
  k_steps
  unfold Stop
  refine wpAny_For ?_
  k_steps
  unfold Stop
  have hlp : (path hand off hue ks).length = 6 := by rw [path_len, hks]
  have hsvl := hsa.len
  refine krv_lit (its := sv.toArray) (zs := sv.reverse) F5 N6 ⟨_, (N6 _ (List.Mem.head _)).1, rfl, _, rfl⟩ (IsPart.int _ _) rfl (fun D h7 F7 N7 l7 => ?_) (by with_unfolding_all rfl) (fun _ => by with_unfolding_all rfl) (by rw [sizeLine_eq]; simp; omega)
  have hDn : ∀ p ∈ sn, p.1 ≠ D := fun p hp => Nat.ne_of_lt (l7 p (List.Mem.tail _ hp))
  have N8 : News _ _ h7 ((D, listOf sv.reverse.toArray 0) :: sn) := fun p hp => by
    rcases List.mem_cons.mp hp with rfl | hp
    · exact N7 _ (List.Mem.head _)
    · exact N7 _ (List.Mem.tail _ (List.Mem.tail _ hp))
  clear F5 N6 N7
  refine wpAny_pyIter_list (items := sv.reverse.toArray) ⟨_, (N8 _ (List.Mem.head _)).1, rfl, _, rfl⟩ ?_
  have hDI := Nat.ne_of_lt (Heap.lt_size (N8 _ (List.Mem.head _)).1)
  have hsI : ∀ p ∈ sn, p.1 ≠ h7.objs.size := fun p hp => Nat.ne_of_lt (Heap.lt_size (N8 p (List.Mem.tail _ hp)).1)
  have F9 := fr_norm1 (F7.push { cls := .type "list_iterator", data := .fields #[.ref D, .int 0 0] }) rfl
  have N9 := News.push F7 N8 { cls := .type "list_iterator", data := .fields #[.ref D, .int 0 0] }
  refine laid_loop2 w depth number t0 D _ _ 0 sv.reverse (path hand off hue ks).reverse sn _ hsa.rev (by rw [List.length_reverse]; exact hlp) (fun e he => path_ok hand off ks hue h1 hk3 e (List.mem_reverse.mp he)) hsI h3 h4 hn0 p loose mean mg mb _ _ _ _ _ _ _ _ _ _ B3 F9 X3 N9 hDI ⟨_, Heap.get?_push_size _ rfl, rfl, rfl⟩ T3 (by ktr_room) (by ktr_units) ?_
  intro h10 tk10 y1 u10 F10
  rw [layl_rev] at F10
  have N10 := news_nil_of F10
  clear F7 F9 N8 N9
  (try dsimp only)
  k_steps
  exact hret _ _ _ [] (by k_asm) News.nil (ext_fr HG F10) ⟨⟨_, rfl⟩, rfl⟩
end Mine
namespace Mine
theorem rs_E1 : True := by
  w_top off
  exact trivial
noncomputable def wdef : Stmt := match PySem.Challenge.pw_wb0062_01.main.body with
  | _ :: _ :: _ :: _ :: _ :: _ :: _ :: _ :: _ :: _ :: _ :: _ :: _ :: _ :: _ :: _ :: _ :: _ :: _ :: _ :: _ :: _ :: _ :: _ :: g :: _ => g
  | _ => .Pass default
abbrev wcl (L : Addr) : List (Str × Addr) := [("signs", L + 1 + 1 + 1), ("hand", L + 1 + 1), ("drawn", L + 1)]
def compElt : Stmt → Expr
  | .Assign _ (.ListComp e _ _ _) _ => e
  | _ => default
def compScope (d : Scope) : Stmt → Scope
  | .Assign _ (.ListComp _ _ s _) _ => s
  | _ => d
def headOf : List Stmt → Stmt
  | s :: _ => s
  | _ => .Pass default
noncomputable abbrev kindsS : Stmt := secondOf (after5 (bodyOf wdef))
theorem nameC_B {M : Model} {A : Around} {E : Value → Shared → Prop} {s : Shared} {env : Env} {x : Str} {pos : Pos} {c : Addr} {o : Obj} {v : Value} {Q : Value → Shared → Prop} (hk : env.scope.kind = .function) (hx : env.kindOf x = some .cell) (hc : env.cells.lookup x = some c) (hg : s.heap.get? c = some o) (hd : o.data = .cell (some v)) (hb : (x == ("__debug__" : Str)) = false) (h : Q v s) :
    wpAny M A (eval (.Name x pos) env) Q E s := wpAny_Name (wpAny_loadName_cell hk hx hc ⟨o, hg, hd⟩ h) hb
local macro_rules | `(tactic| walk_at "eval Name") => `(tactic| (k_dflt (refine' nameC_B ?a ?b ?c ?g ?d ?e ?_; (case a => exact rfl); (case b => exact rfl); (case c => exact rfl); (case g => assumption); (case d => assumption); (case e => decide); k_whole)))
local macro_rules | `(tactic| walk_at "subscriptTail Name Constant ref int") => `(tactic| (refine item_list_ints (by assumption) (by assumption) (by decide) (by omega) (by decide) ?_; intro t))
local macro_rules | `(tactic| walk_at "last subscriptTail") => `(tactic| (refine item_list_ints (by assumption) (by assumption) (by decide) (by omega) (by decide) ?_; intro t))
set_option maxHeartbeats 1000000 in
theorem elt_kinds (w : World) (A : Around) (ws : List Value) (ds : List Int) (D a c L C : Addr) (o1 : Obj) (i : Nat) (tv : Tok) (m : Str → Option Value) (s : Shared) (E : Value → Shared → Prop)
    (hws : IntsAre ws ds) (hds : ds.length = 4) (hi : i < 6) (hn : s.heap.Ns C m) (hm : m "k" = some (.int (i : Int) tv)) (d1 : o1.data = .cell (some (.ref D))) (hg : s.heap.get? (L + 1) = some o1) (hl : s.heap.IsList D ws.toArray) :
    wpAny (model PySem.Challenge.rw_wb0062_01.row.prog w) A (eval (compElt kindsS) (compEnvC (compScope default kindsS) [("drawn", L + 1)] C (envX "law" (scopeOf default wdef) L a (.ref c) (wcl L)))) (fun y s₄ => (∃ t, y = .int (((ds.getD 2 0).fdiv (3 ^ i)).fmod 3) t) ∧ Keeps s s₄) E s := by
  dsimp only [kindsS, compElt, compScope, secondOf, after5, bodyOf, wdef, scopeOf, PySem.Challenge.pw_wb0062_01]
  have h6 : i = 0 ∨ i = 1 ∨ i = 2 ∨ i = 3 ∨ i = 4 ∨ i = 5 := by omega
  refine stop_post ?_
  rcases h6 with rfl | rfl | rfl | rfl | rfl | rfl
  all_goals
    k_steps
    exact ⟨⟨_, rfl⟩, _, _, rfl, fun _ _ e => e⟩
end Mine
namespace Mine
local macro_rules | `(tactic| walk_at "none of the walk's keys") => `(tactic| fail)
theorem rs_E2 : True := by
  w_top off
  exact trivial
def thirdOf' : List Stmt → Stmt
  | _ :: _ :: s :: _ => s
  | _ => .Pass default
/-- the argument of a call in an assignment: ''.join([..]) -/
def joinArg : Stmt → Expr
  | .Assign _ (.Call _ (e :: _) _ _) _ => e
  | _ => default
def lcElt : Expr → Expr
  | .ListComp e _ _ _ => e
  | _ => default
def lcScope (d : Scope) : Expr → Scope
  | .ListComp _ _ s _ => s
  | _ => d
noncomputable abbrev pageLC : Expr := joinArg (thirdOf (after5 (bodyOf wdef)))
theorem nameG_K {M : Model} {A : Around} {E : Value → Shared → Prop} {s : Shared} {h₀ : Heap} {L : Addr} {m : Str → Option Value} {env : Env} {K : Frag} {mg mb : Str → Option Value} {p : Program} {loose : List Str} {mean : ExcName → Option Value} {x : Str} {pos : Pos} {v : Value} {Q : Value → Shared → Prop} (F : Fr h₀ L s.heap m) (X : K.In h₀) (T : Top p loose mean mg mb h₀)
    (e : nsIn K mainGlobals x = some (some v)) (hg : env.globals = mainGlobals) (hk : env.scope.kind = .function) (hx : env.kindOf x = some .globalImplicit) (hd : (x == ("__debug__" : Str)) = false) (h : Q v s) :
    wpAny M A (eval (.Name x pos) env) Q E s :=
  Name_function_global hk hx (loadGlobal_global (env := env) (by rw [hg]; exact T.g.keeps F.keep) (mg_of X (topRead_of T).g e) h) hd
local macro_rules | `(tactic| walk_at "eval Name") => `(tactic| (k_dflt (refine' nameC_B ?a ?b ?c ?g ?d ?e ?_; (case a => exact rfl); (case b => exact rfl); (case c => exact rfl); (case g => assumption); (case d => assumption); (case e => decide); k_whole)))
local macro_rules | `(tactic| walk_at "eval Name") => `(tactic| (k_dflt (refine' nameG_K ?f ?x ?t ?k ?a ?b ?c ?e ?_; (case a => exact rfl); (case b => exact rfl); (case c => exact rfl); (case f => assumption); (case x => assumption); (case t => assumption); (case k => k_is); (case e => decide); k_whole)))
local macro_rules | `(tactic| walk_at "call ref") => `(tactic| (refine stop_intro ?_))
set_option maxHeartbeats 1000000 in
theorem elt_page (w : World) (q1 q2 q3 q4 q5 q6 : Pos) (hand off k : Nat) (sg : Str) (t3 t4 tv : Tok) (a c L C : Addr) (o2 o3 : Obj) (m m' : Str → Option Value) (s : Shared) (E : Value → Shared → Prop)
    (p : Program) (loose : List Str) (mean : ExcName → Option Value) (mg mb : Str → Option Value)
    (dp un : Nat) (gd : Option (List Code)) (outer : List Env) (A₀ : Around) (base h₀ : Heap)
    (B : Below A₀ base outer h₀) (F : Fr h₀ L s.heap m') (X : Frag.In (Mine.hd.heap_1 w.params) h₀) (T : Top p loose mean mg mb h₀) (hd : dp + 50 < recursionLimit) (hu : un + 500 < cLine)
    (hk3 : k < 3) (hhand : hand < 3) (hoff : off < 3) (hsl : (sg.length : Int) = 3) (hsi : Txt.item sg (k : Int) = sgn (off + k))
    (hn : s.heap.Ns C m) (hm : m "kind" = some (.int (k : Int) tv)) (d2 : o2.data = .cell (some (.int hand t3))) (d3 : o3.data = .cell (some (.str sg t4))) (hg2 : s.heap.get? (L + 1 + 1) = some o2) (hg3 : s.heap.get? (L + 1 + 1 + 1) = some o3) :
    wpAny (model PySem.Challenge.rw_wb0062_01.row.prog w) (ktrTop dp un gd "law" (scopeOf default wdef) L a (.ref c) (wcl L) outer) (eval (.Call (.Name "_law_spelled" q1) [.Name "hand" q2, .Subscript (.Name "signs" q3) (.Name "kind" q4) q5] [] q6) (compEnvC (lcScope default pageLC) [("signs", L + 1 + 1 + 1), ("hand", L + 1 + 1)] C (envX "law" (scopeOf default wdef) L a (.ref c) (wcl L)))) (fun y s₄ => (∃ t, y = .str (wrt hand (off + k)) t) ∧ Keeps s s₄) E s := by
  dsimp only [pageLC, joinArg, lcElt, lcScope, thirdOf, after5, bodyOf, wdef, scopeOf, PySem.Challenge.pw_wb0062_01]
  revert X
  k_fill
  intro X
  refine stop_post ?_
  k_steps
  all_goals try (exfalso; omega)
  unfold Stop
  rw [hsi]
  k_dflt (refine' con_use (spelled w hand (off + k) _ _ hhand (by omega)) ?k1 ?k2 ?k3 ?k4 ?k5 ?kK ?kP ?kd ?ku ?_; (case k1 => k_asm); (case k2 => k_asm); (case k3 => k_asm); (case k4 => exact News.nil); (case k5 => k_asm); (case kK => exact rfl); (case kP => trivial); (case kd => ktr_room); (case ku => ktr_units))
  intro r9 h9 tk9 mu9 F9 N9 X9 O9
  obtain ⟨⟨tw, rfl⟩, rfl⟩ := O9
  exact ⟨⟨_, rfl⟩, _, _, rfl, fun b o e => X9 b o List.not_mem_nil e⟩
theorem paired_strs {g : Nat → Str} : ∀ {vs ys : List Value} {ks : List Nat}, IntsAre vs (ks.map Int.ofNat) → (∀ k ∈ ks, k < 3) → Paired (fun v y => ∀ (k : Nat) (t : Tok), v = Value.int (k : Int) t → k < 3 → ∃ t, y = Value.str (g k) t) vs ys → StrsAre ys (ks.map g) := by
  intro vs ys ks h hk3 hp
  induction hp generalizing ks with
  | nil =>
    cases ks with
    | nil => exact .nil
    | cons k r => cases h
  | cons f _ ih =>
    cases ks with
    | nil => cases h
    | cons k r =>
      obtain ⟨t, vs', e, h'⟩ := ints_cons h
      cases e
      obtain ⟨t', rfl⟩ := f k t rfl (hk3 k (.head _))
      exact .cons _ _ (ih h' fun k hk => hk3 k (.tail _ hk))
theorem join_page (hand off : Nat) (ks : List Nat) : Txt.join "" (ks.map fun k => wrt hand (off + k)) = pageOf hand off ks := by
  have e0 : ∀ a b : Str, (a ++ b).cps = a.cps ++ b.cps := fun a b => rfl
  have e2 : ∀ a : Str, a.cps ++ Str.cps "" = a.cps := fun a => congrArg Str.cps (show a ++ ("" : Str) = a from Str.append_right_empty rfl)
  have h : ∀ (ks : List Nat) (p : Str), (⟨(ks.map fun k => wrt hand (off + k)).foldl (fun acc p => acc ++ Str.cps "" ++ p.cps) p.cps⟩ : Str) = ks.foldl (fun p k => p ++ wrt hand (off + k)) p := by
    intro ks
    induction ks with
    | nil => intro p; rfl
    | cons k r ih =>
      intro p
      rw [List.map_cons, List.foldl_cons, List.foldl_cons, ← ih, e0, e2]
  cases ks with
  | nil => rfl
  | cons k r =>
    have e1 : ("" : Str) ++ wrt hand (off + k) = wrt hand (off + k) := Str.append_left_empty rfl
    show (⟨(r.map fun k => wrt hand (off + k)).foldl (fun acc p => acc ++ Str.cps "" ++ p.cps) (wrt hand (off + k)).cps⟩ : Str) = r.foldl (fun p k => p ++ wrt hand (off + k)) ("" ++ wrt hand (off + k))
    rw [h r (wrt hand (off + k)), e1]
end Mine
namespace Mine
set_option maxHeartbeats 1000000 in
theorem page_LC (w : World) (q1 q2 q3 q4 q5 q6 q7 q8 q9 : Pos) (hand off : Nat) (sg : Str) (t3 t4 : Tok) (a c L KD : Addr) (o2 o3 : Obj) (m : Str → Option Value) (s : Shared) (Q E : Value → Shared → Prop) (kv : List Value) (ks : List Nat)
    (p : Program) (loose : List Str) (mean : ExcName → Option Value) (mg mb : Str → Option Value)
    (dp un : Nat) (gd : Option (List Code)) (outer : List Env) (A₀ : Around) (base h₀ : Heap)
    (B : Below A₀ base outer h₀) (F : Fr h₀ L s.heap m) (X : Frag.In (Mine.hd.heap_1 w.params) h₀) (T : Top p loose mean mg mb h₀) (hd : dp + 50 < recursionLimit) (hu : un + 500 < cLine)
    (hm : m "kinds" = some (.ref KD)) (hKD : s.heap.IsList KD kv.toArray) (hkv : IntsAre kv (ks.map Int.ofNat)) (hks : ks.length = 6) (hk3 : ∀ k ∈ ks, k < 3)
    (hhand : hand < 3) (hoff : off < 3) (hsl : (sg.length : Int) = 3) (hsi : ∀ k : Nat, k < 3 → Txt.item sg (k : Int) = sgn (off + k))
    (d2 : o2.data = .cell (some (.int hand t3))) (d3 : o3.data = .cell (some (.str sg t4))) (hg2 : s.heap.get? (L + 1 + 1) = some o2) (hg3 : s.heap.get? (L + 1 + 1 + 1) = some o3)
    (hQ : ∀ (DL : Addr) (h' : Heap) (tk : Nat) (ys : Array Value), StrsAre ys.toList (ks.map fun k => wrt hand (off + k)) → h'.IsList DL ys → Fr h₀ L h' m → (∀ b o, s.heap.get? b = some o → h'.get? b = some o) → Q (.ref DL) { s with heap := h', toks := tk }) :
    wpAny (model PySem.Challenge.rw_wb0062_01.row.prog w) (ktrTop dp un gd "law" (scopeOf default wdef) L a (.ref c) (wcl L) outer)
      (eval (.ListComp (.Call (.Name "_law_spelled" q1) [.Name "hand" q2, .Subscript (.Name "signs" q3) (.Name "kind" q4) q5] [] q6) [⟨.Name "kind" q7, .Name "kinds" q8, [], 0⟩] (lcScope default pageLC) q9) (envX "law" (scopeOf default wdef) L a (.ref c) (wcl L))) Q E s := by
  refine wpAny_ListComp_free (fun _ => true) (fun v y => ∀ (k : Nat) (t : Tok), v = Value.int (k : Int) t → k < 3 → ∃ t, y = Value.str (wrt hand (off + k)) t) (cl := [("signs", L + 1 + 1 + 1), ("hand", L + 1 + 1)]) (by rfl) (by decide) (by rfl) (by decide) (by rfl) ?_ (fun _ => rfl)
  refine nameX_L F hm ?_ (by rfl) (by rfl) (by decide)
  refine wpAny_pyIter_list hKD ?_
  have hKlt : KD < s.heap.objs.size := let ⟨_, e, _⟩ := hKD; Heap.lt_size e
  have hlen := hkv.length
  rw [List.length_map, hks] at hlen
  have old : ∀ b, b ∉ [s.heap.objs.size] → b ≠ s.heap.objs.size := fun b hb e => hb (List.mem_singleton.mpr e)
  have lt1 : ∀ b o, s.heap.get? b = some o → b ∉ [s.heap.objs.size] := fun b o e hb => Nat.ne_of_lt (Heap.lt_size e) (List.mem_singleton.mp hb)
  refine ⟨_, _, _, _, _, _, rfl, Walks.list rfl _ KD (Nat.ne_of_lt hKlt) kv.toArray, ?sz, ⟨⟨_, Heap.get?_push_size _ rfl, rfl, rfl⟩, hKD.push _⟩, ?fp, ?quiet, ?fin⟩
  case sz =>
    rw [sizeLine_eq, List.size_toArray, hlen]; decide
  case fp =>
    intro x hx
    dsimp only
    rw [Heap.size_push]
    rcases List.mem_cons.mp hx with rfl | hx
    · exact Nat.lt_succ_self _
    · rw [List.mem_singleton.mp hx]; exact Nat.lt_succ_of_lt hKlt
  case quiet =>
    refine ⟨fun C i v s₃ m₃ E' hCC hPv hn hm hk ht => ?_, fun C i v s₃ m₃ E' hCC hPv hp hn hm3 hk ht => ?_⟩
    · exact wpAny_pure ⟨rfl, ⟨_, _, rfl, fun _ _ e => e⟩⟩
    · have hi : i < 6 := by
        have e := (Array.getElem?_eq_some_iff.mp hPv).1
        rw [List.size_toArray, hlen] at e
        exact e
      have hik : i < ks.length := by rw [hks]; exact hi
      obtain ⟨tv, e⟩ := hkv.get i (Int.ofNat ks[i]) (by rw [List.getElem?_map, List.getElem?_eq_getElem hik]; rfl)
      have ev : v = .int (ks[i] : Int) tv := by
        have e2 : kv[i]? = some v := by simpa using hPv
        rw [e] at e2; injection e2 with e2; exact e2.symm
      subst ev
      have keep : ∀ b o, s.heap.get? b = some o → s₃.heap.get? b = some o := fun b o e => hk b o (lt1 b o e) (Heap.get?_push_of_some _ e)
      have F3 : Fr h₀ L s₃.heap m := ⟨F.ns.at' fun o e => keep _ o e, fun b o e => keep b o (F.keep b o e), F.above⟩
      refine wpAny_mono (elt_page w q1 q2 q3 q4 q5 q6 hand off ks[i] sg t3 t4 tv a c L C o2 o3 m₃ m s₃ E' p loose mean mg mb dp un gd outer A₀ base h₀ B F3 X T hd hu (hk3 _ (List.getElem_mem hik)) hhand hoff hsl (hsi _ (hk3 _ (List.getElem_mem hik))) hn hm3 d2 d3 (keep _ _ hg2) (keep _ _ hg3)) (fun y s₄ h => ⟨fun k t e _ => ?_, h.2⟩) (fun _ _ h => h)
      have : (k : Int) = (ks[i] : Int) := by injection e with e1 _; exact e1.symm
      have : k = ks[i] := by omega
      subst this
      exact h.1
  case fin =>
    intro DL h' tk ys vs hDn hl hpl hvl hP hF hk
    have evs : vs = kv := by
      apply List.ext_getElem?
      intro i
      by_cases hi : i < vs.length
      · have := hP i vs[i] (List.getElem?_eq_getElem hi)
        rw [List.getElem?_eq_getElem hi]
        simpa using this.symm
      · rw [List.getElem?_eq_none (Nat.le_of_not_lt hi), List.getElem?_eq_none (by rw [List.size_toArray] at hvl; omega)]
    subst evs
    rw [List.filter_eq_self.mpr (fun _ _ => rfl)] at hF
    have keep : ∀ b o, s.heap.get? b = some o → h'.get? b = some o := fun b o e => hk b o (lt1 b o e) (Heap.get?_push_of_some _ e)
    exact hQ DL h' tk ys (paired_strs hkv hk3 hF) hl ⟨F.ns.at' fun o e => keep _ o e, fun b o e => keep b o (F.keep b o e), F.above⟩ keep
end Mine
namespace Mine
theorem div_of {q r d : Int} (h0 : 0 ≤ r) (h1 : r < d) : (q * d + r) / d = q ∧ (q * d + r) % d = r := by
  have hd : d ≠ 0 := by omega
  constructor
  · rw [Int.add_comm, Int.add_mul_ediv_right _ _ hd, Int.ediv_eq_zero_of_lt h0 h1, Int.zero_add]
  · rw [Int.add_comm, Int.add_mul_emod_self_right, Int.emod_eq_of_lt h0 h1]
theorem enc_step {depth hand off n h k n' h' : Nat} (hh : h < 16) (h3 : 1 ≤ depth) (h4 : depth ≤ 3) (s : Step depth hand off n h k n' h') : enc depth (h, k) n' = n := by
  obtain ⟨b1, b2, b3, b4, b5, b6⟩ := nthS_bd (k := k) hh h3 h4
  have lo := s.lo
  have hi := s.hi
  have e : (n' : Int) = (n : Int) / tot h depth * nthS h depth k + ((n : Int) % tot h depth - preS h depth k) := by have := s.num; omega
  obtain ⟨d1, d2⟩ := div_of (q := (n : Int) / tot h depth) (r := (n : Int) % tot h depth - preS h depth k) (d := nthS h depth k) (by omega) (by omega)
  unfold enc
  dsimp only
  rw [e, d1, d2]
  have := Int.mul_ediv_add_emod (n : Int) (tot h depth)
  rw [Int.mul_comm] at this
  omega
theorem run_hue {depth hand off n0 h0 : Nat} {ks : List Nat} {n h : Nat} (r : Run depth hand off n0 h0 ks n h) : h = hueAt hand off h0 ks := by
  induction r with
  | nil => rfl
  | snoc _ s ih => rw [hueAt_snoc, ← ih, s.hue]
theorem run_k3 {depth hand off n0 h0 : Nat} {ks : List Nat} {n h : Nat} (r : Run depth hand off n0 h0 ks n h) : ∀ k ∈ ks, k < 3 := by
  induction r with
  | nil => exact fun _ h => nomatch h
  | snoc _ s ih =>
    intro k hk
    rcases List.mem_append.mp hk with hk | hk
    · exact ih k hk
    · rw [List.mem_singleton.mp hk]; exact s.k3
theorem laid_run {depth hand off n0 h0 : Nat} {ks : List Nat} {n h : Nat} (hh : h0 < 16) (h3 : 1 ≤ depth) (h4 : depth ≤ 3) (r : Run depth hand off n0 h0 ks n h) : laid depth (path hand off h0 ks) n = n0 := by
  induction r with
  | nil => rfl
  | snoc r s ih =>
    have e := run_hue r
    rw [path_snoc]
    unfold laid at ih ⊢
    rw [List.foldr_append, ← e]
    have q := enc_step (by rw [e]; exact hueAt_lt hand off _ _ hh) h3 h4 s
    exact (congrArg (fun z => List.foldr (enc depth) z _) q).trans ih
theorem pre_next {depth h k k' : Nat} (hh : h < 16) (h3 : 1 ≤ depth) (h4 : depth ≤ 3) (hl : k < k') (hk' : k' < 3) : preS h depth k + nthS h depth k ≤ preS h depth k' := by
  obtain ⟨_, _, s1, _⟩ := shr_sum hh h3 h4
  have s0 : (0 : Int) ≤ shr h depth 16 := Int.le_trans (by decide) s1
  match k', hk', hl with
  | 1, _, hl =>
    obtain rfl := Nat.lt_one_iff.mp hl
    exact Int.le_of_eq (Int.zero_add _)
  | 2, _, hl =>
    match k, hl with
    | 0, _ => exact Int.le_trans (Int.le_of_eq (Int.zero_add _)) (Int.le_add_of_nonneg_right s0)
    | 1, _ => exact Int.le_refl _
theorem apart {depth h k k' : Nat} {r s : Int} (hh : h < 16) (h3 : 1 ≤ depth) (h4 : depth ≤ 3) (hl : k < k') (hk' : k' < 3) (hr : r < nthS h depth k) (hs : 0 ≤ s) : preS h depth k + r < preS h depth k' + s :=
  Int.lt_of_lt_of_le (Int.add_lt_add_left hr _) (Int.le_trans (pre_next hh h3 h4 hl hk') (Int.le_add_of_nonneg_right hs))
theorem enc_inj {depth h k k' : Nat} {x y : Int} (hh : h < 16) (h3 : 1 ≤ depth) (h4 : depth ≤ 3) (hk : k < 3) (hk' : k' < 3) (e : enc depth (h, k) x = enc depth (h, k') y) : k = k' ∧ x = y := by
  obtain ⟨b1, _, b3, b4, _⟩ := nthS_bd (k := k) hh h3 h4
  obtain ⟨c1, _, c3, c4, _⟩ := nthS_bd (k := k') hh h3 h4
  have p0 : 0 < nthS h depth k := Int.lt_of_lt_of_le (by decide) b1
  have p1 : 0 < nthS h depth k' := Int.lt_of_lt_of_le (by decide) c1
  have r0 := Int.emod_nonneg x (Int.ne_of_gt p0)
  have r1 := Int.emod_lt_of_pos x p0
  have s0 := Int.emod_nonneg y (Int.ne_of_gt p1)
  have s1 := Int.emod_lt_of_pos y p1
  obtain ⟨d1, d2⟩ := div_of (q := x / nthS h depth k) (r := preS h depth k + x % nthS h depth k) (d := tot h depth) (Int.add_nonneg b3 r0) (Int.lt_of_lt_of_le (Int.add_lt_add_left r1 _) b4)
  obtain ⟨f1, f2⟩ := div_of (q := y / nthS h depth k') (r := preS h depth k' + y % nthS h depth k') (d := tot h depth) (Int.add_nonneg c3 s0) (Int.lt_of_lt_of_le (Int.add_lt_add_left s1 _) c4)
  have e' : x / nthS h depth k * tot h depth + (preS h depth k + x % nthS h depth k) = y / nthS h depth k' * tot h depth + (preS h depth k' + y % nthS h depth k') := by
    rw [← Int.add_assoc, ← Int.add_assoc]
    exact e
  rw [← e', d1] at f1
  rw [← e', d2] at f2
  rcases Nat.lt_trichotomy k k' with hl | rfl | hl
  · exact absurd f2 (Int.ne_of_lt (apart hh h3 h4 hl hk' r1 s0))
  · refine ⟨rfl, ?_⟩
    rw [← Int.mul_ediv_add_emod x (nthS h depth k), ← Int.mul_ediv_add_emod y (nthS h depth k), f1, Int.add_left_cancel f2]
  · exact absurd f2 (Int.ne_of_gt (apart hh h3 h4 hl hk s1 r0))
theorem laid_inj {depth hand off : Nat} (h3 : 1 ≤ depth) (h4 : depth ≤ 3) : ∀ {ks ks' : List Nat} {h : Nat} {x y : Int}, h < 16 → (∀ k ∈ ks, k < 3) → (∀ k ∈ ks', k < 3) → ks.length = ks'.length →
    laid depth (path hand off h ks) x = laid depth (path hand off h ks') y → ks = ks' ∧ x = y := by
  intro ks
  induction ks with
  | nil =>
    intro ks' h x y _ _ _ hl e
    cases ks' with
    | nil => exact ⟨rfl, e⟩
    | cons _ _ => cases hl
  | cons k r ih =>
    intro ks' h x y hh h1 h2 hl e
    cases ks' with
    | nil => cases hl
    | cons k' r' =>
      obtain ⟨rfl, e2⟩ := enc_inj hh h3 h4 (h1 k (.head _)) (h2 k' (.head _)) e
      obtain ⟨rfl, rfl⟩ := ih (Nat.mod_lt _ (by decide)) (fun k hk => h1 k (.tail _ hk)) (fun k hk => h2 k (.tail _ hk)) (Nat.succ.inj hl) e2
      exact ⟨rfl, rfl⟩
/-- what is read of a row laid in is the row -/
theorem read_laid {depth hand off N hue n0 n' h' : Nat} {ks ks' : List Nat} (hh : hue < 16) (h3 : 1 ≤ depth) (h4 : depth ≤ 3) (hk : ∀ k ∈ ks, k < 3) (hl : ks.length = ks'.length)
    (e : (N : Int) = laid depth (path hand off hue ks) n0) (r : Run depth hand off N hue ks' n' h') : ks' = ks ∧ n' = n0 := by
  have e2 := laid_run hh h3 h4 r
  rw [e] at e2
  obtain ⟨rfl, e3⟩ := laid_inj h3 h4 hh hk (run_k3 r) hl e2.symm
  exact ⟨rfl, by omega⟩
end Mine
namespace Mine
theorem rs_V2 : True := by
  w_top off
  exact trivial
local macro_rules | `(tactic| walk_at "call ref") => `(tactic| (refine stop_intro ?_))
local macro_rules | `(tactic| walk_at "pyIter ref") => `(tactic| (refine stop_intro ?_))
local macro_rules | `(tactic| walk_at "exec Assign cons ListComp") => `(tactic| (refine stop_intro ?_))
local macro_rules | `(tactic| walk_at "call builtin:str.join") => `(tactic| (refine stop_intro ?_))
local macro_rules | `(tactic| walk_at "compareOp NotEq ref ref") => `(tactic| (refine stop_intro ?_))
local macro_rules | `(tactic| walk_at "eval ListComp") => `(tactic| (refine stop_intro ?_))
def kindsOf (z : Int) : List Nat := (List.range' 0 6).map fun k => ((z.fdiv (3 ^ k)).fmod 3).toNat
theorem pair_kinds {g : Nat → Int} : ∀ {vs ys : List Value} {n0 : Nat}, (∀ j v, vs[j]? = some v → ∃ t, v = Value.int ((n0 + j : Nat) : Int) t) → Paired (fun v y => ∀ (k : Nat) (t : Tok), v = Value.int (k : Int) t → ∃ t, y = Value.int (g k) t) vs ys →
    IntsAre ys ((List.range' n0 vs.length).map g) := by
  intro vs ys n0 h hp
  induction hp generalizing n0 with
  | nil => exact .nil
  | cons f _ ih =>
    obtain ⟨t, e⟩ := h 0 _ rfl
    subst e
    obtain ⟨t', rfl⟩ := f n0 t rfl
    exact .cons _ _ (ih (n0 := n0 + 1) fun j v e => by
      obtain ⟨t, e2⟩ := h (j + 1) v e
      exact ⟨t, by rw [e2, Nat.add_assoc, Nat.add_comm 1 j]⟩)
theorem kinds_ints {z : Int} {vs : List Value} {ys : Array Value} (hl : vs.length = 6) (hP : ∀ (j : Nat) (v : Value), vs[j]? = some v → ∃ t, v = Value.int (j : Int) t)
    (hF : Paired (fun v y => ∀ (k : Nat) (t : Tok), v = Value.int (k : Int) t → ∃ t, y = Value.int ((z.fdiv (3 ^ k)).fmod 3) t) (vs.filter fun _ => true) ys.toList) : IntsAre ys.toList ((kindsOf z).map Int.ofNat) := by
  rw [List.filter_eq_self.mpr (fun _ _ => rfl)] at hF
  have h := pair_kinds (n0 := 0) (g := fun k => (z.fdiv (3 ^ k)).fmod 3) (fun j v e => by obtain ⟨t, e2⟩ := hP j v e; exact ⟨t, by rw [e2, Nat.zero_add]⟩) hF
  rw [hl] at h
  have e : (kindsOf z).map Int.ofNat = (List.range' 0 6).map fun k => (z.fdiv (3 ^ k)).fmod 3 := by
    unfold kindsOf
    rw [List.map_map]
    exact List.map_congr_left fun k _ => Int.toNat_of_nonneg (Int.fmod_nonneg_of_pos _ (by decide))
  rw [e]
  exact h
theorem kindsOf_lt (z : Int) : ∀ k ∈ kindsOf z, k < 3 := fun k hk => by
  obtain ⟨j, _, rfl⟩ := List.mem_map.mp hk
  have h1 := Int.fmod_nonneg_of_pos (z.fdiv (3 ^ j)) (show (0 : Int) < 3 by decide)
  have h2 := Int.fmod_lt_of_pos (z.fdiv (3 ^ j)) (show (0 : Int) < 3 by decide)
  omega
theorem kindsOf_len (z : Int) : (kindsOf z).length = 6 := by unfold kindsOf; simp
theorem wsum (hand off : Nat) : ∀ ks : List Nat, (((ks.map fun k => wrt hand (off + k)).map (·.length)).sum) ≤ 6 * ks.length
  | [] => Nat.zero_le _
  | k :: r => by
    have := wsum hand off r
    have w := wrt_len hand (off + k)
    simp only [List.map_cons, List.sum_cons, List.length_cons]
    omega
theorem call_arg {M : Model} {A : Around} {f : Value} {z z' : Int} {t : Tok} {rest : List Value} {Q E : Value → Shared → Prop} {s : Shared} (e : z = z') (h : wpAny M A (call f (.int z' t :: rest)) Q E s) : wpAny M A (call f (.int z t :: rest)) Q E s := e ▸ h
theorem cell_not_tab {o : Obj} {v : Option Value} {ps : Array Value} (d : o.data = .cell v) : o ≠ tabObj ps := by
  rintro rfl; cases d
theorem list_not_tab {its : Array Value} {j : Nat} {ps : Array Value} : listOf its j ≠ tabObj ps := fun e => by have := congrArg Obj.data e; cases this
theorem away4 {h₀ h : Heap} {L : Addr} {news : List (Addr × Obj)} (N : News h₀ L h news) (m1 : (30, tabObj #[]) ∈ news) (m2 : (37, tabObj #[]) ∈ news) {a : Addr} {o : Obj} (m : (a, o) ∈ news) (hn : o ≠ tabObj #[]) : a ∉ [30, 30, 37, 37] := fun h => by
  have a1 := obj_away N m m1 hn
  have a2 := obj_away N m m2 hn
  rcases List.mem_cons.mp h with e | h
  · exact a1 e
  rcases List.mem_cons.mp h with e | h
  · exact a1 e
  exact not_two a2 a2 h
theorem page_ok (hand off : Nat) (ks : List Nat) : PyData.strOk (pageOf hand off ks) = true := by
  have h : ∀ (ks : List Nat) (p : Str), PyData.strOk p = true → PyData.strOk (ks.foldl (fun p k => p ++ wrt hand (off + k)) p) = true := by
    intro ks
    induction ks with
    | nil => exact fun _ h => h
    | cons k r ih =>
      intro p hp
      refine ih _ ?_
      have hw : PyData.strOk (wrt hand (off + k)) = true := by
        unfold wrt
        split <;> decide +kernel
      unfold PyData.strOk at hp hw ⊢
      show (p.cps ++ (wrt hand (off + k)).cps).all _ = true
      rw [Array.all_append, hp, hw]
      rfl
  exact h ks "" (by decide +kernel)
theorem shaped_row (is : List Int) (pg : Str) (n : Int) (hp : PyData.strOk pg = true) : PySem.SeqAt.shaped (.tuple [.list (is.map PyData.int), .str pg, .int n]) = true := by
  simp [PySem.SeqAt.shaped, PyData.canLay0, PyData.canLayAll0, PyData.depth, PyData.depthAll, ke_canLayAll0, ke_depthAll, hp]
theorem ne_row {prog : Program} {w : World} {A : Around} {Q : Value → Shared → Prop} {E : Value → Shared → Prop} {s : Shared} {h₀ : Heap} {L : Addr} {news : List (Addr × Obj)} {a b K1 K2 : Addr} {v1 v2 : List Value} {is : List Int} {pg : Str} {n n' : Int} {t1 t2 u1 u2 : Tok} {j1 j2 i1 i2 : Nat} (N : News h₀ L s.heap news)
    (ma : (a, { cls := .type "tuple", data := .seq #[Value.ref K1, Value.str pg t1, Value.int n u1] j1 }) ∈ news) (mb : (b, { cls := .type "tuple", data := .seq #[Value.ref K2, Value.str pg t2, Value.int n' u2] j2 }) ∈ news) (m1 : (K1, listOf v1.toArray i1) ∈ news) (m2 : (K2, listOf v2.toArray i2) ∈ news)
    (h1 : IntsAre v1 is) (h2 : IntsAre v2 is) (hpg : PyData.strOk pg = true) (e : n' = n) (hu : A.units + 64 < cLine) (h : Q (.bool false) s) : wpAny (model prog w) A (compareOp .NotEq (.ref a) (.ref b)) Q E s := by
  subst e
  have r1 : Reads s.heap (.ref a) (.tuple [.list (is.map PyData.int), .str pg, .int n']) _ := reads_tuple_at (N _ ma).1 rfl rfl (.cons (reads_list_at (N _ m1).1 rfl rfl (h1.reads _)) (.cons (.str _ _) (.cons (.int _ _) .nil)))
  have r2 : Reads s.heap (.ref b) (.tuple [.list (is.map PyData.int), .str pg, .int n']) _ := reads_tuple_at (N _ mb).1 rfl rfl (.cons (reads_list_at (N _ m2).1 rfl rfl (h2.reads _)) (.cons (.str _ _) (.cons (.int _ _) .nil)))
  have sh := shaped_row is pg n' hpg
  refine ne_dataH r1 r2 sh sh hu ?_
  rw [PySem.SeqAt.eqv_refl _ (PySem.SeqAt.canLay_of_shaped sh)]
  exact h
theorem cell_away {h₀ h : Heap} {L D : Addr} {news : List (Addr × Obj)} {q q' : Str} {l c l' c' : Nat} {P P' : Addr} {ps ps' : Array Value} {c1 c2 : Addr} {o o1 o2 : Obj} {v : Option Value} (N : News h₀ L h news) (m1 : (P, tabObj ps) ∈ news) (m2 : (c1, o1) ∈ news) (m3 : (P', tabObj ps') ∈ news) (m4 : (c2, o2) ∈ news) (mD : (D, o) ∈ news) (d : o.data = .cell v)
    (S : TabS q l c P ps c1 o1) (S' : TabS q' l' c' P' ps' c2 o2) : D ∉ [P, c1, P', c2] := fun h => by
  have k1 : o ≠ o1 := by
    rcases S with ⟨_, _, e⟩ | ⟨_, vs, t, hd, _⟩
    · rw [e]; exact cell_not_tab d
    · rintro rfl; rw [d] at hd; cases hd
  have k2 : o ≠ o2 := by
    rcases S' with ⟨_, _, e⟩ | ⟨_, vs, t, hd, _⟩
    · rw [e]; exact cell_not_tab d
    · rintro rfl; rw [d] at hd; cases hd
  rcases List.mem_cons.mp h with e | h
  · exact obj_away N mD m1 (cell_not_tab d) e
  rcases List.mem_cons.mp h with e | h
  · exact obj_away N mD m2 k1 e
  exact not_two (obj_away N mD m3 (cell_not_tab d)) (obj_away N mD m4 k2) h
theorem step_le {depth hand off n h k n' h' : Nat} (hh : h < 16) (h3 : 1 ≤ depth) (h4 : depth ≤ 3) (s : Step depth hand off n h k n' h') : n' ≤ n := by
  obtain ⟨m, e, hle, _⟩ := step_num (k := k) hh h3 h4 s.lo
  have := s.num
  omega
theorem run_le {depth hand off n0 h0 : Nat} {ks : List Nat} {n h : Nat} (hh : h0 < 16) (h3 : 1 ≤ depth) (h4 : depth ≤ 3) (r : Run depth hand off n0 h0 ks n h) : n ≤ n0 := by
  induction r with
  | nil => exact Nat.le_refl _
  | snoc r s ih =>
    have e := run_hue r
    exact Nat.le_trans (step_le (by rw [e]; exact hueAt_lt hand off _ _ hh) h3 h4 s) ih
theorem ret_true {Q : Flow → Shared → Prop} {b : Bool} {s : Shared} (hb : b = true) (h : Q (.ret (.bool true)) s) : Q (.ret (.bool b)) s := hb ▸ h
theorem walks_range6 {prog : Program} {w : World} {A : Around} (hh : A.handled = none) (I : Addr) : Walks prog w A I [I] [I] 6 (fun i v => i < 6 ∧ ∃ t, v = .int (i : Int) t) (fun i h => IsRangeIter h I ((i : Nat) : Int) (6 - (i : Nat)) 1) := by
  have W := Walks.range (prog := prog) (w := w) (A := A) hh I 0 1 6
  have e : ∀ i : Nat, (0 : Int) + (i : Int) * 1 = (i : Int) := fun i => by omega
  refine { sub := W.sub, frame := fun i h h' st hk => ?_, item := fun i s Q E hi st hQ => ?_, done := fun s Q E st hQ => ?_, self := fun i s Q E st hQ => ?_ }
  · have := W.frame i h h' (by rw [e]; exact st) hk
    rwa [e] at this
  · refine W.item i s Q E hi (by rw [e]; exact st) fun v h' tk hP hst hk => ?_
    obtain ⟨t, rfl⟩ := hP
    rw [e] at hst
    exact hQ _ h' tk ⟨hi, t, by rw [e]⟩ hst hk
  · exact W.done s Q E (by rw [e]; exact st) hQ
  · exact W.self i s Q E (by rw [e]; exact st) hQ
set_option maxHeartbeats 600000 in
theorem lawB1 (w : World) (hue depth hand off : Nat) (sg : Str) (t1 t2 t3 t4 : Tok) (ws : List Value) (ds : List Int) (D a c : Addr) (o1 o2 o3 : Obj) (u : Str → Option Value)
   (hws : IntsAre ws ds) (hds : ds.length = 4) (h1 : hue < 16) (h3 : 1 ≤ depth) (h4 : depth ≤ 3) (hhand : hand < 3) (hoff : off < 3) (hsl : (sg.length : Int) = 3) (hsi : ∀ k : Nat, k < 3 → Txt.item sg (k : Int) = sgn (off + k))
    (p : Program) (loose : List Str) (mean : ExcName → Option Value) (mg mb : Str → Option Value)
    (dp un : Nat) (gd : Option (List Code)) (outer : List Env) (A₀ : Around) (base h₀ : Heap) (L : Addr) (s : Shared)
    (Q : Flow → Shared → Prop) (E : Value → Shared → Prop) (hD : L + 1 + 1 + 1 < D)
    (B : Below A₀ base outer h₀) (F : Fr h₀ L s.heap (fun y => if y = "depth" then some (.int depth t2) else if y = "hue" then some (.int hue t1) else u y))
    (X : Frag.In (Mine.hd.heap_1 w.params) h₀) (hC1 : CodeHd h₀ 34 30) (hC2 : CodeHd h₀ 41 37)
    (d1 : o1.data = .cell (some (.ref D))) (d2 : o2.data = .cell (some (.int hand t3))) (d3 : o3.data = .cell (some (.str sg t4)))
    (N : News h₀ L s.heap [(D, listOf ws.toArray 0), (L + 1 + 1 + 1, o3), (L + 1 + 1, o2), (L + 1, o1), (37, tabObj #[]), (30, tabObj #[])]) (T : Top p loose mean mg mb h₀) (hd : dp + 200 < recursionLimit) (hu : un + 4000 < cLine)
    (hQ : ∀ (h' : Heap) (tk' : Nat) (gs' : Array GenState) (m' : Str → Option Value) (p1' p2' : Array Value), (AllBare s.gens → AllBare gs') → Fr h₀ L h' m' → h'.get? 30 = some (tabObj p1') → h'.get? 37 = some (tabObj p2') → Q (.ret (.bool true)) { s with heap := h', toks := tk', gens := gs' }) :
    wpAny (model PySem.Challenge.rw_wb0062_01.row.prog w) (ktrTop dp un gd "law" (scopeOf default wdef) L a (.ref c) (wcl L) outer) (execs (after5 (bodyOf wdef)) (envX "law" (scopeOf default wdef) L a (.ref c) (wcl L))) Q E s := by
  dsimp only [after5, bodyOf, wdef, loopOf, scopeOf, PySem.Challenge.pw_wb0062_01] at F ⊢
  revert X
  k_fill
  intro X
  k_steps
  unfold Stop
  rename News _ _ _ _ => N2
  rename Fr _ _ _ _ => F2
  refine wpAny_Assign_ListComp_free (fun _ => true) (fun v y => ∀ (k : Nat) (t : Tok), v = .int (k : Int) t → ∃ t, y = .int (((ds.getD 2 0).fdiv (3 ^ k)).fmod 3) t) (by with_unfolding_all rfl) (by rfl) (by decide) rfl (by decide) (by decide) (by rfl) (by rfl) ?_ (fun _ => rfl)
  k_steps
  unfold Stop
  rename IsRange _ _ _ _ _ _ _ _ => hr
  rename Fr _ _ _ _ => F3
  rename News _ _ _ _ => N3
  refine wpAny_pyIter_range hr (by decide) ?_
  have hLI : L ≠ _ := Nat.ne_of_lt F3.ns.lt
  refine ⟨_, _, _, _, _, _, _, rfl, walks_range6 rfl _, (show 6 ≤ sizeLine by rw [sizeLine_eq]; decide), Heap.get?_push_size _ rfl, ?fp, ?wr, (F3.push _).ns, ?quiet, ?fin⟩
  case fp =>
    intro x hx
    rw [List.mem_singleton.mp hx]
    exact Nat.lt_of_lt_of_eq (Nat.lt_succ_self _) (Heap.size_push ..).symm
  case wr => exact fun hx => hLI (List.mem_singleton.mp hx)
  case quiet =>
    refine ⟨fun C i v s₃ m₃ E' hCC hPv hn hm hk ht => ?_, fun C i v s₃ m₃ E' hCC hPv hp hn hm hk ht => ?_⟩
    · exact wpAny_pure ⟨rfl, ⟨_, _, rfl, fun _ _ e => e⟩⟩
    · obtain ⟨hi6, tv, rfl⟩ := hPv
      have hcell := hk _ _ (fun q => by rw [List.mem_singleton] at q; exact absurd q (Nat.ne_of_lt (Heap.lt_size (N3 (L + 1, o1) (by k_mem)).1))) (Heap.get?_push_of_some _ (N3 (L + 1, o1) (by k_mem)).1)
      have hlist := hk _ _ (fun q => by rw [List.mem_singleton] at q; exact absurd q (Nat.ne_of_lt (Heap.lt_size (N3 (D, listOf ws.toArray 0) (by k_mem)).1))) (Heap.get?_push_of_some _ (N3 (D, listOf ws.toArray 0) (by k_mem)).1)
      refine wpAny_mono (elt_kinds w _ ws ds D a c L C o1 i tv m₃ s₃ E' hws hds hi6 hn hm d1 hcell ⟨_, hlist, rfl, _, rfl⟩) (fun y s₄ h => ⟨fun k t e => ?_, h.2⟩) (fun _ _ h => h)
      have : (k : Int) = (i : Int) := by injection e with e1 _; exact e1.symm
      have : k = i := by omega
      subst this
      exact h.1
  case fin =>
    intro D2 h2 tk2 ys vs hDn hl hpl hlen hP hF hns hk
    obtain ⟨n2, hD2⟩ := hpl
    have hkv : IntsAre ys.toList ((kindsOf (ds.getD 2 0)).map Int.ofNat) := kinds_ints hlen (fun j v e => (hP j v e).2) hF
    clear hl hP hF
    have hk2 : ∀ x o, x ≠ L → _ → h2.get? x = some o := fun x o hx e => hk x o hx (fun q => Nat.ne_of_lt (Heap.lt_size e) (List.mem_singleton.mp q)) (Heap.get?_push_of_some _ e)
    have F5 := Fr.mk hns (fun b o e => hk2 b o (Nat.ne_of_lt (Nat.lt_of_lt_of_le (Heap.lt_size e) F3.above)) (F3.keep b o e)) F3.above
    have hDne : ∀ p ∈ [(D, listOf ws.toArray 0), (L + 1 + 1 + 1, o3), (L + 1 + 1, o2), (L + 1, o1), (37, tabObj #[]), (30, tabObj #[])], p.1 ≠ D2 := fun p hp e => by
      have := Heap.get?_push_of_some { cls := .type "range_iterator", data := .fields #[rawInt 0, rawInt (Builtin.Range.rangeSize 0 6 1), rawInt 1] } (N3 p hp).1
      dsimp only at hDn
      rw [e] at this
      rw [this] at hDn
      cases hDn
    have hDL : D2 ≠ L := fun q => by
      obtain ⟨o, _, _, ho, _⟩ := (F3.push { cls := .type "range_iterator", data := .fields #[rawInt 0, rawInt (Builtin.Range.rangeSize 0 6 1), rawInt 1] }).ns
      dsimp only at hDn
      rw [q, ho] at hDn; cases hDn
    have hD0 : h₀.get? D2 = none := by
      cases q : h₀.get? D2 with
      | none => rfl
      | some o =>
        have := (F3.push { cls := .type "range_iterator", data := .fields #[rawInt 0, rawInt (Builtin.Range.rangeSize 0 6 1), rawInt 1] }).keep _ _ q
        dsimp only at hDn
        rw [this] at hDn; cases hDn
    have N6 : News h₀ L h2 ((D2, listOf ys n2) :: [(D, listOf ws.toArray 0), (L + 1 + 1 + 1, o3), (L + 1 + 1, o2), (L + 1, o1), (37, tabObj #[]), (30, tabObj #[])]) := List.forall_mem_cons.mpr ⟨⟨hD2, hDL, hD0⟩, fun p hp => ⟨hk2 _ _ (N3 p hp).2.1 (N3 p hp).1, (N3 p hp).2⟩⟩
    clear N3 F3 hk2 hk hns hDn
    k_steps
    unfold Stop
    rename Fr _ _ _ _ => F7
    rename News _ _ _ _ => N7
    obtain ⟨kv⟩ := ys
    refine page_LC w _ _ _ _ _ _ _ _ _ hand off sg t3 t4 a c L D2 o2 o3 _ _ _ _ kv (kindsOf (ds.getD 2 0)) p loose mean mg mb dp un gd outer A₀ base h₀ B F7 X T (by ktr_room) (by ktr_units) rfl ⟨_, (N7 _ (List.Mem.head _)).1, rfl, _, rfl⟩ hkv (kindsOf_len _) (kindsOf_lt _) hhand hoff hsl hsi d2 d3 (N7 (L + 1 + 1, o2) (by k_mem)).1 (N7 (L + 1 + 1 + 1, o3) (by k_mem)).1 ?_
    intro DL h8 tk8 yl hst hll F8 keep8
    have N8 : News h₀ L h8 _ := fun p hp => ⟨keep8 _ _ (N7 p hp).1, (N7 p hp).2⟩
    clear F7 N7 keep8
    (try dsimp only)
    k_steps
    unfold Stop
    refine join_listW hll hst (by decide) (Nat.le_trans (Nat.add_le_add (wsum hand off _) (Nat.le_of_eq (List.length_map ..))) (by rw [kindsOf_len]; decide)) (fun t' k' => ?_)
    rw [join_page]
    k_steps
    unfold Stop
    rename Fr _ _ _ _ => F9
    rename News _ _ _ _ => N9
    obtain ⟨n0, hn0, hn0l⟩ : ∃ n0 : Nat, (ds.getD 0 0).fmod 1000 = (n0 : Int) ∧ n0 < 1000 := by
      have g1 := Int.fmod_nonneg_of_pos (ds.getD 0 0) (show (0 : Int) < 1000 by decide)
      have g2 := Int.fmod_lt_of_pos (ds.getD 0 0) (show (0 : Int) < 1000 by decide)
      exact ⟨((ds.getD 0 0).fmod 1000).toNat, (Int.toNat_of_nonneg g1).symm, by omega⟩
    refine call_arg hn0 ?_
    k_dflt (refine' con_use (lawlaid w n0 hue depth hand off sg _ _ _ _ _ D2 kv (kindsOf (ds.getD 2 0)) hkv (kindsOf_len _) (kindsOf_lt _) h1 h3 h4 hhand hoff (by omega) hsl hsi) ?k1 ?k2 ?k3 ?k4 ?k5 ?kK ?kP ?kd ?ku ?_; (case k1 => k_asm); (case k2 => k_asm); (case k3 => k_asm); (case k4 => exact News.nil); (case k5 => k_asm); (case kK => exact rfl); (case kP => exact ⟨_, (N9 _ (List.Mem.head _)).1, rfl, _, rfl⟩); (case kd => ktr_room); (case ku => ktr_units))
    intro r10 h10 tk10 mu10 F10 N10 X10 O10
    obtain ⟨⟨tl, rfl⟩, rfl⟩ := O10
    have N11 := news_all N9 X10 N10
    simp only [List.nil_append] at N11
    clear N10 N9 F9 X10
    obtain ⟨NL, hNL, hNLl⟩ : ∃ NL : Nat, laid depth (path hand off hue (kindsOf (ds.getD 2 0))) n0 = (NL : Int) ∧ NL < 2 ^ 30 := by
      obtain ⟨g1, g2⟩ := laid_bd h3 h4 (l := path hand off hue (kindsOf (ds.getD 2 0))) (n := (n0 : Int)) (path_ok hand off _ hue h1 (kindsOf_lt _)) (by omega)
      rw [path_len, kindsOf_len] at g2
      exact ⟨(laid depth (path hand off hue (kindsOf (ds.getD 2 0))) n0).toNat, (Int.toNat_of_nonneg g1).symm, by omega⟩
    (try dsimp only)
    k_steps
    unfold Stop
    rename Fr _ _ _ _ => F12
    rename News _ _ _ _ => N12
    refine call_arg hNL ?_
    k_dflt (refine' conG_use (lawread w NL hue depth hand off sg _ _ _ _ _ h1 h3 h4 hNLl hhand hoff hsl hsi #[] #[] 30 37 (tabObj #[]) (tabObj #[]) (.inl ⟨rfl, rfl, rfl⟩) (.inl ⟨rfl, rfl, rfl⟩)) ?k1 ?k2 ?k3 ?k4 ?k5 ?kK ?kP ?kd ?ku ?_; (case k1 => k_asm); (case k2 => k_asm); (case k3 => k_asm); (case k4 => exact List.forall_mem_cons.mpr ⟨N12 _ (by k_mem), List.forall_mem_cons.mpr ⟨N12 _ (by k_mem), List.forall_mem_cons.mpr ⟨N12 _ (by k_mem), List.forall_mem_cons.mpr ⟨N12 _ (by k_mem), List.forall_mem_nil _⟩⟩⟩⟩); (case k5 => k_asm); (case kK => exact rfl); (case kP => exact ⟨codeHd_ext hC1 (fun b o _ e => F12.keep b o e) List.not_mem_nil, codeHd_ext hC2 (fun b o _ e => F12.keep b o e) List.not_mem_nil⟩); (case kd => ktr_room); (case ku => ktr_units))
    intro r13 h13 tk13 gs13 mu13 hgs13 F13 N13 X13 O13
    obtain ⟨DT, K2, kv2, ks2, n2', h2', jx, jk, u2, v2, p1', c1', o1', p2', c2', o2', hkv2, hrun, hks2, hS1', hS2', hfD, hfK⟩ := O13
    obtain ⟨rfl, rfl⟩ := read_laid h1 h3 h4 (kindsOf_lt _) (by rw [kindsOf_len, hks2]) hNL.symm hrun
    have aw := fun {a : Addr} {o : Obj} (m : (a, o) ∈ _) (hn : o ≠ tabObj #[]) => away4 N12 (by k_mem) (by k_mem) m hn
    have N14 := news_join (rest := [(D2, listOf kv.toArray n2), (D, listOf ws.toArray 0), (L + 1 + 1 + 1, o3), (L + 1 + 1, o2), (L + 1, o1)]) N12 X13 N13 (List.forall_mem_cons.mpr ⟨⟨by k_mem, aw (by k_mem) list_not_tab⟩, List.forall_mem_cons.mpr ⟨⟨by k_mem, aw (by k_mem) list_not_tab⟩, List.forall_mem_cons.mpr ⟨⟨by k_mem, aw (by k_mem) (cell_not_tab d3)⟩, List.forall_mem_cons.mpr ⟨⟨by k_mem, aw (by k_mem) (cell_not_tab d2)⟩, List.forall_mem_cons.mpr ⟨⟨by k_mem, aw (by k_mem) (cell_not_tab d1)⟩, List.forall_mem_nil _⟩⟩⟩⟩⟩)
    simp only [List.cons_append, List.nil_append] at N14
    clear aw N12 N13 X13 F12
    (try dsimp only)
    k_steps
    unfold Stop
    rename News _ _ _ _ => N15
    refine ne_row N15 (List.Mem.tail _ (List.Mem.head _)) (List.Mem.head _) (List.Mem.tail _ (List.Mem.tail _ (List.Mem.head _))) (by k_mem) hkv2 hkv (page_ok _ _ _) hn0 (by ktr_units) ?_
    k_steps
    unfold Stop
    rename Fr _ _ _ _ => F16
    rename News _ _ _ _ => N16
    obtain ⟨M, hM, hMl⟩ : ∃ M : Nat, (ds.getD 3 0).fmod (10 ^ 8) = (M : Int) ∧ M < 100000000 := by
      have g1 := Int.fmod_nonneg_of_pos (ds.getD 3 0) (show (0 : Int) < 10 ^ 8 by decide)
      have g2 := Int.fmod_lt_of_pos (ds.getD 3 0) (show (0 : Int) < 10 ^ 8 by decide)
      exact ⟨((ds.getD 3 0).fmod (10 ^ 8)).toNat, (Int.toNat_of_nonneg g1).symm, by omega⟩
    refine call_arg hM ?_
    k_dflt (refine' conG_use (lawread w M hue depth hand off sg _ _ _ _ _ h1 h3 h4 (by omega) hhand hoff hsl hsi p1' p2' c1' c2' o1' o2' hS1' hS2') ?k1 ?k2 ?k3 ?k4 ?k5 ?kK ?kP ?kd ?ku ?_; (case k1 => k_asm); (case k2 => k_asm); (case k3 => k_asm); (case k4 => exact List.forall_mem_cons.mpr ⟨N16 _ (by k_mem), List.forall_mem_cons.mpr ⟨N16 _ (by k_mem), List.forall_mem_cons.mpr ⟨N16 _ (by k_mem), List.forall_mem_cons.mpr ⟨N16 _ (by k_mem), List.forall_mem_nil _⟩⟩⟩⟩); (case k5 => k_asm); (case kK => exact rfl); (case kP => exact ⟨codeHd_ext hC1 (fun b o _ e => F16.keep b o e) List.not_mem_nil, codeHd_ext hC2 (fun b o _ e => F16.keep b o e) List.not_mem_nil⟩); (case kd => ktr_room); (case ku => ktr_units))
    intro r17 h17 tk17 gs17 mu17 hgs17 F17 N17 X17 O17
    obtain ⟨DU, K3, kv3, ks3, n3, h3', jy, jl, u3, v3, p1'', c1'', o1'', p2'', c2'', o2'', hkv3, hrun3, hks3, hS1'', hS2'', hfD3, hfK3⟩ := O17
    have N18 := news_join (rest := [(L + 1 + 1 + 1, o3), (L + 1 + 1, o2), (L + 1, o1)]) N16 X17 N17 (List.forall_mem_cons.mpr ⟨⟨by k_mem, cell_away N16 (P := 30) (P' := 37) (by k_mem) (by k_mem) (by k_mem) (by k_mem) (by k_mem) d3 hS1' hS2'⟩, List.forall_mem_cons.mpr ⟨⟨by k_mem, cell_away N16 (P := 30) (P' := 37) (by k_mem) (by k_mem) (by k_mem) (by k_mem) (by k_mem) d2 hS1' hS2'⟩, List.forall_mem_cons.mpr ⟨⟨by k_mem, cell_away N16 (P := 30) (P' := 37) (by k_mem) (by k_mem) (by k_mem) (by k_mem) (by k_mem) d1 hS1' hS2'⟩, List.forall_mem_nil _⟩⟩⟩)
    simp only [List.cons_append, List.nil_append] at N18
    clear N16 N17 X17 F16
    (try dsimp only)
    k_steps
    unfold Stop
    rename Fr _ _ _ _ => F19
    rename News _ _ _ _ => N19
    refine page_LC w _ _ _ _ _ _ _ _ _ hand off sg t3 t4 a c L K3 o2 o3 _ _ _ _ kv3 ks3 p loose mean mg mb dp un gd outer A₀ base h₀ B F19 X T (by ktr_room) (by ktr_units) rfl ⟨_, (N19 (K3, listOf kv3.toArray jl) (by k_mem)).1, rfl, _, rfl⟩ hkv3 hks3 (run_k3 hrun3) hhand hoff hsl hsi d2 d3 (N19 (L + 1 + 1, o2) (by k_mem)).1 (N19 (L + 1 + 1 + 1, o3) (by k_mem)).1 ?_
    intro DM h20 tk20 yl2 hst2 hll2 F20 keep20
    have N20 : News h₀ L h20 _ := fun p hp => ⟨keep20 _ _ (N19 p hp).1, (N19 p hp).2⟩
    clear F19 N19 keep20
    (try dsimp only)
    k_steps
    unfold Stop
    refine join_listW hll2 hst2 (by decide) (Nat.le_trans (Nat.add_le_add (wsum hand off _) (Nat.le_of_eq (List.length_map ..))) (by rw [hks3]; decide)) (fun t' k' => ?_)
    rw [join_page]
    k_steps
    · rename (_ != _) = true => hb
      rw [bne_self_eq_false] at hb
      cases hb
    unfold Stop
    rename Fr _ _ _ _ => F21
    rename News _ _ _ _ => N21
    have hn3 := run_le h1 h3 h4 hrun3
    k_dflt (refine' con_use (lawlaid w n3 hue depth hand off sg _ _ _ _ _ K3 kv3 ks3 hkv3 hks3 (run_k3 hrun3) h1 h3 h4 hhand hoff (by omega) hsl hsi) ?k1 ?k2 ?k3 ?k4 ?k5 ?kK ?kP ?kd ?ku ?_; (case k1 => k_asm); (case k2 => k_asm); (case k3 => k_asm); (case k4 => exact News.nil); (case k5 => k_asm); (case kK => exact rfl); (case kP => exact ⟨_, (N21 (K3, listOf kv3.toArray jl) (by k_mem)).1, rfl, _, rfl⟩); (case kd => ktr_room); (case ku => ktr_units))
    intro r22 h22 tk22 mu22 F22 N22 X22 O22
    obtain ⟨⟨tm, rfl⟩, rfl⟩ := O22
    have N23 := news_all N21 X22 N22
    simp only [List.nil_append] at N23
    clear N22 N21 F21 X22
    rw [laid_run h1 h3 h4 hrun3]
    (try dsimp only)
    k_steps
    refine ret_true (beq_iff_eq.mpr hM.symm) ?_
    exact hQ h22 _ gs17 _ p1'' p2'' (fun hb => hgs17 (hgs13 hb)) F22 (N23 (30, tabObj p1'') (by k_mem)).1 (N23 (37, tabObj p2'') (by k_mem)).1
end Mine
namespace Mine
theorem rs_V4 : True := by
  w_top off
  exact trivial
def afterS : List Stmt → List Stmt
  | _ :: r => r
  | [] => []
local macro_rules | `(tactic| walk_at "subscriptTail Name Slice str ref") => `(tactic| (refine stop_intro ?_))
local macro_rules | `(tactic| walk_at "last subscriptTail") => `(tactic| ((with_reducible show wpAny _ _ (subscriptTail (Expr.Name _ _) (PySem.Expr.Slice none (some _) none _) (Value.str _ _) (Value.ref _)) _ _ _); (refine stop_intro ?_)))
theorem slice3 {prog : Program} {w : World} {A : Around} {E : Value → Shared → Prop} {Q : Value → Shared → Prop} {s : Shared} {h₀ : Heap} {L : Addr} {m : Str → Option Value} {news : List (Addr × Obj)} {x nm : Str} {t uj : Tok} {q0 q1 q2 : Pos} {z0 : Nat} (F : Fr h₀ L s.heap m) (N : News h₀ L s.heap news) (hsz : x.length ≤ sizeLine)
    (h : ∀ h' t' k, Fr h₀ L h' m → News h₀ L h' news → Q (.str (Txt.slice x none (some 3)) t') { s with heap := h', toks := k }) :
    wpAny (model prog w) A (subscriptTail (Expr.Name nm q0) (Expr.Slice none (some (Expr.Constant (Const.int 3) z0 q1)) none q2) (.str x t) (.ref s.heap.objs.size)) Q E { s with heap := s.heap.push { cls := .type "slice", data := .fields #[.none, .int 3 uj, .none] } } :=
  slice_strN_ns F N h (by with_unfolding_all rfl) (fun _ => by with_unfolding_all rfl) hsz
theorem fr_dh {h₀ h : Heap} {L : Addr} {V V' W W' : Int} {t t' : Tok} {u : Str → Option Value} (F : Fr h₀ L h (fun y : Str => if y = "depth" then some (Value.int V t) else if y = "hue" then some (Value.int W t') else u y)) (e1 : V = V') (e2 : W = W') :
    Fr h₀ L h (fun y : Str => if y = "depth" then some (Value.int V' t) else if y = "hue" then some (Value.int W' t') else u y) := by subst e1 e2; exact F
theorem fmod_nat (z : Int) {m : Int} (hm : 0 < m) : ∃ n : Nat, z.fmod m = (n : Int) ∧ (n : Int) < m :=
  ⟨(z.fmod m).toNat, (Int.toNat_of_nonneg (Int.fmod_nonneg_of_pos z hm)).symm, by rw [Int.toNat_of_nonneg (Int.fmod_nonneg_of_pos z hm)]; exact Int.fmod_lt_of_pos z hm⟩
theorem off_cases {off : Nat} (h : (off : Int) < 3) : off = 0 ∨ off = 1 ∨ off = 2 := by omega
theorem slice_sz {z : Int} {off : Nat} (e : z = (off : Int)) (h : (off : Int) < 3) : (Txt.slice "&<>\"\t" (some z) none).length ≤ sizeLine := by
  subst e
  rw [sizeLine_eq]
  rcases off_cases h with rfl | rfl | rfl <;> decide +kernel
theorem slice_sgs {z : Int} {off : Nat} (e : z = (off : Int)) (h : (off : Int) < 3) : Txt.slice (Txt.slice "&<>\"\t" (some z) none) none (some 3) = sgs off := by
  subst e
  rcases off_cases h with rfl | rfl | rfl <;> decide +kernel
theorem sgs_len {off : Nat} (h : (off : Int) < 3) : ((sgs off).length : Int) = 3 := by
  rcases off_cases h with rfl | rfl | rfl <;> decide +kernel
theorem sgs_item {off : Nat} (h : (off : Int) < 3) : ∀ k : Nat, k < 3 → Txt.item (sgs off) (k : Int) = sgn (off + k) := fun k hk => by
  rcases off_cases h with rfl | rfl | rfl <;> rcases off_cases (off := k) (by omega) with rfl | rfl | rfl <;> decide +kernel
set_option maxHeartbeats 400000 in
theorem lawA1 (w : World) (ws : List Value) (ds : List Int) (D a c : Addr) (o1 o2 o3 : Obj) (v2 v3 : Option Value) (u : Str → Option Value)
   (hws : IntsAre ws ds) (hds : ds.length = 4)
    (p : Program) (loose : List Str) (mean : ExcName → Option Value) (mg mb : Str → Option Value)
    (dp un : Nat) (gd : Option (List Code)) (outer : List Env) (A₀ : Around) (base h₀ : Heap) (L : Addr) (s : Shared)
    (Q : Flow → Shared → Prop) (E : Value → Shared → Prop) (hL : @LT.lt Nat _ 37 L ∧ @LT.lt Nat _ 30 L) (hD : @LT.lt Nat _ (L + 1 + 1 + 1) D)
    (B : Below A₀ base outer h₀) (F : Fr h₀ L s.heap u)
    (X : Frag.In (Mine.hd.heap_1 w.params) h₀) (hC1 : CodeHd h₀ 34 30) (hC2 : CodeHd h₀ 41 37)
    (d1 : o1.data = .cell (some (.ref D))) (d2 : o2.data = .cell v2) (d3 : o3.data = .cell v3)
    (N : News h₀ L s.heap [(D, listOf ws.toArray 0), (L + 1 + 1 + 1, o3), (L + 1 + 1, o2), (L + 1, o1), (37, tabObj #[]), (30, tabObj #[])]) (T : Top p loose mean mg mb h₀) (hd : dp + 250 < recursionLimit) (hu : un + 5000 < cLine)
    (hQ : ∀ (h' : Heap) (tk' : Nat) (gs' : Array GenState) (m' : Str → Option Value) (p1' p2' : Array Value), (AllBare s.gens → AllBare gs') → Fr h₀ L h' m' → h'.get? 30 = some (tabObj p1') → h'.get? 37 = some (tabObj p2') → Q (.ret (.bool true)) { s with heap := h', toks := tk', gens := gs' }) :
    wpAny (model PySem.Challenge.rw_wb0062_01.row.prog w) (ktrTop dp un gd "law" (scopeOf default wdef) L a (.ref c) (wcl L) outer) (execs (afterS (bodyOf wdef)) (envX "law" (scopeOf default wdef) L a (.ref c) (wcl L))) Q E s := by
  dsimp only [afterS, bodyOf, wdef, loopOf, scopeOf, PySem.Challenge.pw_wb0062_01] at F ⊢
  obtain ⟨off, hE, hoff⟩ := fmod_nat ((ds.getD 1 0).fdiv 144) (m := 3) (by decide)
  obtain ⟨hue, hH, hhue⟩ := fmod_nat (ds.getD 1 0) (m := 16) (by decide)
  obtain ⟨dd, hDD, hdd⟩ := fmod_nat ((ds.getD 1 0).fdiv 16) (m := 3) (by decide)
  obtain ⟨hand, hHH, hhand⟩ := fmod_nat ((ds.getD 1 0).fdiv 48) (m := 3) (by decide)
  revert X
  k_fill
  intro X
  k_steps
  unfold Stop
  rename Fr _ _ _ _ => F1
  rename News _ _ _ _ => N1
  refine slice3 F1 N1 (slice_sz hE hoff) (fun h2 t2 k2 F2 N2 => ?_)
  clear F1 N1
  k_dflt (refine' storeX_C F2 N2 ?c ?u ?d ?_ ?k ?x; (case c => exact rfl); (case u => k_updF); (case d => assumption); (case k => rfl); (case x => rfl))
  intro h3 o4 F3 N3 d4
  dsimp only
  rename _ = Data.cell (some (Value.int _ _)) => d5
  refine lawB1 w hue (1 + dd) hand off (sgs off) _ _ _ _ ws ds D a c o1 _ o4 _ hws hds (by omega) (by omega) (by omega) (by omega) (by omega) (sgs_len hoff) (sgs_item hoff) p loose mean mg mb dp un gd outer A₀ base h₀ L _ Q E hD B (fr_dh F3 ((congrArg (1 + ·) hDD).trans (by omega)) hH) X hC1 hC2 d1 (d5.trans (congrArg (fun z => Data.cell (some (Value.int z _))) hHH)) (d4.trans (congrArg (fun z => Data.cell (some (Value.str z t2))) (slice_sgs hE hoff))) N3 T (by ktr_room) (by ktr_units) ?_
  intro h' tk' gs' m' p1' p2' hb F' e1 e2
  exact hQ h' tk' gs' m' p1' p2' hb F' e1 e2
end Mine
namespace Mine
local macro_rules | `(tactic| walk_at "none of the walk's keys") => `(tactic| fail)
theorem rs_V3 : True := by
  w_top off
  exact trivial
local macro_rules | `(tactic| walk_at "execs cons") => `(tactic| ((with_reducible show wpAny _ _ (execs (Stmt.Assign _ (Expr.BinOp _ Operator.Mod _ _) _ :: _) _) _ _ _); (refine stop_intro ?_)))
local macro_rules | `(tactic| walk_at "subscriptTail Name Slice ref ref") => `(tactic| ((with_reducible show wpAny _ _ (subscriptTail _ (PySem.Expr.Slice (some _) none none _) (Value.ref _) (Value.ref _)) _ _ _); (refine stop_intro ?_)))
set_option maxHeartbeats 2000000 in
theorem lawA0 (w : World) (vs : List Value) (ns : List Int) (SC a c : Addr) (o1 o2 o3 : Obj) (v1 v2 v3 : Option Value) (u : Str → Option Value)
   (hvs : IntsAre vs ns) (hns : ns.length ≤ 63)
    (p : Program) (loose : List Str) (mean : ExcName → Option Value) (mg mb : Str → Option Value)
    (dp un : Nat) (gd : Option (List Code)) (outer : List Env) (A₀ : Around) (base h₀ : Heap) (L : Addr) (s : Shared)
    (Q : Flow → Shared → Prop) (E : Value → Shared → Prop) (hL : @LT.lt Nat _ 37 L ∧ @LT.lt Nat _ 30 L)
    (B : Below A₀ base outer h₀) (F : Fr h₀ L s.heap (fun y => if y = "script" then some (.ref SC) else u y))
    (X : Frag.In (Mine.hd.heap_1 w.params) h₀) (hC1 : CodeHd h₀ 34 30) (hC2 : CodeHd h₀ 41 37) (hSC : h₀.IsList SC vs.toArray)
    (d1 : o1.data = .cell v1) (d2 : o2.data = .cell v2) (d3 : o3.data = .cell v3)
    (N : News h₀ L s.heap [(L + 1 + 1 + 1, o3), (L + 1 + 1, o2), (L + 1, o1), (37, tabObj #[]), (30, tabObj #[])]) (T : Top p loose mean mg mb h₀) (hd : dp + 250 < recursionLimit) (hu : un + 5000 < cLine)
    (hQ : ∀ (h' : Heap) (tk' : Nat) (gs' : Array GenState) (m' : Str → Option Value) (p1' p2' : Array Value), (AllBare s.gens → AllBare gs') → Fr h₀ L h' m' → h'.get? 30 = some (tabObj p1') → h'.get? 37 = some (tabObj p2') → Q (.ret (.bool true)) { s with heap := h', toks := tk', gens := gs' }) :
    wpAny (model PySem.Challenge.rw_wb0062_01.row.prog w) (ktrTop dp un gd "law" (scopeOf default wdef) L a (.ref c) (wcl L) outer) (execs (bodyOf wdef) (envX "law" (scopeOf default wdef) L a (.ref c) (wcl L))) Q E s := by
  dsimp only [bodyOf, wdef, loopOf, scopeOf, PySem.Challenge.pw_wb0062_01] at F ⊢
  revert X
  k_fill
  intro X
  k_steps
  unfold Stop
  rename Fr _ _ _ _ => F1
  rename News _ _ _ _ => N1
  refine kmk_slice_ints (ns := [345, 181, 437, 31415926]) F1 N1 ⟨_, (N1 _ (List.Mem.head _)).1, rfl, _, rfl⟩ (IsPart.int _ _) IsPart.none (.cons _ _ (.cons _ _ (.cons _ _ (.cons _ _ .nil)))) (kmk_from (.cons _ _ (.cons _ _ (.cons _ _ (.cons _ _ .nil)))) (by omega)) List.length_drop (fun D2 ws2 h2 F2 N2 l2 hI2 hCx hLx => ?_) (by with_unfolding_all rfl) (fun _ => by with_unfolding_all rfl) (show 4 ≤ sizeLine by rw [sizeLine_eq]; decide)
  k_lt l2
  clear F1 N1
  k_steps
  unfold Stop
  rename Fr _ _ _ _ => F3
  rename News _ _ _ _ => N3
  rename IntsAre _ _ => hI
  rename _ = Data.cell _ => d4
  rename _ ∧ _ => l3
  have hlen : (List.take 4 ns ++ List.drop ((ns.length : Int)).toNat [345, 181, 437, 31415926]).length = 4 := by
    rw [List.length_append, List.length_take, List.length_drop, Int.toNat_natCast]
    show min 4 ns.length + (4 - ns.length) = 4
    omega
  refine lawA1 w _ _ _ a c _ o2 o3 _ _ _ hI hlen p loose mean mg mb dp un gd outer A₀ base h₀ L _ Q E hL (by omega) B F3 X hC1 hC2 d4 d2 d3 (fun p hp => N3 p ?_) T hd hu hQ
  rcases List.mem_cons.mp hp with rfl | hp
  · exact List.Mem.head _
  · exact List.Mem.tail _ (List.Mem.tail _ (List.Mem.tail _ (List.Mem.tail _ hp)))
end Mine
namespace Mine
local macro_rules | `(tactic| walk_at "call ref") => `(tactic| (refine stop_intro ?_))
/-- the end of the law: True, the old things kept but for the tables, the generators left bare -/
def GoodB (s₁ : Shared) (res : Result) (s' : Shared) : Prop := res = .ok (.ret (.bool true)) ∧ (∀ b o, s₁.heap.get? b = some o → s'.heap.get? b = some o) ∧ s'.os = s₁.os ∧ AllBare s'.gens
theorem kn_postB {M : Model} {A : Around} {cd : Code} {s s₁ : Shared} {cw : ClaimW} {cl : Str → Option Addr} {mean : ExcName → Option Value} {args : List WData} {tabs : List (Addr × Addr)} (hT : TabsAt tabs s₁.heap) (hr : ∀ a x, cw.raises a x = false) (hp : cw.post args (.bool true) args = true)
    (h : codeAny M A cd (fun r s' => GoodB { s₁ with heap := ghostOf s₁.heap tabs } r s' ∧ GrownAll tabs s'.heap) s) : codeAny M A cd (GoodWG cw cl mean args s₁) s :=
  codeAny_mono h fun r s' ⟨⟨hc, hk, hos, hg⟩, hgr⟩ => by
    have keep : ∀ b o, b ∉ tabs.map (·.2) → s₁.heap.get? b = some o → s'.heap.get? b = some o := fun b o hb e => hk b o (ghost_ne e hb)
    have grown : ∀ b o, b ∈ tabs.map (·.2) → s₁.heap.get? b = some o → isCodeTable s₁.heap b ∧ o = tabObj #[] ∧ ∃ ps, s'.heap.get? b = some (tabObj ps) := fun b o hb e => by
      obtain ⟨q, hq, rfl⟩ := List.mem_map.mp hb
      have e2 := (hT q hq).2
      rw [e] at e2
      exact ⟨((hT q hq).1.tab (hT q hq).2).isCodeTable, Option.some.inj e2, hgr.get q hq⟩
    refine ⟨.inl ⟨_, _, _, hc, fun _ => hr _ _, .bool _, hp, fun _ => ⟨List.nodup_nil, fun _ ha => nomatch ha⟩⟩, ⟨fun b o e => ?_, fun b o e => ?_⟩, hos, hg⟩
    · by_cases hb : b ∈ tabs.map (·.2)
      · obtain ⟨ht, rfl, ps, hP⟩ := grown b o hb e
        exact .inr (.inl ⟨ht, rfl, #[], ps, rfl, by rw [Array.empty_append]; exact hP⟩)
      · exact .inl (keep b o hb e)
    · by_cases hb : b ∈ tabs.map (·.2)
      · obtain ⟨_, _, ps, hP⟩ := grown b o hb e
        exact ⟨_, hP⟩
      · exact ⟨o, keep b o hb e⟩
theorem wpost (e : WCtx) (h : e.res = some (.bool true)) (R : WRecords) : WTm.holds R (.eq .res (.lit (.bool true))) e = true := by
  unfold WTm.holds
  simp only [WTm.value, h]
  rw [show W.same (.bool true) (.bool true) = true by decide +kernel]
theorem lpost (args : List WData) : PySem.Challenge.rw_wb0062_01.row.claim.post args (.bool true) args = true :=
  Bool.and_eq_true_iff.mpr ⟨rfl, wpost _ rfl _⟩
theorem fr_script {h₀ h : Heap} {L : Addr} {m : Str → Option Value} {v1 : Value} (F : Fr h₀ L h m) (h1 : m "script" = some v1) : Fr h₀ L h (fun y : Str => if y = "script" then some v1 else m y) := by
  refine fr_same F fun y => ?_
  by_cases k1 : y = "script"
  · rw [if_pos k1, k1, h1]
  rw [if_neg k1]
/-- the text's statements that bind at the top -/
noncomputable abbrev kept : Program := view PySem.Challenge.rw_wb0062_01.row.prog [1, 2, 3, 4, 5, 6, 7, 9, 11, 12, 14, 15, 16, 17, 19, 20, 21, 22, 23, 24]
/-- what is looked at behind the top: the heap's written part, two tables that are still empty -/
noncomputable abbrev looked : Hook := kmHook Mine.hd.heap_1 [2, 3, 15, 17, 18, 20, 21, 22, 24, 25, 27, 28, 29, 31, 32, 34, 35, 36, 38, 39, 41, 42, 43, 45, 46, 48, 49, 50, 52, 53, 55, 56, 57, 59, 60, 62, 63, 64, 66, 67, 69, 70, 71, 73, 74, 76, 77, 78, 80, 81, 83, 84, 85, 87, 88, 90, 91, 92, 94, 95, 97, 98, 99, 101, 102, 104, 105, 106, 108, 109, 111, 112, 113, 116, 117, 118, 120, 121, 123, 124, 125, 127, 128, 130, 131, 132, 135, 136] (fun _ => by kernel_rfl) [37, 30]
set_option maxHeartbeats 8000000 in
theorem trial : PySem.Challenge.rw_wb0062_01.Holds := by
  w_on
  o_law
  refine holds_open (q := kept) (loose := []) (Xt := fun s => xlAt kept [] s && recOk (RowW.records (OpenRow.toRowW PySem.Challenge.rw_wb0062_01.row)) s) (XP := XL kept [])
    (Yf := Hook.obs looked) (Ya := Hook.val looked) (YP := Hook.says looked) (N := 1404) ?hl (Hook.of looked) (Hook.keeps looked) (fun s e => xl_of s (Bool.and_eq_true_iff.mp e).1) XL.keeps (by rfl) (by rfl) (by rfl) (fun s e => recFacts_of (Bool.and_eq_true_iff.mp e).2) (by rfl)
    (by assumption) (by decide +kernel) ⟨rfl, rfl, rfl, rfl, rfl, by decide +kernel⟩ ?hw ?hc
  case hl => (intro w; kernel_rfl)
  case hw => w_witness2
  delta looked
  k_fill
  intro w s₀ s₁ mg mb G Y fa o pm cd doc dV kV ho hd hcd hD hmg hg args vals as hpre hlay hrd hwl hlo
  obtain ⟨cc, occ, vcc, tcc, ecc, hcd2⟩ := id hcd
  subst ecc
  have KX := km_in_of Y
  km_tabs Y
  have X := (Ground.X G).1
  have V := (Ground.X G).2
  refine Ground.open G ?_
  intro T B D TE TW
  try (refine guard_noD D (by decide +kernel) ?_; clear D)
  km_lay T hmg ho hd cd
  clear hmg
  wrow_args hpre hlay hrd hwl hlo
  first | refine callC_kw (enter_call ?_) | refine enter_call ?_
  w_top on
  refine kn_postB hT9 (fun _ _ => rfl) (lpost _) ?_
  w_call any ho hd hcd hD T F
  clear hd
  kn_ghosts F T
  k_drop
  rename Fr _ _ _ _ => F0
  rename News _ _ _ _ => N0
  rename Frag.In _ (ghostOf _ _) => X0
  rename Top _ _ _ _ _ (ghostOf _ _) => T0
  rename Below _ _ _ _ => B0
  rename Heap.IsList (ghostOf _ _) _ _ => L0
  rename IntsAre _ _ => I0
  rename ¬ _ => l63
  rename CodeHd _ _ _ => C1
  rename CodeHd _ (41, 37).1 _ => C2
  rename _ ∧ _ => l37
  rename _ = Data.cell _ => d1
  refine lawA0 w _ _ _ fa cc _ _ _ _ _ _ _ I0 (by omega) _ _ _ _ _ _ _ _ _ _ _ _ _ _ _ _ l37 B0 (fr_script F0 rfl) X0 C1 C2 L0 d1 (by assumption) (by assumption) N0 T0 (by decide) (by decide) ?_
  intro h' tk' gs' m' p1' p2' hb F' e1 e2
  exact ⟨⟨rfl, F'.keep, rfl, hb (AllBare.of_eq hg)⟩, ⟨p2', e2⟩, ⟨p1', e1⟩, trivial⟩
end Mine
end
theorem PySem.Challenge.cw_wb0062_01_holds : PySem.Challenge.rw_wb0062_01.Holds :=
  Mine.trial

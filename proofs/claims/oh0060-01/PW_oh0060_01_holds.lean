import PyProof.Rows.All
import Wide.All
import OpenK.AllK
import Wide.FinOn
import PySem.Challenge.RW_oh0060_01
open PySem PySem.W PyProof.Rows PySem.Calls PySem.Spec
set_option Elab.async false
set_option maxRecDepth 100000
set_option maxHeartbeats 3000000
set_option compiler.extract_closed false
set_option linter.all false
namespace Mine
section
local macro_rules | `(tactic| refine $_) => `(tactic| contradiction)
/-- it says nothing: on its way k_head writes the heap that the top leaves and the text that is kept as constants, hd.heap_1 and hd.view_1; what they are is shown below, in left -/
theorem hd (f : False) : PySem.Challenge.rw_oh0060_01.row.Holds := by k_head
end
noncomputable def hk : Hook := kHook hd.heap_1 [2, 3, 15, 17, 18, 20, 21, 22, 24, 25, 27, 28, 29, 31, 32, 34, 35, 36, 38, 39, 41, 42, 50, 51, 53, 54, 56, 57, 58, 60, 61, 62, 63, 64, 67, 74, 75, 76, 77, 87, 88, 90, 91, 93, 94, 95, 97, 98, 100, 101, 102, 104, 105, 107, 108, 109, 112, 113, 114, 116, 117, 119, 120, 121, 123, 124, 126, 127, 128, 130, 131, 133, 134, 135, 137, 138, 140, 141, 142, 144, 145, 147, 148, 149, 151, 152, 154, 155, 156, 157, 158, 159, 160, 163, 165, 166, 168, 169, 170, 172, 173, 175, 176, 177, 179, 180, 182, 183, 184, 186, 187, 189, 190, 191, 193, 194, 196, 197, 198, 201, 202] (fun _ => by kernel_rfl)
theorem hk_in {w : World} {h : Heap} (Y : hk.says w h) : (hd.heap_1 w.params).In h := Y
theorem left : LeftO PySem.Challenge.rw_oh0060_01.row.prog hd.view_1 [Str.ofString "_NodeInfo"] (fun s => xlAt hd.view_1 [] s && recOk (RowW.records PySem.Challenge.rw_oh0060_01.row.toRowW) s) hk.obs hk.val 2832 := fun w => by kernel_rfl
theorem said : PySem.Challenge.rw_oh0060_01.wellSaid = true := by decide +kernel
theorem hd0 {d : DefRec} {kwd : List (Str × Expr)} (hdef : defOf hd.view_1 PySem.Challenge.rw_oh0060_01.row.name = some (d, kwd)) (hp : PySem.Challenge.rw_oh0060_01.row.prog.theDef PySem.Challenge.rw_oh0060_01.row.name = some (d.params, d.body, d.scope))
    (hkw : kwWritten? d.params.kwonlyargs d.params.kw_defaults = some kwd)
    (call : WalkO hd.view_1 [Str.ofString "_NodeInfo"] (XL hd.view_1 []) hk.says PySem.Challenge.rw_oh0060_01.row.toRowW d kwd fun f vs => PySem.call f vs) : PySem.Challenge.rw_oh0060_01.Holds := by
  refine holds_law said fun said' => ?_
  refine holds_open (q := hd.view_1) (loose := [Str.ofString "_NodeInfo"]) (Xt := fun s => xlAt hd.view_1 [] s && recOk (RowW.records PySem.Challenge.rw_oh0060_01.row.toRowW) s) (XP := XL hd.view_1 []) (Yf := hk.obs) (Ya := hk.val) (YP := hk.says) (N := 2832) left hk.of hk.keeps (fun s e => xl_of s (Bool.and_eq_true_iff.mp e).1) XL.keeps hdef hp hkw (fun s e => recFacts_of (Bool.and_eq_true_iff.mp e).2) (by rfl) said' (by decide +kernel) ⟨rfl, rfl, rfl, rfl, rfl, by decide +kernel⟩ ?hw call
  case hw => w_witness2
example : True := by
  w_top off
  trivial
example (w : World) (h : Heap) (X : (hd.heap_1 w.params).In h) : PySem.Challenge.rw_oh0060_01 = PySem.Challenge.rw_oh0060_01 ∧ (hd.heap_1 w.params).In h := by
  k_fill
  exact ⟨rfl, X⟩
-- plain
section
variable {prog : Program} {w : World} {A₀ A : Around} {s : Shared} {base h₀ : Heap} {outer : List Env} {L : Addr} {m : Str → Option Value} {env : Env} {news rest : List (Addr × Obj)} {K : Frag}
  {R : Result → Shared → Prop} {name qual : Str} {params : Arguments} {body : List Stmt} {scope : Scope} {dV kV doc pm cdv ct oc : Value} {an od : Option Addr} {osl : Array (Option Value)} {f : Addr} {args : Args} {binds : List (Str × Value)}
  {p : Program} {loose : List Str} {mean : ExcName → Option Value} {mg mb : Str → Option Value}

/-- a def's call where the ledger falls in two: what the call may turn, and the rest, that goes to the ground -/
theorem code_defR (B : Below A₀ base outer h₀) (F : Fr h₀ L s.heap m) (X₀ : K.In h₀) (N : News h₀ L s.heap news) (T : Top p loose mean mg mb h₀) (hA : A.frames = some (env :: outer)) (hf : env.frame = some L) (hke : env.scope.kind = .function)
    (hrest : ∀ q ∈ rest, s.heap.get? q.1 = some q.2 ∧ q.1 ∉ news.map (·.1))
    (ho : K.lookup f = some ⟨oc, od, .func (fnOf name qual params body scope dV kV doc pm an cdv ct), osl⟩) (hcd : codeIn K cdv qual = true) (hroom : A.depth < recursionLimit)
    (hbind : BindsTo s (fnOf name qual params body scope dV kV doc pm an cdv ct) args binds) (hloc : ∀ y ∈ binds, scope.names.lookup y.1 = some .local)
    (h : ∀ g L' h₁, Fr h₀ L g m → Fr g L' h₁ (fun y => binds.reverse.lookup y) → News g L' h₁ news → (∀ q ∈ rest, g.get? q.1 = some q.2) → (∀ q ∈ news, q.1 < L') → Below A base (env :: outer) g → K.In g → Top p loose mean mg mb g →
      wpAny (model prog w) (A.deeper (envOf qual scope L' f cdv)) (execs body (envOf qual scope L' f cdv))
        (fun fl s' => LeaveK h₀ L m g (fun r s'' => (∀ q ∈ rest, s''.heap.get? q.1 = some q.2) → R r s'') (match fl with | .ret v => v | _ => .none) s')
        (fun e s' => wpAny (model prog w) (A.deeper (envOf qual scope L' f cdv)) (leaving (envOf qual scope L' f cdv) e) (fun _ s'' => R (.error e) s'') (fun e' s'' => R (.error e') s'') s')
        { s with heap := h₁, toks := s.toks + binds.length })
    (hco : scope.isCoroutine = false) (hgen : scope.isGenerator = false) (hk : scope.kind = .function)
    (hcell : ∀ x ∈ scope.names, x.2 ≠ .cell) : codeAny (model prog w) A (.call (.ref f) args) R s := by
  obtain ⟨FG, BG, st, lv⟩ := groundX (R := fun r s'' => (∀ q ∈ rest, s''.heap.get? q.1 = some q.2) → R r s'') B F N hA hf hke
  have hro : ∀ q ∈ rest, (hideAll s.heap (news.map (·.1))).get? q.1 = some q.2 := fun q hq => hideAll_get _ (hrest q hq).1 (hrest q hq).2
  refine codeAny_call_def (fd := fnOf name qual params body scope dV kV doc pm an cdv ct) (body := body) (binds := binds) hroom ((X₀.keeps F.keep) _ _ ho) rfl (T.nolimit.keeps F.keep) (codeRec_of (X₀.keeps F.keep) hcd) rfl hbind hcell hloc (fun h₁ hns hk₁ => ?_) hco hgen hk
  refine wpAny_mono (h _ s.heap.objs.size h₁ FG ⟨hns, fun b o e => hk₁ b o (of_hideAll _ e), Nat.le_of_eq (hideAll_size _ _)⟩
    (fun p hp => ⟨hk₁ _ _ (N p hp).1, Nat.ne_of_lt (Heap.lt_size (N p hp).1), hideAll_none _ (List.mem_map_of_mem hp)⟩) hro (fun p hp => Heap.lt_size (N p hp).1) BG (X₀.keeps st) (T.keeps st)) (fun fl s' hl => ?_) fun _ _ y => y
  have hk := lv _ _ hl
  obtain ⟨L', m', news', F', N', -⟩ := hl
  exact hk fun q hq => F'.keep _ _ (hro q hq)

/-- the same for a def with a starred parameter -/
theorem kp_restR {vs : List Value} {g₁ : Addr → Option (List (Str × Value))} {bindsD : Addr → List (Str × Value)}
    (B : Below A₀ base outer h₀) (F : Fr h₀ L s.heap m) (X₀ : K.In h₀) (N : News h₀ L s.heap (news ++ rest)) (T : Top p loose mean mg mb h₀) (hA : A.frames = some (env :: outer)) (hf : env.frame = some L) (hke : env.scope.kind = .function)
    (hap : ∀ q ∈ rest, q.1 ∉ news.map (·.1))
    (ho : K.lookup f = some ⟨oc, od, .func (fnOf name qual params body scope dV kV doc pm an cdv ct), osl⟩) (hcd : codeIn K cdv qual = true) (hroom : A.depth < recursionLimit)
    (hp : peek1 K ⟨prog, w.params⟩ (bindArgs (fnOf name qual params body scope dV kV doc pm an cdv ct) args) = some (({ cls := .type "tuple", data := .seq vs.toArray } : Obj), g₁))
    (hg : ∀ D, g₁ D = some (bindsD D)) (hloc : ∀ D, ∀ y ∈ bindsD D, scope.names.lookup y.1 = some .local)
    (h : ∀ D g L' h₁, Fr h₀ L g m → Fr g L' h₁ (fun y => (bindsD D).reverse.lookup y) → News g L' h₁ ((D, ({ cls := .type "tuple", data := .seq vs.toArray } : Obj)) :: news) → (∀ q ∈ rest, g.get? q.1 = some q.2) → (∀ q ∈ news, q.1 < D) → Below A base (env :: outer) g → K.In g → Top p loose mean mg mb g →
      wpAny (model prog w) (A.deeper (envOf qual scope L' f cdv)) (execs body (envOf qual scope L' f cdv))
        (fun fl s' => LeaveK h₀ L m g (fun r s'' => (∀ q ∈ rest, s''.heap.get? q.1 = some q.2) → R r s'') (match fl with | .ret v => v | _ => .none) s')
        (fun e s' => wpAny (model prog w) (A.deeper (envOf qual scope L' f cdv)) (leaving (envOf qual scope L' f cdv) e) (fun _ s'' => R (.error e) s'') (fun e' s'' => R (.error e') s'') s')
        { s with heap := h₁, toks := s.toks + (bindsD D).length })
    (hco : scope.isCoroutine = false) (hgen : scope.isGenerator = false) (hk : scope.kind = .function)
    (hcell : ∀ x ∈ scope.names, x.2 ≠ .cell) : codeAny (model prog w) A (.call (.ref f) args) R s := by
  refine codeAny_call_function (fd := fnOf name qual params body scope dV kV doc pm an cdv ct) (body := body) hroom ((X₀.keeps F.keep) _ _ ho) rfl hco hgen rfl (codeRec_of (X₀.keeps F.keep) hcd) ?_
  refine wp_of_peek1 (o := ({ cls := .type "tuple", data := .seq vs.toArray } : Obj)) F N (X₀.keeps F.keep) rfl (r := bindsD) (fun D h' F' N' l => ?_) _ g₁ hp hg
  have N'' : News h₀ L h' ((D, ({ cls := .type "tuple", data := .seq vs.toArray } : Obj)) :: news) := fun q hq => N' q (by
    rcases List.mem_cons.mp hq with rfl | hq
    · exact .head _
    · exact .tail _ (List.mem_append_left _ hq))
  have hrest : ∀ q ∈ rest, h'.get? q.1 = some q.2 ∧ q.1 ∉ ((D, ({ cls := .type "tuple", data := .seq vs.toArray } : Obj)) :: news).map (·.1) := fun q hq => by
    refine ⟨(N' q (.tail _ (List.mem_append_right _ hq))).1, fun hm => ?_⟩
    rcases List.mem_cons.mp hm with e | hm
    · exact Nat.ne_of_lt (l q (List.mem_append_right _ hq)) e
    · exact hap q hq hm
  obtain ⟨FG, BG, st, lv⟩ := groundX (s := { s with heap := h' }) (R := fun r s'' => (∀ q ∈ rest, s''.heap.get? q.1 = some q.2) → R r s'') B F' N'' hA hf hke
  have hro : ∀ q ∈ rest, (hideAll h' (((D, ({ cls := .type "tuple", data := .seq vs.toArray } : Obj)) :: news).map (·.1))).get? q.1 = some q.2 := fun q hq => hideAll_get _ (hrest q hq).1 (hrest q hq).2
  refine wpAny_newFunctionEnv hcell (hloc D) (fun h₁ hns hsb => ⟨(T.nolimit.keeps F'.keep).fresh _ hsb, codeAny_func ?_⟩) hk
  have hk₁ : ∀ b o, h'.get? b = some o → h₁.get? b = some o := fun b o e => hsb.extBut b o (Nat.ne_of_lt (Heap.lt_size e)) (Heap.get?_push_of_some _ e)
  show wpAny (model prog w) (A.deeper (envOf qual scope h'.objs.size f cdv)) (execs body (envOf qual scope h'.objs.size f cdv)) _ _ _
  refine wpAny_mono (h D _ h'.objs.size h₁ FG ⟨hns, fun b o e => hk₁ b o (of_hideAll _ e), Nat.le_of_eq (hideAll_size _ _)⟩
    (fun p hp => ⟨hk₁ _ _ (N'' p hp).1, Nat.ne_of_lt (Heap.lt_size (N'' p hp).1), hideAll_none _ (List.mem_map_of_mem hp)⟩) hro (fun q hq => l q (List.mem_append_left _ hq)) BG (X₀.keeps st) (T.keeps st)) (fun fl s' hl => ?_) fun _ _ y => y
  have hk := lv _ _ hl
  obtain ⟨L', m', news', F', N', -⟩ := hl
  exact hk fun q hq => F'.keep _ _ (hro q hq)
end
theorem all_cons {p : Addr × Obj} {l : List (Addr × Obj)} {x : Addr} (h : p.1 ≠ x) (hl : ∀ q ∈ l, q.1 ≠ x) : ∀ q ∈ p :: l, q.1 ≠ x := fun q hq => by
  rcases List.mem_cons.mp hq with rfl | hq
  · exact h
  · exact hl q hq

noncomputable def QMark : Prop := True
structure QTo {α : Type} (Q Q' : α → Shared → Prop) : Prop where
  to : ∀ v s, Q v s → Q' v s
noncomputable def QAt {α : Type} (Q' : α → Shared → Prop) (v : α) (s : Shared) : Prop := Q' v s
theorem QAt.back {α : Type} {Q Q' : α → Shared → Prop} {v : α} {s : Shared} (h : QTo Q Q') (k : Q v s) : QAt Q' v s := h.to v s k
theorem execs_cons_Q {M : Model} {A : Around} {env : Env} {st : Stmt} {rest : List Stmt} {Q : Flow → Shared → Prop} {E : Value → Shared → Prop} {h : Heap} {gs : Array GenState} {dr : Drawn} {tk : Nat} {os : OsState}
    (k : ∀ (Q' : Flow → Shared → Prop) (tk' : Nat), QTo (fun f s' => match f with | .next => wpAny M A (execs rest env) Q E s' | f => Q f s') Q' → wpAny M A (exec st env) (QAt Q') E ⟨h, gs, dr, tk', os⟩) :
    wpAny M A (execs (st :: rest) env) Q E ⟨h, gs, dr, tk, os⟩ := wpAny_execs_cons (k _ _ ⟨fun _ _ x => x⟩)
theorem sub_nil {L : List (Addr × Obj)} : ∀ q ∈ ([] : List (Addr × Obj)), q ∈ L := fun _ h => nomatch h
theorem sub_cons {p : Addr × Obj} {l L : List (Addr × Obj)} (h : p ∈ L) (t : ∀ q ∈ l, q ∈ L) : ∀ q ∈ p :: l, q ∈ L := fun q hq => by
  rcases List.mem_cons.mp hq with e | hq
  · rw [e]; exact h
  · exact t q hq
theorem sub_app {l l' L : List (Addr × Obj)} (h : ∀ q ∈ l, q ∈ L) (t : ∀ q ∈ l', q ∈ L) : ∀ q ∈ l ++ l', q ∈ L := fun q hq => (List.mem_append.mp hq).elim (h q) (t q)
theorem sub_self {l : List (Addr × Obj)} : ∀ q ∈ l, q ∈ l := fun _ h => h
theorem sub_tail {p : Addr × Obj} {l L : List (Addr × Obj)} (h : ∀ q ∈ l, q ∈ L) : ∀ q ∈ l, q ∈ p :: L := fun q hq => .tail _ (h q hq)
theorem sub_left {l L L' : List (Addr × Obj)} (h : ∀ q ∈ l, q ∈ L) : ∀ q ∈ l, q ∈ L ++ L' := fun q hq => List.mem_append_left _ (h q hq)
theorem sub_right {l L L' : List (Addr × Obj)} (h : ∀ q ∈ l, q ∈ L') : ∀ q ∈ l, q ∈ L ++ L' := fun q hq => List.mem_append_right _ (h q hq)

theorem and_tail {P Q R : Prop} (f : Q → R) : P ∧ Q → R := fun h => f h.2
theorem ne_and {a c D : Nat} {R : Prop} (h : c < D ∧ R) (k : (c < D ∧ R) → a < D) : a ≠ D := Nat.ne_of_lt (k h)
theorem ne_and' {a c D : Nat} {R : Prop} (h : c < D ∧ R) (k : (c < D ∧ R) → a < D) : D ≠ a := Nat.ne_of_gt (k h)
theorem and_use {P Q : Prop} (h : P) (f : P → Q) : Q := f h
theorem ex0a3 {A0 A1 A2 : Prop} {G : Prop} (h : A0 ∧ A1 ∧ A2) (k : A0 → A1 → A2 → G) : G := by
  obtain ⟨h0, h1, h2⟩ := h
  exact k h0 h1 h2
theorem ex0a4 {A0 A1 A2 A3 : Prop} {G : Prop} (h : A0 ∧ A1 ∧ A2 ∧ A3) (k : A0 → A1 → A2 → A3 → G) : G := by
  obtain ⟨h0, h1, h2, h3⟩ := h
  exact k h0 h1 h2 h3
theorem ex0a5 {A0 A1 A2 A3 A4 : Prop} {G : Prop} (h : A0 ∧ A1 ∧ A2 ∧ A3 ∧ A4) (k : A0 → A1 → A2 → A3 → A4 → G) : G := by
  obtain ⟨h0, h1, h2, h3, h4⟩ := h
  exact k h0 h1 h2 h3 h4
theorem ex0a6 {A0 A1 A2 A3 A4 A5 : Prop} {G : Prop} (h : A0 ∧ A1 ∧ A2 ∧ A3 ∧ A4 ∧ A5) (k : A0 → A1 → A2 → A3 → A4 → A5 → G) : G := by
  obtain ⟨h0, h1, h2, h3, h4, h5⟩ := h
  exact k h0 h1 h2 h3 h4 h5
theorem ex0a9 {A0 A1 A2 A3 A4 A5 A6 A7 A8 : Prop} {G : Prop} (h : A0 ∧ A1 ∧ A2 ∧ A3 ∧ A4 ∧ A5 ∧ A6 ∧ A7 ∧ A8) (k : A0 → A1 → A2 → A3 → A4 → A5 → A6 → A7 → A8 → G) : G := by
  obtain ⟨h0, h1, h2, h3, h4, h5, h6, h7, h8⟩ := h
  exact k h0 h1 h2 h3 h4 h5 h6 h7 h8
theorem ex0a13 {A0 A1 A2 A3 A4 A5 A6 A7 A8 A9 A10 A11 A12 : Prop} {G : Prop} (h : A0 ∧ A1 ∧ A2 ∧ A3 ∧ A4 ∧ A5 ∧ A6 ∧ A7 ∧ A8 ∧ A9 ∧ A10 ∧ A11 ∧ A12) (k : A0 → A1 → A2 → A3 → A4 → A5 → A6 → A7 → A8 → A9 → A10 → A11 → A12 → G) : G := by
  obtain ⟨h0, h1, h2, h3, h4, h5, h6, h7, h8, h9, h10, h11, h12⟩ := h
  exact k h0 h1 h2 h3 h4 h5 h6 h7 h8 h9 h10 h11 h12
theorem ex0a14 {A0 A1 A2 A3 A4 A5 A6 A7 A8 A9 A10 A11 A12 A13 : Prop} {G : Prop} (h : A0 ∧ A1 ∧ A2 ∧ A3 ∧ A4 ∧ A5 ∧ A6 ∧ A7 ∧ A8 ∧ A9 ∧ A10 ∧ A11 ∧ A12 ∧ A13) (k : A0 → A1 → A2 → A3 → A4 → A5 → A6 → A7 → A8 → A9 → A10 → A11 → A12 → A13 → G) : G := by
  obtain ⟨h0, h1, h2, h3, h4, h5, h6, h7, h8, h9, h10, h11, h12, h13⟩ := h
  exact k h0 h1 h2 h3 h4 h5 h6 h7 h8 h9 h10 h11 h12 h13
theorem ex0a15 {A0 A1 A2 A3 A4 A5 A6 A7 A8 A9 A10 A11 A12 A13 A14 : Prop} {G : Prop} (h : A0 ∧ A1 ∧ A2 ∧ A3 ∧ A4 ∧ A5 ∧ A6 ∧ A7 ∧ A8 ∧ A9 ∧ A10 ∧ A11 ∧ A12 ∧ A13 ∧ A14) (k : A0 → A1 → A2 → A3 → A4 → A5 → A6 → A7 → A8 → A9 → A10 → A11 → A12 → A13 → A14 → G) : G := by
  obtain ⟨h0, h1, h2, h3, h4, h5, h6, h7, h8, h9, h10, h11, h12, h13, h14⟩ := h
  exact k h0 h1 h2 h3 h4 h5 h6 h7 h8 h9 h10 h11 h12 h13 h14
theorem ex1a1 {α0 : Type} {A0 : α0 → Prop} {G : Prop} (h : ∃ x0, A0 x0) (k : ∀ (x0 : α0), A0 x0 → G) : G := by
  obtain ⟨x0, h0⟩ := h
  exact k x0 h0
theorem ex1a2 {α0 : Type} {A0 A1 : α0 → Prop} {G : Prop} (h : ∃ x0, A0 x0 ∧ A1 x0) (k : ∀ (x0 : α0), A0 x0 → A1 x0 → G) : G := by
  obtain ⟨x0, h0, h1⟩ := h
  exact k x0 h0 h1
theorem ex1a5 {α0 : Type} {A0 A1 A2 A3 A4 : α0 → Prop} {G : Prop} (h : ∃ x0, A0 x0 ∧ A1 x0 ∧ A2 x0 ∧ A3 x0 ∧ A4 x0) (k : ∀ (x0 : α0), A0 x0 → A1 x0 → A2 x0 → A3 x0 → A4 x0 → G) : G := by
  obtain ⟨x0, h0, h1, h2, h3, h4⟩ := h
  exact k x0 h0 h1 h2 h3 h4
theorem ex2a1 {α0 α1 : Type} {A0 : α0 → α1 → Prop} {G : Prop} (h : ∃ x0 x1, A0 x0 x1) (k : ∀ (x0 : α0) (x1 : α1), A0 x0 x1 → G) : G := by
  obtain ⟨x0, x1, h0⟩ := h
  exact k x0 x1 h0
theorem ex3a3 {α0 α1 α2 : Type} {A0 A1 A2 : α0 → α1 → α2 → Prop} {G : Prop} (h : ∃ x0 x1 x2, A0 x0 x1 x2 ∧ A1 x0 x1 x2 ∧ A2 x0 x1 x2) (k : ∀ (x0 : α0) (x1 : α1) (x2 : α2), A0 x0 x1 x2 → A1 x0 x1 x2 → A2 x0 x1 x2 → G) : G := by
  obtain ⟨x0, x1, x2, h0, h1, h2⟩ := h
  exact k x0 x1 x2 h0 h1 h2
theorem ex5a5 {α0 α1 α2 α3 α4 : Type} {A0 A1 A2 A3 A4 : α0 → α1 → α2 → α3 → α4 → Prop} {G : Prop} (h : ∃ x0 x1 x2 x3 x4, A0 x0 x1 x2 x3 x4 ∧ A1 x0 x1 x2 x3 x4 ∧ A2 x0 x1 x2 x3 x4 ∧ A3 x0 x1 x2 x3 x4 ∧ A4 x0 x1 x2 x3 x4) (k : ∀ (x0 : α0) (x1 : α1) (x2 : α2) (x3 : α3) (x4 : α4), A0 x0 x1 x2 x3 x4 → A1 x0 x1 x2 x3 x4 → A2 x0 x1 x2 x3 x4 → A3 x0 x1 x2 x3 x4 → A4 x0 x1 x2 x3 x4 → G) : G := by
  obtain ⟨x0, x1, x2, x3, x4, h0, h1, h2, h3, h4⟩ := h
  exact k x0 x1 x2 x3 x4 h0 h1 h2 h3 h4
theorem ex6a9 {α0 α1 α2 α3 α4 α5 : Type} {A0 A1 A2 A3 A4 A5 A6 A7 A8 : α0 → α1 → α2 → α3 → α4 → α5 → Prop} {G : Prop} (h : ∃ x0 x1 x2 x3 x4 x5, A0 x0 x1 x2 x3 x4 x5 ∧ A1 x0 x1 x2 x3 x4 x5 ∧ A2 x0 x1 x2 x3 x4 x5 ∧ A3 x0 x1 x2 x3 x4 x5 ∧ A4 x0 x1 x2 x3 x4 x5 ∧ A5 x0 x1 x2 x3 x4 x5 ∧ A6 x0 x1 x2 x3 x4 x5 ∧ A7 x0 x1 x2 x3 x4 x5 ∧ A8 x0 x1 x2 x3 x4 x5) (k : ∀ (x0 : α0) (x1 : α1) (x2 : α2) (x3 : α3) (x4 : α4) (x5 : α5), A0 x0 x1 x2 x3 x4 x5 → A1 x0 x1 x2 x3 x4 x5 → A2 x0 x1 x2 x3 x4 x5 → A3 x0 x1 x2 x3 x4 x5 → A4 x0 x1 x2 x3 x4 x5 → A5 x0 x1 x2 x3 x4 x5 → A6 x0 x1 x2 x3 x4 x5 → A7 x0 x1 x2 x3 x4 x5 → A8 x0 x1 x2 x3 x4 x5 → G) : G := by
  obtain ⟨x0, x1, x2, x3, x4, x5, h0, h1, h2, h3, h4, h5, h6, h7, h8⟩ := h
  exact k x0 x1 x2 x3 x4 x5 h0 h1 h2 h3 h4 h5 h6 h7 h8
theorem exg9a5 {P : Prop} {β : Type} {M : β → Prop} {α0 α1 α2 α3 α4 α5 α6 α7 α8 : Type} {A0 A1 A2 A3 A4 : α0 → α1 → α2 → α3 → α4 → α5 → α6 → α7 → α8 → Prop} {G : Prop} (h : P ∧ (∃ u, M u) ∧ ∃ x0 x1 x2 x3 x4 x5 x6 x7 x8, A0 x0 x1 x2 x3 x4 x5 x6 x7 x8 ∧ A1 x0 x1 x2 x3 x4 x5 x6 x7 x8 ∧ A2 x0 x1 x2 x3 x4 x5 x6 x7 x8 ∧ A3 x0 x1 x2 x3 x4 x5 x6 x7 x8 ∧ A4 x0 x1 x2 x3 x4 x5 x6 x7 x8) (k : P → ∀ u, M u → ∀ (x0 : α0) (x1 : α1) (x2 : α2) (x3 : α3) (x4 : α4) (x5 : α5) (x6 : α6) (x7 : α7) (x8 : α8), A0 x0 x1 x2 x3 x4 x5 x6 x7 x8 → A1 x0 x1 x2 x3 x4 x5 x6 x7 x8 → A2 x0 x1 x2 x3 x4 x5 x6 x7 x8 → A3 x0 x1 x2 x3 x4 x5 x6 x7 x8 → A4 x0 x1 x2 x3 x4 x5 x6 x7 x8 → G) : G := by
  obtain ⟨p, ⟨u, m⟩, x0, x1, x2, x3, x4, x5, x6, x7, x8, h0, h1, h2, h3, h4⟩ := h
  exact k p u m x0 x1 x2 x3 x4 x5 x6 x7 x8 h0 h1 h2 h3 h4
theorem exu1a4 {β : Type} {M : β → Prop} {α0 : Type} {A0 A1 A2 A3 : α0 → Prop} {G : Prop} (h : (∃ u, M u) ∧ ∃ x0, A0 x0 ∧ A1 x0 ∧ A2 x0 ∧ A3 x0) (k : ∀ u, M u → ∀ (x0 : α0), A0 x0 → A1 x0 → A2 x0 → A3 x0 → G) : G := by
  obtain ⟨⟨u, m⟩, x0, h0, h1, h2, h3⟩ := h
  exact k u m x0 h0 h1 h2 h3
theorem exu2a5 {β : Type} {M : β → Prop} {α0 α1 : Type} {A0 A1 A2 A3 A4 : α0 → α1 → Prop} {G : Prop} (h : (∃ u, M u) ∧ ∃ x0 x1, A0 x0 x1 ∧ A1 x0 x1 ∧ A2 x0 x1 ∧ A3 x0 x1 ∧ A4 x0 x1) (k : ∀ u, M u → ∀ (x0 : α0) (x1 : α1), A0 x0 x1 → A1 x0 x1 → A2 x0 x1 → A3 x0 x1 → A4 x0 x1 → G) : G := by
  obtain ⟨⟨u, m⟩, x0, x1, h0, h1, h2, h3, h4⟩ := h
  exact k u m x0 x1 h0 h1 h2 h3 h4
theorem exu3a4 {β : Type} {M : β → Prop} {α0 α1 α2 : Type} {A0 A1 A2 A3 : α0 → α1 → α2 → Prop} {G : Prop} (h : (∃ u, M u) ∧ ∃ x0 x1 x2, A0 x0 x1 x2 ∧ A1 x0 x1 x2 ∧ A2 x0 x1 x2 ∧ A3 x0 x1 x2) (k : ∀ u, M u → ∀ (x0 : α0) (x1 : α1) (x2 : α2), A0 x0 x1 x2 → A1 x0 x1 x2 → A2 x0 x1 x2 → A3 x0 x1 x2 → G) : G := by
  obtain ⟨⟨u, m⟩, x0, x1, x2, h0, h1, h2, h3⟩ := h
  exact k u m x0 x1 x2 h0 h1 h2 h3
theorem exu5a5 {β : Type} {M : β → Prop} {α0 α1 α2 α3 α4 : Type} {A0 A1 A2 A3 A4 : α0 → α1 → α2 → α3 → α4 → Prop} {G : Prop} (h : (∃ u, M u) ∧ ∃ x0 x1 x2 x3 x4, A0 x0 x1 x2 x3 x4 ∧ A1 x0 x1 x2 x3 x4 ∧ A2 x0 x1 x2 x3 x4 ∧ A3 x0 x1 x2 x3 x4 ∧ A4 x0 x1 x2 x3 x4) (k : ∀ u, M u → ∀ (x0 : α0) (x1 : α1) (x2 : α2) (x3 : α3) (x4 : α4), A0 x0 x1 x2 x3 x4 → A1 x0 x1 x2 x3 x4 → A2 x0 x1 x2 x3 x4 → A3 x0 x1 x2 x3 x4 → A4 x0 x1 x2 x3 x4 → G) : G := by
  obtain ⟨⟨u, m⟩, x0, x1, x2, x3, x4, h0, h1, h2, h3, h4⟩ := h
  exact k u m x0 x1 x2 x3 x4 h0 h1 h2 h3 h4
theorem ex0a2 {A0 A1 : Prop} {G : Prop} (h : A0 ∧ A1) (k : A0 → A1 → G) : G := by
  obtain ⟨h0, h1⟩ := h
  exact k h0 h1
theorem ex10a8 {α0 α1 α2 α3 α4 α5 α6 α7 α8 α9 : Type} {A0 A1 A2 A3 A4 A5 A6 A7 : α0 → α1 → α2 → α3 → α4 → α5 → α6 → α7 → α8 → α9 → Prop} {G : Prop} (h : ∃ x0 x1 x2 x3 x4 x5 x6 x7 x8 x9, A0 x0 x1 x2 x3 x4 x5 x6 x7 x8 x9 ∧ A1 x0 x1 x2 x3 x4 x5 x6 x7 x8 x9 ∧ A2 x0 x1 x2 x3 x4 x5 x6 x7 x8 x9 ∧ A3 x0 x1 x2 x3 x4 x5 x6 x7 x8 x9 ∧ A4 x0 x1 x2 x3 x4 x5 x6 x7 x8 x9 ∧ A5 x0 x1 x2 x3 x4 x5 x6 x7 x8 x9 ∧ A6 x0 x1 x2 x3 x4 x5 x6 x7 x8 x9 ∧ A7 x0 x1 x2 x3 x4 x5 x6 x7 x8 x9) (k : ∀ (x0 : α0) (x1 : α1) (x2 : α2) (x3 : α3) (x4 : α4) (x5 : α5) (x6 : α6) (x7 : α7) (x8 : α8) (x9 : α9), A0 x0 x1 x2 x3 x4 x5 x6 x7 x8 x9 → A1 x0 x1 x2 x3 x4 x5 x6 x7 x8 x9 → A2 x0 x1 x2 x3 x4 x5 x6 x7 x8 x9 → A3 x0 x1 x2 x3 x4 x5 x6 x7 x8 x9 → A4 x0 x1 x2 x3 x4 x5 x6 x7 x8 x9 → A5 x0 x1 x2 x3 x4 x5 x6 x7 x8 x9 → A6 x0 x1 x2 x3 x4 x5 x6 x7 x8 x9 → A7 x0 x1 x2 x3 x4 x5 x6 x7 x8 x9 → G) : G := by
  obtain ⟨x0, x1, x2, x3, x4, x5, x6, x7, x8, x9, h0, h1, h2, h3, h4, h5, h6, h7⟩ := h
  exact k x0 x1 x2 x3 x4 x5 x6 x7 x8 x9 h0 h1 h2 h3 h4 h5 h6 h7
theorem exp1a2 {P0 : Prop} {α0 : Type} {A0 A1 : α0 → Prop} {G : Prop} (h : P0 ∧ ∃ x0, A0 x0 ∧ A1 x0) (k : P0 → ∀ (x0 : α0), A0 x0 → A1 x0 → G) : G := by
  obtain ⟨p0, x0, h0, h1⟩ := h
  exact k p0 x0 h0 h1
theorem exp1a3 {P0 : Prop} {α0 : Type} {A0 A1 A2 : α0 → Prop} {G : Prop} (h : P0 ∧ ∃ x0, A0 x0 ∧ A1 x0 ∧ A2 x0) (k : P0 → ∀ (x0 : α0), A0 x0 → A1 x0 → A2 x0 → G) : G := by
  obtain ⟨p0, x0, h0, h1, h2⟩ := h
  exact k p0 x0 h0 h1 h2
theorem expp1a2 {P0 P1 : Prop} {α0 : Type} {A0 A1 : α0 → Prop} {G : Prop} (h : P0 ∧ P1 ∧ ∃ x0, A0 x0 ∧ A1 x0) (k : P0 → P1 → ∀ (x0 : α0), A0 x0 → A1 x0 → G) : G := by
  obtain ⟨p0, p1, x0, h0, h1⟩ := h
  exact k p0 p1 x0 h0 h1
theorem expp1a3 {P0 P1 : Prop} {α0 : Type} {A0 A1 A2 : α0 → Prop} {G : Prop} (h : P0 ∧ P1 ∧ ∃ x0, A0 x0 ∧ A1 x0 ∧ A2 x0) (k : P0 → P1 → ∀ (x0 : α0), A0 x0 → A1 x0 → A2 x0 → G) : G := by
  obtain ⟨p0, p1, x0, h0, h1, h2⟩ := h
  exact k p0 p1 x0 h0 h1 h2
theorem ex1a3 {α0 : Type} {A0 A1 A2 : α0 → Prop} {G : Prop} (h : ∃ x0, A0 x0 ∧ A1 x0 ∧ A2 x0) (k : ∀ (x0 : α0), A0 x0 → A1 x0 → A2 x0 → G) : G := by
  obtain ⟨x0, h0, h1, h2⟩ := h
  exact k x0 h0 h1 h2
theorem ex4a8 {α0 α1 α2 α3 : Type} {A0 A1 A2 A3 A4 A5 A6 A7 : α0 → α1 → α2 → α3 → Prop} {G : Prop} (h : ∃ x0 x1 x2 x3, A0 x0 x1 x2 x3 ∧ A1 x0 x1 x2 x3 ∧ A2 x0 x1 x2 x3 ∧ A3 x0 x1 x2 x3 ∧ A4 x0 x1 x2 x3 ∧ A5 x0 x1 x2 x3 ∧ A6 x0 x1 x2 x3 ∧ A7 x0 x1 x2 x3) (k : ∀ (x0 : α0) (x1 : α1) (x2 : α2) (x3 : α3), A0 x0 x1 x2 x3 → A1 x0 x1 x2 x3 → A2 x0 x1 x2 x3 → A3 x0 x1 x2 x3 → A4 x0 x1 x2 x3 → A5 x0 x1 x2 x3 → A6 x0 x1 x2 x3 → A7 x0 x1 x2 x3 → G) : G := by
  obtain ⟨x0, x1, x2, x3, h0, h1, h2, h3, h4, h5, h6, h7⟩ := h
  exact k x0 x1 x2 x3 h0 h1 h2 h3 h4 h5 h6 h7
theorem ex11a9 {α0 α1 α2 α3 α4 α5 α6 α7 α8 α9 α10 : Type} {A0 A1 A2 A3 A4 A5 A6 A7 A8 : α0 → α1 → α2 → α3 → α4 → α5 → α6 → α7 → α8 → α9 → α10 → Prop} {G : Prop} (h : ∃ x0 x1 x2 x3 x4 x5 x6 x7 x8 x9 x10, A0 x0 x1 x2 x3 x4 x5 x6 x7 x8 x9 x10 ∧ A1 x0 x1 x2 x3 x4 x5 x6 x7 x8 x9 x10 ∧ A2 x0 x1 x2 x3 x4 x5 x6 x7 x8 x9 x10 ∧ A3 x0 x1 x2 x3 x4 x5 x6 x7 x8 x9 x10 ∧ A4 x0 x1 x2 x3 x4 x5 x6 x7 x8 x9 x10 ∧ A5 x0 x1 x2 x3 x4 x5 x6 x7 x8 x9 x10 ∧ A6 x0 x1 x2 x3 x4 x5 x6 x7 x8 x9 x10 ∧ A7 x0 x1 x2 x3 x4 x5 x6 x7 x8 x9 x10 ∧ A8 x0 x1 x2 x3 x4 x5 x6 x7 x8 x9 x10) (k : ∀ (x0 : α0) (x1 : α1) (x2 : α2) (x3 : α3) (x4 : α4) (x5 : α5) (x6 : α6) (x7 : α7) (x8 : α8) (x9 : α9) (x10 : α10), A0 x0 x1 x2 x3 x4 x5 x6 x7 x8 x9 x10 → A1 x0 x1 x2 x3 x4 x5 x6 x7 x8 x9 x10 → A2 x0 x1 x2 x3 x4 x5 x6 x7 x8 x9 x10 → A3 x0 x1 x2 x3 x4 x5 x6 x7 x8 x9 x10 → A4 x0 x1 x2 x3 x4 x5 x6 x7 x8 x9 x10 → A5 x0 x1 x2 x3 x4 x5 x6 x7 x8 x9 x10 → A6 x0 x1 x2 x3 x4 x5 x6 x7 x8 x9 x10 → A7 x0 x1 x2 x3 x4 x5 x6 x7 x8 x9 x10 → A8 x0 x1 x2 x3 x4 x5 x6 x7 x8 x9 x10 → G) : G := by
  obtain ⟨x0, x1, x2, x3, x4, x5, x6, x7, x8, x9, x10, h0, h1, h2, h3, h4, h5, h6, h7, h8⟩ := h
  exact k x0 x1 x2 x3 x4 x5 x6 x7 x8 x9 x10 h0 h1 h2 h3 h4 h5 h6 h7 h8
theorem ex2a2 {α0 α1 : Type} {A0 A1 : α0 → α1 → Prop} {G : Prop} (h : ∃ x0 x1, A0 x0 x1 ∧ A1 x0 x1) (k : ∀ (x0 : α0) (x1 : α1), A0 x0 x1 → A1 x0 x1 → G) : G := by
  obtain ⟨x0, x1, h0, h1⟩ := h
  exact k x0 x1 h0 h1
theorem ex4a3 {α0 α1 α2 α3 : Type} {A0 A1 A2 : α0 → α1 → α2 → α3 → Prop} {G : Prop} (h : ∃ x0 x1 x2 x3, A0 x0 x1 x2 x3 ∧ A1 x0 x1 x2 x3 ∧ A2 x0 x1 x2 x3) (k : ∀ (x0 : α0) (x1 : α1) (x2 : α2) (x3 : α3), A0 x0 x1 x2 x3 → A1 x0 x1 x2 x3 → A2 x0 x1 x2 x3 → G) : G := by
  obtain ⟨x0, x1, x2, x3, h0, h1, h2⟩ := h
  exact k x0 x1 x2 x3 h0 h1 h2
local macro_rules | `(tactic| k_room) => `(tactic| ktr_room)
local macro_rules | `(tactic| k_units) => `(tactic| ktr_units)
local macro_rules | `(tactic| k_all) => `(tactic| assumption)
local macro_rules | `(tactic| walk_at "call builtin:dict.get") => `(tactic| (k_here; k_dflt (refine kdg_get1 (knd := PySem.intKind _ _) (by k_asm) (by k_mem) (by k_asm) (by k_asm) (intKind_is _ _ _ _) _ (by assumption) ?_); (try dsimp only [Option.getD])))
local macro_rules | `(tactic| walk_at "MY in") => `(tactic| with_reducible first | exact List.mem_cons_self | assumption | (refine List.mem_append_left _ ?_; walk_at "MY in") | (refine List.mem_append_right _ ?_; walk_at "MY in") | (refine List.mem_cons_of_mem _ ?_; walk_at "MY in"))
local macro_rules | `(tactic| walk_at "MY sin") => `(tactic| with_reducible first | exact sub_self | (refine sub_left ?_; walk_at "MY sin") | (refine sub_right ?_; walk_at "MY sin") | (refine sub_tail ?_; walk_at "MY sin"))
local macro_rules | `(tactic| walk_at "MY sub2") => `(tactic| with_reducible first | exact sub_self | exact sub_nil | (refine sub_app ?_ ?_ <;> walk_at "MY sub2") | (refine sub_cons ?_ ?_; (walk_at "MY in"); (walk_at "MY sub2")) | walk_at "MY sin")
local macro_rules | `(tactic| k_all) => `(tactic| first | assumption | (refine' all_cons ?a ?b; (case a => k_ne); (case b => k_all)))
local macro_rules | `(tactic| walk_at "execs cons") => `(tactic| (k_here; (with_reducible rename QMark => hQM'); (with_reducible refine execs_cons_Q ?_); intro QQ tq hQQ))
local macro_rules | `(tactic| walk_at "QAt") => `(tactic| ((with_reducible refine QAt.back (by assumption) ?_); try dsimp only))
local macro_rules | `(tactic| walk_at "MY andp") => `(tactic| with_reducible first | exact And.left | exact id | (refine and_tail ?_; walk_at "MY andp"))
local macro_rules | `(tactic| walk_at "MY cne") => `(tactic| ((with_reducible rename _ ≠ _ ∧ _ => hc); first | (refine and_use hc ?_; walk_at "MY andp") | (refine Ne.symm (and_use hc ?_); walk_at "MY andp") | (clear hc; walk_at "MY cne")))
local macro_rules | `(tactic| k_ne) => `(tactic| first | with_reducible assumption | (refine Ne.symm ?_; with_reducible assumption) | (refine neN ?_; (try dsimp only); with_reducible first | exact Nat.ne_of_lt (by assumption) | exact Nat.ne_of_gt (by assumption) | (refine ne_and (by assumption) ?_; walk_at "MY andp") | (refine ne_and' (by assumption) ?_; walk_at "MY andp") | (walk_at "MY cne") | omega))
-- plain
noncomputable abbrev Names : List Str := looseW hd.view_1 [Str.ofString "_NodeInfo"]

/-- where a walk stands: its frame, its ground, its room -/
structure At (w : World) (mean : ExcName → Option Value) (mg mb : Str → Option Value) (mar dp un : Nat) (cs : Scope) (A₀ : Around) (base h₀ : Heap) (outer : List Env) (L : Addr) (m : Str → Option Value) (h : Heap) : Prop where
  B : Below A₀ base outer h₀
  F : Fr h₀ L h m
  X : (hd.heap_1 w.params).In h₀
  T : Top hd.view_1 Names mean mg mb h₀
  hk : cs.kind = .function
  hd : dp + mar < recursionLimit
  hu : un + 10 * mar < cLine

noncomputable def Halt (p : Prop) : Prop := p
noncomputable def FindMark : Prop := True
noncomputable def CompMark : Prop := True
noncomputable def IfMark : Prop := True
theorem Halt.out {p : Prop} (h : Halt p) : p := h

noncomputable abbrev attrs (P : Params) (t1 t2 t3 t4 : Tok) (d : Addr) (v2 v3 v4 : Value) : List DictEntry :=
  [⟨PyData.keyHash P (Str.ofString "_node2info"), .str (Str.ofString "_node2info") t1, .ref d⟩, ⟨PyData.keyHash P (Str.ofString "_ready_nodes"), .str (Str.ofString "_ready_nodes") t2, v2⟩,
   ⟨PyData.keyHash P (Str.ofString "_npassedout"), .str (Str.ofString "_npassedout") t3, v3⟩, ⟨PyData.keyHash P (Str.ofString "_nfinished"), .str (Str.ofString "_nfinished") t4, v4⟩]
noncomputable abbrev infoObj (da : Addr) (key : Int) (tk : Tok) (np : Int) (tnp : Tok) (la : Addr) : Obj :=
  { cls := .ref 61, dict := some da, data := .plain, slots := #[some (.int key tk), some (.int np tnp), some (.ref la)] }

structure Nd where
  key : Int
  tk : Tok
  ia : Addr
  da : Addr
  la : Addr
  np : Int
  tnp : Tok
  succ : List (Int × Tok)
  ep : Nat

noncomputable def vals (l : List (Int × Tok)) : List Value := l.map fun p => Value.int p.1 p.2
noncomputable abbrev Nd.objs (n : Nd) : List (Addr × Obj) := [(n.ia, infoObj n.da n.key n.tk n.np n.tnp n.la), (n.da, dictOf [] 0), (n.la, W.listOf (vals n.succ).toArray n.ep)]
theorem vals_push (l : List (Int × Tok)) (k : Int) (t : Tok) : (vals (l ++ [(k, t)])).toArray = (vals l).toArray.push (Value.int k t) := by simp [vals]
noncomputable def objs (G : List Nd) : List (Addr × Obj) := G.flatMap Nd.objs
noncomputable def kvs (G : List Nd) : List (Int × Value) := G.map fun n => (n.key, Value.ref n.ia)
noncomputable def keys (G : List Nd) : List Int := G.map Nd.key
theorem objs_nil : objs [] = [] := rfl
theorem objs_append (A B : List Nd) : objs (A ++ B) = objs A ++ objs B := by simp [objs]
theorem objs_cons (n : Nd) (B : List Nd) : objs (n :: B) = n.objs ++ objs B := by simp [objs]
theorem objs_mid (A : List Nd) (n : Nd) (B : List Nd) : objs (A ++ n :: B) = objs A ++ (n.objs ++ objs B) := by rw [objs_append, objs_cons]

noncomputable abbrev S3 (P : Params) (x dx d : Addr) (t1 t2 t3 t4 : Tok) (v2 v3 v4 : Value) (ne : Nat) (od : Obj) : List (Addr × Obj) :=
  [(x, instObj 158 dx), (dx, dictOf (attrs P t1 t2 t3 t4 d v2 v3 v4) ne), (d, od)]

noncomputable abbrev adr (l : List (Addr × Obj)) : List Nat := l.map (·.1)

theorem News.sub {h₀ h : Heap} {L : Addr} {l l' : List (Addr × Obj)} (N : News h₀ L h l) (hs : ∀ p ∈ l', p ∈ l) : News h₀ L h l' := fun p hp => N p (hs p hp)

theorem apart_of {g h : Heap} {L : Addr} {l rest : List (Addr × Obj)} (N : News g L h l) (hro : ∀ q ∈ rest, g.get? q.1 = some q.2) : ∀ q ∈ rest, q.1 ∉ adr l := fun q hq hm => by
  obtain ⟨p, hp, e⟩ := List.mem_map.mp hm
  have := (N p hp).2.2
  rw [e, hro q hq] at this
  cases this
theorem news_rest {h₀ h h' : Heap} {L : Addr} {l l₀ rest : List (Addr × Obj)} (N : News h₀ L h l) (hR : ∀ q ∈ rest, h.get? q.1 = some q.2) (N₀ : News h₀ L h' (l₀ ++ rest)) : News h₀ L h (l ++ rest) := fun p hp => by
  rcases List.mem_append.mp hp with hp | hp
  · exact N p hp
  · exact ⟨hR p hp, (N₀ p (List.mem_append_right _ hp)).2⟩
theorem valueAt_found {G : List Nd} {k : Int} {v : Value} (h : valueAt (kvs G) k = some v) : ∃ A n B, G = A ++ n :: B ∧ n.key = k ∧ v = .ref n.ia := by
  induction G with
  | nil => cases h
  | cons n G ih =>
    unfold valueAt kvs at h
    by_cases hk : n.key = k
    · refine ⟨[], n, G, rfl, hk, ?_⟩
      simp [hk] at h
      exact h.symm
    · have : valueAt (kvs G) k = some v := by
        unfold valueAt kvs
        simpa [hk, List.find?_cons] using h
      obtain ⟨A, n', B, rfl, h1, h2⟩ := ih this
      exact ⟨n :: A, n', B, rfl, h1, h2⟩
theorem valueAt_none {G : List Nd} {k : Int} (h : valueAt (kvs G) k = none) : k ∉ keys G := by
  induction G with
  | nil => simp [keys]
  | cons n G ih =>
    unfold valueAt kvs at h
    by_cases hk : n.key = k
    · simp [hk] at h
    · have : valueAt (kvs G) k = none := by
        unfold valueAt kvs
        simpa [hk, List.find?_cons] using h
      have := ih this
      simp only [keys, List.map_cons, List.mem_cons, not_or]
      exact ⟨fun e => hk e.symm, this⟩

theorem nodup_perm {l l' : List Nat} (h : l.Nodup) (hp : ∀ a, l'.count a = l.count a) : l'.Nodup := (List.perm_iff_count.mpr hp).nodup_iff.mpr h
theorem adr_append (l l' : List (Addr × Obj)) : adr (l ++ l') = adr l ++ adr l' := List.map_append
theorem stored_new {K : Type} [DecidableEq K] {kv : List (K × Value)} {k : K} {v : Value} (h : valueAt kv k = none) : stored kv k v = kv ++ [(k, v)] := by
  unfold stored
  rw [if_neg]
  intro hc
  obtain ⟨p, hp, e⟩ := List.any_eq_true.mp hc
  unfold valueAt at h
  have := List.find?_eq_none.mp (Option.map_eq_none_iff.mp h) p hp
  exact this e
theorem kvs_append (A B : List Nd) : kvs (A ++ B) = kvs A ++ kvs B := by simp [kvs]
theorem kvs_length (G : List Nd) : (kvs G).length = G.length := by simp [kvs]
theorem mem_objs_mid {A B : List Nd} {n : Nd} {q : Addr × Obj} : q ∈ objs (A ++ n :: B) ↔ q ∈ n.objs ∨ q ∈ objs (A ++ B) := by
  rw [objs_mid, objs_append]
  simp only [List.mem_append]
  constructor
  · rintro (h | h | h)
    · exact .inr (.inl h)
    · exact .inl h
    · exact .inr (.inr h)
  · rintro (h | h | h)
    · exact .inr (.inl h)
    · exact .inl h
    · exact .inr (.inr h)
theorem adr_objs_mid (A B : List Nd) (n : Nd) (a : Nat) : (adr (objs (A ++ n :: B))).count a = (adr n.objs).count a + (adr (objs (A ++ B))).count a := by
  rw [objs_mid, objs_append]
  simp only [adr_append, List.count_append]
  omega

theorem haltCall {M : Model} {A : Around} {a : Addr} {vs : List Value} {Q : Value → Shared → Prop} {E : Value → Shared → Prop} {s : Shared}
    (_ : ([101, 108, 113, 120, 127, 141, 148, 169, 183, 190, 197, 35, 28, 42] : List Nat).contains a = true) (k : Halt (wpAny M A (call (.ref a) vs) Q E s)) : wpAny M A (call (.ref a) vs) Q E s := k.out
local macro_rules | `(tactic| walk_at "call ref") => `(tactic| (k_here; k_dflt (refine haltCall (by rfl) ?_)))
local macro_rules | `(tactic| walk_at "pyIter ref") => `(tactic| (k_here; (with_reducible show wpAny _ _ (pyIter (Value.ref _)) (fun it s₂ => LoopAtV _ _ _ _ _ _ _ _ _ it s₂) _ _); refine Halt.out ?_))
local macro_rules | `(tactic| walk_at "subscriptTail") => `(tactic| (k_here; k_dflt (refine kda_item (knd := PySem.intKind _ _) (by k_asm) (by k_mem) (by k_asm) (intKind_is _ _ _ _) (by assumption) ?_)))
local macro_rules | `(tactic| walk_at "compareOp In int ref") => `(tactic| (k_here; k_dflt (refine kda_in (knd := PySem.intKind _ _) (by k_asm) (by k_mem) (by k_asm) (by k_asm) (intKind_is _ _ _ _) _ (by assumption) ?_)))
local macro_rules | `(tactic| walk_at "setItem ref int") => `(tactic| (k_here; refine Halt.out ?_))
-- plain
/-- a turn's end: the loop is left, or goes on by what holds between the turns -/
noncomputable def TP (h₀ : Heap) (L I : Addr) (own : List (Addr × Obj)) (J : (Str → Option Value) → List (Addr × Obj) → Prop) (s : Shared) (Q : Flow → Shared → Prop) (f : Flow) (s₂ : Shared) : Prop :=
  match f with
  | .ret v => Q (.ret v) s₂
  | .brk => Q .next s₂
  | _ => ∃ h' tk m' news', s₂ = { s with heap := h', toks := tk } ∧ Fr h₀ L h' m' ∧ News h₀ L h' (own ++ news') ∧ (∀ p ∈ news', p.1 ≠ I) ∧ J m' news'

section
variable {prog : Program} {w : World} {A : Around} {E : Value → Shared → Prop} {s : Shared} {env : Env} {h₀ : Heap} {x : Str} {body : List Stmt} {Q : Flow → Shared → Prop} {m : Str → Option Value} {news : List (Addr × Obj)}

theorem loop_any {I : Addr} {fp : List Addr} {n : Nat} {P : Nat → Value → Prop} {St : Nat → Heap → Prop} (J : Nat → (Str → Option Value) → List (Addr × Obj) → Prop)
    (W : Walks prog w A I fp [I] n P St) (hIn : I ∈ fp) (hIo : ∀ i h, St i h → ∃ o, h.get? I = some o) (hLf : env.locals ∉ fp) (hIb : h₀.get? I = none) (hnw : ∀ p ∈ news, p.1 ≠ I)
    (hst : St 0 s.heap) (F : Fr h₀ env.locals s.heap m) (N : News h₀ env.locals s.heap news) (hj : J 0 m news)
    (turn : ∀ i v m₁ news₁ h tk own, i < n → P i v → J i m₁ news₁ → (∀ p ∈ news₁, p.1 ≠ I) → (∀ p ∈ own, p.1 ∈ fp) → (∃ o, (I, o) ∈ own) → Fr h₀ env.locals h (fun y => if y = x then some v else m₁ y) → News h₀ env.locals h (own ++ news₁) →
      wpAny (model prog w) A (execs body env) (TP h₀ env.locals I own (J (i + 1)) s Q) E { s with heap := h, toks := tk })
    (done : ∀ m₁ news₁ h tk, J n m₁ news₁ → Fr h₀ env.locals h m₁ → News h₀ env.locals h news₁ → Q .next { s with heap := h, toks := tk }) :
    LoopAtV prog w A h₀ env x body Q E (.ref I) s := by
  refine ⟨I, fp, [I], n, P, St, m, news, J, rfl, W, hLf, fun b hb => by rw [List.mem_singleton.mp hb]; exact hIb, fun p hp hm => hnw p hp (List.mem_singleton.mp hm), hst, F, N, hj, ?_, ?_⟩
  · rintro i v m₁ news₁ s₁ own ⟨h, tk, rfl⟩ hi hP hJ hoff hown _ hall hst₁ F₁ N₁
    obtain ⟨io, hio⟩ := hIo _ _ hst₁
    refine wpAny_mono (turn i v m₁ news₁ h tk own hi hP hJ (fun p hp e => hoff p hp (by rw [e]; exact .head _)) hown ⟨io, hall I hIn hIb io hio⟩ F₁ N₁) (fun f s₂ t => ?_) fun _ _ e => e
    have fin : (∃ h' tk m' news', s₂ = { s with heap := h', toks := tk } ∧ Fr h₀ env.locals h' m' ∧ News h₀ env.locals h' (own ++ news') ∧ (∀ p ∈ news', p.1 ≠ I) ∧ J (i + 1) m' news') → LoopStepU h₀ env.locals [I] own (J (i + 1)) { s with heap := h, toks := tk } .next s₂ := by
      rintro ⟨h', tk', m', news', e, F', N', ha, hJ'⟩
      exact ⟨rfl, h', tk', m', news', e, F', N', fun p hp hm => ha p hp (List.mem_singleton.mp hm), hJ'⟩
    cases f with
    | ret v => exact .ret t
    | brk => exact .brk t
    | next => exact .next (fin t)
    | cont => exact .cont (fin t)
  · intro h' tk m' news' F' N' _ hJ
    exact done m' news' h' tk hJ F' N'

theorem for_F {px pos : Pos} {iter : PySem.Expr} (_F : Fr h₀ env.locals s.heap m) (hx : env.kindOf x = some .local)
    (hp : (env.scope.kind == .class || (env.scope.kind == .module && env.locals != env.globals)) = false)
    (h : wpAny (model prog w) A (eval iter env) (fun xv s₁ => wpAny (model prog w) A (pyIter xv) (fun it s₂ => LoopAtV prog w A h₀ env x body Q E it s₂) E s₁) E s)
    (hs : ∀ x, foldedSetIterable iter env x = pure x)
    (hE : PassesOwn (model prog w) A env E) :
    wpAny (model prog w) A (exec (.For (.Name x px) iter body [] pos) env) Q E s := For_invV h₀ hx hp h hs hE
/-- over a tuple or a list of the ledger -/
theorem iter_tup {l : Addr} {items : List Value} {n' : Nat} (J : Nat → (Str → Option Value) → List (Addr × Obj) → Prop) (hh : A.handled = none)
    (F : Fr h₀ env.locals s.heap m) (N : News h₀ env.locals s.heap news) (hl : (l, ({ cls := .type "tuple", data := .seq items.toArray n' } : Obj)) ∈ news) (hj : J 0 m news)
    (turn : ∀ I i v m₁ news₁ h tk own, I ≠ l → items[i]? = some v → J i m₁ news₁ → (∀ p ∈ news₁, p.1 ≠ I) → (∀ p ∈ own, p.1 = I ∨ p.1 = l) → (∃ o, (I, o) ∈ own) → Fr h₀ env.locals h (fun y => if y = x then some v else m₁ y) → News h₀ env.locals h (own ++ news₁) →
      wpAny (model prog w) A (execs body env) (TP h₀ env.locals I own (J (i + 1)) s Q) E { s with heap := h, toks := tk })
    (done : ∀ m₁ news₁ h tk, J items.length m₁ news₁ → Fr h₀ env.locals h m₁ → News h₀ env.locals h news₁ → Q .next { s with heap := h, toks := tk }) :
    wpAny (model prog w) A (pyIter (.ref l)) (fun it s₂ => LoopAtV prog w A h₀ env x body Q E it s₂) E s := by
  have hlt := Heap.lt_size (N _ hl).1
  have hT : s.heap.IsTuple l items.toArray := ⟨_, (N _ hl).1, rfl, n', rfl⟩
  have hne : l ≠ s.heap.objs.size := Nat.ne_of_lt hlt
  refine wpAny_pyIter_tuple hT ?_
  have W := Walks.tuple (prog := prog) (w := w) hh s.heap.objs.size l hne items.toArray
  rw [List.size_toArray] at W
  refine loop_any (s := { s with heap := s.heap.push _ }) J W (.head _) (fun _ _ st => let ⟨o, ho, _⟩ := st.1; ⟨o, ho⟩) ?_ (next_is_new F) (fun p hp => Nat.ne_of_lt (Heap.lt_size (N p hp).1)) ⟨⟨_, Heap.get?_push_size _ rfl, rfl, rfl⟩, hT.at fun o e => Heap.get?_push_of_some _ e⟩ (F.push _) (fun p hp => ⟨Heap.get?_push_of_some _ (N p hp).1, (N p hp).2⟩) hj ?_ ?_
  · intro hm
    rcases List.mem_cons.mp hm with e | hm
    · exact absurd F.ns.lt (e ▸ Nat.lt_irrefl _)
    · exact (N _ hl).2.1 (List.mem_singleton.mp hm).symm
  · intro i v m₁ news₁ h tk own hi hP hJ h1 h2 h3 F₁ N₁
    exact turn s.heap.objs.size i v m₁ news₁ h tk own (Ne.symm hne) (by simpa using hP) hJ h1 (fun p hp => by
      rcases List.mem_cons.mp (h2 p hp) with e | e
      · exact .inl e
      · exact .inr (List.mem_singleton.mp e)) h3 F₁ N₁
  · intro m₁ news₁ h tk hJ F₁ N₁
    exact done m₁ news₁ h tk hJ F₁ N₁
theorem iter_lst {l : Addr} {items : List Value} {n' : Nat} (J : Nat → (Str → Option Value) → List (Addr × Obj) → Prop) (hh : A.handled = none)
    (F : Fr h₀ env.locals s.heap m) (N : News h₀ env.locals s.heap news) (hl : (l, W.listOf items.toArray n') ∈ news) (hj : J 0 m news)
    (turn : ∀ I i v m₁ news₁ h tk own, I ≠ l → items[i]? = some v → J i m₁ news₁ → (∀ p ∈ news₁, p.1 ≠ I) → (∀ p ∈ own, p.1 = I ∨ p.1 = l) → (∃ o, (I, o) ∈ own) → Fr h₀ env.locals h (fun y => if y = x then some v else m₁ y) → News h₀ env.locals h (own ++ news₁) →
      wpAny (model prog w) A (execs body env) (TP h₀ env.locals I own (J (i + 1)) s Q) E { s with heap := h, toks := tk })
    (done : ∀ m₁ news₁ h tk, J items.length m₁ news₁ → Fr h₀ env.locals h m₁ → News h₀ env.locals h news₁ → Q .next { s with heap := h, toks := tk }) :
    wpAny (model prog w) A (pyIter (.ref l)) (fun it s₂ => LoopAtV prog w A h₀ env x body Q E it s₂) E s := by
  have hlt := Heap.lt_size (N _ hl).1
  have hT : s.heap.IsList l items.toArray := ⟨_, (N _ hl).1, rfl, n', rfl⟩
  have hne : l ≠ s.heap.objs.size := Nat.ne_of_lt hlt
  refine wpAny_pyIter_list hT ?_
  have W := Walks.list (prog := prog) (w := w) hh s.heap.objs.size l hne items.toArray
  rw [List.size_toArray] at W
  refine loop_any (s := { s with heap := s.heap.push _ }) J W (.head _) (fun _ _ st => let ⟨o, ho, _⟩ := st.1; ⟨o, ho⟩) ?_ (next_is_new F) (fun p hp => Nat.ne_of_lt (Heap.lt_size (N p hp).1)) ⟨⟨_, Heap.get?_push_size _ rfl, rfl, rfl⟩, hT.at fun o e => Heap.get?_push_of_some _ e⟩ (F.push _) (fun p hp => ⟨Heap.get?_push_of_some _ (N p hp).1, (N p hp).2⟩) hj ?_ ?_
  · intro hm
    rcases List.mem_cons.mp hm with e | hm
    · exact absurd F.ns.lt (e ▸ Nat.lt_irrefl _)
    · exact (N _ hl).2.1 (List.mem_singleton.mp hm).symm
  · intro i v m₁ news₁ h tk own hi hP hJ h1 h2 h3 F₁ N₁
    exact turn s.heap.objs.size i v m₁ news₁ h tk own (Ne.symm hne) (by simpa using hP) hJ h1 (fun p hp => by
      rcases List.mem_cons.mp (h2 p hp) with e | e
      · exact .inl e
      · exact .inr (List.mem_singleton.mp e)) h3 F₁ N₁
  · intro m₁ news₁ h tk hJ F₁ N₁
    exact done m₁ news₁ h tk hJ F₁ N₁
/-- over a range from nought by ones -/
theorem iter_rng {r : Addr} {b₀ : Int} {n : Nat} {t₀ u₀ v₀ : Tok} (J : Nat → (Str → Option Value) → List (Addr × Obj) → Prop) (hh : A.handled = none)
    (hr : IsRange s.heap r 0 b₀ 1 t₀ u₀ v₀) (hb : b₀ = (n : Int)) (hn : n ≤ 1000000)
    (F : Fr h₀ env.locals s.heap m) (N : News h₀ env.locals s.heap news) (hj : J 0 m news)
    (turn : ∀ I i t m₁ news₁ h tk own, i < n → J i m₁ news₁ → (∀ p ∈ news₁, p.1 ≠ I) → (∀ p ∈ own, p.1 = I) → (∃ o, (I, o) ∈ own) → Fr h₀ env.locals h (fun y => if y = x then some (.int (i : Int) t) else m₁ y) → News h₀ env.locals h (own ++ news₁) →
      wpAny (model prog w) A (execs body env) (TP h₀ env.locals I own (J (i + 1)) s Q) E { s with heap := h, toks := tk })
    (done : ∀ m₁ news₁ h tk, J n m₁ news₁ → Fr h₀ env.locals h m₁ → News h₀ env.locals h news₁ → Q .next { s with heap := h, toks := tk }) :
    wpAny (model prog w) A (pyIter (.ref r)) (fun it s₂ => LoopAtV prog w A h₀ env x body Q E it s₂) E s := by
  subst hb
  have hsz : Builtin.Range.rangeSize 0 (n : Int) 1 = (n : Int) := by
    rw [rangeSize_one]
    split <;> omega
  refine wpAny_pyIter_range hr (small_one (by omega) (by omega) (by omega) (by omega)) ?_
  have W := Walks.range (prog := prog) (w := w) hh s.heap.objs.size 0 1 n
  refine loop_any (s := { s with heap := s.heap.push _ }) J W (.head _) (fun _ _ st => ⟨_, st⟩) ?_ (next_is_new F) (fun p hp => Nat.ne_of_lt (Heap.lt_size (N p hp).1)) ?_ (F.push _) (fun p hp => ⟨Heap.get?_push_of_some _ (N p hp).1, (N p hp).2⟩) hj ?_ ?_
  · intro hm
    exact absurd F.ns.lt ((List.mem_singleton.mp hm) ▸ Nat.lt_irrefl _)
  · show IsRangeIter _ _ _ _ _
    rw [hsz]
    simpa using Heap.get?_push_size _ rfl
  · rintro i v m₁ news₁ h tk own hi ⟨t, rfl⟩ hJ h1 h2 h3 F₁ N₁
    have e : (0 : Int) + (i : Int) * 1 = (i : Int) := by omega
    rw [e] at F₁
    exact turn s.heap.objs.size i t m₁ news₁ h tk own hi hJ h1 (fun p hp => List.mem_singleton.mp (h2 p hp)) h3 F₁ N₁
  · intro m₁ news₁ h tk hJ F₁ N₁
    exact done m₁ news₁ h tk hJ F₁ N₁
end

/-- the frame's names that a loop does not store are as they were -/
theorem m_form {stored : List Str} {m m₀ : Str → Option Value} (h : ∀ y, stored.contains y = false → m y = m₀ y) : ∃ u : Str → Option Value, m = fun y => if stored.contains y then u y else m₀ y :=
  ⟨m, funext fun y => by
    cases q : stored.contains y with
    | true => simp
    | false => simp [h y q]⟩
section
variable {prog : Program} {w : World} {A : Around} {E : Value → Shared → Prop} {s : Shared} {h₀ : Heap} {L l : Addr} {news : List (Addr × Obj)} {vs : List Value} {n : Nat} {Q : Value → Shared → Prop}
theorem len_L (N : News h₀ L s.heap news) (hl : (l, W.listOf vs.toArray n) ∈ news) (hz : vs.length ≤ 16384) (h : Q (.int vs.length (s.toks + 1)) { s with toks := s.toks + 1 + 1 }) : wpAny (model prog w) A (call (.builtin "len") [.ref l]) Q E s :=
  kun_lenL (News.isList N hl) (by rw [List.size_toArray]) (by omega) h
theorem len_T (N : News h₀ L s.heap news) (hl : (l, ({ cls := .type "tuple", data := .seq vs.toArray } : Obj)) ∈ news) (hz : vs.length ≤ 16384) (h : Q (.int vs.length (s.toks + 1)) { s with toks := s.toks + 1 + 1 }) : wpAny (model prog w) A (call (.builtin "len") [.ref l]) Q E s :=
  kun_lenT (News.isTup N hl) (by rw [List.size_toArray]) (by omega) h
end
local macro_rules | `(tactic| walk_at "exec For Name Name cons nil") => `(tactic| (k_here; (with_reducible rename FindMark => hCM'); refine Halt.out ?_))
local macro_rules | `(tactic| size_fits) => `(tactic| (simp only [List.size_toArray, vals, List.length_map, List.length_append, List.length_cons, List.length_nil, Array.size_push, sizeLine_eq]; omega))
local macro_rules | `(tactic| walk_at "call type:tuple") => `(tactic| (k_here; refine Halt.out ?_))
local macro_rules | `(tactic| walk_at "call builtin:list.clear") => `(tactic| (k_here; refine Halt.out ?_))
local macro_rules | `(tactic| walk_at "call builtin:len") => `(tactic| (k_here; k_dflt (refine' len_L ?k1 ?k2 ?k3 ?_; (case k1 => k_asm); (case k2 => k_mem); (case k3 => size_fits); k_whole)))
local macro_rules | `(tactic| walk_at "call builtin:len") => `(tactic| (k_here; k_dflt (refine' len_T ?k1 ?k2 ?k3 ?_; (case k1 => k_asm); (case k2 => k_mem); (case k3 => size_fits); k_whole)))
section
variable {w : World} {mean : ExcName → Option Value} {mg mb : Str → Option Value} {dp un : Nat} {gd : Option (List Code)} {cn : Str} {cs : Scope} {a : Addr} {ccd : Value} {cl : List (Str × Addr)} {outer : List Env} {A₀ : Around} {base h₀ : Heap} {L : Addr} {m : Str → Option Value} {rest : List (Addr × Obj)} {s : Shared}
  {x dx d : Addr} {t1 t2 t3 t4 : Tok} {v2 v3 v4 : Value} {ne : Nat} {od : Obj} {kv : List (Int × Value)} {k : Int} {t : Tok} {ia : Addr} {Q E : Value → Shared → Prop}

theorem gni_found (H : At w mean mg mb 5 dp un cs A₀ base h₀ outer L m s.heap)
    (N : News h₀ L s.heap (S3 w.params x dx d t1 t2 t3 t4 v2 v3 v4 ne od ++ rest))
    (hap : ∀ q ∈ rest, q.1 ∉ [x, dx, d])
    (hod : od.IsDictOf (intKind PySem.Challenge.rw_oh0060_01.row.prog w) kv) (lo : (d == sysModules) = false) (hv : valueAt kv k = some (.ref ia))
    (hret : ∀ h' tk', Fr h₀ L h' m → News h₀ L h' (S3 w.params x dx d t1 t2 t3 t4 v2 v3 v4 ne od ++ rest) → Q (.ref ia) { s with heap := h', toks := tk' }) :
    wpAny (model PySem.Challenge.rw_oh0060_01.row.prog w) (ktrTop dp un gd cn cs L a ccd cl outer) (call (.ref 101) [.ref x, .int k t]) Q E s := by
  obtain ⟨B, F, X, T, hk, hdp, hu⟩ := H
  have Nf : News h₀ L s.heap [(x, instObj 158 dx), (dx, dictOf (attrs w.params t1 t2 t3 t4 d v2 v3 v4) ne), (d, od)] := fun p hp => N p (List.mem_append_left _ hp)
  have hr : ∀ q ∈ rest, s.heap.get? q.1 = some q.2 ∧ q.1 ∉ [(x, instObj 158 dx), (dx, dictOf (attrs w.params t1 t2 t3 t4 d v2 v3 v4) ne), (d, od)].map (·.1) := fun q hq => ⟨(N q (List.mem_append_right _ hq)).1, hap q hq⟩
  refine wpAny_call ?_
  ((k_dflt (refine' code_defR ?k1x1 ?k2x1 ?k3x1 ?k4x1 ?k5x1 ?kAx1 ?kFx1 ?kKx1 ?hrx1 ?k6x1 ?k7x1 ?k8x1 ?k9x1 ?kBx1 ?_ ?c2x1 ?c3x1 ?c4x1 ?c5x1; (case kAx1 => exact rfl); (case kFx1 => exact rfl); (case kKx1 => first | exact rfl | assumption); (case k1x1 => k_asm); (case k2x1 => k_asm); (case k3x1 => k_asm); (case k4x1 => k_asm); (case k5x1 => k_asm); (case hrx1 => assumption); (case k6x1 => k_is); (case k7x1 => k_is); (case k8x1 => ktr_room); (case k9x1 => first | exact BindsTo.of_eq rfl | exact binds_K (by k_in) rfl (by k_is) rfl rfl rfl); (case c5x1 => decide); (case kBx1 => exact locs rfl); (case c2x1 => exact rfl); (case c3x1 => exact rfl); (case c4x1 => exact rfl); k_whole)))
  intro g L' h₁ FG F' N' hro l1 B' X' T'
  k_lt l1
  dsimp only
  try k_fold
  k_steps
  exact hret _ _ (by assumption) (news_rest (l₀ := S3 w.params x dx d t1 t2 t3 t4 v2 v3 v4 ne od) (by assumption) (by assumption) N)

theorem gni_new (H : At w mean mg mb 5 dp un cs A₀ base h₀ outer L m s.heap)
    (N : News h₀ L s.heap (S3 w.params x dx d t1 t2 t3 t4 v2 v3 v4 ne od ++ rest))
    (hap : ∀ q ∈ rest, q.1 ∉ [x, dx, d]) (hxs : @Ne Nat x dx ∧ @Ne Nat x d ∧ @Ne Nat dx d)
    (hod : od.IsDictOf (intKind PySem.Challenge.rw_oh0060_01.row.prog w) kv) (lo : (d == sysModules) = false) (hv : valueAt kv k = none) (hsz : kv.length ≤ 1000)
    (hret : ∀ h' tk' ia da la tnp od', Fr h₀ L h' m → News h₀ L h' ([(la, W.listOf #[] 0), (ia, infoObj da k t 0 tnp la), (da, dictOf [] 0), (x, instObj 158 dx), (dx, dictOf (attrs w.params t1 t2 t3 t4 d v2 v3 v4) ne), (d, od')] ++ rest) →
      od'.IsDictOf (intKind PySem.Challenge.rw_oh0060_01.row.prog w) (stored kv k (.ref ia)) → (∀ q ∈ rest, q.1 ∉ [ia, da, la]) → (@Ne Nat ia da ∧ @Ne Nat ia la ∧ @Ne Nat da la) → (∀ b ∈ [ia, da, la], b ∉ [x, dx, d]) → Q (.ref ia) { s with heap := h', toks := tk' }) :
    wpAny (model PySem.Challenge.rw_oh0060_01.row.prog w) (ktrTop dp un gd cn cs L a ccd cl outer) (call (.ref 101) [.ref x, .int k t]) Q E s := by
  have hQM : QMark := trivial
  obtain ⟨B, F, X, T, hk, hdp, hu⟩ := H
  have Nf : News h₀ L s.heap [(x, instObj 158 dx), (dx, dictOf (attrs w.params t1 t2 t3 t4 d v2 v3 v4) ne), (d, od)] := fun p hp => N p (List.mem_append_left _ hp)
  have hr : ∀ q ∈ rest, s.heap.get? q.1 = some q.2 ∧ q.1 ∉ [(x, instObj 158 dx), (dx, dictOf (attrs w.params t1 t2 t3 t4 d v2 v3 v4) ne), (d, od)].map (·.1) := fun q hq => ⟨(N q (List.mem_append_right _ hq)).1, hap q hq⟩
  refine wpAny_call ?_
  ((k_dflt (refine' code_defR ?k1x2 ?k2x2 ?k3x2 ?k4x2 ?k5x2 ?kAx2 ?kFx2 ?kKx2 ?hrx2 ?k6x2 ?k7x2 ?k8x2 ?k9x2 ?kBx2 ?_ ?c2x2 ?c3x2 ?c4x2 ?c5x2; (case kAx2 => exact rfl); (case kFx2 => exact rfl); (case kKx2 => first | exact rfl | assumption); (case k1x2 => k_asm); (case k2x2 => k_asm); (case k3x2 => k_asm); (case k4x2 => k_asm); (case k5x2 => k_asm); (case hrx2 => assumption); (case k6x2 => k_is); (case k7x2 => k_is); (case k8x2 => ktr_room); (case k9x2 => first | exact BindsTo.of_eq rfl | exact binds_K (by k_in) rfl (by k_is) rfl rfl rfl); (case c5x2 => decide); (case kBx2 => exact locs rfl); (case c2x2 => exact rfl); (case c3x2 => exact rfl); (case c4x2 => exact rfl); k_whole)))
  intro g L' h₁ FG F' N' hro l1 B' X' T'
  k_lt l1
  dsimp only
  try k_fold
  k_steps
  show wpAny _ _ _ _ _ _
  ((k_dflt (refine' kda_set (knd := PySem.intKind _ _) ?Fx3 ?Nx3 ?Ux3 ?dx3 (intKind_is _ _ _ _) ?zx3 ?_; (case Fx3 => k_asm); (case Nx3 => k_asm); (case Ux3 => k_updF); (case dx3 => k_asm); (case zx3 => (rw [sizeLine_eq]; omega))); intro hzz ozz Fzz Nzz dzz; (try dsimp only at Nzz)))
  k_steps
  refine hret _ _ _ _ _ _ _ (by assumption) (news_rest (l₀ := S3 w.params x dx d t1 t2 t3 t4 v2 v3 v4 ne od) (by assumption) (by assumption) N) (by assumption) (fun q hq => ?_) ?_ ?_
  · have z := apart_of ‹News g _ _ _› hro q hq
    simp only [adr, List.map_cons, List.map_nil, List.mem_cons, List.not_mem_nil, or_false, not_or] at z ⊢
    exact ⟨z.2.1, z.2.2.1, z.1⟩
  · refine ⟨?_, ?_, ?_⟩ <;> omega
  · simp only [List.mem_cons, List.not_mem_nil, or_false, not_or]
    rintro b (rfl | rfl | rfl) <;> (refine ⟨?_, ?_, ?_⟩ <;> (refine neN ?_; omega))
end
noncomputable abbrev mOf {h₀ h : Heap} {L : Addr} {m : Str → Option Value} (_ : Fr h₀ L h m) : Str → Option Value := m
noncomputable abbrev nOf {h₀ h : Heap} {L : Addr} {l : List (Addr × Obj)} (_ : News h₀ L h l) : List (Addr × Obj) := l
theorem not_adr {b : Nat} {l : List (Addr × Obj)} (h : b ∉ adr l) : ∀ p ∈ l, p.1 ≠ b := fun p hp e => h (e ▸ List.mem_map_of_mem hp)
theorem adr_mem {l : List (Addr × Obj)} {p : Addr × Obj} (h : p ∈ l) : p.1 ∈ adr l := List.mem_map_of_mem h

theorem news_rot {h₀ h : Heap} {L : Addr} {l own : List (Addr × Obj)} (N : News h₀ L h (own ++ l)) : News h₀ L h (l ++ own) := News.sub N fun p hp => List.mem_append.mpr ((List.mem_append.mp hp).symm)

section
variable {w : World} {mean : ExcName → Option Value} {mg mb : Str → Option Value} {dp un : Nat} {gd : Option (List Code)} {cn : Str} {cs : Scope} {a : Addr} {ccd : Value} {cl : List (Str × Addr)} {outer : List Env} {A₀ : Around} {base h₀ : Heap} {L : Addr} {m : Str → Option Value} {rest : List (Addr × Obj)} {s : Shared}
  {x dx d : Addr} {t1 t2 t3 t4 : Tok} {v2 v3 v4 : Value} {ne : Nat} {od : Obj} {G : List Nd} {k : Int} {t : Tok} {Q E : Value → Shared → Prop}
theorem gni (H : At w mean mg mb 5 dp un cs A₀ base h₀ outer L m s.heap)
    (N : News h₀ L s.heap (S3 w.params x dx d t1 t2 t3 t4 v2 v3 v4 ne od ++ (objs G ++ rest)))
    (nd : (adr (S3 w.params x dx d t1 t2 t3 t4 v2 v3 v4 ne od ++ objs G)).Nodup)
    (har : ∀ q ∈ rest, q.1 ∉ adr (S3 w.params x dx d t1 t2 t3 t4 v2 v3 v4 ne od ++ objs G))
    (hod : od.IsDictOf (intKind PySem.Challenge.rw_oh0060_01.row.prog w) (kvs G)) (lo : (d == sysModules) = false) (hsz : G.length ≤ 1000)
    (hret : ∀ h' tk' od' A n B, Fr h₀ L h' m → News h₀ L h' (n.objs ++ (S3 w.params x dx d t1 t2 t3 t4 v2 v3 v4 ne od' ++ (objs (A ++ B) ++ rest))) →
      (adr (n.objs ++ (S3 w.params x dx d t1 t2 t3 t4 v2 v3 v4 ne od' ++ objs (A ++ B)))).Nodup → (∀ q ∈ rest, q.1 ∉ adr (n.objs ++ (S3 w.params x dx d t1 t2 t3 t4 v2 v3 v4 ne od' ++ objs (A ++ B)))) →
      od'.IsDictOf (intKind PySem.Challenge.rw_oh0060_01.row.prog w) (kvs (A ++ n :: B)) → n.key = k →
      (A ++ n :: B = G ∨ (A = G ∧ B = [] ∧ k ∉ keys G ∧ n.np = 0 ∧ n.succ = [])) → Q (.ref n.ia) { s with heap := h', toks := tk' }) :
    wpAny (model PySem.Challenge.rw_oh0060_01.row.prog w) (ktrTop dp un gd cn cs L a ccd cl outer) (call (.ref 101) [.ref x, .int k t]) Q E s := by
  have nd' := nd
  rw [adr_append, List.nodup_append] at nd'
  obtain ⟨nd1, nd2, nd3⟩ := nd'
  have hap : ∀ q ∈ objs G ++ rest, q.1 ∉ [x, dx, d] := fun q hq hm => by
    rcases List.mem_append.mp hq with hq | hq
    · exact nd3 q.1 hm q.1 (List.mem_map_of_mem hq) rfl
    · exact har q hq (by rw [adr_append]; exact List.mem_append_left _ hm)
  have hxs : @Ne Nat x dx ∧ @Ne Nat x d ∧ @Ne Nat dx d := by
    simp only [adr, List.map_cons, List.map_nil, List.nodup_cons, List.mem_cons, List.not_mem_nil, or_false, not_or] at nd1
    exact ⟨nd1.1.1, nd1.1.2, nd1.2.1⟩
  cases hv : valueAt (kvs G) k with
  | some v =>
    obtain ⟨A, n, B, rfl, hnk, rfl⟩ := valueAt_found hv
    refine gni_found H N hap hod lo hv fun h' tk' F' N' => ?_
    refine hret h' tk' od A n B F' (News.sub N' fun p hp => ?_) ?_ (fun q hq hm => har q hq ?_) hod hnk (.inl rfl)
    · rcases List.mem_append.mp hp with hp | hp
      · exact List.mem_append_right _ (List.mem_append_left _ (mem_objs_mid.mpr (.inl hp)))
      · rcases List.mem_append.mp hp with hp | hp
        · exact List.mem_append_left _ hp
        · rcases List.mem_append.mp hp with hp | hp
          · exact List.mem_append_right _ (List.mem_append_left _ (mem_objs_mid.mpr (.inr hp)))
          · exact List.mem_append_right _ (List.mem_append_right _ hp)
    · refine nodup_perm nd fun a => ?_
      simp only [adr_append, List.count_append, adr_objs_mid]
      omega
    · have e : q.1 ∈ adr (n.objs ++ (S3 w.params x dx d t1 t2 t3 t4 v2 v3 v4 ne od ++ objs (A ++ B))) ↔ q.1 ∈ adr (S3 w.params x dx d t1 t2 t3 t4 v2 v3 v4 ne od ++ objs (A ++ n :: B)) := by
        rw [← List.count_pos_iff, ← List.count_pos_iff]
        simp only [adr_append, List.count_append, adr_objs_mid]
        omega
      exact e.mp hm
  | none =>
    refine gni_new H N hap hxs hod lo hv (by rw [kvs_length]; exact hsz) fun h' tk' ia da la tnp od' F' N' hod' ha1 ha2 ha3 => ?_
    rw [stored_new hv] at hod'
    refine hret h' tk' od' G ⟨k, t, ia, da, la, 0, tnp, [], 0⟩ [] F' (News.sub N' fun p hp => ?_) ?_ (fun q hq hm => ?_) (by rw [kvs_append]; exact hod') rfl (.inr ⟨rfl, rfl, valueAt_none hv, rfl, rfl⟩)
    · rw [List.append_nil] at hp
      rcases List.mem_append.mp hp with hp | hp
      · simp only [List.mem_cons, List.not_mem_nil, or_false] at hp
        rcases hp with rfl | rfl | rfl
        · exact List.mem_append_left _ (.tail _ (.head _))
        · exact List.mem_append_left _ (.tail _ (.tail _ (.head _)))
        · exact List.mem_append_left _ (.head _)
      · rcases List.mem_append.mp hp with hp | hp
        · simp only [List.mem_cons, List.not_mem_nil, or_false] at hp
          rcases hp with rfl | rfl | rfl
          · exact List.mem_append_left _ (.tail _ (.tail _ (.tail _ (.head _))))
          · exact List.mem_append_left _ (.tail _ (.tail _ (.tail _ (.tail _ (.head _)))))
          · exact List.mem_append_left _ (.tail _ (.tail _ (.tail _ (.tail _ (.tail _ (.head _))))))
        · exact List.mem_append_right _ hp
    · rw [List.append_nil, adr_append, List.nodup_append]
      refine ⟨?_, ?_, ?_⟩
      · simp only [adr, List.map_cons, List.map_nil, List.nodup_cons, List.mem_cons, List.not_mem_nil, or_false, not_or, not_false_eq_true, List.nodup_nil, and_true]
        exact ⟨⟨ha2.1, ha2.2.1⟩, ha2.2.2⟩
      · rw [adr_append]
        exact List.nodup_append.mpr ⟨nd1, nd2, nd3⟩
      · intro b hb c hc e
        subst e
        rw [adr_append] at hc
        rcases List.mem_append.mp hc with hc | hc
        · exact ha3 b hb hc
        · obtain ⟨q, hq, rfl⟩ := List.mem_map.mp hc
          exact ha1 q (List.mem_append_left _ hq) hb
    · rw [List.append_nil, adr_append] at hm
      rcases List.mem_append.mp hm with hm | hm
      · exact ha1 q (List.mem_append_right _ hq) hm
      · exact har q hq hm
end
/-- the graph without the heap: key, number of predecessors, successors -/
noncomputable abbrev Gr := List (Int × Int × List Int)
noncomputable def absN (n : Nd) : Int × Int × List Int := (n.key, n.np, n.succ.map (·.1))
noncomputable def absG (G : List Nd) : Gr := G.map absN
noncomputable def ensure (g : Gr) (k : Int) : Gr := if k ∈ g.map (·.1) then g else g ++ [(k, 0, [])]
noncomputable def bump (g : Gr) (k : Int) : Gr := g.map fun e => if e.1 = k then (e.1, e.2.1 + 1, e.2.2) else e
noncomputable def link (g : Gr) (j k : Int) : Gr := g.map fun e => if e.1 = j then (e.1, e.2.1, e.2.2 ++ [k]) else e
noncomputable def addG (g : Gr) (k j : Int) : Gr := link (ensure (bump (ensure g k) k) j) j k

theorem absG_append (A B : List Nd) : absG (A ++ B) = absG A ++ absG B := by simp [absG]
theorem keys_absG (G : List Nd) : (absG G).map (·.1) = keys G := by simp [absG, keys, absN]
theorem ensure_of {G : List Nd} {A B : List Nd} {n : Nd} {k : Int} (hk : n.key = k) (h : A ++ n :: B = G ∨ (A = G ∧ B = [] ∧ k ∉ keys G ∧ n.np = 0 ∧ n.succ = [])) : absG (A ++ n :: B) = ensure (absG G) k := by
  unfold ensure
  rcases h with rfl | ⟨rfl, rfl, h1, h2, h3⟩
  · rw [if_pos]
    rw [keys_absG]
    simp [keys, hk]
  · rw [if_neg (by rw [keys_absG]; exact h1), absG_append]
    simp [absG, absN, hk, h2, h3]
theorem map_mid {f : Int × Int × List Int → Int × Int × List Int} {A B : List Nd} {n n' : Nd} (hA : ∀ q ∈ A ++ B, f (absN q) = absN q) (hn : f (absN n) = absN n') : (absG (A ++ n :: B)).map f = absG (A ++ n' :: B) := by
  simp only [absG, List.map_append, List.map_cons, hn]
  have h1 : (A.map absN).map f = A.map absN := by
    rw [List.map_map]
    exact List.map_congr_left fun q hq => hA q (List.mem_append_left _ hq)
  have h2 : (B.map absN).map f = B.map absN := by
    rw [List.map_map]
    exact List.map_congr_left fun q hq => hA q (List.mem_append_right _ hq)
  rw [h1, h2]
theorem dict_keys {prog : Program} {w : World} {od : Obj} {G : List Nd} (h : od.IsDictOf (intKind prog w) (kvs G)) : (keys G).Nodup := by
  obtain ⟨_, _, _, _, _, _, hn⟩ := h
  have e : (kvs G).map (·.1) = keys G := by simp [kvs, keys]
  rw [← e]
  exact hn
theorem key_apart {A B : List Nd} {n : Nd} (h : (keys (A ++ n :: B)).Nodup) : ∀ q ∈ A ++ B, q.key ≠ n.key := by
  intro q hq e
  simp only [keys, List.map_append, List.map_cons, List.nodup_append, List.nodup_cons] at h
  rcases List.mem_append.mp hq with hq | hq
  · exact h.2.2 q.key (List.mem_map_of_mem hq) n.key (.head _) e
  · exact h.2.1.1 (e ▸ List.mem_map_of_mem hq)
theorem bump_mid {A B : List Nd} {n : Nd} (h : (keys (A ++ n :: B)).Nodup) (t : Tok) : bump (absG (A ++ n :: B)) n.key = absG (A ++ { n with np := n.np + 1, tnp := t } :: B) := by
  refine map_mid (fun q hq => ?_) ?_
  · rw [if_neg]
    exact key_apart h q hq
  · simp [absN]
theorem link_mid {A B : List Nd} {n : Nd} {k : Int} {t : Tok} {e : Nat} (h : (keys (A ++ n :: B)).Nodup) : link (absG (A ++ n :: B)) n.key k = absG (A ++ { n with succ := n.succ ++ [(k, t)], ep := e } :: B) := by
  refine map_mid (fun q hq => ?_) ?_
  · rw [if_neg]
    exact key_apart h q hq
  · simp [absN]
theorem kvs_mid (A B : List Nd) (n n' : Nd) (h1 : n'.key = n.key) (h2 : n'.ia = n.ia) : kvs (A ++ n' :: B) = kvs (A ++ n :: B) := by
  simp [kvs, h1, h2]
theorem adr_mid (A B : List Nd) (n n' : Nd) (h1 : n'.ia = n.ia) (h2 : n'.da = n.da) (h3 : n'.la = n.la) : adr (objs (A ++ n' :: B)) = adr (objs (A ++ n :: B)) := by
  rw [objs_mid, objs_mid]
  simp only [adr_append]
  simp [adr, h1, h2, h3]
section
variable {w : World} {mean : ExcName → Option Value} {mg mb : Str → Option Value} {dp un : Nat} {gd : Option (List Code)} {cn : Str} {cs : Scope} {a : Addr} {ccd : Value} {cl : List (Str × Addr)} {outer : List Env} {A₀ : Around} {base h₀ : Heap} {L : Addr} {m : Str → Option Value} {rest : List (Addr × Obj)} {s : Shared}
  {x dx d : Addr} {t1 t2 t3 t4 : Tok} {v3 v4 : Value} {ne : Nat} {od : Obj} {G : List Nd} {k j : Int} {t u : Tok} {Q E : Value → Shared → Prop}

noncomputable def AddPost (w : World) (x dx d : Addr) (t1 t2 t3 t4 : Tok) (v3 v4 : Value) (ne : Nat) (g' : Gr) (news : List (Addr × Obj)) : Prop :=
  ∃ od' G', (∀ p ∈ S3 w.params x dx d t1 t2 t3 t4 .none v3 v4 ne od' ++ objs G', p ∈ news) ∧ (adr (S3 w.params x dx d t1 t2 t3 t4 .none v3 v4 ne od' ++ objs G')).Nodup ∧
    od'.IsDictOf (intKind PySem.Challenge.rw_oh0060_01.row.prog w) (kvs G') ∧ absG G' = g'

theorem add_K (H : At w mean mg mb 12 dp un cs A₀ base h₀ outer L m s.heap)
    (N : News h₀ L s.heap (S3 w.params x dx d t1 t2 t3 t4 .none v3 v4 ne od ++ (objs G ++ rest)))
    (nd : (adr (S3 w.params x dx d t1 t2 t3 t4 .none v3 v4 ne od ++ objs G)).Nodup)
    (har : ∀ q ∈ rest, q.1 ∉ adr (S3 w.params x dx d t1 t2 t3 t4 .none v3 v4 ne od ++ objs G))
    (hod : od.IsDictOf (intKind PySem.Challenge.rw_oh0060_01.row.prog w) (kvs G)) (lo : (d == sysModules) = false) (hsz : G.length ≤ 900) (hsc : ∀ n ∈ G, n.succ.length ≤ 900) (hkj : k ≠ j)
    (hret : ∀ h' tk' od' G', Fr h₀ L h' m → News h₀ L h' (S3 w.params x dx d t1 t2 t3 t4 .none v3 v4 ne od' ++ (objs G' ++ rest)) → (adr (S3 w.params x dx d t1 t2 t3 t4 .none v3 v4 ne od' ++ objs G')).Nodup →
      (∀ q ∈ rest, q.1 ∉ adr (S3 w.params x dx d t1 t2 t3 t4 .none v3 v4 ne od' ++ objs G')) → od'.IsDictOf (intKind PySem.Challenge.rw_oh0060_01.row.prog w) (kvs G') → absG G' = addG (absG G) k j → Q .none { s with heap := h', toks := tk' }) :
    wpAny (model PySem.Challenge.rw_oh0060_01.row.prog w) (ktrTop dp un gd cn cs L a ccd cl outer) (call (.ref 108) [.ref x, .int k t, .int j u]) Q E s := by
  have hQM : QMark := trivial
  obtain ⟨B, F, X, T, hk, hdp, hu⟩ := H
  have Nf : News h₀ L s.heap (((x, instObj 158 dx) :: (dx, dictOf (attrs w.params t1 t2 t3 t4 d .none v3 v4) ne) :: (d, od) :: objs G) ++ rest) := News.sub N fun p hp => by
    rw [← List.append_assoc]; exact hp
  have hap : ∀ q ∈ rest, q.1 ∉ ((x, instObj 158 dx) :: (dx, dictOf (attrs w.params t1 t2 t3 t4 d .none v3 v4) ne) :: (d, od) :: objs G).map (·.1) := har
  refine wpAny_call ?_
  ((k_dflt (refine' kp_restR ?k1x1 ?k2x1 ?k3x1 ?k4x1 ?k5x1 ?kAx1 ?kFx1 ?kKx1 ?hapx1 ?k6x1 ?k7x1 ?k8x1 ?kPx1 ?kGx1 ?kBx1 ?_ ?c2x1 ?c3x1 ?c4x1 ?c5x1; (case kAx1 => exact rfl); (case kFx1 => exact rfl); (case kKx1 => first | exact rfl | assumption); (case k1x1 => k_asm); (case k2x1 => k_asm); (case k3x1 => k_asm); (case k4x1 => k_asm); (case k5x1 => k_asm); (case hapx1 => assumption); (case k6x1 => k_is); (case k7x1 => k_is); (case k8x1 => ktr_room); (case kPx1 => exact rfl); (case kGx1 => exact fun _ => rfl); (case kBx1 => exact fun _ => locs rfl); (case c5x1 => decide); (case c2x1 => exact rfl); (case c3x1 => exact rfl); (case c4x1 => exact rfl); k_whole)))
  intro D g L' h₁ FG F' N' hro l1 B' X' T'
  dsimp only
  try k_fold
  refine wpAny_noRaise ?_
  k_steps
  show wpAny _ _ _ _ _ _
  have Ng : News g L' _ (S3 w.params x dx d t1 t2 t3 t4 .none v3 v4 ne od ++ (objs G ++ [(D, ({ cls := .type "tuple", data := .seq [Value.int j u].toArray } : Obj))])) := News.sub ‹News g L' _ _› (by (first | (walk_at "MY sub2") | (intro p hp; (simp only [List.mem_append, List.mem_cons, List.not_mem_nil, or_false, false_or, List.append_assoc, List.cons_append, List.nil_append] at hp ⊢); grind)))
  have hD : ∀ q ∈ [(D, ({ cls := .type "tuple", data := .seq [Value.int j u].toArray } : Obj))], q.1 ∉ adr (S3 w.params x dx d t1 t2 t3 t4 .none v3 v4 ne od ++ objs G) := by
    intro q hq hm
    obtain ⟨p, hp, e⟩ := List.mem_map.mp hm
    have hq' := List.mem_singleton.mp hq
    subst hq'
    exact absurd (l1 p hp) (by rw [e]; exact Nat.lt_irrefl _)
  k_dflt (refine gni (mean := mean) ⟨B', ‹Fr g L' _ _›, X', T', rfl, by (first | omega | (dsimp only [ktrTop, Around.deeper, Around.mark] at *; omega) | (simp only [depth_under_make, depth_under_kw, depth_in1, depth_deeper, depth_caller, units_in1, units_deeper, Around.mark_units, units_caller] at *; dsimp only [ktrTop] at *; omega)), by (first | omega | (dsimp only [ktrTop, Around.deeper, Around.mark] at *; omega) | (simp only [depth_under_make, depth_under_kw, depth_in1, depth_deeper, depth_caller, units_in1, units_deeper, Around.mark_units, units_caller] at *; dsimp only [ktrTop] at *; omega))⟩ Ng nd hD hod lo (by omega) ?_)
  intro h2 tk2 od2 A n B2 F2 N2 nd2 har2 hod2 hnk hcase
  clear Ng l1 hD
  have N3 : News g L' h2 ((n.ia, infoObj n.da n.key n.tk n.np n.tnp n.la) :: (n.da, dictOf [] 0) :: (n.la, W.listOf (vals n.succ).toArray n.ep) :: (x, instObj 158 dx) :: (dx, dictOf (attrs w.params t1 t2 t3 t4 d .none v3 v4) ne) :: (d, od2) :: (D, ({ cls := .type "tuple", data := .seq [Value.int j u].toArray } : Obj)) :: objs (A ++ B2)) := News.sub N2 (by (first | (walk_at "MY sub2") | (intro p hp; (simp only [List.mem_append, List.mem_cons, List.not_mem_nil, or_false, false_or, List.append_assoc, List.cons_append, List.nil_append] at hp ⊢); grind)))
  have hD2 := har2 _ (.head _)
  have q1 : ∀ p ∈ objs (A ++ B2), p.1 ≠ n.ia := not_adr (by
    have := (List.nodup_append.mp (by rw [adr_append] at nd2; exact nd2)).2.2 n.ia (.head _)
    intro hm
    exact this n.ia (by simp only [adr_append]; exact List.mem_append_right _ hm) rfl)
  have q2 : @Ne Nat n.ia n.da ∧ @Ne Nat n.ia n.la ∧ @Ne Nat n.ia x ∧ @Ne Nat n.ia dx ∧ @Ne Nat n.ia d ∧ @Ne Nat n.ia D := by
    have hn := nd2
    have hn2 := hD2
    simp only [adr, List.map_cons, List.map_append, List.map_nil, List.cons_append, List.nil_append, List.nodup_cons, List.mem_cons, List.mem_append, List.not_mem_nil, or_false, not_or] at hn hn2
    grind
  clear N2
  have hFM : FindMark := trivial
  k_steps
  show wpAny _ _ _ _ _ _
  ((k_dflt (refine' for_F ?fx6 ?ax6 ?bx6 ?_ ?cx6 ?dx6; (case fx6 => k_asm); (case ax6 => exact rfl); (case bx6 => exact rfl); (case cx6 => (intro _; exact rfl)); (case dx6 => passes_own))))
  k_steps
  show wpAny _ _ _ _ _ _
  have F5 := ‹Fr g L' _ _›
  have N5 := ‹News g L' _ _›
  k_dflt (refine iter_tup (items := [Value.int j u]) (fun i m₁ news₁ => match i with | 0 => m₁ = mOf F5 ∧ news₁ = nOf N5 | _ => AddPost w x dx d t1 t2 t3 t4 v3 v4 ne (addG (absG G) k j) news₁) rfl F5 N5 (by k_mem) ⟨rfl, rfl⟩ ?turn ?done)
  case turn =>
    rintro I i v m₁ news₁ h6 tk6 own hI hv hJ hnI hown ⟨io, hio⟩ F6 N6
    obtain rfl : i = 0 := by
      cases i with
      | zero => rfl
      | succ i => simp at hv
    obtain ⟨rfl, rfl⟩ := hJ
    obtain rfl : Value.int j u = v := by simpa using hv
    obtain ⟨t', N7⟩ : ∃ t', News g L' h6 ((n.ia, infoObj n.da n.key n.tk (n.np + 1) t' n.la) :: (n.da, dictOf [] 0) :: (n.la, W.listOf (vals n.succ).toArray n.ep) :: (x, instObj 158 dx) :: (dx, dictOf (attrs w.params t1 t2 t3 t4 d .none v3 v4) ne) :: (d, od2) :: (D, ({ cls := .type "tuple", data := .seq [Value.int j u].toArray } : Obj)) :: (objs (A ++ B2) ++ own)) := ⟨_, news_rot N6⟩
    dsimp only [mOf] at F6
    have hI2 : ∀ p ∈ nOf N5, p.1 ≠ I := hnI
    clear N6 hnI
    clear hv
    k_steps
    show wpAny _ _ _ _ _ _
    have nd3 : (adr (S3 w.params x dx d t1 t2 t3 t4 .none v3 v4 ne od2 ++ objs (A ++ { n with np := n.np + 1, tnp := t' } :: B2))).Nodup := by
      refine nodup_perm nd2 fun a => ?_
      rw [adr_append, adr_mid A B2 n { n with np := n.np + 1, tnp := t' } rfl rfl rfl]
      simp only [adr_append, List.count_append, adr_objs_mid]
      omega
    have har3 : ∀ q ∈ own, q.1 ∉ adr (S3 w.params x dx d t1 t2 t3 t4 .none v3 v4 ne od2 ++ objs (A ++ { n with np := n.np + 1, tnp := t' } :: B2)) := by
      intro q hq hm
      have e : q.1 ∈ adr (n.objs ++ (S3 w.params x dx d t1 t2 t3 t4 .none v3 v4 ne od2 ++ objs (A ++ B2))) := by
        rw [adr_append, adr_mid A B2 n { n with np := n.np + 1, tnp := t' } rfl rfl rfl] at hm
        rw [← List.count_pos_iff] at hm ⊢
        simp only [adr_append, List.count_append, adr_objs_mid] at hm ⊢
        omega
      rcases hown q hq with e1 | e1
      · rw [e1] at e
        have e2 : I ∈ adr (nOf N5) := by
          simp only [nOf, adr, List.map_cons, List.map_append, List.map_nil, List.cons_append, List.nil_append, List.mem_cons, List.mem_append, List.not_mem_nil, or_false] at e ⊢
          grind
        obtain ⟨p, hp, e3⟩ := List.mem_map.mp e2
        exact hI2 p hp e3
      · rw [e1] at e
        exact hD2 e
    have N8 : News g L' _ (S3 w.params x dx d t1 t2 t3 t4 .none v3 v4 ne od2 ++ (objs (A ++ { n with np := n.np + 1, tnp := t' } :: B2) ++ own)) := News.sub ‹News g L' _ _› (by
      rw [objs_mid, objs_append]
      (first | (walk_at "MY sub2") | (intro p hp; (simp only [List.mem_append, List.mem_cons, List.not_mem_nil, or_false, false_or, List.append_assoc, List.cons_append, List.nil_append] at hp ⊢); grind)))
    have hod3 : od2.IsDictOf (intKind PySem.Challenge.rw_oh0060_01.row.prog w) (kvs (A ++ { n with np := n.np + 1, tnp := t' } :: B2)) := by
      rw [kvs_mid A B2 n { n with np := n.np + 1, tnp := t' } rfl rfl]
      exact hod2
    k_dflt (refine gni (mean := mean) ⟨B', ‹Fr g L' _ _›, X', T', rfl, by (first | omega | (dsimp only [ktrTop, Around.deeper, Around.mark] at *; omega) | (simp only [depth_under_make, depth_under_kw, depth_in1, depth_deeper, depth_caller, units_in1, units_deeper, Around.mark_units, units_caller] at *; dsimp only [ktrTop] at *; omega)), by (first | omega | (dsimp only [ktrTop, Around.deeper, Around.mark] at *; omega) | (simp only [depth_under_make, depth_under_kw, depth_in1, depth_deeper, depth_caller, units_in1, units_deeper, Around.mark_units, units_caller] at *; dsimp only [ktrTop] at *; omega))⟩ N8 nd3 har3 hod3 lo ?sz ?_)
    case sz =>
      have e1 : (A ++ n :: B2).length ≤ G.length + 1 := by
        rcases hcase with e | ⟨e, e', _⟩
        · rw [e]; omega
        · rw [e, e']; simp
      have e2 : (A ++ { n with np := n.np + 1, tnp := t' } :: B2).length = (A ++ n :: B2).length := by simp
      omega
    intro h9 tk9 od9 A' n' C' F9 N9 nd9 har9 hod9 hnk9 hcase9
    have N10 : News g L' h9 ((n'.ia, infoObj n'.da n'.key n'.tk n'.np n'.tnp n'.la) :: (n'.da, dictOf [] 0) :: (n'.la, W.listOf (vals n'.succ).toArray n'.ep) :: (x, instObj 158 dx) :: (dx, dictOf (attrs w.params t1 t2 t3 t4 d .none v3 v4) ne) :: (d, od9) :: (objs (A' ++ C') ++ own)) := News.sub N9 (by (first | (walk_at "MY sub2") | (intro p hp; (simp only [List.mem_append, List.mem_cons, List.not_mem_nil, or_false, false_or, List.append_assoc, List.cons_append, List.nil_append] at hp ⊢); grind)))
    have r0 : ∀ q ∈ A ++ { n with np := n.np + 1, tnp := t' } :: B2, q.succ.length ≤ 900 := by
      have hs : n.succ.length ≤ 900 ∧ ∀ q ∈ A ++ B2, q.succ.length ≤ 900 := by
        rcases hcase with e | ⟨e1, e2, _, _, e3⟩
        · exact ⟨hsc n (by rw [← e]; simp), fun q hq => hsc q (by rw [← e]; simp only [List.mem_append, List.mem_cons] at hq ⊢; grind)⟩
        · exact ⟨by rw [e3]; simp, fun q hq => hsc q (by rw [e1, e2, List.append_nil] at hq; exact hq)⟩
      intro q hq
      simp only [List.mem_append, List.mem_cons] at hq
      rcases hq with hq | rfl | hq
      · exact hs.2 q (List.mem_append_left _ hq)
      · exact hs.1
      · exact hs.2 q (List.mem_append_right _ hq)
    have r1 : n'.succ.length ≤ 900 := by
      rcases hcase9 with e | ⟨_, _, _, _, e⟩
      · exact r0 n' (by rw [← e]; simp)
      · rw [e]; simp
    have r2 : ∀ p ∈ objs (A' ++ C') ++ own, p.1 ≠ n'.la := not_adr (by
      have h1 := (List.nodup_append.mp (by rw [adr_append] at nd9; exact nd9)).2.2 n'.la (.tail _ (.tail _ (.head _)))
      intro hm
      rw [adr_append] at hm
      rcases List.mem_append.mp hm with hm | hm
      · exact h1 n'.la (by simp only [adr_append]; exact List.mem_append_right _ hm) rfl
      · obtain ⟨q, hq, e⟩ := List.mem_map.mp hm
        exact har9 q hq (by rw [e]; exact .tail _ (.tail _ (.head _))))
    have r3 : @Ne Nat n'.la n'.ia ∧ @Ne Nat n'.la n'.da ∧ @Ne Nat n'.la x ∧ @Ne Nat n'.la dx ∧ @Ne Nat n'.la d := by
      have hn := nd9
      simp only [adr, List.map_cons, List.map_append, List.map_nil, List.cons_append, List.nil_append, List.nodup_cons, List.mem_cons, List.mem_append, List.not_mem_nil, or_false, not_or] at hn
      grind
    clear N9 N8 N7
    k_steps
    refine ⟨_, _, _, S3 w.params x dx d t1 t2 t3 t4 .none v3 v4 ne od9 ++ objs (A' ++ { n' with succ := n'.succ ++ [(k, t)], ep := n'.ep + 1 } :: C'), rfl, ‹Fr g L' _ _›, News.sub ‹News g L' _ _› ?_, ?_, od9, A' ++ { n' with succ := n'.succ ++ [(k, t)], ep := n'.ep + 1 } :: C', fun p hp => hp, ?_, ?_, ?_⟩
    · rw [objs_mid]
      simp only [Nd.objs, vals_push]
      rw [objs_append]
      (first | (walk_at "MY sub2") | (intro p hp; (simp only [List.mem_append, List.mem_cons, List.not_mem_nil, or_false, false_or, List.append_assoc, List.cons_append, List.nil_append] at hp ⊢); grind))
    · intro p hp e
      refine har9 (I, io) hio ?_
      have e2 : p.1 ∈ adr (n'.objs ++ (S3 w.params x dx d t1 t2 t3 t4 .none v3 v4 ne od9 ++ objs (A' ++ C'))) := by
        have hm := adr_mem hp
        rw [adr_append, adr_mid A' C' n' { n' with succ := n'.succ ++ [(k, t)], ep := n'.ep + 1 } rfl rfl rfl] at hm
        rw [← List.count_pos_iff] at hm ⊢
        simp only [adr_append, List.count_append, adr_objs_mid] at hm ⊢
        omega
      rw [e] at e2
      exact e2
    · refine nodup_perm nd9 fun a => ?_
      rw [adr_append, adr_mid A' C' n' { n' with succ := n'.succ ++ [(k, t)], ep := n'.ep + 1 } rfl rfl rfl]
      simp only [adr_append, List.count_append, adr_objs_mid]
      omega
    · rw [kvs_mid A' C' n' { n' with succ := n'.succ ++ [(k, t)], ep := n'.ep + 1 } rfl rfl]
      exact hod9
    · have k1 := ensure_of hnk hcase
      have k2 := (congrArg (bump (absG (A ++ n :: B2))) hnk.symm).trans (bump_mid (dict_keys hod2) t')
      have k3 := ensure_of hnk9 hcase9
      have k4 := (congrArg (fun z => link (absG (A' ++ n' :: C')) z k) hnk9.symm).trans (link_mid (k := k) (t := t) (e := n'.ep + 1) (dict_keys hod9))
      unfold addG
      rw [← k1, k2, ← k3, k4]
  case done =>
    intro m₁ news₁ h6 tk6 hJ F6 N6
    obtain ⟨od', G', hs1, hs2, hs3, hs4⟩ := hJ
    clear N5 F5
    dsimp only
    k_steps
    refine hret _ _ od' G' (by assumption) (fun p hp => ?_) hs2 (fun q hq hm => ?_) hs3 hs4
    · rw [← List.append_assoc] at hp
      rcases List.mem_append.mp hp with hp | hp
      · exact (by assumption : News h₀ L _ news₁) p (hs1 p hp)
      · exact ⟨(by assumption : ∀ q ∈ rest, Heap.get? _ q.1 = some q.2) p hp, (N p (by rw [← List.append_assoc]; exact List.mem_append_right _ hp)).2⟩
    · obtain ⟨p, hp, e⟩ := List.mem_map.mp hm
      exact apart_of N6 hro q hq (e ▸ adr_mem (hs1 p hp))
end
noncomputable def stepJ (ns : List Int) (k : Nat) (g : Gr) (j : Nat) : Gr :=
  if ns.getD j 0 < ns.getD k 0 then addG g (2 * (k : Int)) (2 * (j : Int) + 1) else if ns.getD k 0 < ns.getD j 0 then addG g (2 * (j : Int) + 1) (2 * (k : Int) + 1) else g
noncomputable def stepK0 (g : Gr) (k : Nat) : Gr :=
  if 0 < k then addG (addG g (2 * (k : Int) + 1) (2 * (k : Int))) (2 * (k : Int)) (2 * (k : Int) - 2) else addG g (2 * (k : Int) + 1) (2 * (k : Int))
noncomputable def stepK (ns : List Int) (g : Gr) (k : Nat) : Gr := (List.range k).foldl (stepJ ns k) (stepK0 g k)
noncomputable def buildTo (ns : List Int) (i : Nat) : Gr := (List.range i).foldl (stepK ns) []
noncomputable def buildG (ns : List Int) : Gr := buildTo ns ns.length

noncomputable def Bd (c : Nat) (g : Gr) : Prop := g.length ≤ 2 * c ∧ ∀ e ∈ g, e.2.2.length ≤ c
theorem Bd.mono {c c' : Nat} {g : Gr} (h : Bd c g) (hc : c ≤ c') : Bd c' g := ⟨by have := h.1; omega, fun e he => Nat.le_trans (h.2 e he) hc⟩
theorem ensure_len (g : Gr) (k : Int) : (ensure g k).length ≤ g.length + 1 := by unfold ensure; split <;> simp
theorem ensure_succ {c : Nat} {g : Gr} (k : Int) (h : ∀ e ∈ g, e.2.2.length ≤ c) : ∀ e ∈ ensure g k, e.2.2.length ≤ c := by
  unfold ensure
  split
  · exact h
  · intro e he
    rcases List.mem_append.mp he with he | he
    · exact h e he
    · rw [List.mem_singleton.mp he]; simp
theorem Bd.add {c : Nat} {g : Gr} (h : Bd c g) (k j : Int) : Bd (c + 1) (addG g k j) := by
  refine ⟨?_, ?_⟩
  · have h1 := ensure_len (bump (ensure g k) k) j
    have h2 := ensure_len g k
    have h3 := h.1
    have h4 : (bump (ensure g k) k).length = (ensure g k).length := by simp [bump]
    have h5 : (addG g k j).length = (ensure (bump (ensure g k) k) j).length := by simp [addG, link]
    omega
  · have h1 : ∀ e ∈ ensure (bump (ensure g k) k) j, e.2.2.length ≤ c := ensure_succ j fun e he => by
      obtain ⟨e', he', rfl⟩ := List.mem_map.mp he
      have := ensure_succ k h.2 e' he'
      split <;> exact this
    intro e he
    obtain ⟨e', he', rfl⟩ := List.mem_map.mp he
    have := h1 e' he'
    split
    · simp; omega
    · omega
theorem Bd.stepK0 {c : Nat} {g : Gr} (h : Bd c g) (k : Nat) : Bd (c + 2) (stepK0 g k) := by
  unfold Mine.stepK0
  split
  · exact (h.add _ _).add _ _
  · exact (h.add _ _).mono (by omega)
theorem Bd.stepJ {c : Nat} {g : Gr} (h : Bd c g) (ns : List Int) (k j : Nat) : Bd (c + 1) (stepJ ns k g j) := by
  unfold Mine.stepJ
  split
  · exact h.add _ _
  · split
    · exact h.add _ _
    · exact h.mono (by omega)
theorem foldl_range_succ {α : Type} (f : α → Nat → α) (z : α) (i : Nat) : (List.range (i + 1)).foldl f z = f ((List.range i).foldl f z) i := by
  rw [List.range_succ, List.foldl_append]; rfl
theorem Bd.row {c : Nat} {g : Gr} (h : Bd c g) (ns : List Int) (k j : Nat) : Bd (c + j) ((List.range j).foldl (Mine.stepJ ns k) g) := by
  induction j with
  | zero => exact h
  | succ j ih => rw [foldl_range_succ]; exact ih.stepJ ns k j
theorem Bd.to (ns : List Int) (i : Nat) (hi : i ≤ 7) : Bd (9 * i) (buildTo ns i) := by
  induction i with
  | zero => exact ⟨by simp [buildTo], by simp [buildTo]⟩
  | succ i ih =>
    have h1 := ((ih (by omega)).stepK0 i).row ns i i
    unfold buildTo
    rw [foldl_range_succ]
    exact h1.mono (by omega)
theorem bd_len {c : Nat} {G : List Nd} (h : Bd c (absG G)) : G.length ≤ 2 * c := by have := h.1; simpa [absG] using this
theorem bd_succ {c : Nat} {G : List Nd} (h : Bd c (absG G)) : ∀ n ∈ G, n.succ.length ≤ c := fun n hn => by
  have := h.2 (absN n) (List.mem_map_of_mem hn)
  simpa [absN] using this
section
variable {w : World} {mean : ExcName → Option Value} {mg mb : Str → Option Value} {dp un : Nat} {gd : Option (List Code)} {cn : Str} {cs : Scope} {a : Addr} {ccd : Value} {cl : List (Str × Addr)} {outer : List Env} {A₀ : Around} {base h₀ : Heap} {L : Addr} {m : Str → Option Value} {rest : List (Addr × Obj)} {s : Shared}
  {D : Addr} {vs : List Value} {e : Nat} {ns : List Int} {Q E : Value → Shared → Prop}

theorem news4 {h₀ h : Heap} {L : Addr} {p1 p2 p3 p4 : Addr × Obj} (N : News h₀ L h [p1, p2, p3, p4]) : News h₀ L h (p4 :: p2 :: p3 :: p1 :: objs []) := News.sub N (by
  intro p hp
  simp only [objs_nil, List.mem_cons, List.not_mem_nil, or_false] at hp ⊢
  grind)

theorem sgn_neg {a b : Int} (h : b2i (decide (b < a)) - b2i (decide (a < b)) < 0) : a < b := by
  by_cases h1 : a < b
  · exact h1
  · by_cases h2 : b < a <;> simp [h1, h2, b2i] at h
theorem sgn_pos {a b : Int} (h : 0 < b2i (decide (b < a)) - b2i (decide (a < b))) : b < a := by
  by_cases h1 : b < a
  · exact h1
  · by_cases h2 : a < b <;> simp [h1, h2, b2i] at h
theorem sgn_zero {a b : Int} (h : ¬ b2i (decide (b < a)) - b2i (decide (a < b)) < 0) (h' : ¬ 0 < b2i (decide (b < a)) - b2i (decide (a < b))) : ¬ a < b ∧ ¬ b < a := by
  by_cases h1 : b < a <;> by_cases h2 : a < b <;> simp [h1, h2, b2i] at h h' <;> omega
theorem apart_turn {I : Addr} {io : Obj} {l rest : List (Addr × Obj)} (hI : (I, io) ∈ rest) (har : ∀ q ∈ rest, q.1 ∉ adr l) : ∀ p ∈ l, p.1 ≠ I := fun p hp e => har _ hI (show I ∈ adr l from e ▸ adr_mem hp)

noncomputable abbrev sStored : List Str := [Str.ofString "k", Str.ofString "j", Str.ofString "sign"]

theorem sorter_K (H : At w mean mg mb 20 dp un cs A₀ base h₀ outer L m s.heap)
    (N : News h₀ L s.heap ((D, W.listOf vs.toArray e) :: rest)) (har : ∀ q ∈ rest, q.1 ≠ D) (hI : IntsAre vs ns) (hn : ns.length ≤ 7)
    (hret : ∀ h' tk' x dx d t1 t2 t3 t4 u3 u4 od G, Fr h₀ L h' m → News h₀ L h' (S3 w.params x dx d t1 t2 t3 t4 .none (.int 0 u3) (.int 0 u4) 4 od ++ (objs G ++ ((D, W.listOf vs.toArray e) :: rest))) →
      (adr (S3 w.params x dx d t1 t2 t3 t4 .none (.int 0 u3) (.int 0 u4) 4 od ++ objs G)).Nodup → (∀ q ∈ (D, W.listOf vs.toArray e) :: rest, q.1 ∉ adr (S3 w.params x dx d t1 t2 t3 t4 .none (.int 0 u3) (.int 0 u4) 4 od ++ objs G)) →
      (d == sysModules) = false → od.IsDictOf (intKind PySem.Challenge.rw_oh0060_01.row.prog w) (kvs G) → absG G = buildG ns → Q (.ref x) { s with heap := h', toks := tk' }) :
    wpAny (model PySem.Challenge.rw_oh0060_01.row.prog w) (ktrTop dp un gd cn cs L a ccd cl outer) (call (.ref 183) [.ref D]) Q E s := by
  obtain ⟨B, F, X, T, hk, hdp, hu⟩ := H
  have hQM : QMark := trivial
  have Nf : News h₀ L s.heap [(D, W.listOf vs.toArray e)] := fun p hp => N p (by rw [List.mem_singleton.mp hp]; exact .head _)
  have hr : ∀ q ∈ rest, s.heap.get? q.1 = some q.2 ∧ q.1 ∉ [(D, W.listOf vs.toArray e)].map (·.1) := fun q hq => ⟨(N q (.tail _ hq)).1, fun hm => har q hq (List.mem_singleton.mp hm)⟩
  refine wpAny_call ?_
  ((k_dflt (refine' code_defR ?k1x1 ?k2x1 ?k3x1 ?k4x1 ?k5x1 ?kAx1 ?kFx1 ?kKx1 ?hrx1 ?k6x1 ?k7x1 ?k8x1 ?k9x1 ?kBx1 ?_ ?c2x1 ?c3x1 ?c4x1 ?c5x1; (case kAx1 => exact rfl); (case kFx1 => exact rfl); (case kKx1 => first | exact rfl | assumption); (case k1x1 => k_asm); (case k2x1 => k_asm); (case k3x1 => k_asm); (case k4x1 => k_asm); (case k5x1 => k_asm); (case hrx1 => assumption); (case k6x1 => k_is); (case k7x1 => k_is); (case k8x1 => ktr_room); (case k9x1 => first | exact BindsTo.of_eq rfl | exact binds_K (by k_in) rfl (by k_is) rfl rfl rfl); (case c5x1 => decide); (case kBx1 => exact locs rfl); (case c2x1 => exact rfl); (case c3x1 => exact rfl); (case c4x1 => exact rfl); k_whole)))
  intro g L' h₁ FG F' N' hro l1 B' X' T'
  k_lt l1
  dsimp only
  try k_fold
  refine wpAny_noRaise ?_
  k_steps
  show wpAny _ _ _ _ _ _
  obtain ⟨x, dx, d, t1, t2, t3, t4, u3, u4, od, F5, N5, hod, lo, hord⟩ : ∃ x dx d t1 t2 t3 t4 u3 u4 od, Fr g L' _ (fun y => if y = Str.ofString "sorter" then some (.ref x) else List.lookup y [(Str.ofString "row", Value.ref D)]) ∧ News g L' _ ((D, W.listOf vs.toArray e) :: (x, instObj 158 dx) :: (dx, dictOf (attrs w.params t1 t2 t3 t4 d .none (.int 0 u3) (.int 0 u4)) 4) :: (d, od) :: objs []) ∧
      od.IsDictOf (intKind PySem.Challenge.rw_oh0060_01.row.prog w) [] ∧ (d == sysModules) = false ∧ (@Ne Nat x dx ∧ @Ne Nat x d ∧ @Ne Nat dx d ∧ @Ne Nat D x ∧ @Ne Nat D dx ∧ @Ne Nat D d) :=
    ⟨_, _, _, _, _, _, _, _, _, _, ‹Fr g L' _ _›, news4 ‹News g L' _ _›, by assumption, by assumption, by refine ⟨?_, ?_, ?_, ?_, ?_, ?_⟩ <;> omega⟩
  have hrg := ‹IsRange _ _ _ _ _ _ _ _›
  k_dflt (refine iter_rng (fun i m₁ news₁ => (∃ u : Str → Option Value, m₁ = fun y => if sStored.contains y then u y else (if y = Str.ofString "sorter" then some (.ref x) else List.lookup y [(Str.ofString "row", Value.ref D)])) ∧
      ∃ od G, news₁ = (D, W.listOf vs.toArray e) :: (x, instObj 158 dx) :: (dx, dictOf (attrs w.params t1 t2 t3 t4 d .none (.int 0 u3) (.int 0 u4)) 4) :: (d, od) :: objs G ∧
        (adr (S3 w.params x dx d t1 t2 t3 t4 .none (.int 0 u3) (.int 0 u4) 4 od ++ objs G)).Nodup ∧ D ∉ adr (S3 w.params x dx d t1 t2 t3 t4 .none (.int 0 u3) (.int 0 u4) 4 od ++ objs G) ∧
        od.IsDictOf (intKind PySem.Challenge.rw_oh0060_01.row.prog w) (kvs G) ∧ absG G = buildTo ns i) rfl hrg rfl (by omega) F5 N5 ⟨m_form fun _ _ => rfl, od, [], rfl, ?nd0, ?hD0, hod, rfl⟩ ?turn ?done)
  case nd0 =>
    have : (adr ([(x, instObj 158 dx), (dx, dictOf (attrs w.params t1 t2 t3 t4 d .none (.int 0 u3) (.int 0 u4)) 4), (d, od)] ++ objs [])) = [x, dx, d] := rfl
    rw [this]
    simp only [List.nodup_cons, List.mem_cons, List.not_mem_nil, or_false, not_or, not_false_eq_true, and_true, List.nodup_nil]
    exact ⟨⟨hord.1, hord.2.1⟩, hord.2.2.1⟩
  case hD0 =>
    show D ∉ [x, dx, d]
    simp only [List.mem_cons, List.not_mem_nil, or_false, not_or]
    exact ⟨hord.2.2.2.1, hord.2.2.2.2.1, hord.2.2.2.2.2⟩
  case turn =>
    clear F5 N5 hod hrg
    rintro I i t m₁ news₁ h6 tk6 own hi hJJ
    refine exu2a5 hJJ fun u hmE od G hqE1 nd hD hod hab => ?_
    clear hJJ
    subst hmE
    subst hqE1
    rintro hnI hown ⟨io, hio⟩ F6 N6
    have hIo : ∀ q ∈ (D, W.listOf vs.toArray e) :: own, q.1 ∉ adr (S3 w.params x dx d t1 t2 t3 t4 .none (.int 0 u3) (.int 0 u4) 4 od ++ objs G) := by
      intro q hq hm
      rcases List.mem_cons.mp hq with rfl | hq
      · exact hD hm
      · obtain ⟨p, hp, e⟩ := List.mem_map.mp hm
        exact hnI p (.tail _ hp) (e.trans (hown q hq))
    have hID : @Ne Nat D I := hnI _ (.head _)
    have N7 : News g L' h6 ((D, W.listOf vs.toArray e) :: (x, instObj 158 dx) :: (dx, dictOf (attrs w.params t1 t2 t3 t4 d .none (.int 0 u3) (.int 0 u4)) 4) :: (d, od) :: (objs G ++ own)) := news_rot N6
    have hbd := Bd.to ns i (by omega)
    rw [← hab] at hbd
    clear N6
    k_steps
    show wpAny _ _ _ _ _ _
    k_dflt (refine add_K (mean := mean) (rest := (D, W.listOf vs.toArray e) :: own) ⟨B', ‹Fr g L' _ _›, X', T', rfl, by (first | omega | (dsimp only [ktrTop, Around.deeper, Around.mark] at *; omega) | (simp only [depth_under_make, depth_under_kw, depth_in1, depth_deeper, depth_caller, units_in1, units_deeper, Around.mark_units, units_caller] at *; dsimp only [ktrTop] at *; omega)), by (first | omega | (dsimp only [ktrTop, Around.deeper, Around.mark] at *; omega) | (simp only [depth_under_make, depth_under_kw, depth_in1, depth_deeper, depth_caller, units_in1, units_deeper, Around.mark_units, units_caller] at *; dsimp only [ktrTop] at *; omega))⟩ (News.sub ‹News g L' _ _› (by (first | (walk_at "MY sub2") | (intro p hp; (simp only [List.mem_append, List.mem_cons, List.not_mem_nil, or_false, false_or, List.append_assoc, List.cons_append, List.nil_append] at hp ⊢); grind)))) nd hIo hod lo (by have := bd_len hbd; omega) (fun n hn => by have := bd_succ hbd n hn; omega) (by omega) ?_)
    intro h8 tk8 od8 G8 F8 N8 nd8 har8 hod8 hab8
    have hbd8 := hbd.add (2 * (i : Int) + 1) (2 * (i : Int))
    rw [← hab8] at hbd8
    have N9 : News g L' h8 ((D, W.listOf vs.toArray e) :: (x, instObj 158 dx) :: (dx, dictOf (attrs w.params t1 t2 t3 t4 d .none (.int 0 u3) (.int 0 u4)) 4) :: (d, od8) :: (objs G8 ++ own)) := News.sub N8 (by (first | (walk_at "MY sub2") | (intro p hp; (simp only [List.mem_append, List.mem_cons, List.not_mem_nil, or_false, false_or, List.append_assoc, List.cons_append, List.nil_append] at hp ⊢); grind)))
    clear N8 N7
    have fin0 : ∀ (OD : Obj) (GG : List Nd) (hh : Heap) (tt : Nat) (mm : Str → Option Value), Fr g L' hh mm → News g L' hh ((D, W.listOf vs.toArray e) :: (x, instObj 158 dx) :: (dx, dictOf (attrs w.params t1 t2 t3 t4 d .none (.int 0 u3) (.int 0 u4)) 4) :: (d, OD) :: (objs GG ++ own)) →
        (adr (S3 w.params x dx d t1 t2 t3 t4 .none (.int 0 u3) (.int 0 u4) 4 OD ++ objs GG)).Nodup → (∀ q ∈ (D, W.listOf vs.toArray e) :: own, q.1 ∉ adr (S3 w.params x dx d t1 t2 t3 t4 .none (.int 0 u3) (.int 0 u4) 4 OD ++ objs GG)) →
        OD.IsDictOf (intKind PySem.Challenge.rw_oh0060_01.row.prog w) (kvs GG) → absG GG = stepK ns (absG G) i →
        (∀ y, sStored.contains y = false → mm y = (if y = Str.ofString "sorter" then some (.ref x) else List.lookup y [(Str.ofString "row", Value.ref D)])) → 
        ∃ h' tk m' news', ({ s with heap := hh, toks := tt } : Shared) = { s with heap := h', toks := tk } ∧ Fr g L' h' m' ∧ News g L' h' (own ++ news') ∧ (∀ p ∈ news', p.1 ≠ I) ∧ ((∃ u : Str → Option Value, m' = fun y => if sStored.contains y then u y else (if y = Str.ofString "sorter" then some (.ref x) else List.lookup y [(Str.ofString "row", Value.ref D)])) ∧
        ∃ od G, news' = (D, W.listOf vs.toArray e) :: (x, instObj 158 dx) :: (dx, dictOf (attrs w.params t1 t2 t3 t4 d .none (.int 0 u3) (.int 0 u4)) 4) :: (d, od) :: objs G ∧
        (adr (S3 w.params x dx d t1 t2 t3 t4 .none (.int 0 u3) (.int 0 u4) 4 od ++ objs G)).Nodup ∧ D ∉ adr (S3 w.params x dx d t1 t2 t3 t4 .none (.int 0 u3) (.int 0 u4) 4 od ++ objs G) ∧
        od.IsDictOf (intKind PySem.Challenge.rw_oh0060_01.row.prog w) (kvs G) ∧ absG G = buildTo ns (i + 1)) := by
      intro OD GG hh tt mm F₁ N₁ nd₁ har₁ hod₁ hab₁ hm₁
      refine ⟨_, _, _, (D, W.listOf vs.toArray e) :: (x, instObj 158 dx) :: (dx, dictOf (attrs w.params t1 t2 t3 t4 d .none (.int 0 u3) (.int 0 u4)) 4) :: (d, OD) :: objs GG, rfl, F₁, News.sub N₁ (by (first | (walk_at "MY sub2") | (intro p hp; (simp only [List.mem_append, List.mem_cons, List.not_mem_nil, or_false, false_or, List.append_assoc, List.cons_append, List.nil_append] at hp ⊢); grind))), ?_, m_form hm₁, OD, GG, rfl, nd₁, har₁ _ (.head _), hod₁, by rw [buildTo, foldl_range_succ]; rw [hab] at hab₁; exact hab₁⟩
      intro p hp
      rcases List.mem_cons.mp hp with rfl | hp
      · exact hID
      · exact apart_turn (.tail _ hio) har₁ p hp
    k_steps
    · show wpAny _ _ _ _ _ _
      have hip : 0 < i := by omega
      k_dflt (refine add_K (mean := mean) (rest := (D, W.listOf vs.toArray e) :: own) ⟨B', ‹Fr g L' _ _›, X', T', rfl, by (first | omega | (dsimp only [ktrTop, Around.deeper, Around.mark] at *; omega) | (simp only [depth_under_make, depth_under_kw, depth_in1, depth_deeper, depth_caller, units_in1, units_deeper, Around.mark_units, units_caller] at *; dsimp only [ktrTop] at *; omega)), by (first | omega | (dsimp only [ktrTop, Around.deeper, Around.mark] at *; omega) | (simp only [depth_under_make, depth_under_kw, depth_in1, depth_deeper, depth_caller, units_in1, units_deeper, Around.mark_units, units_caller] at *; dsimp only [ktrTop] at *; omega))⟩ (News.sub ‹News g L' _ _› (by (first | (walk_at "MY sub2") | (intro p hp; (simp only [List.mem_append, List.mem_cons, List.not_mem_nil, or_false, false_or, List.append_assoc, List.cons_append, List.nil_append] at hp ⊢); grind)))) nd8 har8 hod8 lo (by have := bd_len hbd8; omega) (fun n hn => by have := bd_succ hbd8 n hn; omega) (by omega) ?_)
      intro h11 tk11 od11 G11 F11 N11 nd11 har11 hod11 hab11
      have hbd11 := hbd8.add (2 * (i : Int)) (2 * (i : Int) - 2)
      rw [← hab11] at hbd11
      have habs : absG G11 = stepK0 (absG G) i := by rw [hab11, hab8, stepK0, if_pos hip]
      have N12 : News g L' h11 ((D, W.listOf vs.toArray e) :: (x, instObj 158 dx) :: (dx, dictOf (attrs w.params t1 t2 t3 t4 d .none (.int 0 u3) (.int 0 u4)) 4) :: (d, od11) :: (objs G11 ++ own)) := News.sub N11 (by (first | (walk_at "MY sub2") | (intro p hp; (simp only [List.mem_append, List.mem_cons, List.not_mem_nil, or_false, false_or, List.append_assoc, List.cons_append, List.nil_append] at hp ⊢); grind)))
      clear N11 hbd8 hod8 nd8 har8 hab8
      k_steps
      show wpAny _ _ _ _ _ _
      have hrg := ‹IsRange _ _ 0 (i : Int) _ _ _ _›
      k_dflt (refine iter_rng (fun j m₂ news₂ => (∃ u₂ : Str → Option Value, m₂ = fun y => if [Str.ofString "j", Str.ofString "sign"].contains y then u₂ y else (if y = Str.ofString "k" then some (.int (i : Int) t) else (if sStored.contains y then u y else (if y = Str.ofString "sorter" then some (.ref x) else List.lookup y [(Str.ofString "row", Value.ref D)])))) ∧
        ∃ od G₂, news₂ = (D, W.listOf vs.toArray e) :: (x, instObj 158 dx) :: (dx, dictOf (attrs w.params t1 t2 t3 t4 d .none (.int 0 u3) (.int 0 u4)) 4) :: (d, od) :: (objs G₂ ++ own) ∧
        (adr (S3 w.params x dx d t1 t2 t3 t4 .none (.int 0 u3) (.int 0 u4) 4 od ++ objs G₂)).Nodup ∧ (∀ q ∈ (D, W.listOf vs.toArray e) :: own, q.1 ∉ adr (S3 w.params x dx d t1 t2 t3 t4 .none (.int 0 u3) (.int 0 u4) 4 od ++ objs G₂)) ∧
        od.IsDictOf (intKind PySem.Challenge.rw_oh0060_01.row.prog w) (kvs G₂) ∧ absG G₂ = (List.range j).foldl (stepJ ns i) (stepK0 (absG G) i)) rfl hrg rfl (by omega) ‹Fr g L' _ _› ‹News g L' _ _› ⟨m_form fun _ _ => rfl, od11, G11, rfl, nd11, har11, hod11, habs⟩ ?turn2 ?done2)
      case turn2 =>
        clear hrg
        rintro I2 j t₂ m₂ news₂ h14 tk14 own2 hj hJJ
        refine exu2a5 hJJ fun u₂ hmE od14 G14 hqE1 nd14 har14 hod14 hab14 => ?_
        clear hJJ
        subst hmE
        subst hqE1
        rintro hnI2 hown2 ⟨io2, hio2⟩ F14 N14
        have hj' : j < ns.length := by omega
        have N15 : News g L' h14 ((D, W.listOf vs.toArray e) :: (x, instObj 158 dx) :: (dx, dictOf (attrs w.params t1 t2 t3 t4 d .none (.int 0 u3) (.int 0 u4)) 4) :: (d, od14) :: (objs G14 ++ (own ++ own2))) := News.sub N14 (by (first | (walk_at "MY sub2") | (intro p hp; (simp only [List.mem_append, List.mem_cons, List.not_mem_nil, or_false, false_or, List.append_assoc, List.cons_append, List.nil_append] at hp ⊢); grind)))
        clear N14
        have hbd14 := (hbd.stepK0 i).row ns i j
        rw [← hab14] at hbd14
        have har15 : ∀ q ∈ (D, W.listOf vs.toArray e) :: (own ++ own2), q.1 ∉ adr (S3 w.params x dx d t1 t2 t3 t4 .none (.int 0 u3) (.int 0 u4) 4 od14 ++ objs G14) := by
          intro q hq hm
          rcases List.mem_cons.mp hq with rfl | hq
          · exact har14 _ (.head _) hm
          · rcases List.mem_append.mp hq with hq | hq
            · exact har14 _ (.tail _ hq) hm
            · obtain ⟨p, hp, e⟩ := List.mem_map.mp hm
              exact hnI2 p (.tail _ (List.mem_append_left own hp)) (e.trans (hown2 q hq))
        have hmem2 : (I2, io2) ∈ (D, W.listOf vs.toArray e) :: (own ++ own2) := .tail _ (List.mem_append_right _ hio2)
        have hD2 : @Ne Nat D I2 := hnI2 _ (.head _)
        have hown3 : ∀ p ∈ own, p.1 ≠ I2 := fun p hp => hnI2 p (.tail _ (.tail _ (.tail _ (.tail _ (List.mem_append_right _ hp)))))
        have fin : ∀ (OD : Obj) (GG : List Nd) (hh : Heap) (tt : Nat) (mm : Str → Option Value), Fr g L' hh mm → News g L' hh ((D, W.listOf vs.toArray e) :: (x, instObj 158 dx) :: (dx, dictOf (attrs w.params t1 t2 t3 t4 d .none (.int 0 u3) (.int 0 u4)) 4) :: (d, OD) :: (objs GG ++ (own ++ own2))) →
            (adr (S3 w.params x dx d t1 t2 t3 t4 .none (.int 0 u3) (.int 0 u4) 4 OD ++ objs GG)).Nodup → (∀ q ∈ (D, W.listOf vs.toArray e) :: (own ++ own2), q.1 ∉ adr (S3 w.params x dx d t1 t2 t3 t4 .none (.int 0 u3) (.int 0 u4) 4 OD ++ objs GG)) →
            OD.IsDictOf (intKind PySem.Challenge.rw_oh0060_01.row.prog w) (kvs GG) → absG GG = stepJ ns i (absG G14) j →
            (∀ y, [Str.ofString "j", Str.ofString "sign"].contains y = false → mm y = (if y = Str.ofString "k" then some (.int (i : Int) t) else (if sStored.contains y then u y else (if y = Str.ofString "sorter" then some (.ref x) else List.lookup y [(Str.ofString "row", Value.ref D)])))) → 
            ∃ h' tk m' news', ({ s with heap := hh, toks := tt } : Shared) = { s with heap := h', toks := tk } ∧ Fr g L' h' m' ∧ News g L' h' (own2 ++ news') ∧ (∀ p ∈ news', p.1 ≠ I2) ∧ ((∃ u₂ : Str → Option Value, m' = fun y => if [Str.ofString "j", Str.ofString "sign"].contains y then u₂ y else (if y = Str.ofString "k" then some (.int (i : Int) t) else (if sStored.contains y then u y else (if y = Str.ofString "sorter" then some (.ref x) else List.lookup y [(Str.ofString "row", Value.ref D)])))) ∧
        ∃ od G₂, news' = (D, W.listOf vs.toArray e) :: (x, instObj 158 dx) :: (dx, dictOf (attrs w.params t1 t2 t3 t4 d .none (.int 0 u3) (.int 0 u4)) 4) :: (d, od) :: (objs G₂ ++ own) ∧
        (adr (S3 w.params x dx d t1 t2 t3 t4 .none (.int 0 u3) (.int 0 u4) 4 od ++ objs G₂)).Nodup ∧ (∀ q ∈ (D, W.listOf vs.toArray e) :: own, q.1 ∉ adr (S3 w.params x dx d t1 t2 t3 t4 .none (.int 0 u3) (.int 0 u4) 4 od ++ objs G₂)) ∧
        od.IsDictOf (intKind PySem.Challenge.rw_oh0060_01.row.prog w) (kvs G₂) ∧ absG G₂ = (List.range (j + 1)).foldl (stepJ ns i) (stepK0 (absG G) i)) := by
          intro OD GG hh tt mm F₁ N₁ nd₁ har₁ hod₁ hab₁ hm₁
          refine ⟨_, _, _, (D, W.listOf vs.toArray e) :: (x, instObj 158 dx) :: (dx, dictOf (attrs w.params t1 t2 t3 t4 d .none (.int 0 u3) (.int 0 u4)) 4) :: (d, OD) :: (objs GG ++ own), rfl, F₁, News.sub N₁ (by (first | (walk_at "MY sub2") | (intro p hp; (simp only [List.mem_append, List.mem_cons, List.not_mem_nil, or_false, false_or, List.append_assoc, List.cons_append, List.nil_append] at hp ⊢); grind))), ?_, m_form hm₁, OD, GG, rfl, nd₁, fun q hq => har₁ q (by
            rcases List.mem_cons.mp hq with rfl | hq
            · exact .head _
            · exact .tail _ (List.mem_append_left _ hq)), hod₁, by rw [foldl_range_succ, ← hab14]; exact hab₁⟩
          intro p hp
          have h2 := apart_turn hmem2 har₁
          rcases List.mem_cons.mp hp with rfl | hp
          · exact hD2
          · have hp' : p ∈ (S3 w.params x dx d t1 t2 t3 t4 .none (.int 0 u3) (.int 0 u4) 4 OD ++ objs GG) ++ own := by rw [List.append_assoc]; exact hp
            rcases List.mem_append.mp hp' with hp | hp
            · exact h2 p hp
            · exact hown3 p hp
        k_steps
        · show wpAny _ _ _ _ _ _
          have hlt : ns.getD j 0 < ns.getD i 0 := sgn_neg (by assumption)
          k_dflt (refine add_K (mean := mean) (rest := (D, W.listOf vs.toArray e) :: (own ++ own2)) ⟨B', ‹Fr g L' _ _›, X', T', rfl, by (first | omega | (dsimp only [ktrTop, Around.deeper, Around.mark] at *; omega) | (simp only [depth_under_make, depth_under_kw, depth_in1, depth_deeper, depth_caller, units_in1, units_deeper, Around.mark_units, units_caller] at *; dsimp only [ktrTop] at *; omega)), by (first | omega | (dsimp only [ktrTop, Around.deeper, Around.mark] at *; omega) | (simp only [depth_under_make, depth_under_kw, depth_in1, depth_deeper, depth_caller, units_in1, units_deeper, Around.mark_units, units_caller] at *; dsimp only [ktrTop] at *; omega))⟩ (News.sub ‹News g L' _ _› (by (first | (walk_at "MY sub2") | (intro p hp; (simp only [List.mem_append, List.mem_cons, List.not_mem_nil, or_false, false_or, List.append_assoc, List.cons_append, List.nil_append] at hp ⊢); grind)))) nd14 har15 hod14 lo (by have := bd_len hbd14; omega) (fun n hn => by have := bd_succ hbd14 n hn; omega) (by omega) ?_)
          intro h16 tk16 od16 G16 F16 N16 nd16 har16 hod16 hab16
          have N17 : News g L' h16 ((D, W.listOf vs.toArray e) :: (x, instObj 158 dx) :: (dx, dictOf (attrs w.params t1 t2 t3 t4 d .none (.int 0 u3) (.int 0 u4)) 4) :: (d, od16) :: (objs G16 ++ (own ++ own2))) := News.sub N16 (by (first | (walk_at "MY sub2") | (intro p hp; (simp only [List.mem_append, List.mem_cons, List.not_mem_nil, or_false, false_or, List.append_assoc, List.cons_append, List.nil_append] at hp ⊢); grind)))
          clear N16
          have hst : stepJ ns i (absG G14) j = absG G16 := by rw [stepJ, if_pos hlt, hab16]
          k_steps
          exact fin od16 G16 _ _ _ ‹Fr g L' _ _› ‹News g L' _ _› nd16 har16 hod16 hst.symm (by ((intro y hy; (have hy' := hy); (simp only [List.contains_cons, List.contains_nil, Bool.or_false, Bool.or_eq_false_iff, beq_eq_false_iff_ne, ne_eq] at hy'); first | (simp only [hy, hy', if_false, Bool.false_eq_true, reduceIte]; done) | simp [hy'])))
        · show wpAny _ _ _ _ _ _
          have hlt : ns.getD i 0 < ns.getD j 0 := sgn_pos (by assumption)
          k_dflt (refine add_K (mean := mean) (rest := (D, W.listOf vs.toArray e) :: (own ++ own2)) ⟨B', ‹Fr g L' _ _›, X', T', rfl, by (first | omega | (dsimp only [ktrTop, Around.deeper, Around.mark] at *; omega) | (simp only [depth_under_make, depth_under_kw, depth_in1, depth_deeper, depth_caller, units_in1, units_deeper, Around.mark_units, units_caller] at *; dsimp only [ktrTop] at *; omega)), by (first | omega | (dsimp only [ktrTop, Around.deeper, Around.mark] at *; omega) | (simp only [depth_under_make, depth_under_kw, depth_in1, depth_deeper, depth_caller, units_in1, units_deeper, Around.mark_units, units_caller] at *; dsimp only [ktrTop] at *; omega))⟩ (News.sub ‹News g L' _ _› (by (first | (walk_at "MY sub2") | (intro p hp; (simp only [List.mem_append, List.mem_cons, List.not_mem_nil, or_false, false_or, List.append_assoc, List.cons_append, List.nil_append] at hp ⊢); grind)))) nd14 har15 hod14 lo (by have := bd_len hbd14; omega) (fun n hn => by have := bd_succ hbd14 n hn; omega) (by omega) ?_)
          intro h16 tk16 od16 G16 F16 N16 nd16 har16 hod16 hab16
          have N17 : News g L' h16 ((D, W.listOf vs.toArray e) :: (x, instObj 158 dx) :: (dx, dictOf (attrs w.params t1 t2 t3 t4 d .none (.int 0 u3) (.int 0 u4)) 4) :: (d, od16) :: (objs G16 ++ (own ++ own2))) := News.sub N16 (by (first | (walk_at "MY sub2") | (intro p hp; (simp only [List.mem_append, List.mem_cons, List.not_mem_nil, or_false, false_or, List.append_assoc, List.cons_append, List.nil_append] at hp ⊢); grind)))
          clear N16
          have hst : stepJ ns i (absG G14) j = absG G16 := by rw [stepJ, if_neg (by omega), if_pos hlt, hab16]
          k_steps
          exact fin od16 G16 _ _ _ ‹Fr g L' _ _› ‹News g L' _ _› nd16 har16 hod16 hst.symm (by ((intro y hy; (have hy' := hy); (simp only [List.contains_cons, List.contains_nil, Bool.or_false, Bool.or_eq_false_iff, beq_eq_false_iff_ne, ne_eq] at hy'); first | (simp only [hy, hy', if_false, Bool.false_eq_true, reduceIte]; done) | simp [hy'])))
        · have hz : ¬ ns.getD j 0 < ns.getD i 0 ∧ ¬ ns.getD i 0 < ns.getD j 0 := sgn_zero (by assumption) (by assumption)
          have hst : stepJ ns i (absG G14) j = absG G14 := by rw [stepJ, if_neg hz.1, if_neg hz.2]
          exact fin od14 G14 _ _ _ ‹Fr g L' _ _› ‹News g L' _ _› nd14 har15 hod14 hst.symm (by ((intro y hy; (have hy' := hy); (simp only [List.contains_cons, List.contains_nil, Bool.or_false, Bool.or_eq_false_iff, beq_eq_false_iff_ne, ne_eq] at hy'); first | (simp only [hy, hy', if_false, Bool.false_eq_true, reduceIte]; done) | simp [hy'])))
      case done2 => 
        rintro m₂ news₂ h14 tk14 hJJ
        refine exu2a5 hJJ fun u₂ hmE od14 G14 hqE1 nd14 har14 hod14 hab14 => ?_
        clear hJJ
        subst hmE
        subst hqE1
        rintro F14 N14
        dsimp only
        k_steps
        exact fin0 od14 G14 _ _ _ ‹Fr g L' _ _› ‹News g L' _ _› nd14 har14 hod14 (by rw [hab14]; rfl) (by ((intro y hy; (have hy' := hy); (simp only [List.contains_cons, List.contains_nil, Bool.or_false, Bool.or_eq_false_iff, beq_eq_false_iff_ne, ne_eq] at hy'); first | (simp only [hy, hy', if_false, Bool.false_eq_true, reduceIte]; done) | simp [hy'])))
    · show wpAny _ _ _ _ _ _
      have hi0 : i = 0 := by omega
      subst hi0
      have hrg := ‹IsRange _ _ 0 _ _ _ _ _›
      have habs : absG G8 = stepK0 (absG G) 0 := by rw [hab8, stepK0, if_neg (by omega)]
      k_dflt (refine iter_rng (n := 0) (fun j m₂ news₂ => (∃ u₂ : Str → Option Value, m₂ = fun y => if [Str.ofString "j", Str.ofString "sign"].contains y then u₂ y else (if y = Str.ofString "k" then some (.int ((0 : Nat) : Int) t) else (if sStored.contains y then u y else (if y = Str.ofString "sorter" then some (.ref x) else List.lookup y [(Str.ofString "row", Value.ref D)])))) ∧
        news₂ = (D, W.listOf vs.toArray e) :: (x, instObj 158 dx) :: (dx, dictOf (attrs w.params t1 t2 t3 t4 d .none (.int 0 u3) (.int 0 u4)) 4) :: (d, od8) :: (objs G8 ++ own)) rfl hrg rfl (by omega) ‹Fr g L' _ _› ‹News g L' _ _› ⟨m_form fun _ _ => rfl, rfl⟩ ?turn3 ?done3)
      case turn3 =>
        intro I2 j t₂ m₂ news₂ h14 tk14 own2 hj
        exact absurd hj (by omega)
      case done3 => 
        rintro m₂ news₂ h14 tk14 ⟨⟨u₂, rfl⟩, rfl⟩ F14 N14
        dsimp only
        k_steps
        exact fin0 od8 G8 _ _ _ ‹Fr g L' _ _› ‹News g L' _ _› nd8 har8 hod8 (by rw [habs]; rfl) (by ((intro y hy; (have hy' := hy); (simp only [List.contains_cons, List.contains_nil, Bool.or_false, Bool.or_eq_false_iff, beq_eq_false_iff_ne, ne_eq] at hy'); first | (simp only [hy, hy', if_false, Bool.false_eq_true, reduceIte]; done) | simp [hy'])))
  case done =>
    rintro m₁ news₁ h6 tk6 hJJ
    refine exu2a5 hJJ fun u hmE od G hqE1 nd hD hod hab => ?_
    clear hJJ
    subst hmE
    subst hqE1
    rintro F6 N6
    clear N5
    dsimp only
    k_steps
    refine hret _ _ x dx d t1 t2 t3 t4 u3 u4 od G ‹Fr h₀ L _ _› ?_ nd ?_ lo hod hab
    · intro p hp
      have hp' : p ∈ ((D, W.listOf vs.toArray e) :: (x, instObj 158 dx) :: (dx, dictOf (attrs w.params t1 t2 t3 t4 d .none (.int 0 u3) (.int 0 u4)) 4) :: (d, od) :: objs G) ∨ p ∈ rest := by
        simp only [List.mem_append, List.mem_cons, List.not_mem_nil, or_false] at hp ⊢
        grind
      rcases hp' with hp | hp
      · exact (by assumption : News h₀ L _ ((D, W.listOf vs.toArray e) :: (x, instObj 158 dx) :: (dx, dictOf (attrs w.params t1 t2 t3 t4 d .none (.int 0 u3) (.int 0 u4)) 4) :: (d, od) :: objs G)) p hp
      · exact ⟨(by assumption : ∀ q ∈ rest, Heap.get? _ q.1 = some q.2) p hp, (N p (.tail _ hp)).2⟩
    · intro q hq
      rcases List.mem_cons.mp hq with rfl | hq
      · exact hD
      · intro hm
        exact apart_of N6 hro q hq (.tail _ hm)
end
-- plain
/-- bool of a list -/
theorem meets_bool_list (l : Addr) (items : Array Value) :
    Meets (Builtin.«bool.__new__» ⟨[.type "bool", .ref l], []⟩) (fun _ R s => s.heap.IsList l items ∧ (items.size : Int) < 2 ^ 63 ∧ R (.ok (.ret (.bool (!items.isEmpty)))) { s with toks := s.toks + 1 + 1 }) :=
  Meets.of_wp fun prog w A R s hs => by
    obtain ⟨hl, hfit, hs⟩ := hs
    obtain ⟨hp, g, d, tk, os⟩ := s
    have f1 := F.conv_sub_bool
    repeat (any_goals (first | assumption | (with_reducible refine wpAny_truthy_list hl hfit ?_) | wp_step))
    all_goals first | exact ⟨_, rfl, hs⟩ | exact hs | skip
theorem call_bool_list {prog : Program} {w : World} {A : Around} {E : Value → Shared → Prop} {s : Shared} {h₀ : Heap} {L l : Addr} {news : List (Addr × Obj)} {vs : List Value} {n : Nat} {Q : Value → Shared → Prop} (N : News h₀ L s.heap news) (hl : (l, W.listOf vs.toArray n) ∈ news) (hfit : vs.length ≤ 1000000) (h : Q (.bool (!vs.isEmpty)) { s with toks := s.toks + 1 + 1 }) :
    wpAny (model prog w) A (call (.type "bool") [.ref l]) Q E s :=
  call_bool_1 (meets_bool_list l vs.toArray) (show _ ∧ _ from ⟨⟨_, (N _ hl).1, rfl, n, rfl⟩, by rw [List.size_toArray]; omega, ⟨rfl, by rw [List.isEmpty_toArray]; exact h⟩⟩)
local macro_rules | `(tactic| walk_at "call type:bool") => `(tactic| (k_here; refine Halt.out ?_))
section
variable {w : World} {mean : ExcName → Option Value} {mg mb : Str → Option Value} {dp un : Nat} {gd : Option (List Code)} {cn : Str} {cs : Scope} {a : Addr} {ccd : Value} {cl : List (Str × Addr)} {outer : List Env} {A₀ : Around} {base h₀ : Heap} {L : Addr} {m : Str → Option Value} {rest : List (Addr × Obj)} {s : Shared}
  {x dx d R : Addr} {t1 t2 t3 t4 : Tok} {po nf : Int} {u3 u4 : Tok} {ne : Nat} {rd : List (Int × Tok)} {re : Nat} {Q E : Value → Shared → Prop}

theorem active_K (H : At w mean mg mb 5 dp un cs A₀ base h₀ outer L m s.heap)
    (N : News h₀ L s.heap ([(x, instObj 158 dx), (dx, dictOf (attrs w.params t1 t2 t3 t4 d (.ref R) (.int po u3) (.int nf u4)) ne), (R, W.listOf (vals rd).toArray re)] ++ rest))
    (hap : ∀ q ∈ rest, q.1 ∉ [x, dx, R]) (hrl : rd.length ≤ 900)
    (hret : ∀ h' tk', Fr h₀ L h' m → News h₀ L h' ([(x, instObj 158 dx), (dx, dictOf (attrs w.params t1 t2 t3 t4 d (.ref R) (.int po u3) (.int nf u4)) ne), (R, W.listOf (vals rd).toArray re)] ++ rest) → Q (.bool (decide (nf < po) || !rd.isEmpty)) { s with heap := h', toks := tk' }) :
    wpAny (model PySem.Challenge.rw_oh0060_01.row.prog w) (ktrTop dp un gd cn cs L a ccd cl outer) (call (.ref 127) [.ref x]) Q E s := by
  obtain ⟨B, F, X, T, hk, hdp, hu⟩ := H
  have Nf : News h₀ L s.heap [(x, instObj 158 dx), (dx, dictOf (attrs w.params t1 t2 t3 t4 d (.ref R) (.int po u3) (.int nf u4)) ne), (R, W.listOf (vals rd).toArray re)] := fun p hp => N p (List.mem_append_left _ hp)
  have hr : ∀ q ∈ rest, s.heap.get? q.1 = some q.2 ∧ q.1 ∉ [(x, instObj 158 dx), (dx, dictOf (attrs w.params t1 t2 t3 t4 d (.ref R) (.int po u3) (.int nf u4)) ne), (R, W.listOf (vals rd).toArray re)].map (·.1) := fun q hq => ⟨(N q (List.mem_append_right _ hq)).1, hap q hq⟩
  refine wpAny_call ?_
  ((k_dflt (refine' code_defR ?k1x1 ?k2x1 ?k3x1 ?k4x1 ?k5x1 ?kAx1 ?kFx1 ?kKx1 ?hrx1 ?k6x1 ?k7x1 ?k8x1 ?k9x1 ?kBx1 ?_ ?c2x1 ?c3x1 ?c4x1 ?c5x1; (case kAx1 => exact rfl); (case kFx1 => exact rfl); (case kKx1 => first | exact rfl | assumption); (case k1x1 => k_asm); (case k2x1 => k_asm); (case k3x1 => k_asm); (case k4x1 => k_asm); (case k5x1 => k_asm); (case hrx1 => assumption); (case k6x1 => k_is); (case k7x1 => k_is); (case k8x1 => ktr_room); (case k9x1 => first | exact BindsTo.of_eq rfl | exact binds_K (by k_in) rfl (by k_is) rfl rfl rfl); (case c5x1 => decide); (case kBx1 => exact locs rfl); (case c2x1 => exact rfl); (case c3x1 => exact rfl); (case c4x1 => exact rfl); k_whole)))
  intro g L' h₁ FG F' N' hro l1 B' X' T'
  k_lt l1
  dsimp only
  try k_fold
  k_steps
  · have e : (decide (nf < po)) = (decide (nf < po) || !rd.isEmpty) := by simp [show nf < po by assumption]
    rw [e]
    exact hret _ _ (by assumption) (news_rest (l₀ := [(x, instObj 158 dx), (dx, dictOf (attrs w.params t1 t2 t3 t4 d (.ref R) (.int po u3) (.int nf u4)) ne), (R, W.listOf (vals rd).toArray re)]) (by assumption) (by assumption) N)
  · show wpAny _ _ _ _ _ _
    ((k_dflt (refine call_bool_list (by k_asm) (by k_mem) (by size_fits) ?_)))
    k_steps
    have e : (!(vals rd).isEmpty) = (decide (nf < po) || !rd.isEmpty) := by simp [show ¬ nf < po by assumption, vals]
    rw [e]
    exact hret _ _ (by assumption) (news_rest (l₀ := [(x, instObj 158 dx), (dx, dictOf (attrs w.params t1 t2 t3 t4 d (.ref R) (.int po u3) (.int nf u4)) ne), (R, W.listOf (vals rd).toArray re)]) (by assumption) (by assumption) N)
end
noncomputable abbrev S4 (P : Params) (x dx d R : Addr) (t1 t2 t3 t4 : Tok) (po : Int) (u3 : Tok) (nf : Int) (u4 : Tok) (od : Obj) (rd : List (Int × Tok)) (re : Nat) : List (Addr × Obj) :=
  [(x, instObj 158 dx), (dx, dictOf (attrs P t1 t2 t3 t4 d (.ref R) (.int po u3) (.int nf u4)) 4), (d, od), (R, W.listOf (vals rd).toArray re)]
noncomputable def setnp (g : Gr) (k v : Int) : Gr := g.map fun e => if e.1 = k then (e.1, v, e.2.2) else e
noncomputable abbrev tupO (vs : List Value) : Obj := { cls := .type "tuple", data := .seq vs.toArray }

theorem news_end {h₀ h h' : Heap} {L : Addr} {l l₀ rest want : List (Addr × Obj)} (N : News h₀ L h l) (hR : ∀ q ∈ rest, h.get? q.1 = some q.2) (N₀ : News h₀ L h' l₀) (hs : ∀ q ∈ rest, q ∈ l₀) (hw : ∀ p ∈ want, p ∈ l ∨ p ∈ rest) : News h₀ L h want := fun p hp => by
  rcases hw p hp with hp | hp
  · exact N p hp
  · exact ⟨hR p hp, (N₀ p (hs p hp)).2⟩
theorem nd_front {l : List (Addr × Obj)} {A B : List Nd} {n : Nd} (h : (adr (l ++ objs (A ++ n :: B))).Nodup) : (adr (n.objs ++ (l ++ objs (A ++ B)))).Nodup := nodup_perm h fun a => by
  simp only [adr_append, List.count_append, adr_objs_mid]
  omega
theorem mem_front {l : List (Addr × Obj)} {A B : List Nd} {n : Nd} {b : Nat} : b ∈ adr (n.objs ++ (l ++ objs (A ++ B))) ↔ b ∈ adr (l ++ objs (A ++ n :: B)) := by
  rw [← List.count_pos_iff, ← List.count_pos_iff]
  simp only [adr_append, List.count_append, adr_objs_mid]
  omega
theorem node_of {G : List Nd} {k : Int} (h : k ∈ keys G) : ∃ A n B, G = A ++ n :: B ∧ n.key = k ∧ valueAt (kvs G) k = some (.ref n.ia) := by
  cases e : valueAt (kvs G) k with
  | none => exact absurd h (valueAt_none e)
  | some v =>
    obtain ⟨A, n, B, e1, e2, e3⟩ := valueAt_found e
    exact ⟨A, n, B, e1, e2, by rw [e3]⟩
theorem setnp_mid {A B : List Nd} {n : Nd} {k : Int} (hk : n.key = k) (h : (keys (A ++ n :: B)).Nodup) (v : Int) (t : Tok) : setnp (absG (A ++ n :: B)) k v = absG (A ++ { n with np := v, tnp := t } :: B) := by
  subst hk
  refine map_mid (fun q hq => ?_) ?_
  · rw [if_neg]
    exact key_apart h q hq
  · simp [absN]
theorem keys_kvs {G G' : List Nd} (h : kvs G' = kvs G) : keys G' = keys G := by
  have h1 : ∀ H : List Nd, keys H = (kvs H).map (·.1) := fun H => by simp [keys, kvs]
  rw [h1, h1, h]
theorem front_facts {l : List (Addr × Obj)} {A B : List Nd} {n : Nd} (h : (adr (l ++ objs (A ++ n :: B))).Nodup) {b : Nat} (hb : b ∈ [n.ia, n.da, n.la]) : (b ∉ adr l) ∧ b ∉ adr (objs (A ++ B)) := by
  have h2 := nd_front h
  rw [adr_append, List.nodup_append] at h2
  have h3 := h2.2.2 b hb
  constructor
  · intro hm
    exact h3 b (by rw [adr_append]; exact List.mem_append_left _ hm) rfl
  · intro hm
    exact h3 b (by rw [adr_append]; exact List.mem_append_right _ hm) rfl
theorem front_ne {l : List (Addr × Obj)} {A B : List Nd} {n : Nd} (h : (adr (l ++ objs (A ++ n :: B))).Nodup) : @Ne Nat n.ia n.da ∧ @Ne Nat n.ia n.la ∧ @Ne Nat n.da n.la := by
  have h2 := nd_front h
  rw [adr_append, List.nodup_append] at h2
  have h3 := h2.1
  simp only [adr, List.map_cons, List.map_nil, List.nodup_cons, List.mem_cons, List.not_mem_nil, or_false, not_or] at h3
  exact ⟨h3.1.1, h3.1.2, h3.2.1⟩

section
variable {w : World} {mean : ExcName → Option Value} {mg mb : Str → Option Value} {dp un : Nat} {gd : Option (List Code)} {cn : Str} {cs : Scope} {a : Addr} {ccd : Value} {cl : List (Str × Addr)} {outer : List Env} {A₀ : Around} {base h₀ : Heap} {L : Addr} {m : Str → Option Value} {rest : List (Addr × Obj)} {s : Shared}
  {x dx d R : Addr} {t1 t2 t3 t4 : Tok} {po nf : Int} {u3 u4 : Tok} {od : Obj} {G : List Nd} {rd : List (Int × Tok)} {re : Nat} {Q E : Value → Shared → Prop}

theorem ready_K (H : At w mean mg mb 5 dp un cs A₀ base h₀ outer L m s.heap)
    (N : News h₀ L s.heap (S4 w.params x dx d R t1 t2 t3 t4 po u3 nf u4 od rd re ++ (objs G ++ rest)))
    (nd : (adr (S4 w.params x dx d R t1 t2 t3 t4 po u3 nf u4 od rd re ++ objs G)).Nodup)
    (har : ∀ q ∈ rest, q.1 ∉ adr (S4 w.params x dx d R t1 t2 t3 t4 po u3 nf u4 od rd re ++ objs G))
    (hod : od.IsDictOf (intKind PySem.Challenge.rw_oh0060_01.row.prog w) (kvs G)) (lo : (d == sysModules) = false) (hrl : rd.length ≤ 900) (hne : rd ≠ []) (hin : ∀ p ∈ rd, p.1 ∈ keys G)
    (hret : ∀ h' tk' Tn u3' G' re', Fr h₀ L h' m → News h₀ L h' (S4 w.params x dx d R t1 t2 t3 t4 (po + rd.length) u3' nf u4 od [] re' ++ (objs G' ++ ((Tn, tupO (vals rd)) :: rest))) → adr (objs G') = adr (objs G) → kvs G' = kvs G →
      Tn ∉ adr (S4 w.params x dx d R t1 t2 t3 t4 po u3 nf u4 od rd re ++ objs G) → (∀ q ∈ rest, q.1 ≠ Tn) → absG G' = rd.foldl (fun g p => setnp g p.1 (-1)) (absG G) → Q (.ref Tn) { s with heap := h', toks := tk' }) :
    wpAny (model PySem.Challenge.rw_oh0060_01.row.prog w) (ktrTop dp un gd cn cs L a ccd cl outer) (call (.ref 120) [.ref x]) Q E s := by
  have hQM : QMark := trivial
  obtain ⟨B, F, X, T, hk, hdp, hu⟩ := H
  have Nf : News h₀ L s.heap ((x, instObj 158 dx) :: (dx, dictOf (attrs w.params t1 t2 t3 t4 d (.ref R) (.int po u3) (.int nf u4)) 4) :: (d, od) :: (R, W.listOf (vals rd).toArray re) :: objs G) := News.sub N (by (first | (walk_at "MY sub2") | (intro p hp; (simp only [List.mem_append, List.mem_cons, List.not_mem_nil, or_false, false_or, List.append_assoc, List.cons_append, List.nil_append] at hp ⊢); grind)))
  have hr : ∀ q ∈ rest, s.heap.get? q.1 = some q.2 ∧ q.1 ∉ ((x, instObj 158 dx) :: (dx, dictOf (attrs w.params t1 t2 t3 t4 d (.ref R) (.int po u3) (.int nf u4)) 4) :: (d, od) :: (R, W.listOf (vals rd).toArray re) :: objs G).map (·.1) := fun q hq => ⟨(N q (List.mem_append_right _ (List.mem_append_right _ hq))).1, har q hq⟩
  refine wpAny_call ?_
  ((k_dflt (refine' code_defR ?k1x2 ?k2x2 ?k3x2 ?k4x2 ?k5x2 ?kAx2 ?kFx2 ?kKx2 ?hrx2 ?k6x2 ?k7x2 ?k8x2 ?k9x2 ?kBx2 ?_ ?c2x2 ?c3x2 ?c4x2 ?c5x2; (case kAx2 => exact rfl); (case kFx2 => exact rfl); (case kKx2 => first | exact rfl | assumption); (case k1x2 => k_asm); (case k2x2 => k_asm); (case k3x2 => k_asm); (case k4x2 => k_asm); (case k5x2 => k_asm); (case hrx2 => assumption); (case k6x2 => k_is); (case k7x2 => k_is); (case k8x2 => ktr_room); (case k9x2 => first | exact BindsTo.of_eq rfl | exact binds_K (by k_in) rfl (by k_is) rfl rfl rfl); (case c5x2 => decide); (case kBx2 => exact locs rfl); (case c2x2 => exact rfl); (case c3x2 => exact rfl); (case c4x2 => exact rfl); k_whole)))
  intro g L' h₁ FG F' N' hro l1 B' X' T'
  dsimp only
  try k_fold
  k_steps
  show wpAny _ _ _ _ _ _
  ((k_dflt (refine' kde_tupleOf ?k1x3 ?k2x3 ?k3x3 ?k4x3 ?k5x3 ?_; (case k1x3 => k_asm); (case k2x3 => k_asm); (case k3x3 => exact News.isList (by k_asm) (by k_mem)); (case k4x3 => size_fits); (case k5x3 => exact rfl); k_whole); intro Tn hzz Fzz Nzz lzz))
  have hFM : FindMark := trivial
  k_steps
  show wpAny _ _ _ _ _ _
  ((k_dflt (refine' for_F ?fx4 ?ax4 ?bx4 ?_ ?cx4 ?dx4; (case fx4 => k_asm); (case ax4 => exact rfl); (case bx4 => exact rfl); (case cx4 => (intro _; exact rfl)); (case dx4 => passes_own))))
  k_steps
  show wpAny _ _ _ _ _ _
  have N5 : News g L' _ ((Tn, tupO (vals rd)) :: (x, instObj 158 dx) :: (dx, dictOf (attrs w.params t1 t2 t3 t4 d (.ref R) (.int po u3) (.int nf u4)) 4) :: (d, od) :: (R, W.listOf (vals rd).toArray re) :: objs G) := ‹News g L' _ _›
  have hTn : ∀ p ∈ S4 w.params x dx d R t1 t2 t3 t4 po u3 nf u4 od rd re ++ objs G, p.1 < Tn := by assumption
  obtain ⟨m5, hm5, F5⟩ : ∃ m5, m5 = (fun y => if y = Str.ofString "n2i" then some (Value.ref d) else if y = Str.ofString "result" then some (.ref Tn) else List.lookup y [(Str.ofString "self", Value.ref x)]) ∧ Fr g L' _ m5 := ⟨_, rfl, ‹Fr g L' _ _›⟩
  have key0 : (keys G).Nodup := dict_keys hod
  k_dflt (refine iter_tup (items := vals rd) (fun i m₁ news₁ => (∃ u : Str → Option Value, m₁ = fun y => if [Str.ofString "node"].contains y then u y else m5 y) ∧ ∃ G₁, news₁ = (Tn, tupO (vals rd)) :: (x, instObj 158 dx) :: (dx, dictOf (attrs w.params t1 t2 t3 t4 d (.ref R) (.int po u3) (.int nf u4)) 4) :: (d, od) :: (R, W.listOf (vals rd).toArray re) :: objs G₁ ∧
      kvs G₁ = kvs G ∧ adr (objs G₁) = adr (objs G) ∧ absG G₁ = (rd.take i).foldl (fun g p => setnp g p.1 (-1)) (absG G)) rfl F5 N5 (by k_mem) ⟨m_form fun _ _ => rfl, G, rfl, rfl, rfl, rfl⟩ ?turn ?done)
  case turn =>
    rintro I i v m₁ news₁ h6 tk6 own hI hv hJJ
    refine exu1a4 hJJ fun u hmE G₁ hqE1 hk1 ha1 hab => ?_
    clear hJJ
    subst hmE
    subst hqE1
    subst hm5
    rintro hnI hown ⟨io, hio⟩ F6 N6
    obtain ⟨p, hp, rfl⟩ : ∃ p, rd[i]? = some p ∧ v = .int p.1 p.2 := by
      simp only [vals, List.getElem?_map, Option.map_eq_some_iff] at hv
      obtain ⟨p, h1, h2⟩ := hv
      exact ⟨p, h1, h2.symm⟩
    have hkG : p.1 ∈ keys G₁ := by rw [keys_kvs hk1]; exact hin p (List.mem_of_getElem? hp)
    obtain ⟨A, n, C, rfl, hnk, hva⟩ := node_of hkG
    have nd1 : (adr (S4 w.params x dx d R t1 t2 t3 t4 po u3 nf u4 od rd re ++ objs (A ++ n :: C))).Nodup := by rw [adr_append, ha1, ← adr_append]; exact nd
    have ff := fun b hb => front_facts (b := b) nd1 hb
    have fn := front_ne nd1
    have hT1 : @Ne Nat n.ia Tn := by
      have h1 : n.ia ∈ adr (S4 w.params x dx d R t1 t2 t3 t4 po u3 nf u4 od rd re ++ objs G) := by
        rw [adr_append, ← ha1, ← adr_append]
        exact mem_front.mp (.head _)
      obtain ⟨p, hp, e⟩ := List.mem_map.mp h1
      have := hTn p hp
      rw [e] at this
      exact Nat.ne_of_lt this
    have q1 : ∀ p ∈ objs (A ++ C) ++ own, p.1 ≠ n.ia := by
      intro p hp
      rcases List.mem_append.mp hp with hp | hp
      · exact not_adr (ff n.ia (.head _)).2 p hp
      · intro e
        rcases hown p hp with e' | e'
        · exact hnI (n.ia, infoObj n.da n.key n.tk n.np n.tnp n.la) (.tail _ (.tail _ (.tail _ (.tail _ (.tail _ (by rw [objs_mid]; exact List.mem_append_right _ (.head _))))))) (e.symm.trans e')
        · exact hT1 (e.symm.trans e')
    have q2 : @Ne Nat n.ia x ∧ @Ne Nat n.ia dx ∧ @Ne Nat n.ia d ∧ @Ne Nat n.ia R := by
      have := (ff n.ia (.head _)).1
      simp only [adr, List.map_cons, List.map_nil, List.mem_cons, List.not_mem_nil, or_false, not_or] at this
      exact this
    rw [← hk1] at hod
    have N7 : News g L' h6 ((n.ia, infoObj n.da n.key n.tk n.np n.tnp n.la) :: (n.da, dictOf [] 0) :: (n.la, W.listOf (vals n.succ).toArray n.ep) :: (Tn, tupO (vals rd)) :: (x, instObj 158 dx) :: (dx, dictOf (attrs w.params t1 t2 t3 t4 d (.ref R) (.int po u3) (.int nf u4)) 4) :: (d, od) :: (R, W.listOf (vals rd).toArray re) :: (objs (A ++ C) ++ own)) := News.sub N6 (by rw [objs_mid, objs_append]; (first | (walk_at "MY sub2") | (intro p hp; (simp only [List.mem_append, List.mem_cons, List.not_mem_nil, or_false, false_or, List.append_assoc, List.cons_append, List.nil_append] at hp ⊢); grind)))
    clear N6 N5 F5
    k_steps
    obtain ⟨tt, N9⟩ : ∃ tt, News g L' _ ((n.ia, infoObj n.da n.key n.tk (-1) tt n.la) :: (n.da, dictOf [] 0) :: (n.la, W.listOf (vals n.succ).toArray n.ep) :: (Tn, tupO (vals rd)) :: (x, instObj 158 dx) :: (dx, dictOf (attrs w.params t1 t2 t3 t4 d (.ref R) (.int po u3) (.int nf u4)) 4) :: (d, od) :: (R, W.listOf (vals rd).toArray re) :: (objs (A ++ C) ++ own)) := ⟨_, ‹News g L' _ _›⟩
    refine ⟨_, _, _, (Tn, tupO (vals rd)) :: (x, instObj 158 dx) :: (dx, dictOf (attrs w.params t1 t2 t3 t4 d (.ref R) (.int po u3) (.int nf u4)) 4) :: (d, od) :: (R, W.listOf (vals rd).toArray re) :: objs (A ++ { n with np := -1, tnp := tt } :: C), rfl, ‹Fr g L' _ _›, News.sub N9 ?_, ?_, m_form (by ((intro y hy; (have hy' := hy); (simp only [List.contains_cons, List.contains_nil, Bool.or_false, Bool.or_eq_false_iff, beq_eq_false_iff_ne, ne_eq] at hy'); first | (simp only [hy, hy', if_false, Bool.false_eq_true, reduceIte]; done) | simp [hy']))), A ++ { n with np := -1, tnp := tt } :: C, rfl, ?_, ?_, ?_⟩
    · rw [objs_mid, objs_append]
      (first | (walk_at "MY sub2") | (intro p hp; (simp only [List.mem_append, List.mem_cons, List.not_mem_nil, or_false, false_or, List.append_assoc, List.cons_append, List.nil_append] at hp ⊢); grind))
    · intro q hq e
      have h1 : q.1 ∈ adr ((Tn, tupO (vals rd)) :: (x, instObj 158 dx) :: (dx, dictOf (attrs w.params t1 t2 t3 t4 d (.ref R) (.int po u3) (.int nf u4)) 4) :: (d, od) :: (R, W.listOf (vals rd).toArray re) :: objs (A ++ n :: C)) := by
        have h2 := adr_mem hq
        simp only [adr, List.map_cons] at h2 ⊢
        have h3 := adr_mid A C n { n with np := -1, tnp := tt } rfl rfl rfl
        simp only [adr] at h3
        rw [h3] at h2
        exact h2
      obtain ⟨p', hp', e'⟩ := List.mem_map.mp h1
      exact hnI p' hp' (e'.trans e)
    · rw [← hk1]
      exact kvs_mid A C n { n with np := -1, tnp := tt } rfl rfl
    · rw [← ha1]
      exact adr_mid A C n { n with np := -1, tnp := tt } rfl rfl rfl
    · have hki : (keys (A ++ n :: C)).Nodup := by rw [keys_kvs hk1]; exact key0
      rw [← setnp_mid hnk hki, hab, List.take_add_one, hp]
      simp
  case done =>
    rintro m₁ news₁ h6 tk6 hJJ
    refine exu1a4 hJJ fun u hmE G₁ hqE1 hk1 ha1 hab => ?_
    clear hJJ
    subst hmE
    subst hqE1
    subst hm5
    rintro F6 N6
    have hl : (vals rd).length = rd.length := by simp [vals]
    rw [hl, List.take_length] at hab
    have nd1 : (adr (S4 w.params x dx d R t1 t2 t3 t4 po u3 nf u4 od rd re ++ objs G₁)).Nodup := by rw [adr_append, ha1, ← adr_append]; exact nd
    have hT2 : Tn ∉ adr (S4 w.params x dx d R t1 t2 t3 t4 po u3 nf u4 od rd re ++ objs G₁) := by
      rw [adr_append, ha1, ← adr_append]
      intro hm
      obtain ⟨p, hp, e⟩ := List.mem_map.mp hm
      have := hTn p hp
      rw [e] at this
      exact absurd this (Nat.lt_irrefl _)
    obtain ⟨r1, r2, r3⟩ : (∀ p ∈ objs G₁, p.1 ≠ R) ∧ (∀ p ∈ objs G₁, p.1 ≠ dx) ∧ (@Ne Nat x dx ∧ @Ne Nat x d ∧ @Ne Nat x R ∧ @Ne Nat dx d ∧ @Ne Nat dx R ∧ @Ne Nat d R ∧ @Ne Nat Tn x ∧ @Ne Nat Tn dx ∧ @Ne Nat Tn d ∧ @Ne Nat Tn R) := by
      have h1 := nd1
      have h2 := hT2
      rw [adr_append, List.nodup_append] at h1
      refine ⟨not_adr fun hm => h1.2.2 R (by simp [adr]) R hm rfl, not_adr fun hm => h1.2.2 dx (by simp [adr]) dx hm rfl, ?_⟩
      have h3 := h1.1
      simp only [adr, List.map_cons, List.map_nil, List.map_append, List.cons_append, List.nil_append, List.nodup_cons, List.mem_cons, List.not_mem_nil, or_false, not_or] at h2 h3
      grind
    have hapT := apart_of N6 hro
    have hne' : (vals rd).toArray.toList.length ≠ 0 := by
      simp only [vals, List.length_map]
      intro e
      exact hne (List.length_eq_zero_iff.mp e)
    clear N5 F5
    dsimp only
    k_steps
    show wpAny _ _ _ _ _ _
    ((k_dflt (refine' kl_clear ?Fx8 ?Nx8 ?Ux8 ?nex8 ?zx8 ?_; (case Fx8 => k_asm); (case Nx8 => k_asm); (case Ux8 => k_upd); (case nex8 => assumption); (case zx8 => size_fits)); intro hzz Fzz Nzz; (try dsimp only [List.nil_append, List.cons_append] at Nzz)))
    k_steps
    rw [← hl] at hret
    obtain ⟨u3', re', N9⟩ : ∃ u3' re', News h₀ L _ ((Tn, tupO (vals rd)) :: (x, instObj 158 dx) :: (dx, dictOf (attrs w.params t1 t2 t3 t4 d (.ref R) (.int (po + (vals rd).length) u3') (.int nf u4)) 4) :: (d, od) :: (R, W.listOf (vals []).toArray re') :: objs G₁) := ⟨_, _, ‹News h₀ L _ _›⟩
    refine hret _ _ Tn u3' G₁ re' ‹Fr h₀ L _ _› (news_end N9 (by assumption) N (fun q hq => List.mem_append_right _ (List.mem_append_right _ hq)) (by (first | (walk_at "MY sub2") | (intro p hp; (simp only [List.mem_append, List.mem_cons, List.not_mem_nil, or_false, false_or, List.append_assoc, List.cons_append, List.nil_append] at hp ⊢); grind)))) ha1 hk1 (by rw [adr_append, ← ha1, ← adr_append]; exact hT2) (fun q hq e => hapT q hq (by rw [e]; exact .head _)) hab
end
-- plain
noncomputable def npOf (g : Gr) (k : Int) : Int := ((g.find? fun e => e.1 == k).map (·.2.1)).getD 0
noncomputable def succOf (g : Gr) (k : Int) : List Int := ((g.find? fun e => e.1 == k).map (·.2.2)).getD []
noncomputable def doneS (c : Gr × List Int) (s : Int) : Gr × List Int := (setnp c.1 s (npOf c.1 s - 1), if npOf c.1 s - 1 = 0 then c.2 ++ [s] else c.2)
noncomputable def doneN (c : Gr × List Int) (k : Int) : Gr × List Int := (succOf c.1 k).foldl doneS (setnp c.1 k (-2), c.2)
noncomputable def Nd.sh (n : Nd) : Nd := { n with np := 0, tnp := 0 }
noncomputable def Same (G' G : List Nd) : Prop := G'.map Nd.sh = G.map Nd.sh
theorem Same.trans {A B C : List Nd} (h : Same A B) (h' : Same B C) : Same A C := Eq.trans h h'
theorem Same.kvs {G' G : List Nd} (h : Same G' G) : kvs G' = kvs G := by
  have e : ∀ H : List Nd, Mine.kvs H = (H.map Nd.sh).map fun n => (n.key, Value.ref n.ia) := fun H => by simp [Mine.kvs, Nd.sh]
  rw [e, e, h]
theorem Same.adr {G' G : List Nd} (h : Same G' G) : adr (objs G') = adr (objs G) := by
  have e : ∀ H : List Nd, Mine.adr (objs H) = (H.map Nd.sh).flatMap fun n => [n.ia, n.da, n.la] := fun H => by
    induction H with
    | nil => rfl
    | cons n H ih => rw [objs_cons, adr_append, ih]; rfl
  rw [e, e, h]
theorem Same.mid (A B : List Nd) (n : Nd) (v : Int) (t : Tok) : Same (A ++ { n with np := v, tnp := t } :: B) (A ++ n :: B) := by simp [Same, Nd.sh]
theorem Same.mem {G' G : List Nd} (h : Same G' G) {n : Nd} (hn : n ∈ G') : ∃ n' ∈ G, n'.sh = n.sh := by
  have : n.sh ∈ G.map Nd.sh := h ▸ List.mem_map_of_mem hn
  exact List.mem_map.mp this
theorem Same.symm {G' G : List Nd} (h : Same G' G) : Same G G' := Eq.symm h
theorem Same.len {G' G : List Nd} (h : Same G' G) : G'.length = G.length := by
  have := congrArg List.length h
  simpa using this
theorem find_mid {A B : List Nd} {n : Nd} (h : (keys (A ++ n :: B)).Nodup) : (absG (A ++ n :: B)).find? (fun e => e.1 == n.key) = some (absN n) := by
  induction A with
  | nil => simp [absG, absN]
  | cons a A ih =>
    have h1 : a.key ≠ n.key := key_apart h a (by simp)
    have h2 : (keys (A ++ n :: B)).Nodup := by
      simp only [keys, List.cons_append, List.map_cons, List.nodup_cons] at h
      exact h.2
    have := ih h2
    rw [List.cons_append]
    show (absN a :: absG (A ++ n :: B)).find? _ = _
    rw [List.find?_cons_of_neg (by simpa [absN] using h1)]
    exact this
theorem npOf_mid {A B : List Nd} {n : Nd} {k : Int} (hk : n.key = k) (h : (keys (A ++ n :: B)).Nodup) : npOf (absG (A ++ n :: B)) k = n.np := by
  subst hk
  rw [npOf, find_mid h]; rfl
theorem succOf_mid {A B : List Nd} {n : Nd} {k : Int} (hk : n.key = k) (h : (keys (A ++ n :: B)).Nodup) : succOf (absG (A ++ n :: B)) k = n.succ.map (·.1) := by
  subst hk
  rw [succOf, find_mid h]; rfl
theorem la_ne {l : List (Addr × Obj)} {A B : List Nd} {n n' : Nd} (h : (adr (l ++ objs (A ++ n :: B))).Nodup) (hn : n' ∈ A ++ n :: B) : @Ne Nat n'.la n.ia := by
  intro e
  have h1 := (front_facts h (b := n.ia) (.head _)).2
  have h2 := front_ne h
  simp only [List.mem_append, List.mem_cons] at hn
  have key : n' ∈ A ++ B → False := fun hm => h1 (by
    rw [← e]
    simp only [adr, objs, List.mem_map, List.mem_flatMap]
    exact ⟨(n'.la, W.listOf (vals n'.succ).toArray n'.ep), ⟨n', hm, by simp⟩, rfl⟩)
  rcases hn with hn | rfl | hn
  · exact key (List.mem_append_left _ hn)
  · exact h2.2.1 e.symm
  · exact key (List.mem_append_right _ hn)
theorem seqItems_none : seqItems? Value.none = pure none := rfl
theorem bind_star {fd : FuncData} {n1 av : Arg} {kd df} (hp : fd.params = { posonlyargs := [], args := [n1], vararg := some av, kwonlyargs := [], kw_defaults := kd, kwarg := none, defaults := df }) (hd : fd.defaults = .none) (x : Value) (vs : List Value) :
    bindArgs fd ⟨x :: vs, []⟩ = (do
      let t ← newTuple vs
      pure ([(n1.arg, x)] ++ [(av.arg, t)])) := by
  obtain ⟨⟩ := fd
  cases hp
  cases hd
  unfold bindArgs
  dsimp only [seqItems_none]
  simp only [↓List.forIn_nil, ↓pure_bind]
  rw [if_neg (by rw [Option.isNone_some, Bool.and_false]; exact Bool.false_ne_true)]
  rw [if_neg (by simp)]
  simp
theorem newTuple_fits {vs : List Value} (hz : vs.length ≤ sizeLine) : newTuple vs = newObjAsIs (.type "tuple") (.seq vs.toArray) none := by
  unfold newTuple newObj
  simp only [List.size_toArray]
  rw [if_neg (by omega)]
theorem peek_star {K : Frag} {S : Setting} {fd : FuncData} {n1 av : Arg} {kd df} (hp : fd.params = { posonlyargs := [], args := [n1], vararg := some av, kwonlyargs := [], kw_defaults := kd, kwarg := none, defaults := df }) (hd : fd.defaults = .none) (x : Value) (vs : List Value) (hz : vs.length ≤ sizeLine) :
    peek1 K S (bindArgs fd ⟨x :: vs, []⟩) = some (({ cls := .type "tuple", data := .seq vs.toArray } : Obj), fun D => some [(n1.arg, x), (av.arg, .ref D)]) := by
  rw [bind_star hp hd, newTuple_fits hz]
  rfl
-- plain
section
variable {prog : Program} {w : World} {A : Around} {E : Value → Shared → Prop} {s : Shared} {env : Env} {h₀ : Heap} {x : Str} {body : List Stmt} {Q : Flow → Shared → Prop} {m : Str → Option Value} {news : List (Addr × Obj)}
theorem tp_own {I : Addr} {own : List (Addr × Obj)} {J : (Str → Option Value) → List (Addr × Obj) → Prop} {l L : Addr} {o : Obj} {h : Heap} {news₁ : List (Addr × Obj)} (N : News h₀ L h (own ++ news₁)) (hl : (l, o) ∈ news₁) (hown : ∀ p ∈ own, p.1 = I ∨ p.1 = l)
    (hJ : ∀ m n, J m n → (l, o) ∈ n) {f : Flow} {s₂ : Shared} (t : TP h₀ L I (own.filter fun p => p.1 == I) J s Q f s₂) : TP h₀ L I own J s Q f s₂ := by
  have key : (∃ h' tk m' news', s₂ = { s with heap := h', toks := tk } ∧ Fr h₀ L h' m' ∧ News h₀ L h' ((own.filter fun p => p.1 == I) ++ news') ∧ (∀ p ∈ news', p.1 ≠ I) ∧ J m' news') →
      ∃ h' tk m' news', s₂ = { s with heap := h', toks := tk } ∧ Fr h₀ L h' m' ∧ News h₀ L h' (own ++ news') ∧ (∀ p ∈ news', p.1 ≠ I) ∧ J m' news' := by
    rintro ⟨h', tk, m', news', e, F', N', ha, hj⟩
    refine ⟨h', tk, m', news', e, F', fun p hp => ?_, ha, hj⟩
    rcases List.mem_append.mp hp with hp | hp
    · rcases hown p hp with e1 | e1
      · exact N' p (List.mem_append_left _ (List.mem_filter.mpr ⟨hp, by simp [e1]⟩))
      · have h1 := (N p (List.mem_append_left _ hp)).1
        have h2 := (N (l, o) (List.mem_append_right _ hl)).1
        rw [e1, h2] at h1
        have h3 := N' (l, o) (List.mem_append_right _ (hJ _ _ hj))
        have h4 : p = (l, o) := by
          rcases p with ⟨p1, p2⟩
          simp only at e1 h1
          rw [e1, Option.some.inj h1]
        rw [h4]
        exact h3
    · exact N' p (List.mem_append_right _ hp)
  cases f with
  | ret v => exact t
  | brk => exact t
  | next => exact key t
  | cont => exact key t
theorem iter_lstJ {l : Addr} {items : List Value} {n' : Nat} (J : Nat → (Str → Option Value) → List (Addr × Obj) → Prop) (hh : A.handled = none)
    (F : Fr h₀ env.locals s.heap m) (N : News h₀ env.locals s.heap news) (hJl : ∀ i m₁ n₁, J i m₁ n₁ → (l, W.listOf items.toArray n') ∈ n₁) (hj : J 0 m news)
    (turn : ∀ I i v m₁ news₁ h tk own, I ≠ l → items[i]? = some v → J i m₁ news₁ → (∀ p ∈ news₁, p.1 ≠ I) → (∀ p ∈ own, p.1 = I) → (∃ o, (I, o) ∈ own) → Fr h₀ env.locals h (fun y => if y = x then some v else m₁ y) → News h₀ env.locals h (own ++ news₁) →
      wpAny (model prog w) A (execs body env) (TP h₀ env.locals I own (J (i + 1)) s Q) E { s with heap := h, toks := tk })
    (done : ∀ m₁ news₁ h tk, J items.length m₁ news₁ → Fr h₀ env.locals h m₁ → News h₀ env.locals h news₁ → Q .next { s with heap := h, toks := tk }) :
    wpAny (model prog w) A (pyIter (.ref l)) (fun it s₂ => LoopAtV prog w A h₀ env x body Q E it s₂) E s := by
  refine iter_lst J hh F N (hJl _ _ _ hj) hj (fun I i v m₁ news₁ h tk own hI hv hJ hn hown hio F₁ N₁ => ?_) done
  obtain ⟨io, hio⟩ := hio
  refine wpAny_mono (turn I i v m₁ news₁ h tk (own.filter fun p => p.1 == I) hI hv hJ hn (fun p hp => by simpa using (List.mem_filter.mp hp).2) ⟨io, List.mem_filter.mpr ⟨hio, by simp⟩⟩ F₁ (fun p hp => ?_)) (fun f s₂ t => tp_own N₁ (hJl _ _ _ hJ) hown (fun m n hJ => hJl _ m n hJ) t) fun _ _ e => e
  rcases List.mem_append.mp hp with hp | hp
  · exact N₁ p (List.mem_append_left _ (List.mem_filter.mp hp).1)
  · exact N₁ p (List.mem_append_right _ hp)
theorem iter_tupJ {l : Addr} {items : List Value} (J : Nat → (Str → Option Value) → List (Addr × Obj) → Prop) (hh : A.handled = none)
    (F : Fr h₀ env.locals s.heap m) (N : News h₀ env.locals s.heap news) (hJl : ∀ i m₁ n₁, J i m₁ n₁ → (l, tupO items) ∈ n₁) (hj : J 0 m news)
    (turn : ∀ I i v m₁ news₁ h tk own, I ≠ l → items[i]? = some v → J i m₁ news₁ → (∀ p ∈ news₁, p.1 ≠ I) → (∀ p ∈ own, p.1 = I) → (∃ o, (I, o) ∈ own) → Fr h₀ env.locals h (fun y => if y = x then some v else m₁ y) → News h₀ env.locals h (own ++ news₁) →
      wpAny (model prog w) A (execs body env) (TP h₀ env.locals I own (J (i + 1)) s Q) E { s with heap := h, toks := tk })
    (done : ∀ m₁ news₁ h tk, J items.length m₁ news₁ → Fr h₀ env.locals h m₁ → News h₀ env.locals h news₁ → Q .next { s with heap := h, toks := tk }) :
    wpAny (model prog w) A (pyIter (.ref l)) (fun it s₂ => LoopAtV prog w A h₀ env x body Q E it s₂) E s := by
  refine iter_tup J hh F N (hJl _ _ _ hj) hj (fun I i v m₁ news₁ h tk own hI hv hJ hn hown hio F₁ N₁ => ?_) done
  obtain ⟨io, hio⟩ := hio
  refine wpAny_mono (turn I i v m₁ news₁ h tk (own.filter fun p => p.1 == I) hI hv hJ hn (fun p hp => by simpa using (List.mem_filter.mp hp).2) ⟨io, List.mem_filter.mpr ⟨hio, by simp⟩⟩ F₁ (fun p hp => ?_)) (fun f s₂ t => tp_own N₁ (hJl _ _ _ hJ) hown (fun m n hJ => hJl _ m n hJ) t) fun _ _ e => e
  rcases List.mem_append.mp hp with hp | hp
  · exact N₁ p (List.mem_append_left _ (List.mem_filter.mp hp).1)
  · exact N₁ p (List.mem_append_right _ hp)
end

/-- what the walk of a turn wants to know of its addresses -/
theorem facts4 {x dx d R : Addr} {A B : List Nd} {n : Nd} {ow : List (Addr × Obj)} (nd : (x :: dx :: d :: R :: adr (objs (A ++ n :: B))).Nodup) (how : ∀ p ∈ ow, p.1 ∉ x :: dx :: d :: R :: adr (objs (A ++ n :: B))) :
    (∀ p ∈ objs (A ++ B) ++ ow, p.1 ≠ n.ia) ∧ (∀ p ∈ objs (A ++ B) ++ ow, p.1 ≠ R) ∧ (∀ p ∈ objs (A ++ B) ++ ow, p.1 ≠ dx) ∧
    (n.ia ≠ x ∧ n.ia ≠ dx ∧ n.ia ≠ d ∧ n.ia ≠ R ∧ n.ia ≠ n.da ∧ n.ia ≠ n.la) ∧
    (R ≠ x ∧ R ≠ dx ∧ R ≠ d ∧ R ≠ n.da ∧ R ≠ n.la) ∧ (dx ≠ x ∧ dx ≠ d ∧ dx ≠ n.da ∧ dx ≠ n.la) := by
  have nd2 : (adr ([(x, default), (dx, default), (d, default), (R, default)] ++ objs (A ++ n :: B))).Nodup := nd
  have f1 := fun b hb => front_facts (b := b) nd2 hb
  have f2 := front_ne nd2
  have f3 := f1 n.ia (.head _)
  have f4 := f1 n.da (.tail _ (.head _))
  have f5 := f1 n.la (.tail _ (.tail _ (.head _)))
  simp only [adr, List.map_cons, List.map_nil, List.mem_cons, List.not_mem_nil, or_false, not_or] at f3 f4 f5
  have hm : ∀ b, b ∈ adr (objs (A ++ B)) → b ∈ adr (objs (A ++ n :: B)) := fun b hb => by
    rw [← List.count_pos_iff] at hb ⊢
    rw [adr_objs_mid]
    omega
  have n1 := nd
  simp only [List.nodup_cons, List.mem_cons, not_or] at n1
  have hia : n.ia ∈ adr (objs (A ++ n :: B)) := by rw [objs_mid, adr_append, adr_append]; exact List.mem_append_right _ (List.mem_append_left _ (.head _))
  refine ⟨?_, ?_, ?_, ⟨f3.1.1, f3.1.2.1, f3.1.2.2.1, f3.1.2.2.2, f2.1, f2.2.1⟩, ⟨Ne.symm n1.1.2.2.1, Ne.symm n1.2.1.2.1, Ne.symm n1.2.2.1.1, Ne.symm f4.1.2.2.2, Ne.symm f5.1.2.2.2⟩, ⟨Ne.symm n1.1.1, n1.2.1.1, Ne.symm f4.1.2.1, Ne.symm f5.1.2.1⟩⟩
  · intro p hp e
    rcases List.mem_append.mp hp with hp | hp
    · exact f3.2 (e ▸ adr_mem hp)
    · exact how p hp (by rw [e]; exact .tail _ (.tail _ (.tail _ (.tail _ hia))))
  · intro p hp e
    rcases List.mem_append.mp hp with hp | hp
    · exact n1.2.2.2.1 (hm _ (e ▸ adr_mem hp))
    · exact how p hp (by rw [e]; exact .tail _ (.tail _ (.tail _ (.head _))))
  · intro p hp e
    rcases List.mem_append.mp hp with hp | hp
    · exact n1.2.1.2.2 (hm _ (e ▸ adr_mem hp))
    · exact how p hp (by rw [e]; exact .tail _ (.head _))
theorem facts4' {x dx d R : Addr} {G : List Nd} {ow : List (Addr × Obj)} (nd : (x :: dx :: d :: R :: adr (objs G)).Nodup) (how : ∀ p ∈ ow, p.1 ∉ x :: dx :: d :: R :: adr (objs G)) :
    (∀ p ∈ objs G ++ ow, p.1 ≠ R) ∧ (∀ p ∈ objs G ++ ow, p.1 ≠ dx) ∧ (R ≠ x ∧ R ≠ dx ∧ R ≠ d) ∧ (dx ≠ x ∧ dx ≠ d) := by
  have n1 := nd
  simp only [List.nodup_cons, List.mem_cons, not_or] at n1
  refine ⟨?_, ?_, ⟨Ne.symm n1.1.2.2.1, Ne.symm n1.2.1.2.1, Ne.symm n1.2.2.1.1⟩, ⟨Ne.symm n1.1.1, n1.2.1.1⟩⟩
  · intro p hp e
    rcases List.mem_append.mp hp with hp | hp
    · exact n1.2.2.2.1 (e ▸ adr_mem hp)
    · exact how p hp (by rw [e]; exact .tail _ (.tail _ (.tail _ (.head _))))
  · intro p hp e
    rcases List.mem_append.mp hp with hp | hp
    · exact n1.2.1.2.2 (e ▸ adr_mem hp)
    · exact how p hp (by rw [e]; exact .tail _ (.head _))
section
variable {w : World} {mean : ExcName → Option Value} {mg mb : Str → Option Value} {dp un : Nat} {gd : Option (List Code)} {cn : Str} {cs : Scope} {a : Addr} {ccd : Value} {cl : List (Str × Addr)} {outer : List Env} {A₀ : Around} {base h₀ : Heap} {L : Addr} {m : Str → Option Value} {rest : List (Addr × Obj)} {s : Shared}
  {x dx d R : Addr} {t1 t2 t3 t4 : Tok} {po nf : Int} {u3 u4 : Tok} {od : Obj} {G : List Nd} {rd rq : List (Int × Tok)} {re : Nat} {Q E : Value → Shared → Prop}

noncomputable abbrev dStored : List Str := [Str.ofString "node", Str.ofString "nodeinfo", Str.ofString "stat", Str.ofString "successor", Str.ofString "successor_info"]
theorem done_C (H : At w mean mg mb 5 dp un cs A₀ base h₀ outer L m s.heap)
    (N : News h₀ L s.heap (S4 w.params x dx d R t1 t2 t3 t4 po u3 nf u4 od rq re ++ (objs G ++ rest)))
    (nd : (adr (S4 w.params x dx d R t1 t2 t3 t4 po u3 nf u4 od rq re ++ objs G)).Nodup)
    (har : ∀ q ∈ rest, q.1 ∉ adr (S4 w.params x dx d R t1 t2 t3 t4 po u3 nf u4 od rq re ++ objs G))
    (hod : od.IsDictOf (intKind PySem.Challenge.rw_oh0060_01.row.prog w) (kvs G)) (lo : (d == sysModules) = false) (hrl : rd.length ≤ 100) (hrq : rq.length ≤ 100) (hne : rd ≠ []) (hin : ∀ p ∈ rd, p.1 ∈ keys G)
    (hsc : ∀ n ∈ G, n.succ.length ≤ 100) (hcl : ∀ n ∈ G, ∀ p ∈ n.succ, p.1 ∈ keys G)
    (hok : ∀ i p, rd[i]? = some p → npOf (((rd.take i).map (·.1)).foldl doneN (absG G, rq.map (·.1))).1 p.1 = -1)
    (hret : ∀ h' tk' u4' G' rq' re', Fr h₀ L h' m → News h₀ L h' (S4 w.params x dx d R t1 t2 t3 t4 po u3 (nf + rd.length) u4' od rq' re' ++ (objs G' ++ rest)) → Same G' G →
      (absG G', rq'.map (·.1)) = (rd.map (·.1)).foldl doneN (absG G, rq.map (·.1)) → Q .none { s with heap := h', toks := tk' }) :
    codeAny (model PySem.Challenge.rw_oh0060_01.row.prog w) (ktrTop dp un gd cn cs L a ccd cl outer) (.call (.ref 141) ⟨.ref x :: vals rd, []⟩) (fun r s' => match r with | .ok (.ret v) => Q v s' | .ok _ => False | .error e => E e s') s := by
  have hQM : QMark := trivial
  obtain ⟨B, F, X, T, hk, hdp, hu⟩ := H
  have Nf : News h₀ L s.heap (((x, instObj 158 dx) :: (dx, dictOf (attrs w.params t1 t2 t3 t4 d (.ref R) (.int po u3) (.int nf u4)) 4) :: (d, od) :: (R, W.listOf (vals rq).toArray re) :: objs G) ++ rest) := News.sub N (by (first | (walk_at "MY sub2") | (intro p hp; (simp only [List.mem_append, List.mem_cons, List.not_mem_nil, or_false, false_or, List.append_assoc, List.cons_append, List.nil_append] at hp ⊢); grind)))
  have hap : ∀ q ∈ rest, q.1 ∉ ((x, instObj 158 dx) :: (dx, dictOf (attrs w.params t1 t2 t3 t4 d (.ref R) (.int po u3) (.int nf u4)) 4) :: (d, od) :: (R, W.listOf (vals rq).toArray re) :: objs G).map (·.1) := har
  ((k_dflt (refine' kp_restR ?k1x2 ?k2x2 ?k3x2 ?k4x2 ?k5x2 ?kAx2 ?kFx2 ?kKx2 ?hapx2 ?k6x2 ?k7x2 ?k8x2 ?kPx2 ?kGx2 ?kBx2 ?_ ?c2x2 ?c3x2 ?c4x2 ?c5x2; (case kAx2 => exact rfl); (case kFx2 => exact rfl); (case kKx2 => first | exact rfl | assumption); (case k1x2 => k_asm); (case k2x2 => k_asm); (case k3x2 => k_asm); (case k4x2 => k_asm); (case k5x2 => k_asm); (case hapx2 => assumption); (case k6x2 => k_is); (case k7x2 => k_is); (case k8x2 => ktr_room); (case kPx2 => exact peek_star rfl rfl _ _ (by rw [sizeLine_eq]; size_fits)); (case kGx2 => exact fun _ => rfl); (case kBx2 => exact fun _ => locs rfl); (case c5x2 => decide); (case c2x2 => exact rfl); (case c3x2 => exact rfl); (case c4x2 => exact rfl); k_whole)))
  intro D g L' h₁ FG F' N' hro l1 B' X' T'
  dsimp only
  try k_fold
  have hFM : FindMark := trivial
  k_steps
  show wpAny _ _ _ _ _ _
  ((k_dflt (refine' for_F ?fx3 ?ax3 ?bx3 ?_ ?cx3 ?dx3; (case fx3 => k_asm); (case ax3 => exact rfl); (case bx3 => exact rfl); (case cx3 => (intro _; exact rfl)); (case dx3 => passes_own))))
  k_steps
  show wpAny _ _ _ _ _ _
  have hD0 : D ∉ x :: dx :: d :: R :: adr (objs G) := by
    intro hm
    have hm' : D ∈ ((x, instObj 158 dx) :: (dx, dictOf (attrs w.params t1 t2 t3 t4 d (.ref R) (.int po u3) (.int nf u4)) 4) :: (d, od) :: (R, W.listOf (vals rq).toArray re) :: objs G).map (·.1) := hm
    refine ex1a2 (List.mem_map.mp hm') fun p hp e => ?_
    exact absurd (l1 p hp) (by rw [e]; exact Nat.lt_irrefl _)
  have key0 : (keys G).Nodup := dict_keys hod
  have hJx : ∃ m5, m5 = (fun y => if y = Str.ofString "n2i" then some (Value.ref d) else List.lookup y [(Str.ofString "nodes", Value.ref D), (Str.ofString "self", Value.ref x)]) ∧ Fr g L' _ m5 := ⟨_, rfl, ‹Fr g L' _ _›⟩
  refine ex1a2 hJx fun m5 hm5 F5 => ?_
  clear hJx
  have N5 := ‹News g L' _ _›
  k_dflt (refine iter_tupJ (items := vals rd) (fun i m₁ news₁ => (∃ u : Str → Option Value, m₁ = fun y => if dStored.contains y then u y else m5 y) ∧ ∃ G₁ rq₁ re₁ nf₁ u4₁, news₁ = (D, tupO (vals rd)) :: (x, instObj 158 dx) :: (dx, dictOf (attrs w.params t1 t2 t3 t4 d (.ref R) (.int po u3) (.int nf₁ u4₁)) 4) :: (d, od) :: (R, W.listOf (vals rq₁).toArray re₁) :: objs G₁ ∧
      Same G₁ G ∧ rq₁.length ≤ rq.length + i * 100 ∧ nf₁ = nf + i ∧ (absG G₁, rq₁.map (·.1)) = ((rd.take i).map (·.1)).foldl doneN (absG G, rq.map (·.1))) rfl F5 N5 ?hJl ⟨m_form fun _ _ => rfl, G, rq, re, nf, u4, rfl, rfl, by omega, by omega, rfl⟩ ?turn ?done)
  case hJl =>
    rintro i m₁ n₁ ⟨_, G₁, rq₁, re₁, nf₁, u4₁, rfl, _⟩
    exact .head _
  case turn =>
    rintro I i v m₁ news₁ h6 tk6 own hI hv hJJ
    refine exu5a5 hJJ fun u hmE G₁ rq₁ re₁ nf₁ u4₁ hqE1 hsm hrq1 hnf hab => ?_
    clear hJJ
    subst hmE
    subst hqE1
    subst hm5
    rintro hnI hown ⟨io, hio⟩ F6 N6
    obtain ⟨p, hp, rfl⟩ : ∃ p, rd[i]? = some p ∧ v = .int p.1 p.2 := by
      simp only [vals, List.getElem?_map, Option.map_eq_some_iff] at hv
      obtain ⟨p, h1, h2⟩ := hv
      exact ⟨p, h1, h2.symm⟩
    have hi : i < rd.length := by
      have := List.getElem?_eq_some_iff.mp hp
      exact this.1
    have hstat := hok i p hp
    rw [← hab] at hstat
    have hkG : p.1 ∈ keys G₁ := by rw [keys_kvs hsm.kvs]; exact hin p (List.mem_of_getElem? hp)
    have key1 : (keys G₁).Nodup := by rw [keys_kvs hsm.kvs]; exact key0
    obtain ⟨A, n, C, rfl, hnk, hva⟩ := node_of hkG
    dsimp only at hstat
    rw [npOf_mid hnk key1] at hstat
    have nd1 : (x :: dx :: d :: R :: adr (objs (A ++ n :: C))).Nodup := by rw [hsm.adr]; exact nd
    have hD1 : D ∉ x :: dx :: d :: R :: adr (objs (A ++ n :: C)) := by rw [hsm.adr]; exact hD0
    have hI1 : I ∉ x :: dx :: d :: R :: adr (objs (A ++ n :: C)) := by
      intro hm
      have hm' : I ∈ adr ((x, instObj 158 dx) :: (dx, dictOf (attrs w.params t1 t2 t3 t4 d (.ref R) (.int po u3) (.int nf₁ u4₁)) 4) :: (d, od) :: (R, W.listOf (vals rq₁).toArray re₁) :: objs (A ++ n :: C)) := hm
      refine ex1a2 (List.mem_map.mp hm') fun p hp e => ?_
      exact hnI p (.tail _ hp) e
    have how : ∀ p ∈ own, p.1 ∉ x :: dx :: d :: R :: adr (objs (A ++ n :: C)) := fun p hp => by rw [hown p hp]; exact hI1
    refine ex0a6 (facts4 nd1 how) fun f1 f2 f3 jj1 jj2 jj3 => ?_
    refine ex0a6 jj1 fun f41 f42 f43 f44 f45 f46 => ?_
    refine ex0a5 jj2 fun f51 f52 f53 f54 f55 => ?_
    refine ex0a4 jj3 fun f61 f62 f63 f64 => ?_
    obtain ⟨g1, g2, g3, g4, g5⟩ : D ≠ x ∧ D ≠ dx ∧ D ≠ d ∧ D ≠ R ∧ D ≠ n.ia := by
      have h1 : n.ia ∈ adr (objs (A ++ n :: C)) := by rw [objs_mid, adr_append, adr_append]; exact List.mem_append_right _ (List.mem_append_left _ (.head _))
      have h2 := hD1
      simp only [List.mem_cons, not_or] at h2
      exact ⟨h2.1, h2.2.1, h2.2.2.1, h2.2.2.2.1, fun e => h2.2.2.2.2 (e ▸ h1)⟩
    have hod1 := hod
    rw [← hsm.kvs] at hod1
    have N7 : News g L' h6 ((n.ia, infoObj n.da n.key n.tk n.np n.tnp n.la) :: (n.da, dictOf [] 0) :: (n.la, W.listOf (vals n.succ).toArray n.ep) :: (D, tupO (vals rd)) :: (x, instObj 158 dx) :: (dx, dictOf (attrs w.params t1 t2 t3 t4 d (.ref R) (.int po u3) (.int nf₁ u4₁)) 4) :: (d, od) :: (R, W.listOf (vals rq₁).toArray re₁) :: (objs (A ++ C) ++ own)) := News.sub N6 (by rw [objs_mid, objs_append]; (first | (walk_at "MY sub2") | (intro p hp; (simp only [List.mem_append, List.mem_cons, List.not_mem_nil, or_false, false_or, List.append_assoc, List.cons_append, List.nil_append] at hp ⊢); grind)))
    rw [hstat] at N7
    clear N6 N5 F5 hv hod
    k_steps
    show wpAny _ _ _ _ _ _
    obtain ⟨tt, N8⟩ : ∃ tt, News g L' _ ((n.ia, infoObj n.da n.key n.tk (-2) tt n.la) :: (n.da, dictOf [] 0) :: (n.la, W.listOf (vals n.succ).toArray n.ep) :: (D, tupO (vals rd)) :: (x, instObj 158 dx) :: (dx, dictOf (attrs w.params t1 t2 t3 t4 d (.ref R) (.int po u3) (.int nf₁ u4₁)) 4) :: (d, od) :: (R, W.listOf (vals rq₁).toArray re₁) :: (objs (A ++ C) ++ own)) := ⟨_, ‹News g L' _ _›⟩
    have N9 : News g L' _ ((D, tupO (vals rd)) :: (x, instObj 158 dx) :: (dx, dictOf (attrs w.params t1 t2 t3 t4 d (.ref R) (.int po u3) (.int nf₁ u4₁)) 4) :: (d, od) :: (R, W.listOf (vals rq₁).toArray re₁) :: (objs (A ++ { n with np := -2, tnp := tt } :: C) ++ own)) := News.sub N8 (by rw [objs_mid, objs_append]; (first | (walk_at "MY sub2") | (intro p hp; (simp only [List.mem_append, List.mem_cons, List.not_mem_nil, or_false, false_or, List.append_assoc, List.cons_append, List.nil_append] at hp ⊢); grind)))
    have hsm9 : Same (A ++ { n with np := -2, tnp := tt } :: C) (A ++ n :: C) := Same.mid A C n (-2) tt
    have F8 := ‹Fr g L' _ _›
    have hn9 : { n with np := -2, tnp := tt } ∈ A ++ { n with np := -2, tnp := tt } :: C := by simp
    k_dflt (refine iter_lstJ (items := vals n.succ) (n' := n.ep) (fun j m₂ news₂ => (∃ u₂ : Str → Option Value, m₂ = fun y => if dStored.contains y then u₂ y else (if y = Str.ofString "n2i" then some (Value.ref d) else List.lookup y [(Str.ofString "nodes", Value.ref D), (Str.ofString "self", Value.ref x)])) ∧
      ∃ G₂ rq₂ re₂, news₂ = (D, tupO (vals rd)) :: (x, instObj 158 dx) :: (dx, dictOf (attrs w.params t1 t2 t3 t4 d (.ref R) (.int po u3) (.int nf₁ u4₁)) 4) :: (d, od) :: (R, W.listOf (vals rq₂).toArray re₂) :: (objs G₂ ++ own) ∧
        Same G₂ (A ++ { n with np := -2, tnp := tt } :: C) ∧ rq₂.length ≤ rq₁.length + j ∧ (absG G₂, rq₂.map (·.1)) = ((n.succ.take j).map (·.1)).foldl doneS (absG (A ++ { n with np := -2, tnp := tt } :: C), rq₁.map (·.1))) rfl F8 N9 ?hJl2 ⟨m_form (by ((intro y hy; (have hy' := hy); (simp only [List.contains_cons, List.contains_nil, Bool.or_false, Bool.or_eq_false_iff, beq_eq_false_iff_ne, ne_eq] at hy'); first | (simp only [hy, hy', if_false, Bool.false_eq_true, reduceIte]; done) | simp [hy']))), _, rq₁, re₁, rfl, rfl, by omega, rfl⟩ ?turn2 ?done2)
    case hJl2 =>
      rintro j m₁ n₁ ⟨_, G₂, rq₂, re₂, rfl, hs2, _⟩
      obtain ⟨n2, hn2, e2⟩ := hs2.symm.mem hn9
      have e3 : n2.la = n.la := (congrArg Nd.la e2 : n2.sh.la = _)
      have e4 : n2.succ = n.succ := (congrArg Nd.succ e2 : n2.sh.succ = _)
      have e5 : n2.ep = n.ep := (congrArg Nd.ep e2 : n2.sh.ep = _)
      refine .tail _ (.tail _ (.tail _ (.tail _ (.tail _ (List.mem_append_left _ ?_)))))
      rw [objs, List.mem_flatMap]
      exact ⟨n2, hn2, by rw [← e3, ← e4, ← e5]; exact .tail _ (.tail _ (.head _))⟩
    case turn2 =>
      clear N8 N9 F8
      rintro I2 j v₂ m₂ news₂ h14 tk14 own2 hI2 hv₂ hJJ
      refine exu3a4 hJJ fun u₂ hmE G₂ rq₂ re₂ hqE1 hs2 hrq2 hab2 => ?_
      clear hJJ
      subst hmE
      subst hqE1
      rintro hnI2 hown2 ⟨io2, hio2⟩ F14 N14
      obtain ⟨q, hq, rfl⟩ : ∃ q, n.succ[j]? = some q ∧ v₂ = .int q.1 q.2 := by
        simp only [vals, List.getElem?_map, Option.map_eq_some_iff] at hv₂
        obtain ⟨p, h1, h2⟩ := hv₂
        exact ⟨p, h1, h2.symm⟩
      have hsG : Same G₂ G := hs2.trans (hsm9.trans hsm)
      have hkq : q.1 ∈ keys G₂ := by
        rw [keys_kvs hsG.kvs]
        obtain ⟨n3, hn3, e3⟩ := hsm.mem (n := n) (by simp)
        have e4 : n3.succ = n.succ := (congrArg Nd.succ e3 : n3.sh.succ = _)
        exact hcl n3 hn3 q (by rw [e4]; exact List.mem_of_getElem? hq)
      have hjl : j < n.succ.length := (List.getElem?_eq_some_iff.mp hq).1
      have hsl : n.succ.length ≤ 100 := by
        obtain ⟨n3, hn3, e3⟩ := hsm.mem (n := n) (by simp)
        have e4 : n3.succ = n.succ := (congrArg Nd.succ e3 : n3.sh.succ = _)
        rw [← e4]
        exact hsc n3 hn3
      have key2 : (keys G₂).Nodup := by rw [keys_kvs hsG.kvs]; exact key0
      obtain ⟨A', n', C', rfl, hnk', hva'⟩ := node_of hkq
      have nd2 : (x :: dx :: d :: R :: adr (objs (A' ++ n' :: C'))).Nodup := by rw [hsG.adr]; exact nd
      have hD2 : D ∉ x :: dx :: d :: R :: adr (objs (A' ++ n' :: C')) := by rw [hsG.adr]; exact hD0
      have hI3 : I ∉ x :: dx :: d :: R :: adr (objs (A' ++ n' :: C')) := by
        rw [(hs2.trans hsm9).adr]; exact hI1
      have hI4 : I2 ∉ x :: dx :: d :: R :: adr (objs (A' ++ n' :: C')) := by
        intro hm
        have hm' : I2 ∈ adr ((x, instObj 158 dx) :: (dx, dictOf (attrs w.params t1 t2 t3 t4 d (.ref R) (.int po u3) (.int nf₁ u4₁)) 4) :: (d, od) :: (R, W.listOf (vals rq₂).toArray re₂) :: objs (A' ++ n' :: C')) := hm
        refine ex1a2 (List.mem_map.mp hm') fun p hp e => ?_
        exact hnI2 p (.tail _ (List.mem_append_left own hp)) e
      have how2 : ∀ p ∈ own ++ own2, p.1 ∉ x :: dx :: d :: R :: adr (objs (A' ++ n' :: C')) := fun p hp => by
        rcases List.mem_append.mp hp with hp | hp
        · rw [hown p hp]; exact hI3
        · rw [hown2 p hp]; exact hI4
      clear f1 f2 f3 f41 f42 f43 f44 f45 f46 f51 f52 f53 f54 f55 f61 f62 f63 f64 g5
      refine ex0a6 (facts4 nd2 how2) fun f1 f2 f3 jj4 jj5 jj6 => ?_
      refine ex0a6 jj4 fun f41 f42 f43 f44 f45 f46 => ?_
      refine ex0a5 jj5 fun f51 f52 f53 f54 f55 => ?_
      refine ex0a4 jj6 fun f61 f62 f63 f64 => ?_
      have g5 : D ≠ n'.ia := by
        have h1 : n'.ia ∈ adr (objs (A' ++ n' :: C')) := by rw [objs_mid, adr_append, adr_append]; exact List.mem_append_right _ (List.mem_append_left _ (.head _))
        intro e
        exact hD2 (.tail _ (.tail _ (.tail _ (.tail _ (e ▸ h1)))))
      have hod2 := hod1
      rw [← (hs2.trans hsm9).kvs] at hod2
      have N15 : News g L' h14 ((n'.ia, infoObj n'.da n'.key n'.tk n'.np n'.tnp n'.la) :: (n'.da, dictOf [] 0) :: (n'.la, W.listOf (vals n'.succ).toArray n'.ep) :: (D, tupO (vals rd)) :: (x, instObj 158 dx) :: (dx, dictOf (attrs w.params t1 t2 t3 t4 d (.ref R) (.int po u3) (.int nf₁ u4₁)) 4) :: (d, od) :: (R, W.listOf (vals rq₂).toArray re₂) :: (objs (A' ++ C') ++ (own ++ own2))) := News.sub N14 (by rw [objs_mid, objs_append]; (first | (walk_at "MY sub2") | (intro p hp; (simp only [List.mem_append, List.mem_cons, List.not_mem_nil, or_false, false_or, List.append_assoc, List.cons_append, List.nil_append] at hp ⊢); grind)))
      clear N14 hv₂ hod1
      have hab3 : ∀ (tw : Tok) (rq₃ : List (Int × Tok)), rq₃.map (·.1) = (if n'.np - 1 = 0 then rq₂.map (·.1) ++ [q.1] else rq₂.map (·.1)) → (absG (A' ++ { n' with np := n'.np - 1, tnp := tw } :: C'), rq₃.map (·.1)) = ((n.succ.take (j + 1)).map (·.1)).foldl doneS (absG (A ++ { n with np := -2, tnp := tt } :: C), rq₁.map (·.1)) := by
        intro tw rq₃ e
        rw [List.take_add_one, hq, List.map_append, List.foldl_append, ← hab2, e]
        show _ = doneS (absG (A' ++ n' :: C'), rq₂.map (·.1)) q.1
        unfold doneS
        dsimp only
        rw [npOf_mid hnk' key2, setnp_mid hnk' key2 _ tw]
      have fin2 : ∀ (tw : Tok) (rq₃ : List (Int × Tok)) (re₃ : Nat) (hh : Heap) (tk : Nat) (mm : Str → Option Value), Fr g L' hh mm → News g L' hh ((n'.ia, infoObj n'.da n'.key n'.tk (n'.np - 1) tw n'.la) :: (n'.da, dictOf [] 0) :: (n'.la, W.listOf (vals n'.succ).toArray n'.ep) :: (D, tupO (vals rd)) :: (x, instObj 158 dx) :: (dx, dictOf (attrs w.params t1 t2 t3 t4 d (.ref R) (.int po u3) (.int nf₁ u4₁)) 4) :: (d, od) :: (R, W.listOf (vals rq₃).toArray re₃) :: (objs (A' ++ C') ++ (own ++ own2))) →
          rq₃.map (·.1) = (if n'.np - 1 = 0 then rq₂.map (·.1) ++ [q.1] else rq₂.map (·.1)) → rq₃.length ≤ rq₂.length + 1 → (∀ y, dStored.contains y = false → mm y = (if y = Str.ofString "n2i" then some (Value.ref d) else List.lookup y [(Str.ofString "nodes", Value.ref D), (Str.ofString "self", Value.ref x)])) →
          ∃ h' tk' m' news', ({ s with heap := hh, toks := tk } : Shared) = { s with heap := h', toks := tk' } ∧ Fr g L' h' m' ∧ News g L' h' (own2 ++ news') ∧ (∀ p ∈ news', p.1 ≠ I2) ∧ ((∃ u₂ : Str → Option Value, m' = fun y => if dStored.contains y then u₂ y else (if y = Str.ofString "n2i" then some (Value.ref d) else List.lookup y [(Str.ofString "nodes", Value.ref D), (Str.ofString "self", Value.ref x)])) ∧
      ∃ G₂ rq₂ re₂, news' = (D, tupO (vals rd)) :: (x, instObj 158 dx) :: (dx, dictOf (attrs w.params t1 t2 t3 t4 d (.ref R) (.int po u3) (.int nf₁ u4₁)) 4) :: (d, od) :: (R, W.listOf (vals rq₂).toArray re₂) :: (objs G₂ ++ own) ∧
        Same G₂ (A ++ { n with np := -2, tnp := tt } :: C) ∧ rq₂.length ≤ rq₁.length + (j + 1) ∧ (absG G₂, rq₂.map (·.1)) = ((n.succ.take (j + 1)).map (·.1)).foldl doneS (absG (A ++ { n with np := -2, tnp := tt } :: C), rq₁.map (·.1))) := by
        intro tw rq₃ re₃ hh tk mm F₁ N₁ e1 e2 hm₁
        have hsm3 : Same (A' ++ { n' with np := n'.np - 1, tnp := tw } :: C') (A' ++ n' :: C') := Same.mid A' C' n' _ tw
        refine ⟨_, _, _, (D, tupO (vals rd)) :: (x, instObj 158 dx) :: (dx, dictOf (attrs w.params t1 t2 t3 t4 d (.ref R) (.int po u3) (.int nf₁ u4₁)) 4) :: (d, od) :: (R, W.listOf (vals rq₃).toArray re₃) :: (objs (A' ++ { n' with np := n'.np - 1, tnp := tw } :: C') ++ own), rfl, F₁, News.sub N₁ ?_, ?_, m_form hm₁, _, rq₃, re₃, rfl, hsm3.trans hs2, by omega, hab3 tw rq₃ e1⟩
        · rw [objs_mid, objs_append]
          (first | (walk_at "MY sub2") | (intro p hp; (simp only [List.mem_append, List.mem_cons, List.not_mem_nil, or_false, false_or, List.append_assoc, List.cons_append, List.nil_append] at hp ⊢); grind))
        · intro p hp
          rcases List.mem_cons.mp hp with rfl | hp
          · exact hnI2 _ (.head _)
          · have hp' : p ∈ ((x, instObj 158 dx) :: (dx, dictOf (attrs w.params t1 t2 t3 t4 d (.ref R) (.int po u3) (.int nf₁ u4₁)) 4) :: (d, od) :: (R, W.listOf (vals rq₃).toArray re₃) :: objs (A' ++ { n' with np := n'.np - 1, tnp := tw } :: C')) ++ own := hp
            rcases List.mem_append.mp hp' with hp | hp
            · intro e
              have h1 : p.1 ∈ x :: dx :: d :: R :: adr (objs (A' ++ { n' with np := n'.np - 1, tnp := tw } :: C')) := adr_mem hp
              rw [hsm3.adr, e] at h1
              exact hI4 h1
            · exact hnI2 p (.tail _ (.tail _ (.tail _ (.tail _ (.tail _ (List.mem_append_right _ hp))))))
      k_steps
      · have he : n'.np - 1 = 0 := by assumption
        have hJx : ∃ tw re₃, News g L' _ ((n'.ia, infoObj n'.da n'.key n'.tk (n'.np - 1) tw n'.la) :: (n'.da, dictOf [] 0) :: (n'.la, W.listOf (vals n'.succ).toArray n'.ep) :: (D, tupO (vals rd)) :: (x, instObj 158 dx) :: (dx, dictOf (attrs w.params t1 t2 t3 t4 d (.ref R) (.int po u3) (.int nf₁ u4₁)) 4) :: (d, od) :: (R, W.listOf ((vals rq₂).toArray.push (Value.int q.1 q.2)) re₃) :: (objs (A' ++ C') ++ (own ++ own2))) := ⟨_, _, ‹News g L' _ _›⟩
        refine ex2a1 hJx fun tw re₃ N17 => ?_
        clear hJx
        rw [← vals_push] at N17
        exact fin2 tw (rq₂ ++ [(q.1, q.2)]) re₃ _ _ _ ‹Fr g L' _ _› N17 (by rw [if_pos he]; simp) (by simp) (by ((intro y hy; (have hy' := hy); (simp only [List.contains_cons, List.contains_nil, Bool.or_false, Bool.or_eq_false_iff, beq_eq_false_iff_ne, ne_eq] at hy'); first | (simp only [hy, hy', if_false, Bool.false_eq_true, reduceIte]; done) | simp [hy'])))
      · have he : n'.np - 1 ≠ 0 := by assumption
        exact fin2 _ rq₂ re₂ _ _ _ ‹Fr g L' _ _› ‹News g L' _ _› (by rw [if_neg he]) (by omega) (by ((intro y hy; (have hy' := hy); (simp only [List.contains_cons, List.contains_nil, Bool.or_false, Bool.or_eq_false_iff, beq_eq_false_iff_ne, ne_eq] at hy'); first | (simp only [hy, hy', if_false, Bool.false_eq_true, reduceIte]; done) | simp [hy'])))
    case done2 =>
      clear N8 N9 F8
      rintro m₂ news₂ h14 tk14 hJJ
      refine exu3a4 hJJ fun u₂ hmE G₂ rq₂ re₂ hqE1 hs2 hrq2 hab2 => ?_
      clear hJJ
      subst hmE
      subst hqE1
      rintro F14 N14
      have nd2 : (x :: dx :: d :: R :: adr (objs G₂)).Nodup := by rw [(hs2.trans (hsm9.trans hsm)).adr]; exact nd
      have how2 : ∀ p ∈ own, p.1 ∉ x :: dx :: d :: R :: adr (objs G₂) := fun p hp => by rw [(hs2.trans hsm9).adr]; exact how p hp
      clear f1 f2 f3 f41 f42 f43 f44 f45 f46 f51 f52 f53 f54 f55 f61 f62 f63 f64
      refine ex0a4 (facts4' nd2 how2) fun f1 f2 jj7 jj8 => ?_
      refine ex0a3 jj7 fun f31 f32 f33 => ?_
      obtain ⟨f41, f42⟩ := jj8
      dsimp only
      k_steps
      obtain ⟨u4', N17⟩ : ∃ u4', News g L' _ ((D, tupO (vals rd)) :: (x, instObj 158 dx) :: (dx, dictOf (attrs w.params t1 t2 t3 t4 d (.ref R) (.int po u3) (.int (nf₁ + 1) u4')) 4) :: (d, od) :: (R, W.listOf (vals rq₂).toArray re₂) :: (objs G₂ ++ own)) := ⟨_, ‹News g L' _ _›⟩
      have hsl : n.succ.length ≤ 100 := by
        obtain ⟨n3, hn3, e3⟩ := hsm.mem (n := n) (by simp)
        have e4 : n3.succ = n.succ := (congrArg Nd.succ e3 : n3.sh.succ = _)
        rw [← e4]
        exact hsc n3 hn3
      have hvl : (vals n.succ).length = n.succ.length := by simp [vals]
      refine ⟨_, _, _, (D, tupO (vals rd)) :: (x, instObj 158 dx) :: (dx, dictOf (attrs w.params t1 t2 t3 t4 d (.ref R) (.int po u3) (.int (nf₁ + 1) u4')) 4) :: (d, od) :: (R, W.listOf (vals rq₂).toArray re₂) :: objs G₂, rfl, ‹Fr g L' _ _›, News.sub N17 (by (first | (walk_at "MY sub2") | (intro p hp; (simp only [List.mem_append, List.mem_cons, List.not_mem_nil, or_false, false_or, List.append_assoc, List.cons_append, List.nil_append] at hp ⊢); grind))), ?_, m_form (by ((intro y hy; (have hy' := hy); (simp only [List.contains_cons, List.contains_nil, Bool.or_false, Bool.or_eq_false_iff, beq_eq_false_iff_ne, ne_eq] at hy'); first | (simp only [hy, hy', if_false, Bool.false_eq_true, reduceIte]; done) | simp [hy']))), G₂, rq₂, re₂, nf₁ + 1, u4', rfl, hs2.trans (hsm9.trans hsm), by omega, by omega, ?_⟩
      · intro p hp
        rcases List.mem_cons.mp hp with rfl | hp
        · exact hnI _ (.head _)
        · intro e
          have h1 : p.1 ∈ x :: dx :: d :: R :: adr (objs G₂) := adr_mem hp
          rw [(hs2.trans hsm9).adr, e] at h1
          exact hI1 h1
      · rw [hab2, List.take_add_one, hp, List.map_append, List.foldl_append, ← hab, hvl, List.take_length]
        show _ = doneN (absG (A ++ n :: C), rq₁.map (·.1)) p.1
        unfold doneN
        dsimp only
        rw [succOf_mid hnk key1, setnp_mid hnk key1 (-2) tt]
  case done =>
    rintro m₁ news₁ h6 tk6 hJJ
    refine exu5a5 hJJ fun u hmE G₁ rq₁ re₁ nf₁ u4₁ hqE1 hsm hrq1 hnf hab => ?_
    clear hJJ
    subst hmE
    subst hqE1
    subst hm5
    rintro F6 N6
    clear N5 F5
    have hvl : (vals rd).length = rd.length := by simp [vals]
    rw [hvl, List.take_length] at hab
    rw [hvl] at hnf
    subst hnf
    dsimp only
    k_steps
    exact hret _ _ u4₁ G₁ rq₁ re₁ ‹Fr h₀ L _ _› (news_end ‹News h₀ L _ _› (by assumption) N (fun q hq => List.mem_append_right _ (List.mem_append_right _ hq)) (by (first | (walk_at "MY sub2") | (intro p hp; (simp only [List.mem_append, List.mem_cons, List.not_mem_nil, or_false, false_or, List.append_assoc, List.cons_append, List.nil_append] at hp ⊢); grind)))) hsm hab
end
-- plain
section
variable {prog : Program} {w : World} {A : Around} {E : Value → Shared → Prop} {s : Shared} {env : Env} {h₀ : Heap} {x : Str} {body : List Stmt} {Q : Flow → Shared → Prop} {m : Str → Option Value} {news : List (Addr × Obj)}
/-- over the keys of a dict of ints that stands in the ledger -/
theorem iter_dictJ {d : Addr} {od : Obj} {kv : List (Int × Value)} (J : Nat → (Str → Option Value) → List (Addr × Obj) → Prop) (hh : A.handled = none)
    (F : Fr h₀ env.locals s.heap m) (N : News h₀ env.locals s.heap news) (hod : od.IsDictOf (intKind prog w) kv) (lo : (d == sysModules) = false) (hJl : ∀ i m₁ n₁, J i m₁ n₁ → (d, od) ∈ n₁) (hj : J 0 m news)
    (turn : ∀ I i k t m₁ news₁ h tk own, I ≠ d → (∃ v, kv[i]? = some (k, v)) → J i m₁ news₁ → (∀ p ∈ news₁, p.1 ≠ I) → (∀ p ∈ own, p.1 = I) → (∃ o, (I, o) ∈ own) → Fr h₀ env.locals h (fun y => if y = x then some (.int k t) else m₁ y) → News h₀ env.locals h (own ++ news₁) →
      wpAny (model prog w) A (execs body env) (TP h₀ env.locals I own (J (i + 1)) s Q) E { s with heap := h, toks := tk })
    (done : ∀ m₁ news₁ h tk, J kv.length m₁ news₁ → Fr h₀ env.locals h m₁ → News h₀ env.locals h news₁ → Q .next { s with heap := h, toks := tk }) :
    wpAny (model prog w) A (pyIter (.ref d)) (fun it s₂ => LoopAtV prog w A h₀ env x body Q E it s₂) E s := by
  have hl := hJl _ _ _ hj
  have hlt := Heap.lt_size (N _ hl).1
  obtain ⟨ep, hm⟩ := (kda_dict N hl hod).dictAt
  have hne : d ≠ s.heap.objs.size := Nat.ne_of_lt hlt
  refine wpAny_pyIter_dict lo hm ?_
  have W := Walks.dictKeys (prog := prog) (w := w) (knd := intKind prog w) hh s.heap.objs.size d hne kv ep
  refine loop_any (s := { s with heap := s.heap.push _ }) J W (.head _) (fun _ _ st => let ⟨o, ho, _⟩ := st.1; ⟨o, ho⟩) ?_ (next_is_new F) (fun p hp => Nat.ne_of_lt (Heap.lt_size (N p hp).1)) ⟨⟨_, Heap.get?_push_size _ rfl, rfl, rfl⟩, hm.push _⟩ (F.push _) (fun p hp => ⟨Heap.get?_push_of_some _ (N p hp).1, (N p hp).2⟩) hj ?_ ?_
  · intro hm
    rcases List.mem_cons.mp hm with e | hm
    · exact absurd F.ns.lt (e ▸ Nat.lt_irrefl _)
    · exact (N _ hl).2.1 (List.mem_singleton.mp hm).symm
  · rintro i v m₁ news₁ h tk own hi ⟨k, xv, hk, his⟩ hJ hn h2 ⟨io, hio⟩ F₁ N₁
    obtain ⟨t, rfl⟩ := Value.isInt_shape his
    have hown : ∀ p ∈ own, p.1 = s.heap.objs.size ∨ p.1 = d := fun p hp => by
      rcases List.mem_cons.mp (h2 p hp) with e | e
      · exact .inl e
      · exact .inr (List.mem_singleton.mp e)
    refine wpAny_mono (turn s.heap.objs.size i k t m₁ news₁ h tk (own.filter fun p => p.1 == s.heap.objs.size) (Ne.symm hne) ⟨xv, hk⟩ hJ hn (fun p hp => by simpa using (List.mem_filter.mp hp).2) ⟨io, List.mem_filter.mpr ⟨hio, by simp⟩⟩ F₁ (fun p hp => ?_)) (fun f s₂ t => tp_own N₁ (hJl _ _ _ hJ) hown (fun m n hJ => hJl _ m n hJ) t) fun _ _ e => e
    rcases List.mem_append.mp hp with hp | hp
    · exact N₁ p (List.mem_append_left _ (List.mem_filter.mp hp).1)
    · exact N₁ p (List.mem_append_right _ hp)
  · intro m₁ news₁ h tk hJ F₁ N₁
    exact done m₁ news₁ h tk hJ F₁ N₁
end
local macro_rules | `(tactic| walk_at "exec While") => `(tactic| (k_here; k_dflt (refine whl_start 0 ?_); refine Halt.out ?_))
local macro_rules | `(tactic| walk_at "WhlIf") => `(tactic| (first | (refine WhlIf.yes (by assumption) ?_) | (refine WhlIf.no (by assumption) ?_)))
-- plain
section
variable {prog : Program} {w : World} {A₀ : Around} {E : Value → Shared → Prop} {s' : Shared} {base g g₀ h : Heap} {outer : List Env} {L a e : Addr} {m : Str → Option Value} {name : Str} {scope : Scope} {cd : Value}
  {b₀ : Stmt} {suite : List Stmt} {pos np : Pos} {rest : List ExceptHandler} {Q : Flow → Shared → Prop} {news : List (Addr × Obj)} {KF : Frag}
  {p : Program} {loose : List Str} {mean : ExcName → Option Value} {mg mb : Str → Option Value} {x : Str} {X T' : String}

/-- an exception that is made new in this frame and caught in it: the ground's frames turn -/
theorem caught_new (K : Below A₀ base outer g) (hx : Heap.NewExcOf h s'.heap e X) (F : Fr g L h m) (N : News g L h news) (XB : KF.In base) (TB : Top p loose mean mg mb base)
    (D : KtsDicts (outer.filterMap (·.frame)) g)
    (ex : nsIn KF mainGlobals x = some none) (hv : bootBuiltins x = some (.type T')) (hn' : x ≠ "__name__")
    (hexc : isSubtype (.type T') (.type "BaseException") = pure true) (hnt : isSubtype (.type ((Manifest.find? T').elim "type" fun y => y.metatype)) (.type "tuple") = pure false) (hsub : isSubtype (.type X) (.type T') = pure true)
    (k : ∀ h' g', KtsTurn (outer.filterMap (·.frame)) g g' → Fr g' L h' m → News g' L h' news → Below A₀ base outer g' → KF.In g' → Top p loose mean mg mb g' → KtsDicts (outer.filterMap (·.frame)) g' →
      wpAny (model prog w) ((A₀.deeper (envOf name scope L a cd)).mark (some (.ref e))) (execs (b₀ :: suite) (envOf name scope L a cd)) Q E { s' with heap := h' })
    (hk : scope.kind = .function := by rfl) (hxk : (envOf name scope L a cd).kindOf x = some .globalImplicit := by rfl) (hd : (x == ("__debug__" : Str)) = false := by decide)
    (hE : PassesOwnAt (model prog w) ((A₀.deeper (envOf name scope L a cd)).mark (some (.ref e))) (A₀.deeper (envOf name scope L a cd)) (envOf name scope L a cd) E := by passes_own) :
    wpAny (model prog w) (A₀.deeper (envOf name scope L a cd)) (noteFrame (.ref e) (envOf name scope L a cd))
      (fun _ s₂ => wpAny (model prog w) (A₀.deeper (envOf name scope L a cd)) (setFlight (.ref e) none) (fun _ s₃ =>
        wpAny (model prog w) (A₀.deeper (envOf name scope L a cd)) (handleBy (.ref e) (envOf name scope L a cd) (.ExceptHandler (some (.Name x np)) none (b₀ :: suite) pos :: rest)) Q E s₃) E s₂) E s' := by
  have K' := K.push (name := name) (a := a) (cd := cd) F hk
  have hin : ∀ env ∈ (envOf name scope L a cd :: outer), ∀ b, env.frame = some b → b ∈ (envOf name scope L a cd :: outer).filterMap (·.frame) := fun env he b hb => List.mem_filterMap.mpr ⟨env, he, hb⟩
  have hfrn : ∀ q ∈ news, q.1 ∉ (envOf name scope L a cd :: outer).filterMap (·.frame) := fun q hq hm => by
    obtain ⟨env, he, hf⟩ := List.mem_filterMap.mp hm
    rcases List.mem_cons.mp he with rfl | he
    · exact (N q hq).2.1 (Option.some.inj hf).symm
    · obtain ⟨o, ho, _⟩ := (K.frames.mem (List.mem_filterMap.mpr ⟨env, he, hf⟩)).2
      rw [(N q hq).2.2] at ho; cases ho
  have hBG : ∀ b o, h.get? b = some o → b ∉ (envOf name scope L a cd :: outer).filterMap (·.frame) → (hideAll h ((envOf name scope L a cd :: outer).filterMap (·.frame))).get? b = some o := fun b o q nm => hideAll_get _ q nm
  have hBL : (hideAll h ((envOf name scope L a cd :: outer).filterMap (·.frame))).get? L = none := hideAll_none _ (hin _ (.head _) L rfl)
  obtain ⟨ob, vs, he, hcls, hdt, hv1⟩ := hx.there
  have hsz : 1 < vs.size := (Array.getElem?_eq_some_iff.mp hv1).1
  obtain ⟨tp, hv0⟩ : ∃ tp, vs[0]? = some tp := ⟨vs[0]'(by omega), by simp [show 0 < vs.size by omega]⟩
  have hen : (hideAll h ((envOf name scope L a cd :: outer).filterMap (·.frame))).get? e = none := by
    cases q : (hideAll h ((envOf name scope L a cd :: outer).filterMap (·.frame))).get? e with
    | none => rfl
    | some o => have := of_hideAll _ q; rw [hx.new] at this; cases this
  unfold noteFrame
  refine wpAny_bind (wpAny_field he hdt (x := .none) hv1 ?_)
  rw [if_neg (by decide)]
  refine wpAny_entryW (base := hideAll h ((envOf name scope L a cd :: outer).filterMap (·.frame))) (a0 := tp) K'.stack ((funFrames_hide K'.frames hin).of_keeps fun b o hb _ => ⟨o, hx.keeps b o hb, rfl⟩) rfl he (fun b o hb => hx.keeps b o (of_hideAll _ hb)) hen hdt hsz hv0 fun h₄ hN => ?_
  obtain ⟨k1, k2, k3, hsm₄⟩ := hN
  have hheld₄ : Heap.HeldW (hideAll h ((envOf name scope L a cd :: outer).filterMap (·.frame))) (envOf name scope L a cd :: outer) e (.type X) tp L h₄ := ⟨k1, hen, k2, by rw [← hcls]; exact k3⟩
  refine wpAny_landsW hheld₄ fun h₅ hheld hsm₅' => ?_
  have hsm₅ : h.UpToSlots h₅ := ((Heap.UpToSlots.of_keeps hx.keeps).trans hsm₄).trans hsm₅'
  obtain ⟨g₅, T₅, F₅, K₅⟩ := kts_ground K F hBG hheld.1 hsm₅
  have X₅ : KF.In g₅ := XB.keeps K₅.stays
  have P₅ : TopRead p loose mg mb g₅ := topRead_of (TB.keeps K₅.stays)
  obtain ⟨ob, hob, hobc⟩ := hheld.there
  refine wpAny_handleBy_builtin (X := X) (T := T') (b := true) hexc hnt hsub (name_B F₅ X₅ P₅ ex hv hn' ⟨rfl, ⟨ob, hob, hobc⟩, ?_⟩ hk hxk hd)
  refine lands_againW hheld fun h₆ hfl₆ hsm₆ => ?_
  obtain ⟨g₆, T₆, F₆, K₆⟩ := kts_ground K F hBG hfl₆.1 (hsm₅.trans hsm₆)
  have Nl : News g₆ L h₆ news := fun q hq => ⟨hfl₆.1 _ _ (hBG _ _ (N q hq).1 (hfrn q hq)), (N q hq).2.1, T₆.none_ _ (N q hq).2.2⟩
  exact wpAny_passesOwnAt hE (k h₆ g₆ T₆ F₆ Nl K₆ (XB.keeps K₆.stays) (TB.keeps K₆.stays) (D.turn T₆))
end
-- plain
theorem li_slot_ga : Slot "list_iterator" "__getattribute__" "object.__getattribute__" :=
  .of (owner := "object") (n := "__getattribute__") (by rw [typeLookup_type, builtinLookup_eq_fast]; kernel_rfl) (by decide +kernel) (by decide +kernel) (by decide +kernel)
    (by first | exact .inl (by decide +kernel) | exact .inr (by decide +kernel)) (by rw [isSubtype_type]; kernel_rfl)
theorem li_entry_ga : entryFor table "object.__getattribute__" = some Builtin.«object.__getattribute__» := entryFor_of_fast (by kernel_rfl)
theorem li_args_ga (a b : Value) : argsOk "object.__getattribute__" ⟨[a, b], []⟩ := by unfold argsOk; kernel_rfl
theorem wd_slot_get : Slot "wrapper_descriptor" "__get__" "wrapper_descriptor.__get__" :=
  .of (owner := "wrapper_descriptor") (n := "__get__") (by rw [typeLookup_type, builtinLookup_eq_fast]; kernel_rfl) (by decide +kernel) (by decide +kernel) (by decide +kernel)
    (by first | exact .inl (by decide +kernel) | exact .inr (by decide +kernel)) (by rw [isSubtype_type]; kernel_rfl)
theorem wd_entry_get : entryFor table "wrapper_descriptor.__get__" = some Builtin.«wrapper_descriptor.__get__» := entryFor_of_fast (by kernel_rfl)
theorem wd_args_get (a b c : Value) : argsOk "wrapper_descriptor.__get__" ⟨[a, b, c], []⟩ := by unfold argsOk; kernel_rfl
theorem wd_type : typeOf (.builtin "list_iterator.__next__") = pure (.type "wrapper_descriptor") := by show builtinType _ = _; rw [builtinType_eq_fast]; kernel_rfl
theorem wd_noset : typeLookup (.type "wrapper_descriptor") "__set__" = pure none := by rw [typeLookup_type, builtinLookup_eq_fast]; kernel_rfl
theorem wd_nodel : typeLookup (.type "wrapper_descriptor") "__delete__" = pure none := by rw [typeLookup_type, builtinLookup_eq_fast]; kernel_rfl
noncomputable abbrev mwObj (a : Addr) : Obj := { cls := .type "method-wrapper", data := .fields #[.builtin "list_iterator.__next__", .ref a] }
theorem li_owner : ".".intercalate ("list_iterator.__next__".cutAt '.').dropLast = "list_iterator" := by decide +kernel
theorem li_sub : isSubtype (.type "list_iterator") (.type (".".intercalate ("list_iterator.__next__".cutAt '.').dropLast)) = pure true := by
  rw [li_owner, isSubtype_type]; kernel_rfl
theorem meets_wd_get (a : Addr) :
    Meets (Builtin.«wrapper_descriptor.__get__» ⟨[.builtin "list_iterator.__next__", .ref a, .type "list_iterator"], []⟩) (fun _ R s => (∃ o, s.heap.get? a = some o ∧ o.cls = .type "list_iterator") ∧ R (.ok (.ret (.ref s.heap.objs.size))) { s with heap := s.heap.push (mwObj a) }) :=
  Meets.of_wp fun prog w A R s hs => by
    obtain ⟨hp, g, d, tk, os⟩ := s
    obtain ⟨⟨o, hx, hc⟩, hs⟩ := hs
    have hT : (⟨hp, g, d, tk, os⟩ : Shared).TypeIs (.ref a) "list_iterator" := ⟨_, hx, hc⟩
    have f1 := li_sub
    unfold Builtin.«wrapper_descriptor.__get__»
    repeat (any_goals (first | assumption | wp_step))
    exact ⟨_, rfl, hs⟩
theorem meets_li_ga (a : Addr) (u : Tok) :
    Meets (Builtin.«object.__getattribute__» ⟨[.ref a, .str "__next__" u], []⟩) (fun _ R s => (∃ o, s.heap.get? a = some o ∧ o.cls = .type "list_iterator" ∧ o.dict = none ∧ ∃ vs, o.data = .fields vs) ∧ R (.ok (.ret (.ref s.heap.objs.size))) { s with heap := s.heap.push (mwObj a) }) :=
  Meets.of_wp fun prog w A R s hs => by
    obtain ⟨hp, g, d, tk, os⟩ := s
    obtain ⟨⟨⟨c, dct, dat, sl⟩, hx, hc, hd, vs, hv⟩, hs⟩ := hs
    simp only at hc hd hv
    subst hc hd hv
    have hT : (⟨hp, g, d, tk, os⟩ : Shared).TypeIs (.ref a) "list_iterator" := ⟨_, hx, rfl⟩
    have hT5 : (⟨hp, g, d, tk, os⟩ : Shared).TypeIs (.builtin "list_iterator.__next__") "wrapper_descriptor" := wd_type
    have f1 := slot_listiter_next.lookup
    have f2 := wd_type
    have f3 := wd_slot_get.lookup
    have f4 := wd_noset
    have f5 := wd_nodel
    unfold Builtin.«object.__getattribute__»
    repeat (any_goals (first | assumption | ((with_reducible show wpAny _ _ (call (Value.builtin "wrapper_descriptor.__get__") _ _) _ _ _); refine call_meets wd_slot_get hT5 wd_entry_get (wd_args_get _ _ _) (meets_wd_get a) ⟨⟨_, hx, rfl⟩, ?_⟩) | wp_step))
    exact wpAny_pure ⟨_, rfl, hs⟩
theorem li_nogetattr : typeLookup (.type "list_iterator") "__getattr__" = pure none := by rw [typeLookup_type, builtinLookup_eq_fast]; kernel_rfl
section
variable {prog : Program} {w : World} {A : Around} {E : Value → Shared → Prop} {s : Shared}
theorem getAttr_next {a : Addr} {o : Obj} {vs : Array Value} {b : Bool} {Q : Value → Shared → Prop} (hx : s.heap.get? a = some o) (hc : o.cls = .type "list_iterator") (hd : o.dict = none) (hv : o.data = .fields vs)
    (h : Q (.ref s.heap.objs.size) { s with heap := s.heap.push (mwObj a), toks := s.toks + 1 }) : wpAny (model prog w) A (getAttr (.ref a) (Str.ofString "__next__") b) Q E s := by
  obtain ⟨c, dct, dat, sl⟩ := o
  simp only at hc hv hd
  subst hc hv hd
  obtain ⟨hp, g, d, tk, os⟩ := s
  have hT : ∀ tk', (⟨hp, g, d, tk', os⟩ : Shared).TypeIs (.ref a) "list_iterator" := fun _ => ⟨_, hx, rfl⟩
  have f3 := li_slot_ga.lookup
  have f4 := li_slot_ga.bind (.ref a)
  have f5 := li_nogetattr
  unfold getAttr getAttrBy
  cases b <;> repeat (any_goals (first | assumption | exact hT _ | ((with_reducible show wpAny _ _ (call (Value.builtin "object.__getattribute__") _ _) _ _ _); refine call_meets li_slot_ga (hT _) li_entry_ga (li_args_ga _ _) (meets_li_ga a _) ⟨⟨_, hx, rfl, rfl, vs, rfl⟩, ?_⟩) | wp_step))
  all_goals exact wpAny_pure h

theorem callWith_mw {pos : Pos} {u a : Addr} {Q : Value → Shared → Prop} (ho : s.heap.get? u = some (mwObj a))
    (h : wpAny (model prog w) A (call (.ref u) []) Q E s) : wpAny (model prog w) A (callWith pos (.ref u) [] [] []) Q E s := by
  unfold callWith
  refine wpAny_bind (wpAny_holding (evalArgs_nil3 ?_))
  refine wpAny_bind (wpAny_standAt ?_)
  refine wpAny_bind (m := keeperOf (.ref u)) ?_
  unfold keeperOf
  refine wpAny_bind (wpAny_load ho ?_)
  simp only [mwObj, show (Value.type "method-wrapper" != Value.type "method") = true by decide, show (Value.type "method-wrapper" == Value.type "builtin_function_or_method" || Value.type "method-wrapper" == Value.type "method-wrapper") = true by decide, if_true]
  refine wpAny_pure ?_
  exact wpAny_bind (wpAny_mono h (fun r s₂ hr => wpAny_bind (wpAny_holding (wpAny_point (wpAny_pure hr)))) fun _ _ x => x)
theorem check_mw (a : Addr) : checkBoundCall "list_iterator.__next__" ⟨[.ref a], []⟩ = pure () := by first | kernel_rfl | rfl
theorem quiet_mw (a : Addr) : (Code.builtin "list_iterator.__next__" ⟨[.ref a], []⟩).quiet = true := Code.quiet_builtin _ (by decide +kernel)
theorem plain_mw : plainId "list_iterator.__next__" = true := by decide +kernel
theorem call_mw {u a : Addr} {Q : Value → Shared → Prop} (ho : s.heap.get? u = some (mwObj a))
    (h : wpAny (model prog w) A.in1 (Builtin.«list_iterator.__next__» ⟨[.ref a], []⟩) (fun fin s' => ∃ r, fin = .done (.ret r) ∧ Q r s') E s) : wpAny (model prog w) A (call (.ref u) []) Q E s := by
  refine wpAny_call (codeAny_of_tree ?_)
  show wpAny _ A.in1 (callAny (.ref u) ⟨[], []⟩) _ _ s
  simp only [callAny]
  refine wpAny_bind (wpAny_load ho ?_)
  simp only [mwObj, show (Value.type "method-wrapper" == Value.type "method" || Value.type "method-wrapper" == Value.type "builtin_function_or_method" || Value.type "method-wrapper" == Value.type "method-wrapper") = true by decide, if_true]
  show wpAny _ _ (if (Value.type "method-wrapper" != Value.type "method") = true then _ else _) _ _ _
  rw [if_pos (by decide)]
  refine wpAny_bind (wpAny_of_eq (a := ()) (check_mw a) ?_)
  refine wpAny_pure ⟨quiet_mw a, codeAny_builtin entry_listiter_next ?_⟩
  rw [Around.under_plainId plain_mw _]
  exact wpAny_mono h (fun fin s' z => by obtain ⟨r, rfl, hq⟩ := z; exact hq) fun _ _ z => z
noncomputable abbrev liObj (l : Addr) (i : Nat) : Obj := { cls := .type "list_iterator", data := .fields #[.ref l, .int (i : Int) 0] }
theorem next_item {it l : Addr} {i : Nat} {items : Array Value} {x : Value} {Q : Value → Shared → Prop} (ho : s.heap.get? it = some (liObj l i))
    (hl : s.heap.IsList l items) (hx : items[i]? = some x)
    (hQ : ∀ h', h'.get? it = some (liObj l (i + 1)) → Heap.SameBut it s.heap h' → Q x { s with heap := h' }) :
    wpAny (model prog w) A (Builtin.«list_iterator.__next__» ⟨[.ref it], []⟩) (fun fin s' => ∃ r, fin = .done (.ret r) ∧ Q r s') E s := by
  have hd : (liObj l i).data = .fields #[.ref l, .int (i : Int) 0] := rfl
  obtain ⟨ol, hol, _, nl, hdl⟩ := hl
  show wpAny _ _ (field (.ref it) 0 >>= _) _ _ s
  refine wpAny_bind (wpAny_field ho hd (x := .ref l) rfl ?_)
  show wpAny _ _ (if (Value.ref l == Value.none) = true then _ else _) _ _ s
  rw [if_neg (show ¬ ((Value.ref l == Value.none) = true) from Bool.false_ne_true)]
  show wpAny _ _ (field (.ref it) 1 >>= _) _ _ s
  refine wpAny_bind (wpAny_field ho hd (x := .int i 0) rfl ?_)
  show wpAny _ _ (seqItems? (.ref l) >>= _) _ _ s
  refine wpAny_bind (wpAny_seqItems hol hdl ?_)
  simp only [Int.toNat_natCast, hx]
  refine wpAny_bind (wpAny_setField ho hd (by simp) (wpAny_pure ⟨x, rfl, hQ _ ?_ (Heap.SameBut.update ..)⟩))
  rw [Heap.get?_update_self _ ho (Obj.isFreed_of_fields (Obj.data_mapFields hd _))]
  rfl
theorem next_stop {it l : Addr} {i : Nat} {items : Array Value} {Q : Value → Shared → Prop} (hh : A.handled = none) (hit : s.heap.IsListIter it l i)
    (hl : s.heap.IsList l items) (hx : items[i]? = none)
    (hE : ∀ h₁ h' e, Heap.SameBut it s.heap h₁ → (∃ o', h₁.get? it = some o') → Heap.NewExcOf h₁ h' e "StopIteration" → E (.ref e) { s with heap := h' }) :
    wpAny (model prog w) A (Builtin.«list_iterator.__next__» ⟨[.ref it], []⟩) (fun fin s' => ∃ r, fin = .done (.ret r) ∧ Q r s') E s := by
  obtain ⟨o, ho, hc, hd⟩ := id hit
  obtain ⟨ol, hol, _, nl, hdl⟩ := hl
  show wpAny _ _ (field (.ref it) 0 >>= _) _ _ s
  refine wpAny_bind (wpAny_field ho hd (x := .ref l) rfl ?_)
  show wpAny _ _ (if (Value.ref l == Value.none) = true then _ else _) _ _ s
  rw [if_neg (show ¬ ((Value.ref l == Value.none) = true) from Bool.false_ne_true)]
  show wpAny _ _ (field (.ref it) 1 >>= _) _ _ s
  refine wpAny_bind (wpAny_field ho hd (x := .int i 0) rfl ?_)
  show wpAny _ _ (seqItems? (.ref l) >>= _) _ _ s
  refine wpAny_bind (wpAny_seqItems hol hdl ?_)
  simp only [Int.toNat_natCast, hx]
  refine wpAny_bind (wpAny_rule (wpAny_bind (wpAny_setField ho hd (by simp) ?_)))
  show wpAny _ _ (newExc (.type "StopIteration") [] >>= _) _ _ _
  refine wpAny_bind ?_
  simp only [newExc, newTuple]
  refine wpAny_bind (wpAny_newObj_type ?_ (by size_fits))
  refine wpAny_bind (m := firstArgMember _ _) (wpAny_of_eq (a := Value.none) (by first | rfl | (simp only [firstArgMember]; rfl)) ?_)
  refine wpAny_newObj_type ?_ (by size_fits)
  simp only [raiseNew]
  refine wpAny_bind (wpAny_handled ?_)
  rw [show A.handled = none from hh]
  refine wpAny_bind (wpAny_pure (wpAny_throw ?_))
  refine hE _ _ _ (Heap.SameBut.update ..) ⟨_, Heap.get?_update_self _ ho (Obj.isFreed_of_fields (Obj.data_mapFields hd _))⟩ ⟨fun b o hb => Heap.get?_push_of_some _ (Heap.get?_push_of_some _ hb), ?_, ?_⟩
  · cases q : (s.heap.update it (Obj.mapFields fun x => x.setIfInBounds 0 Value.none)).get? ((s.heap.update it (Obj.mapFields fun x => x.setIfInBounds 0 Value.none)).push { cls := Value.type "tuple", data := Data.seq #[] }).objs.size with
    | none => rfl
    | some o => exact absurd (Heap.lt_size q) (by simp [Heap.push])
  · exact ⟨_, _, Heap.get?_push_size _ rfl, rfl, rfl, rfl⟩
end
-- plain
section
variable {prog : Program} {w : World} {A : Around} {E : Value → Shared → Prop} {s : Shared} {h₀ : Heap} {L : Addr} {m : Str → Option Value} {news : List (Addr × Obj)}
theorem iter_L {l : Addr} {vs : List Value} {n : Nat} {Q : Value → Shared → Prop} (F : Fr h₀ L s.heap m) (N : News h₀ L s.heap news) (hp : (l, W.listOf vs.toArray n) ∈ news)
    (h : ∀ (I : Addr) h', Fr h₀ L h' m → News h₀ L h' ((I, liObj l 0) :: news) → (∀ p ∈ news, p.1 < I) → Q (.ref I) { s with heap := h' }) :
    wpAny (model prog w) A (call (.builtin "iter") [.ref l]) Q E s := by
  refine call_function_entry (by decide +kernel) (by decide +kernel) kdk_entry_iter (kdk_args_iter _) ?_
  unfold Builtin.«iter»
  refine wpAny_bind (m := someArgs "iter" 1 2 _) (wpAny_of_eq (a := [Value.ref l]) (by first | rfl | kernel_rfl!) ?_)
  show wpAny _ _ (pyIter (.ref l) >>= _) _ _ _
  refine wpAny_bind (wpAny_pyIter_list (News.isList N hp) ?_)
  exact wpAny_pure ⟨_, rfl, h _ _ (F.push _) (News.push F N _ rfl) (fun q hq => Heap.lt_size (N q hq).1)⟩
theorem next_L {I l : Addr} {i : Nat} {b : Bool} {Q : Value → Shared → Prop} (F : Fr h₀ L s.heap m) (N : News h₀ L s.heap news) (hp : (I, liObj l i) ∈ news)
    (h : ∀ (D : Addr) h', Fr h₀ L h' m → News h₀ L h' ((D, mwObj I) :: news) → (∀ p ∈ news, p.1 < D) → Q (.ref D) { s with heap := h', toks := s.toks + 1 }) :
    wpAny (model prog w) A (getAttr (.ref I) (Str.ofString "__next__") b) Q E s :=
  getAttr_next (N _ hp).1 rfl rfl rfl (h _ _ (F.push _) (News.push F N _ rfl) (fun q hq => Heap.lt_size (N q hq).1))
theorem mwWith_L {pos : Pos} {u I : Addr} {Q : Value → Shared → Prop} (N : News h₀ L s.heap news) (hp : (u, mwObj I) ∈ news)
    (h : wpAny (model prog w) A (call (.ref u) []) Q E s) : wpAny (model prog w) A (callWith pos (.ref u) [] [] []) Q E s := callWith_mw (N _ hp).1 h
theorem item_L {u I l : Addr} {i n : Nat} {vs : List Value} {v : Value} {rest : List (Addr × Obj)} {Q : Value → Shared → Prop} (F : Fr h₀ L s.heap m) (N : News h₀ L s.heap news)
    (hu : (u, mwObj I) ∈ news) (hI : (I, liObj l i) ∈ news) (hl : (l, W.listOf vs.toArray n) ∈ news) (hv : vs[i]? = some v) (hr : ∀ p ∈ rest, p ∈ news ∧ p.1 ≠ I)
    (h : ∀ h', Fr h₀ L h' m → News h₀ L h' ((I, liObj l (i + 1)) :: rest) → Q v { s with heap := h' }) :
    wpAny (model prog w) A (call (.ref u) []) Q E s := by
  refine call_mw (N _ hu).1 (next_item (l := l) (i := i) (items := vs.toArray) (N _ hI).1 (News.isList N hl) (by simpa using hv) fun h' hit hs => ?_)
  have hm := N _ hI
  refine h h' (F.change hs hm.2.1 hm.2.2) fun p hp => ?_
  rcases List.mem_cons.mp hp with rfl | hp
  · exact ⟨hit, hm.2⟩
  · exact ⟨hs.extBut _ _ (hr p hp).2 (N p (hr p hp).1).1, (N p (hr p hp).1).2⟩
theorem stop_L {u I l : Addr} {i n : Nat} {vs : List Value} {rest : List (Addr × Obj)} {Q : Value → Shared → Prop} (hh : A.handled = none) (F : Fr h₀ L s.heap m) (N : News h₀ L s.heap news)
    (hu : (u, mwObj I) ∈ news) (hI : (I, liObj l i) ∈ news) (hl : (l, W.listOf vs.toArray n) ∈ news) (hv : vs[i]? = none) (hr : ∀ p ∈ rest, p ∈ news ∧ p.1 ≠ I)
    (h : ∀ h₁ h' e, Fr h₀ L h₁ m → News h₀ L h₁ rest → Heap.NewExcOf h₁ h' e "StopIteration" → E (.ref e) { s with heap := h' }) :
    wpAny (model prog w) A (call (.ref u) []) Q E s := by
  refine call_mw (N _ hu).1 (next_stop (l := l) (i := i) (items := vs.toArray) hh ⟨_, (N _ hI).1, rfl, rfl⟩ (News.isList N hl) (by simpa using hv) fun h₁ h' e hs ho hx => ?_)
  have hm := N _ hI
  exact h h₁ h' e (F.change hs hm.2.1 hm.2.2) (fun p hp => ⟨hs.extBut _ _ (hr p hp).2 (N p (hr p hp).1).1, (N p (hr p hp).1).2⟩) hx
end
-- plain
/-- the end of a body that may have caught exceptions: the ground's frames may have turned -/
noncomputable def LeaveT (fs : List Addr) (A₀ : Around) (base : Heap) (outer : List Env) (K : Frag) (p : Program) (loose : List Str) (mean : ExcName → Option Value) (mg mb : Str → Option Value) (h₀ : Heap) (L : Addr) (m : Str → Option Value) (g : Heap) (rest : List (Addr × Obj)) (R : Result → Shared → Prop) (v : Value) (s' : Shared) : Prop :=
  ∃ g' L' m' news', KtsTurn fs g g' ∧ Fr g' L' s'.heap m' ∧ News g' L' s'.heap news' ∧ ∀ h₀', KtsTurn (outer.filterMap (·.frame)) h₀ h₀' → Fr h₀' L s'.heap m → News h₀' L s'.heap (news' ++ rest) → Below A₀ base outer h₀' → K.In h₀' → Top p loose mean mg mb h₀' →
    KtsDicts (outer.filterMap (·.frame)) h₀' → R (.ok (.ret v)) s'

section
variable {prog : Program} {w : World} {A₀ A : Around} {s : Shared} {base h₀ : Heap} {outer : List Env} {L : Addr} {m : Str → Option Value} {env : Env} {news rest : List (Addr × Obj)} {K : Frag} {p : Program} {loose : List Str} {mean : ExcName → Option Value} {mg mb : Str → Option Value}
    {R : Result → Shared → Prop} {name qual : Str} {params : Arguments} {body : List Stmt} {scope : Scope} {dV kV doc pm cdv ct oc : Value} {an od : Option Addr} {osl : Array (Option Value)} {f : Addr} {args : Args} {binds : List (Str × Value)}
theorem code_defT (B : Below A₀ base outer h₀) (F : Fr h₀ L s.heap m) (X₀ : K.In h₀) (N : News h₀ L s.heap news) (T : Top p loose mean mg mb h₀) (XB : K.In base) (TB : Top p loose mean mg mb base) (D : KtsDicts (outer.filterMap (·.frame)) h₀)
    (Nr : News h₀ L s.heap rest) (har : ∀ q ∈ rest, q.1 ∉ news.map (·.1)) (hA : A.frames = some (env :: outer)) (hf : env.frame = some L)
    (ho : K.lookup f = some ⟨oc, od, .func (fnOf name qual params body scope dV kV doc pm an cdv ct), osl⟩) (hcd : codeIn K cdv qual = true) (hroom : A.depth < recursionLimit)
    (hbind : BindsTo s (fnOf name qual params body scope dV kV doc pm an cdv ct) args binds) (hloc : ∀ y ∈ binds, scope.names.lookup y.1 = some .local)
    (h : ∀ g L' h₁, Fr h₀ L g m → Fr g L' h₁ (fun y => binds.reverse.lookup y) → News g L' h₁ news → (∀ q ∈ rest, g.get? q.1 = some q.2) → (∀ q ∈ news, q.1 < L') → Below A base (env :: outer) g → K.In g → Top p loose mean mg mb g → KtsDicts ((env :: outer).filterMap (·.frame)) g →
      wpAny (model prog w) (A.deeper (envOf qual scope L' f cdv)) (execs body (envOf qual scope L' f cdv))
        (fun fl s' => LeaveT ((env :: outer).filterMap (·.frame)) A₀ base outer K p loose mean mg mb h₀ L m g rest R (match fl with | .ret v => v | _ => .none) s')
        (fun e s' => wpAny (model prog w) (A.deeper (envOf qual scope L' f cdv)) (leaving (envOf qual scope L' f cdv) e) (fun _ s'' => R (.error e) s'') (fun e' s'' => R (.error e') s'') s')
        { s with heap := h₁, toks := s.toks + binds.length })
    (hck : env.scope.kind = .function) (hco : scope.isCoroutine = false) (hgen : scope.isGenerator = false) (hk : scope.kind = .function)
    (hcell : ∀ x ∈ scope.names, x.2 ≠ .cell) : codeAny (model prog w) A (.call (.ref f) args) R s := by
  have X := X₀.keeps F.keep
  refine codeAny_call_def (fd := fnOf name qual params body scope dV kV doc pm an cdv ct) (body := body) (binds := binds) hroom (X _ _ ho) rfl (T.nolimit.keeps F.keep) (codeRec_of X hcd) rfl hbind hcell hloc (fun h₁ hns hk₁ => ?_) hco hgen hk
  obtain ⟨FG, B₂, st, -⟩ := groundX (R := R) B F N hA hf hck
  have kts_mem : ∀ {b : Addr}, b ∈ (env :: outer).filterMap (·.frame) → b = L ∨ b ∈ outer.filterMap (·.frame) := fun {b} hm => by
    obtain ⟨e', he, hf'⟩ := List.mem_filterMap.mp hm
    rcases List.mem_cons.mp he with rfl | he
    · rw [hf] at hf'
      exact .inl (Option.some.inj hf').symm
    · exact .inr (List.mem_filterMap.mpr ⟨e', he, hf'⟩)
  obtain ⟨oL, es, ep, hL, hLd, hLk, hLf⟩ := F.ns
  have nL : L ∉ news.map (·.1) := fun q => by
    obtain ⟨p, hp, e⟩ := List.mem_map.mp q
    exact (N p hp).2.1 e
  have hLg := hideAll_get (news.map (·.1)) hL nL
  have hNs : ∀ (sl : Array (Option Value)) h', h'.get? L = some { oL with slots := sl } → Heap.Ns h' L m := fun sl h' e => ⟨_, es, ep, e, hLd, hLk, hLf⟩
  have hro : ∀ q ∈ rest, (hideAll s.heap (news.map (·.1))).get? q.1 = some q.2 := fun q hq => hideAll_get _ (Nr q hq).1 (har q hq)
  refine wpAny_mono (h _ s.heap.objs.size h₁ FG ⟨hns, fun b o e => hk₁ b o (of_hideAll _ e), Nat.le_of_eq (hideAll_size _ _)⟩
    (fun p hp => ⟨hk₁ _ _ (N p hp).1, Nat.ne_of_lt (Heap.lt_size (N p hp).1), hideAll_none _ (List.mem_map_of_mem hp)⟩) hro (fun p hp => Heap.lt_size (N p hp).1) B₂ (X₀.keeps st) (T.keeps st) (fun b hb => by
      rcases kts_mem hb with rfl | hb
      · exact ⟨oL, es, ep, hLg, hLd⟩
      · obtain ⟨o, es', n', ho', hd'⟩ := D b hb
        exact ⟨o, es', n', st b o ho', hd'⟩)) (fun fl s' hl => ?_) fun _ _ y => y
  have nL₀ : h₀.get? L = none := kts_self F
  obtain ⟨g', L', m', news', T', F', N', k⟩ := hl
  obtain ⟨sl, hs⟩ := T'.up hLg
  obtain ⟨T₁, S₁⟩ := kts_turn_at (h := s'.heap) (fs := outer.filterMap (·.frame)) (g := h₀)
    (fun b hb => by
      obtain ⟨_, o, ho', _⟩ := B.frames.mem hb
      exact ⟨o, ho'⟩)
    (fun b o e nmem => F'.keep b o (T'.other b o (st b o e) (fun q => by
      rcases kts_mem q with z | z
      · rw [z, nL₀] at e
        cases e
      · exact nmem z)))
    (fun b o e hm => by
      obtain ⟨sl', hs'⟩ := T'.up (st b o e)
      exact ⟨sl', F'.keep _ _ hs'⟩)
  have B₃ : Below A₀ base outer (ktsHeap s'.heap (outer.filterMap (·.frame)) h₀) := ⟨B.stack, fun b o e => T₁.other b o (B.stays b o e) (fun hm => by
    rw [(B.frames.mem hm).1] at e
    cases e), B.frames.of_keeps fun b o e _ => by
    obtain ⟨sl', hs'⟩ := T₁.up e
    exact ⟨_, hs', rfl⟩⟩
  refine k _ T₁ ⟨hNs sl _ (F'.keep _ _ hs), S₁, by rw [T₁.size]; exact F.above⟩ (fun p hp => ?_) B₃ (XB.keeps B₃.stays) (TB.keeps B₃.stays) (D.turn T₁)
  rcases List.mem_append.mp hp with hp | hp
  · refine ⟨(N' p hp).1, fun q => ?_, ?_⟩
    · have := (N' p hp).2.2; rw [q, hs] at this; cases this
    · refine T₁.none_ _ ?_
      cases q : h₀.get? p.1 with
      | none => rfl
      | some o =>
        obtain ⟨sl', hs'⟩ := T'.up (st _ _ q)
        have := (N' p hp).2.2
        rw [hs'] at this
        cases this
  · refine ⟨F'.keep _ _ (T'.other _ _ (hro p hp) fun hm => ?_), (Nr p hp).2.1, T₁.none_ _ (Nr p hp).2.2⟩
    rcases kts_mem hm with z | z
    · exact (Nr p hp).2.1 z
    · obtain ⟨_, o, ho', _⟩ := B.frames.mem z
      rw [(Nr p hp).2.2] at ho'
      cases ho'
end
-- plain
section
variable {prog : Program} {w : World} {A : Around} {E : Value → Shared → Prop} {s : Shared} {env : Env} {g : Heap} {x : Str} {px : Pos} {body : List Stmt} {Q : Flow → Shared → Prop} {m : Str → Option Value} {news : List (Addr × Obj)}
/-- over a dict's keys, where a turn may turn the ground -/
theorem for_dictT {d : Addr} {od : Obj} {kv : List (Int × Value)} (J : Nat → Heap → (Str → Option Value) → List (Addr × Obj) → Prop) (hh : A.handled = none) (hE : PassesOwn (model prog w) A env E)
    (F : Fr g env.locals s.heap m) (N : News g env.locals s.heap news) (hod : od.IsDictOf (intKind prog w) kv) (lo : (d == sysModules) = false) (hJl : ∀ i g' m₁ n₁, J i g' m₁ n₁ → (d, od) ∈ n₁) (hj : J 0 g m news)
    (turn : ∀ I oI i k t g' m₁ news₁ h tk, I ≠ d → (∃ v, kv[i]? = some (k, v)) → J i g' m₁ news₁ → (∀ p ∈ news₁, p.1 ≠ I) → Fr g' env.locals h m₁ → News g' env.locals h ((I, oI) :: news₁) →
      wpAny (model prog w) A (assign (.Name x px) env (.int k t)) (fun _ s₂ => wpAny (model prog w) A (execs body env) (fun f s₃ => match f with
        | .ret v => Q (.ret v) s₃
        | .brk => Q .next s₃
        | _ => Halt (∃ g'' h' tk' m' news', s₃ = { s with heap := h', toks := tk' } ∧ Fr g'' env.locals h' m' ∧ News g'' env.locals h' ((I, oI) :: news') ∧ (∀ p ∈ news', p.1 ≠ I) ∧ J (i + 1) g'' m' news')) E s₂) E { s with heap := h, toks := tk })
    (done : ∀ g' m₁ news₁ h tk, J kv.length g' m₁ news₁ → Fr g' env.locals h m₁ → News g' env.locals h news₁ → Q .next { s with heap := h, toks := tk }) :
    wpAny (model prog w) A (pyIter (.ref d)) (fun it s₂ => codeAny (model prog w) A (.forLoop (.Name x px) it body [] env) (fun r s' => match r with | .ok f => Q f s' | .error e => cameBackBy (model prog w) A env E e s') s₂) E s := by
  have hl := hJl _ _ _ _ hj
  have hlt := Heap.lt_size (N _ hl).1
  obtain ⟨ep, ha⟩ := KdkAt.of hod
  have hne : d ≠ s.heap.objs.size := Nat.ne_of_lt hlt
  refine wpAny_pyIter_dict lo (ha.dictAt (N _ hl).1) ?_
  refine codeAny_forLoop (fun n s' => ∃ i oI g' h tk m₁ news₁, n = kv.length - i ∧ i ≤ kv.length ∧ s' = { s with heap := h, toks := tk } ∧ KdkIter oI d i kv.length ep ∧ Fr g' env.locals h m₁ ∧ News g' env.locals h ((s.heap.objs.size, oI) :: news₁) ∧ (∀ p ∈ news₁, p.1 ≠ s.heap.objs.size) ∧ J i g' m₁ news₁) ?_ (kv.length - 0)
    ⟨0, _, g, _, s.toks, m, news, rfl, Nat.zero_le _, rfl, ⟨rfl, rfl⟩, F.push _, News.push F N _ rfl, fun p hp => Nat.ne_of_lt (Heap.lt_size (N p hp).1), hj⟩
  rintro n s' ⟨i, oI, g', h, tk, m₁, news₁, rfl, hi, rfl, hI, F₁, N₁, hn₁, hJ⟩
  have hit := hI.at (it := s.heap.objs.size) (N₁ _ (.head _)).1
  have hda := ha.dictAt (N₁ _ (.tail _ (hJl _ _ _ _ hJ))).1
  rcases Nat.lt_or_ge i kv.length with hlt | hge
  · obtain ⟨⟨k, v⟩, hx⟩ : ∃ p, kv[i]? = some p := ⟨kv[i], by simp [hlt]⟩
    refine wpAny_pyNext_dict_item hit hda hx fun key h' hkey hit' hs' => ?_
    obtain ⟨t, rfl⟩ := Value.isInt_shape hkey
    obtain ⟨oI', ho', hc', hd'⟩ := hit'
    have hm := N₁ _ (.head _)
    have N₂ : News g' env.locals h' ((s.heap.objs.size, oI') :: news₁) := fun p hp => by
      rcases List.mem_cons.mp hp with rfl | hp
      · exact ⟨ho', hm.2⟩
      · exact ⟨hs'.extBut _ _ (hn₁ p hp) (N₁ p (.tail _ hp)).1, (N₁ p (.tail _ hp)).2⟩
    refine wpAny_mono (turn s.heap.objs.size oI' i k t g' m₁ news₁ h' tk (Ne.symm hne) ⟨v, hx⟩ hJ hn₁ (F₁.change hs' hm.2.1 hm.2.2) N₂) (fun _ s₂ h₂ => ?_) hE
    refine wpAny_mono h₂ (fun f s₃ h₃ => ?_) hE
    have fin : (∃ g'' h' tk' m' news', s₃ = { s with heap := h', toks := tk' } ∧ Fr g'' env.locals h' m' ∧ News g'' env.locals h' ((s.heap.objs.size, oI') :: news') ∧ (∀ p ∈ news', p.1 ≠ s.heap.objs.size) ∧ J (i + 1) g'' m' news') → ∃ n', n' < kv.length - i ∧ ∃ i oI g' h tk m₁ news₁, n' = kv.length - i ∧ i ≤ kv.length ∧ s₃ = { s with heap := h, toks := tk } ∧ KdkIter oI d i kv.length ep ∧ Fr g' env.locals h m₁ ∧ News g' env.locals h ((s.heap.objs.size, oI) :: news₁) ∧ (∀ p ∈ news₁, p.1 ≠ s.heap.objs.size) ∧ J i g' m₁ news₁ := by
      rintro ⟨g'', h'', tk'', m', news', e, F', N', hn', hJ'⟩
      exact ⟨kv.length - (i + 1), by omega, i + 1, oI', g'', h'', tk'', m', news', rfl, hlt, e, ⟨hc', hd'⟩, F', N', hn', hJ'⟩
    cases f with
    | next => exact fin h₃
    | cont => exact fin h₃
    | brk => exact h₃
    | ret v => exact h₃
  · have hie : i = kv.length := Nat.le_antisymm hi hge
    subst hie
    refine wpAny_pyNext_dict_end hh hit hda (by simp) fun h' he' => ?_
    have hm := N₁ _ (.head _)
    exact wpAny_execs_nil (done g' m₁ news₁ h' tk hJ ⟨(by obtain ⟨o, es, ep, ho, r⟩ := F₁.ns; exact ⟨o, es, ep, he' _ _ (Ne.symm hm.2.1) ho, r⟩), fun b o hb => he' b o (fun e => by rw [e, hm.2.2] at hb; cases hb) (F₁.keep b o hb), F₁.above⟩ fun p hp => ⟨he' _ _ (hn₁ p hp) (N₁ p (.tail _ hp)).1, (N₁ p (.tail _ hp)).2⟩)
end
/-- a while loop by an invariant with a number that falls -/
theorem whl_inv {prog : Program} {w : World} {A : Around} {E : Value → Shared → Prop} {env : Env} {test : PySem.Expr} {body orelse : List Stmt} {Q : Flow → Shared → Prop} (I : Nat → Shared → Prop) (hE : PassesOwn (model prog w) A env E)
    (step : ∀ n s, I n s → wpAny (model prog w) A (isTrue test env (eval test env)) (fun b s₂ => WhlIf b (wpAny (model prog w) A (execs body env) (fun f s₃ => match f with
        | .ret v => Q (.ret v) s₃
        | .brk => Q .next s₃
        | _ => Halt (∃ n', n' < n ∧ I n' s₃)) E s₂) (wpAny (model prog w) A (execs orelse env) Q E s₂)) E s) :
    ∀ n s, I n s → WhlRest prog w A E env test body orelse Q 0 s := by
  intro n
  induction n using Nat.strongRecOn with
  | _ n ih =>
    intro s hI
    refine (whl_turn (k := 0) hE (wpAny_mono (step n s hI) (fun b s₂ h₂ => ?_) fun _ _ e => e) : WhlRest prog w A E env test body orelse Q (0 + 1) s)
    cases b with
    | false => exact WhlIf.no rfl (by unfold WhlIf at h₂; rw [if_neg Bool.false_ne_true] at h₂; exact h₂)
    | true =>
      refine WhlIf.yes rfl ?_
      unfold WhlIf at h₂
      rw [if_pos rfl] at h₂
      refine wpAny_mono h₂ (fun f s₃ h₄ => ?_) fun _ _ e => e
      cases f with
      | next => obtain ⟨n', hn', hI'⟩ := h₄; exact ih n' hn' s₃ hI'
      | cont => obtain ⟨n', hn', hI'⟩ := h₄; exact ih n' hn' s₃ hI'
      | brk => exact h₄
      | ret v => exact h₄

/-- where a walk stands that may catch exceptions -/
structure AtT (w : World) (mean : ExcName → Option Value) (mg mb : Str → Option Value) (mar dp un : Nat) (cs : Scope) (A₀ : Around) (base h₀ : Heap) (outer : List Env) (L : Addr) (m : Str → Option Value) (h : Heap) : Prop where
  at_ : At w mean mg mb mar dp un cs A₀ base h₀ outer L m h
  XB : (hd.heap_1 w.params).In base
  TB : Top hd.view_1 Names mean mg mb base
  D : KtsDicts (outer.filterMap (·.frame)) h₀
local macro_rules | `(tactic| walk_at "call builtin:iter") => `(tactic| (k_here; refine Halt.out ?_))
local macro_rules | `(tactic| walk_at "call builtin:list.pop") => `(tactic| (k_here; refine Halt.out ?_))
local macro_rules | `(tactic| walk_at "exec If") => `(tactic| (k_here; (with_reducible rename IfMark => hIM'); refine Halt.out ?_))
local macro_rules | `(tactic| kl_lit) => `(tactic| ((with_reducible rename CompMark => hCM'); exact rfl))
local macro_rules | `(tactic| kl_room) => `(tactic| size_fits)
-- plain
/-! the depth-first walk without the heap -/
inductive Path (g : Gr) : Int → Int → Prop
  | one {a b : Int} : b ∈ succOf g a → Path g a b
  | more {a b c : Int} : Path g a b → c ∈ succOf g b → Path g a c
noncomputable def Cyc (g : Gr) : Prop := ∃ a, Path g a a
/-- each one's successors stand ahead of it -/
noncomputable def Clo (g : Gr) (ord : List Int) : Prop := ∀ pre a post, ord = pre ++ a :: post → ∀ b ∈ succOf g a, b ∈ pre
noncomputable def Acy (g : Gr) : Prop := ∃ ord, Clo g ord ∧ ∀ k ∈ g.map (·.1), k ∈ ord
/-- frames, the top first: a node and how many of its successors were taken -/
noncomputable abbrev Fr0 := List (Int × Nat)
noncomputable def ChP (g : Gr) (ord : List Int) : Int → Fr0 → Prop
  | _, [] => True
  | cur, f :: b => 1 ≤ f.2 ∧ (succOf g f.1)[f.2 - 1]? = some cur ∧ (∀ i, i < f.2 - 1 → ∀ c, (succOf g f.1)[i]? = some c → c ∈ ord) ∧ ChP g ord f.1 b
noncomputable def ChR (g : Gr) (ord : List Int) : Fr0 → Prop
  | [] => True
  | f :: b => (∀ i, i < f.2 → ∀ c, (succOf g f.1)[i]? = some c → c ∈ ord) ∧ ChP g ord f.1 b
theorem ChP.mono {g : Gr} {ord ord' : List Int} (h : ∀ k ∈ ord, k ∈ ord') : ∀ {cur : Int} {fr : Fr0}, ChP g ord cur fr → ChP g ord' cur fr
  | _, [], _ => trivial
  | _, _ :: _, ⟨h1, h2, h3, h4⟩ => ⟨h1, h2, fun i hi c hc => h _ (h3 i hi c hc), ChP.mono h h4⟩
theorem ChP.toR {g : Gr} {ord : List Int} {cur : Int} {fr : Fr0} (h : ChP g ord cur fr) (hc : cur ∈ ord) : ChR g ord fr := by
  cases fr with
  | nil => trivial
  | cons f b =>
    obtain ⟨h1, h2, h3, h4⟩ := h
    refine ⟨fun i hi c hc' => ?_, h4⟩
    by_cases e : i = f.2 - 1
    · subst e
      rw [h2] at hc'
      cases hc'
      exact hc
    · exact h3 i (by omega) c hc'
theorem ChP.push {g : Gr} {ord : List Int} {cur : Int} {fr : Fr0} (h : ChP g ord cur fr) : ChR g ord ((cur, 0) :: fr) := ⟨fun _ hi => absurd hi (Nat.not_lt_zero _), h⟩
theorem ChR.item {g : Gr} {ord : List Int} {f : Int × Nat} {b : Fr0} {c : Int} (h : ChR g ord (f :: b)) (hc : (succOf g f.1)[f.2]? = some c) : ChP g ord c ((f.1, f.2 + 1) :: b) :=
  ⟨Nat.le_add_left _ _, hc, fun i hi c' hc' => h.1 i hi c' hc', h.2⟩
theorem ChR.all {g : Gr} {ord : List Int} {f : Int × Nat} {b : Fr0} (h : ChR g ord (f :: b)) (hc : (succOf g f.1)[f.2]? = none) : ∀ c ∈ succOf g f.1, c ∈ ord := by
  intro c hm
  obtain ⟨i, hi, e⟩ := List.mem_iff_getElem.mp hm
  have hl := List.getElem?_eq_none_iff.mp hc
  exact h.1 i (by omega) c (by rw [List.getElem?_eq_getElem hi, e])
theorem ChR.pop {g : Gr} {ord : List Int} {f : Int × Nat} {b : Fr0} (h : ChR g ord (f :: b)) : ChR g (ord ++ [f.1]) b :=
  (h.2.mono fun _ hk => List.mem_append_left _ hk).toR (by simp)
theorem Clo.pop {g : Gr} {ord : List Int} {k : Int} (h : Clo g ord) (hk : ∀ c ∈ succOf g k, c ∈ ord) : Clo g (ord ++ [k]) := by
  intro pre a post e b hb
  rcases List.eq_nil_or_concat post with rfl | ⟨post', z, rfl⟩
  · obtain ⟨e1, e2⟩ := List.append_inj' e rfl
    cases e2
    rw [← e1]
    exact hk b hb
  · have e' : ord ++ [k] = (pre ++ a :: post') ++ [z] := by rw [e]; simp
    obtain ⟨e1, _⟩ := List.append_inj' e' rfl
    exact h pre a post' e1 b hb
theorem ChP.path {g : Gr} {ord : List Int} : ∀ {cur : Int} {fr : Fr0}, ChP g ord cur fr → ∀ k ∈ fr.map (·.1), Path g k cur
  | _, [], _, k, hk => by simp at hk
  | cur, f :: b, ⟨_, h2, _, h4⟩, k, hk => by
    have e : cur ∈ succOf g f.1 := List.mem_of_getElem? h2
    rcases List.mem_cons.mp hk with rfl | hk
    · exact .one e
    · exact .more (ChP.path h4 k hk) e
noncomputable def rem (g : Gr) (un : List Int) (fr : Fr0) : Nat := (un.map fun k => (succOf g k).length).sum + (fr.map fun f => (succOf g f.1).length - f.2).sum
theorem sum_erase (f : Int → Nat) : ∀ {l : List Int} {a : Int}, a ∈ l → ((l.erase a).map f).sum + f a = (l.map f).sum
  | b :: l, a, h => by
    by_cases e : b = a
    · subst e
      simp
      omega
    · have hm : a ∈ l := by
        rcases List.mem_cons.mp h with e' | h
        · exact absurd e'.symm e
        · exact h
      have := sum_erase f hm
      rw [List.erase_cons_tail (by simpa using e)]
      simp
      omega
theorem rem_push {g : Gr} {un : List Int} {fr : Fr0} {k : Int} (h : k ∈ un) : rem g (un.erase k) ((k, 0) :: fr) = rem g un fr := by
  have := sum_erase (fun k => (succOf g k).length) h
  simp only [rem, List.map_cons, List.sum_cons]
  omega
theorem rem_item {g : Gr} {un : List Int} {f : Int × Nat} {b : Fr0} {c : Int} (hc : (succOf g f.1)[f.2]? = some c) : rem g un ((f.1, f.2 + 1) :: b) + 1 = rem g un (f :: b) := by
  have := (List.getElem?_eq_some_iff.mp hc).1
  simp only [rem, List.map_cons, List.sum_cons]
  omega
theorem rem_pop {g : Gr} {un : List Int} {f : Int × Nat} {b : Fr0} (hc : (succOf g f.1)[f.2]? = none) : rem g un b = rem g un (f :: b) := by
  have := List.getElem?_eq_none_iff.mp hc
  simp only [rem, List.map_cons, List.sum_cons]
  omega
-- plain
structure Fm where
  key : Int
  tk : Tok
  la : Addr
  sc : List (Int × Tok)
  ep : Nat
  pos : Nat
  ia : Addr
  ba : Addr
noncomputable def fabs (fr : List Fm) : Fr0 := fr.map fun f => (f.key, f.pos)
noncomputable def stk (fr : List Fm) : List Value := (fr.map fun f => Value.int f.key f.tk).reverse
noncomputable def its (fr : List Fm) : List Value := (fr.map fun f => Value.ref f.ba).reverse
noncomputable abbrev Fm.objs (f : Fm) : List (Addr × Obj) := [(f.ia, liObj f.la f.pos), (f.ba, mwObj f.ia)]
noncomputable def fobjs (fr : List Fm) : List (Addr × Obj) := fr.flatMap Fm.objs
theorem stk_cons (f : Fm) (fr : List Fm) : stk (f :: fr) = stk fr ++ [Value.int f.key f.tk] := by simp [stk]
theorem its_cons (f : Fm) (fr : List Fm) : its (f :: fr) = its fr ++ [Value.ref f.ba] := by simp [its]
theorem stk_len (fr : List Fm) : (stk fr).length = fr.length := by simp [stk]
theorem its_len (fr : List Fm) : (its fr).length = fr.length := by simp [its]
theorem fobjs_cons (f : Fm) (fr : List Fm) : fobjs (f :: fr) = f.objs ++ fobjs fr := by simp [fobjs]
noncomputable def fkeys (fr : List Fm) : List Int := fr.map (·.key)
theorem fabs_keys (fr : List Fm) : (fabs fr).map (·.1) = fkeys fr := by simp [fabs, fkeys]
structure DfsOk (G : List Nd) (K0 : Nat) (un ord : List Int) (fr : List Fm) (S : Int → Bool) (ns : Nat) (kv : List (Int × Value)) (AD : List Nat) : Prop where
  clo : Clo (absG G) ord
  cov : ∀ k ∈ keys G, k ∈ un ∨ k ∈ fkeys fr ∨ k ∈ ord
  ndp : (fkeys fr).Nodup
  nodes : ∀ f ∈ fr, ∃ n ∈ G, n.key = f.key ∧ n.la = f.la ∧ n.succ = f.sc ∧ n.ep = f.ep
  set : ∀ k, S k = true ↔ k ∈ fkeys fr ∨ k ∈ ord
  cnt : fr.length + ord.length + un.length ≤ K0
  nsz : ns ≤ fr.length + ord.length
  dct : ∀ k, (valueAt kv k).isSome = true ↔ k ∈ fkeys fr
  dsz : kv.length ≤ fr.length + ord.length
  vint : ∀ k v, valueAt kv k = some v → ∃ i t, v = .int i t
  adn : (AD ++ adr (fobjs fr)).Nodup
/-- the ground after some caught exceptions -/
structure GrOk (w : World) (mean : ExcName → Option Value) (mg mb : Str → Option Value) (A : Around) (base : Heap) (out : List Env) (g gg : Heap) : Prop where
  T : KtsTurn (out.filterMap (·.frame)) g gg
  B : Below A base out gg
  X : (hd.heap_1 w.params).In gg
  P : Top hd.view_1 Names mean mg mb gg
  D : KtsDicts (out.filterMap (·.frame)) gg
noncomputable abbrev aroundOf {A : Around} {base g : Heap} {out : List Env} (_ : Below A base out g) : Around := A
noncomputable abbrev outOf {A : Around} {base g : Heap} {out : List Env} (_ : Below A base out g) : List Env := out
theorem adF {I Nm Sn It St x dx d R : Addr} {G : List Nd} {fr : List Fm} (h : ((I :: Nm :: Sn :: It :: St :: x :: dx :: d :: R :: adr (objs G)) ++ adr (fobjs fr)).Nodup) :
    (Nm ≠ Sn ∧ Nm ≠ It ∧ Nm ≠ St ∧ Nm ≠ x ∧ Nm ≠ dx ∧ Nm ≠ d ∧ Nm ≠ R ∧ Nm ≠ I ∧ ∀ p ∈ objs G ++ fobjs fr, p.1 ≠ Nm) ∧
    (Sn ≠ Nm ∧ Sn ≠ It ∧ Sn ≠ St ∧ Sn ≠ x ∧ Sn ≠ dx ∧ Sn ≠ d ∧ Sn ≠ R ∧ Sn ≠ I ∧ ∀ p ∈ objs G ++ fobjs fr, p.1 ≠ Sn) ∧
    (It ≠ Nm ∧ It ≠ Sn ∧ It ≠ St ∧ It ≠ x ∧ It ≠ dx ∧ It ≠ d ∧ It ≠ R ∧ It ≠ I ∧ ∀ p ∈ objs G ++ fobjs fr, p.1 ≠ It) ∧
    (St ≠ Nm ∧ St ≠ Sn ∧ St ≠ It ∧ St ≠ x ∧ St ≠ dx ∧ St ≠ d ∧ St ≠ R ∧ St ≠ I ∧ ∀ p ∈ objs G ++ fobjs fr, p.1 ≠ St) := by
  have key : ∀ b : Addr, b ∉ adr (objs G) ++ adr (fobjs fr) → ∀ p ∈ objs G ++ fobjs fr, p.1 ≠ b := fun b h1 p hp e => by
    rcases List.mem_append.mp hp with hp | hp
    · exact h1 (List.mem_append_left _ (e ▸ adr_mem hp))
    · exact h1 (List.mem_append_right _ (e ▸ adr_mem hp))
  have ne : ∀ {a b : Nat} {l : List Nat}, a ∉ l → b ∈ l → a ≠ b := fun h hb e => h (e ▸ hb)
  have up : ∀ {a b : Nat} {l : List Nat}, a ∉ b :: l → a ∉ l := fun h hb => h (.tail _ hb)
  obtain ⟨hI, tI⟩ := List.nodup_cons.mp h
  obtain ⟨hNm, tNm⟩ := List.nodup_cons.mp tI
  obtain ⟨hSn, tSn⟩ := List.nodup_cons.mp tNm
  obtain ⟨hIt, tIt⟩ := List.nodup_cons.mp tSn
  obtain ⟨hSt, tSt⟩ := List.nodup_cons.mp tIt
  exact ⟨⟨ne hNm (.head _), ne hNm (.tail _ (.head _)), ne hNm (.tail _ (.tail _ (.head _))), ne hNm (.tail _ (.tail _ (.tail _ (.head _)))), ne hNm (.tail _ (.tail _ (.tail _ (.tail _ (.head _))))), ne hNm (.tail _ (.tail _ (.tail _ (.tail _ (.tail _ (.head _)))))), ne hNm (.tail _ (.tail _ (.tail _ (.tail _ (.tail _ (.tail _ (.head _))))))), Ne.symm (ne hI (.head _)), key _ (up (up (up (up (up (up (up (hNm))))))))⟩, ⟨Ne.symm (ne hNm (.head _)), ne hSn (.head _), ne hSn (.tail _ (.head _)), ne hSn (.tail _ (.tail _ (.head _))), ne hSn (.tail _ (.tail _ (.tail _ (.head _)))), ne hSn (.tail _ (.tail _ (.tail _ (.tail _ (.head _))))), ne hSn (.tail _ (.tail _ (.tail _ (.tail _ (.tail _ (.head _)))))), Ne.symm (ne hI (.tail _ (.head _))), key _ (up (up (up (up (up (up (hSn)))))))⟩, ⟨Ne.symm (ne hNm (.tail _ (.head _))), Ne.symm (ne hSn (.head _)), ne hIt (.head _), ne hIt (.tail _ (.head _)), ne hIt (.tail _ (.tail _ (.head _))), ne hIt (.tail _ (.tail _ (.tail _ (.head _)))), ne hIt (.tail _ (.tail _ (.tail _ (.tail _ (.head _))))), Ne.symm (ne hI (.tail _ (.tail _ (.head _)))), key _ (up (up (up (up (up (hIt))))))⟩, ⟨Ne.symm (ne hNm (.tail _ (.tail _ (.head _)))), Ne.symm (ne hSn (.tail _ (.head _))), Ne.symm (ne hIt (.head _)), ne hSt (.head _), ne hSt (.tail _ (.head _)), ne hSt (.tail _ (.tail _ (.head _))), ne hSt (.tail _ (.tail _ (.tail _ (.head _)))), Ne.symm (ne hI (.tail _ (.tail _ (.tail _ (.head _))))), key _ (up (up (up (up (hSt)))))⟩⟩
theorem pick_len (l : List Value) (lo hi : Option Int) : (kms_pick l lo hi).length ≤ l.length := by
  unfold kms_pick
  simp only [List.length_take, List.length_drop]
  omega
/-- a statement's ends are gathered before the walk goes on -/
theorem mono_mid {M : Model} {A : Around} {E : Value → Shared → Prop} {s : Shared} {t : Sem Flow} {Qf : Flow → Shared → Prop} (P : Shared → Prop)
    (h : wpAny M A t (fun f s₂ => match f with | .next => Halt (P s₂) | f => Qf f s₂) E s) (k : ∀ s₂, P s₂ → Qf .next s₂) : wpAny M A t Qf E s :=
  wpAny_mono h (fun f s₂ h₂ => by
    cases f with
    | next => exact k s₂ h₂
    | cont => exact h₂
    | brk => exact h₂
    | ret v => exact h₂) fun _ _ e => e
theorem fr_form {g h : Heap} {L : Addr} {stored : List Str} {m m₀ : Str → Option Value} (F : Fr g L h m) (hm : ∀ y, stored.contains y = false → m y = m₀ y) : ∃ u : Str → Option Value, Fr g L h (fun y => if stored.contains y then u y else m₀ y) := by
  obtain ⟨u, e⟩ := m_form hm
  exact ⟨u, e ▸ F⟩
theorem allLt_mem {D : Addr} {l : List (Addr × Obj)} (h : AllLt D l) : ∀ p ∈ l, p.1 < D := by
  induction l with
  | nil => intro p hp; cases hp
  | cons q l ih =>
    intro p hp
    rcases List.mem_cons.mp hp with e | hp
    · rw [e]; exact h.1
    · exact ih h.2 p hp
theorem lt_adr {D : Addr} {l : List (Addr × Obj)} (h : AllLt D l) : ∀ a ∈ adr l, a < D := fun a ha => by
  obtain ⟨p, hp, e⟩ := List.mem_map.mp ha
  rw [← e]
  exact allLt_mem h p hp
theorem new_nodup {b : Nat} {l : List Nat} (nd : l.Nodup) (h : ∀ a ∈ l, a < b) : (b :: l).Nodup := List.nodup_cons.mpr ⟨fun hm => Nat.lt_irrefl _ (h b hm), nd⟩
theorem all_lt_cons {D c : Nat} {l : List Nat} (h : c < D) (hl : ∀ a ∈ l, a < D) : ∀ a ∈ c :: l, a < D := fun a ha => by
  rcases List.mem_cons.mp ha with e | ha
  · rw [e]; exact h
  · exact hl a ha
theorem all_lt_app {D : Nat} {l l' : List Nat} (h : ∀ a ∈ l, a < D) (hl : ∀ a ∈ l', a < D) : ∀ a ∈ l ++ l', a < D := fun a ha => (List.mem_append.mp ha).elim (h a) (hl a)
theorem ad0 {Nm Sn It St x dx d R : Addr} {G : List Nd} (nd : (x :: dx :: d :: R :: adr (objs G)).Nodup)
    (q1 : x < St ∧ dx < St ∧ d < St ∧ R < St ∧ AllLt St (objs G)) (q2 : St < It ∧ x < It ∧ dx < It ∧ d < It ∧ R < It ∧ AllLt It (objs G)) (q3 : It < Sn ∧ St < Sn ∧ x < Sn ∧ dx < Sn ∧ d < Sn ∧ R < Sn ∧ AllLt Sn (objs G)) (q4 : Sn < Nm ∧ It < Nm ∧ St < Nm ∧ x < Nm ∧ dx < Nm ∧ d < Nm ∧ R < Nm ∧ AllLt Nm (objs G)) :
    (Nm :: Sn :: It :: St :: x :: dx :: d :: R :: adr (objs G)).Nodup := by
  obtain ⟨a1, a2, a3, a4, a5⟩ := q1
  obtain ⟨b0, b1, b2, b3, b4, b5⟩ := q2
  obtain ⟨c9, c0, c1, c2, c3, c4, c5⟩ := q3
  obtain ⟨d8, d9, d0, d1, d2, d3, d4, d5⟩ := q4
  exact new_nodup (new_nodup (new_nodup (new_nodup nd (all_lt_cons a1 (all_lt_cons a2 (all_lt_cons a3 (all_lt_cons a4 (lt_adr a5)))))) (all_lt_cons b0 (all_lt_cons b1 (all_lt_cons b2 (all_lt_cons b3 (all_lt_cons b4 (lt_adr b5)))))))
    (all_lt_cons c9 (all_lt_cons c0 (all_lt_cons c1 (all_lt_cons c2 (all_lt_cons c3 (all_lt_cons c4 (lt_adr c5)))))))) (all_lt_cons d8 (all_lt_cons d9 (all_lt_cons d0 (all_lt_cons d1 (all_lt_cons d2 (all_lt_cons d3 (all_lt_cons d4 (lt_adr d5))))))))
/-- the addresses when a frame is pushed -/
theorem adP {AD : List Nat} {fr : List Fm} {f : Fm} (nd : (AD ++ adr (fobjs fr)).Nodup) (h1 : ∀ a ∈ AD ++ adr (fobjs fr), a < f.ia) (h2 : f.ia < f.ba) (h3 : ∀ a ∈ AD ++ adr (fobjs fr), a < f.ba) : (AD ++ adr (fobjs (f :: fr))).Nodup := by
  have n2 := new_nodup (new_nodup nd h1) (all_lt_cons h2 h3)
  refine nodup_perm n2 fun a => ?_
  rw [fobjs_cons, adr_append]
  simp only [List.count_append, adr, Fm.objs, List.map_cons, List.map_nil, List.count_cons, List.count_nil]
  omega
theorem valueAt_stored_new {kv : List (Int × Value)} {k k' : Int} {v : Value} (h : (valueAt kv k).isSome = false) : valueAt (stored kv k v) k' = if k' = k then some v else valueAt kv k' := by
  rw [stored_new (by simpa using h)]
  unfold valueAt at h ⊢
  rw [List.find?_append]
  by_cases e : k' = k
  · subst e
    rw [if_pos rfl]
    have : (kv.find? fun p => decide (p.1 = k')) = none := by
      have h' : (kv.find? fun p => decide (p.1 = k')).isSome = false := by simpa using h
      simpa using h'
    simp [this]
  · rw [if_neg e]
    have : ([(k, v)].find? fun p => decide (p.1 = k')) = none := by simp [Ne.symm e]
    rw [this, Option.or_none]
theorem DfsOk.push {G : List Nd} {K0 : Nat} {un ord : List Int} {fr : List Fm} {S : Int → Bool} {ns : Nat} {kv : List (Int × Value)} {AD : List Nat} {f : Fm} {nc : Nd} {i : Int} {t : Tok} (ok : DfsOk G K0 un ord fr S ns kv AD)
    (hS : S f.key = false) (hd : (valueAt kv f.key).isSome = false) (hn : nc ∈ G) (h1 : nc.key = f.key) (h2 : nc.la = f.la) (h3 : nc.succ = f.sc) (h4 : nc.ep = f.ep) (hfresh : (AD ++ adr (fobjs (f :: fr))).Nodup) :
    f.key ∈ un ∧ DfsOk G K0 (un.erase f.key) ord (f :: fr) (fun k' => S k' || decide (k' = f.key)) (if S f.key = true then ns else ns + 1) (stored kv f.key (.int i t)) AD := by
  have hnot : ¬ (f.key ∈ fkeys fr ∨ f.key ∈ ord) := fun h => by
    have := (ok.set f.key).mpr h
    rw [hS] at this
    cases this
  have hun : f.key ∈ un := by
    rcases ok.cov f.key (by rw [← h1]; exact List.mem_map_of_mem hn) with h | h
    · exact h
    · exact absurd h hnot
  refine ⟨hun, ok.clo, fun k hk => ?_, ?_, ?_, fun k => ?_, ?_, ?_, fun k => ?_, ?_, fun k v hv => ?_, hfresh⟩
  · by_cases e : k = f.key
    · exact .inr (.inl (by simp [fkeys, e]))
    · rcases ok.cov k hk with h | h | h
      · exact .inl ((List.mem_erase_of_ne e).mpr h)
      · exact .inr (.inl (List.mem_cons_of_mem _ h))
      · exact .inr (.inr h)
  · exact List.nodup_cons.mpr ⟨fun h => hnot (.inl h), ok.ndp⟩
  · intro f' hf'
    rcases List.mem_cons.mp hf' with rfl | hf'
    · exact ⟨nc, hn, h1, h2, h3, h4⟩
    · exact ok.nodes f' hf'
  · have := ok.set k
    simp only [Bool.or_eq_true, decide_eq_true_eq, fkeys, List.map_cons, List.mem_cons] at this ⊢
    rw [this]
    constructor
    · rintro ((h | h) | h)
      · exact .inl (.inr h)
      · exact .inr h
      · exact .inl (.inl h)
    · rintro ((h | h) | h)
      · exact .inr h
      · exact .inl (.inl h)
      · exact .inl (.inr h)
  · have := ok.cnt
    have h5 := List.length_erase_of_mem hun
    have h6 : 0 < un.length := List.length_pos_of_mem hun
    simp only [List.length_cons]
    omega
  · have := ok.nsz
    rw [hS]
    simp only [List.length_cons, Bool.false_eq_true, if_false]
    omega
  · rw [valueAt_stored_new hd]
    have := ok.dct k
    by_cases e : k = f.key
    · simp [e, fkeys]
    · rw [if_neg e, this]
      simp [fkeys, e]
  · have := ok.dsz
    rw [stored_new (by simpa using hd)]
    simp only [List.length_append, List.length_cons, List.length_nil]
    omega
  · rw [valueAt_stored_new hd] at hv
    by_cases e : k = f.key
    · rw [if_pos e] at hv
      cases hv
      exact ⟨i, t, rfl⟩
    · rw [if_neg e] at hv
      exact ok.vint k v hv
-- plain
section
variable {prog : Program} {w : World} {A : Around} {E : Value → Shared → Prop} {s : Shared} {h₀ : Heap} {L l : Addr} {news : List (Addr × Obj)} {vs : List Value} {n : Nat}
theorem truthy_L0 {Q : Bool → Shared → Prop} (N : News h₀ L s.heap news) (hl : (l, W.listOf vs.toArray n) ∈ news) (hv : vs = []) (h : Q false { s with toks := s.toks + 1 + 1 }) : wpAny (model prog w) A (truthy (.ref l)) Q E s := by
  subst hv
  exact wpAny_truthy_list (News.isList N hl) (by decide) h
theorem truthy_L1 {Q : Bool → Shared → Prop} (N : News h₀ L s.heap news) (hl : (l, W.listOf vs.toArray n) ∈ news) (hv : vs ≠ []) (hz : vs.length ≤ 16384) (h : Q true { s with toks := s.toks + 1 + 1 }) : wpAny (model prog w) A (truthy (.ref l)) Q E s := by
  refine wpAny_truthy_list (News.isList N hl) (by rw [List.size_toArray]; omega) ?_
  have e : (!vs.toArray.isEmpty) = true := by simp [hv]
  rw [e]
  exact h
end
section
variable {prog : Program} {w : World} {A : Around} {E : Value → Shared → Prop} {s : Shared} {h₀ : Heap} {L l : Addr} {news : List (Addr × Obj)} {vs : List Value} {n : Nat}
theorem item_last {value slice : PySem.Expr} {u : Tok} {v : Value} {Q : Value → Shared → Prop} (N : News h₀ L s.heap news) (hl : (l, W.listOf vs.toArray n) ∈ news) (hv : ∃ ws, vs = ws ++ [v]) (hz : vs.length ≤ 16384) (h : Q v s)
    (hs : subscripted slice false (.ref l) (.int (-1) u) = operate [.ref l, .int (-1) u] (getItem (.ref l) (.int (-1) u)) := by with_unfolding_all rfl) :
    wpAny (model prog w) A (subscriptTail value slice (.ref l) (.int (-1) u)) Q E s := by
  obtain ⟨ws, rfl⟩ := hv
  refine tail_any (News.isList N hl).typeIs slot_list_getitem.lookup (wpAny_getItem_list_neg (News.isList N hl) (by decide) ?_ (by decide) ?_ h) hs
  · simp only [List.size_toArray, List.length_append, List.length_cons, List.length_nil]
    omega
  · simp only [List.size_toArray, List.length_append, List.length_cons, List.length_nil]
    have e : (-1 + ((ws.length + (0 + 1) : Nat) : Int)).toNat = ws.length := by omega
    rw [e]
    simp
end
theorem adFr {AD : List Nat} {f : Fm} {b : List Fm} (h : (AD ++ adr (fobjs (f :: b))).Nodup) : (∀ a ∈ AD, a ≠ f.ia ∧ a ≠ f.ba) ∧ f.ba ≠ f.ia ∧ (∀ p ∈ fobjs b, p.1 ≠ f.ia ∧ p.1 ≠ f.ba) ∧ (AD ++ adr (fobjs b)).Nodup := by
  rw [fobjs_cons, adr_append] at h
  obtain ⟨h1, h2, h3⟩ := List.nodup_append.mp h
  obtain ⟨h4, h5, h6⟩ := List.nodup_append.mp h2
  refine ⟨fun a ha => ⟨fun e => h3 a ha f.ia (List.mem_append_left _ (.head _)) e, fun e => h3 a ha f.ba (List.mem_append_left _ (.tail _ (.head _))) e⟩, fun e => ?_, fun p hp => ⟨fun e => h6 f.ia (.head _) p.1 (adr_mem hp) e.symm, fun e => h6 f.ba (.tail _ (.head _)) p.1 (adr_mem hp) e.symm⟩, List.nodup_append.mpr ⟨h1, h5, fun a ha c hc e => h3 a ha c (List.mem_append_right _ hc) e⟩⟩
  have h7 : f.ia ∉ [f.ba] := (List.nodup_cons.mp h4).1
  exact h7 (by rw [e]; exact .head _)
theorem hr_cons {p : Addr × Obj} {l L : List (Addr × Obj)} {x : Addr} (h : p ∈ L ∧ p.1 ≠ x) (t : ∀ q ∈ l, q ∈ L ∧ q.1 ≠ x) : ∀ q ∈ p :: l, q ∈ L ∧ q.1 ≠ x := fun q hq => by
  rcases List.mem_cons.mp hq with e | hq
  · rw [e]; exact h
  · exact t q hq
theorem DfsOk.step {G : List Nd} {K0 : Nat} {un ord : List Int} {f : Fm} {b : List Fm} {S : Int → Bool} {ns : Nat} {kv : List (Int × Value)} {AD : List Nat} (ok : DfsOk G K0 un ord (f :: b) S ns kv AD) (p : Nat) : DfsOk G K0 un ord ({ f with pos := p } :: b) S ns kv AD := by
  refine ⟨ok.clo, ok.cov, ok.ndp, fun f' hf' => ?_, ok.set, ok.cnt, ok.nsz, ok.dct, ok.dsz, ok.vint, ?_⟩
  · rcases List.mem_cons.mp hf' with rfl | hf'
    · exact ok.nodes f (.head _)
    · exact ok.nodes f' (.tail _ hf')
  · have := ok.adn
    rw [fobjs_cons, adr_append] at this ⊢
    exact this
theorem valueAt_without {kv : List (Int × Value)} {k k' : Int} : valueAt (without kv k) k' = if k' = k then none else valueAt kv k' := by
  unfold valueAt without
  induction kv with
  | nil => simp
  | cons p kv ih =>
    by_cases e : p.1 = k
    · rw [List.filter_cons_of_neg (by simp [e]), ih]
      by_cases e2 : k' = k
      · simp [e2]
      · rw [if_neg e2, if_neg e2, List.find?_cons_of_neg (by simp [e]; exact fun h => e2 h.symm)]
    · rw [List.filter_cons_of_pos (by simp [e])]
      by_cases e2 : p.1 = k'
      · rw [List.find?_cons_of_pos (by simp [e2]), List.find?_cons_of_pos (by simp [e2])]
        rw [if_neg (fun h => e (e2.trans h))]
      · rw [List.find?_cons_of_neg (by simp [e2]), List.find?_cons_of_neg (by simp [e2])]
        exact ih
theorem without_len (kv : List (Int × Value)) (k : Int) (h : (valueAt kv k).isSome = true) : (without kv k).length + 1 ≤ kv.length := by
  induction kv with
  | nil => simp [valueAt] at h
  | cons p kv ih =>
    unfold without
    by_cases e : p.1 = k
    · rw [List.filter_cons_of_neg (by simp [e])]
      have := List.length_filter_le (fun kv : Int × Value => decide (kv.1 ≠ k)) kv
      simp only [List.length_cons]
      omega
    · rw [List.filter_cons_of_pos (by simp [e])]
      have h2 : (valueAt kv k).isSome = true := by
        unfold valueAt at h ⊢
        rwa [List.find?_cons_of_neg (by simp [e])] at h
      have := ih h2
      unfold without at this
      simp only [List.length_cons]
      omega
theorem DfsOk.pop {G : List Nd} {K0 : Nat} {un ord : List Int} {f : Fm} {b : List Fm} {S : Int → Bool} {ns : Nat} {kv : List (Int × Value)} {AD : List Nat} (ok : DfsOk G K0 un ord (f :: b) S ns kv AD) (hc : Clo (absG G) (ord ++ [f.key])) : DfsOk G K0 un (ord ++ [f.key]) b S ns (without kv f.key) AD := by
  have hnb : f.key ∉ fkeys b := (List.nodup_cons.mp ok.ndp).1
  refine ⟨hc, fun k hk => ?_, (List.nodup_cons.mp ok.ndp).2, fun f' hf' => ok.nodes f' (.tail _ hf'), fun k => ?_, ?_, ?_, fun k => ?_, ?_, fun k v hv => ?_, (adFr ok.adn).2.2.2⟩
  · rcases ok.cov k hk with h | h | h
    · exact .inl h
    · rcases List.mem_cons.mp h with e | h
      · exact .inr (.inr (by simp [e]))
      · exact .inr (.inl h)
    · exact .inr (.inr (List.mem_append_left _ h))
  · rw [ok.set k]
    constructor
    · rintro (h | h)
      · rcases List.mem_cons.mp h with e | h
        · exact .inr (by simp [e])
        · exact .inl h
      · exact .inr (List.mem_append_left _ h)
    · rintro (h | h)
      · exact .inl (List.mem_cons_of_mem _ h)
      · rcases List.mem_append.mp h with h | h
        · exact .inr h
        · exact .inl (by rw [List.mem_singleton.mp h]; exact .head _)
  · have := ok.cnt
    simp only [List.length_cons, List.length_append, List.length_nil] at this ⊢
    omega
  · have := ok.nsz
    simp only [List.length_cons, List.length_append, List.length_nil] at this ⊢
    omega
  · rw [valueAt_without]
    by_cases e : k = f.key
    · rw [if_pos e, e]
      constructor
      · intro h; simp at h
      · intro h; exact absurd h hnb
    · rw [if_neg e, ok.dct k]
      constructor
      · intro h
        rcases List.mem_cons.mp h with e' | h
        · exact absurd e' e
        · exact h
      · exact List.mem_cons_of_mem _
  · have h1 := without_len kv f.key ((ok.dct f.key).mpr (.head _))
    have := ok.dsz
    simp only [List.length_cons, List.length_append, List.length_nil] at this ⊢
    omega
  · rw [valueAt_without] at hv
    by_cases e : k = f.key
    · rw [if_pos e] at hv; cases hv
    · rw [if_neg e] at hv; exact ok.vint k v hv
theorem si_exc : isSubtype (.type "StopIteration") (.type "BaseException") = pure true := by rw [isSubtype_type]; kernel_rfl
theorem si_nt : isSubtype (.type ((Manifest.find? "StopIteration").elim "type" fun y => y.metatype)) (.type "tuple") = pure false := by
  have e : ((Manifest.find? "StopIteration").elim "type" fun y => y.metatype) = "type" := by kernel_rfl
  rw [e, isSubtype_type]; kernel_rfl
theorem si_sub : isSubtype (.type "StopIteration") (.type "StopIteration") = pure true := by rw [isSubtype_type]; kernel_rfl
local macro_rules | `(tactic| walk_at "truthy ref") => `(tactic| (k_here; refine Halt.out ?_))
local macro_rules | `(tactic| walk_at "subscriptTail Name UnaryOp ref int") => `(tactic| (k_here; refine Halt.out ?_))
/-- between two turns of the outer while -/
inductive FindO (w : World) (mean : ExcName → Option Value) (mg mb : Str → Option Value) (A : Around) (base : Heap) (outs : List Env) (g : Heap) (L' : Addr) (s : Shared) (Nm Sn It St x dx d R I : Addr) (t1 t2 t3 t4 : Tok) (po nf : Int) (u3 u4 : Tok) (od oI : Obj) (rq : List (Int × Tok)) (re : Nat) (G : List Nd) (ord₀ : List Int) (k : Int) (n : Nat) (s₁ : Shared) : Prop
  | mk (gg h : Heap) (tk : Nat) (om so : Obj) (e1 e2 : Nat) (ul ord : List Int) (fr : List Fm) (S : Int → Bool) (ns : Nat) (kv : List (Int × Value)) (cur : Int) (tc : Tok) (u : Str → Option Value) (c1 : s₁ = ({ s with heap := h, toks := tk } : Shared)) (c2 : GrOk w mean mg mb A base outs g gg) (c3 : Fr gg L' h (fun y => if y = Str.ofString "node" then some (Value.int cur tc) else (if [Str.ofString "node"].contains y then u y else (if y = Str.ofString "node2stacki" then some (Value.ref Nm) else if y = Str.ofString "seen" then some (.ref Sn) else if y = Str.ofString "itstack" then some (.ref It) else if y = Str.ofString "stack" then some (.ref St) else if y = Str.ofString "n2i" then some (.ref d) else List.lookup y [(Str.ofString "self", Value.ref x)])))) (c4 : News gg L' h ((Nm, om) :: (Sn, so) :: (It, W.listOf (its fr).toArray e2) :: (St, W.listOf (stk fr).toArray e1) :: (x, instObj 158 dx) :: (dx, dictOf (attrs w.params t1 t2 t3 t4 d (.ref R) (.int po u3) (.int nf u4)) 4) :: (d, od) :: (R, W.listOf (vals rq).toArray re) :: (I, oI) :: (objs G ++ fobjs fr))) (c5 : om.IsDictOf (intKind PySem.Challenge.rw_oh0060_01.row.prog w) kv) (c6 : so.SetObjOf (intKind PySem.Challenge.rw_oh0060_01.row.prog w) S ns) (c7 : DfsOk G G.length ul ord fr S ns kv (I :: Nm :: Sn :: It :: St :: x :: dx :: d :: R :: adr (objs G))) (c8 : ∀ z ∈ ord₀, z ∈ ord) (c9 : ChP (absG G) ord cur (fabs fr)) (c10 : cur ∈ keys G) (c11 : fr = [] ∧ cur = k ∨ k ∈ fkeys fr ∨ k ∈ ord) (c12 : n = rem (absG G) ul (fabs fr)) : FindO w mean mg mb A base outs g L' s Nm Sn It St x dx d R I t1 t2 t3 t4 po nf u3 u4 od oI rq re G ord₀ k n s₁
/-- behind the outer while's test -/
inductive FindM (w : World) (mean : ExcName → Option Value) (mg mb : Str → Option Value) (A : Around) (base : Heap) (outs : List Env) (g : Heap) (L' : Addr) (s : Shared) (Nm Sn It St x dx d R I : Addr) (t1 t2 t3 t4 : Tok) (po nf : Int) (u3 u4 : Tok) (od oI : Obj) (rq : List (Int × Tok)) (re : Nat) (G : List Nd) (ord₀ : List Int) (k : Int) (ul₁ : List Int) (fr₁ : List Fm) (s₁ : Shared) : Prop
  | mk (gg h : Heap) (tk : Nat) (om so : Obj) (e1 e2 : Nat) (ul ord : List Int) (fr : List Fm) (S : Int → Bool) (ns : Nat) (kv : List (Int × Value)) (u : Str → Option Value) (c1 : s₁ = ({ s with heap := h, toks := tk } : Shared)) (c2 : GrOk w mean mg mb A base outs g gg) (c3 : Fr gg L' h (fun y => if [Str.ofString "node"].contains y then u y else (if y = Str.ofString "node2stacki" then some (Value.ref Nm) else if y = Str.ofString "seen" then some (.ref Sn) else if y = Str.ofString "itstack" then some (.ref It) else if y = Str.ofString "stack" then some (.ref St) else if y = Str.ofString "n2i" then some (.ref d) else List.lookup y [(Str.ofString "self", Value.ref x)]))) (c4 : News gg L' h ((Nm, om) :: (Sn, so) :: (It, W.listOf (its fr).toArray e2) :: (St, W.listOf (stk fr).toArray e1) :: (x, instObj 158 dx) :: (dx, dictOf (attrs w.params t1 t2 t3 t4 d (.ref R) (.int po u3) (.int nf u4)) 4) :: (d, od) :: (R, W.listOf (vals rq).toArray re) :: (I, oI) :: (objs G ++ fobjs fr))) (c5 : om.IsDictOf (intKind PySem.Challenge.rw_oh0060_01.row.prog w) kv) (c6 : so.SetObjOf (intKind PySem.Challenge.rw_oh0060_01.row.prog w) S ns) (c7 : DfsOk G G.length ul ord fr S ns kv (I :: Nm :: Sn :: It :: St :: x :: dx :: d :: R :: adr (objs G))) (c8 : ∀ z ∈ ord₀, z ∈ ord) (c9 : ChR (absG G) ord (fabs fr)) (c10 : k ∈ fkeys fr ∨ k ∈ ord) (c11 : rem (absG G) ul₁ (fabs fr₁) = rem (absG G) ul (fabs fr)) : FindM w mean mg mb A base outs g L' s Nm Sn It St x dx d R I t1 t2 t3 t4 po nf u3 u4 od oI rq re G ord₀ k ul₁ fr₁ s₁
/-- between two turns of the inner while -/
inductive FindR (w : World) (mean : ExcName → Option Value) (mg mb : Str → Option Value) (A : Around) (base : Heap) (outs : List Env) (g : Heap) (L' : Addr) (s : Shared) (Nm Sn It St x dx d R I : Addr) (t1 t2 t3 t4 : Tok) (po nf : Int) (u3 u4 : Tok) (od oI : Obj) (rq : List (Int × Tok)) (re : Nat) (G : List Nd) (ord₀ : List Int) (k : Int) (ul₁ : List Int) (fr₁ : List Fm) (n : Nat) (s₁ : Shared) : Prop
  | mk (gg h : Heap) (tk : Nat) (om so : Obj) (e1 e2 : Nat) (ul ord : List Int) (fr : List Fm) (S : Int → Bool) (ns : Nat) (kv : List (Int × Value)) (u : Str → Option Value) (c1 : s₁ = ({ s with heap := h, toks := tk } : Shared)) (c2 : GrOk w mean mg mb A base outs g gg) (c3 : Fr gg L' h (fun y => if [Str.ofString "node"].contains y then u y else (if y = Str.ofString "node2stacki" then some (Value.ref Nm) else if y = Str.ofString "seen" then some (.ref Sn) else if y = Str.ofString "itstack" then some (.ref It) else if y = Str.ofString "stack" then some (.ref St) else if y = Str.ofString "n2i" then some (.ref d) else List.lookup y [(Str.ofString "self", Value.ref x)]))) (c4 : News gg L' h ((Nm, om) :: (Sn, so) :: (It, W.listOf (its fr).toArray e2) :: (St, W.listOf (stk fr).toArray e1) :: (x, instObj 158 dx) :: (dx, dictOf (attrs w.params t1 t2 t3 t4 d (.ref R) (.int po u3) (.int nf u4)) 4) :: (d, od) :: (R, W.listOf (vals rq).toArray re) :: (I, oI) :: (objs G ++ fobjs fr))) (c5 : om.IsDictOf (intKind PySem.Challenge.rw_oh0060_01.row.prog w) kv) (c6 : so.SetObjOf (intKind PySem.Challenge.rw_oh0060_01.row.prog w) S ns) (c7 : DfsOk G G.length ul ord fr S ns kv (I :: Nm :: Sn :: It :: St :: x :: dx :: d :: R :: adr (objs G))) (c8 : ∀ z ∈ ord₀, z ∈ ord) (c9 : ChR (absG G) ord (fabs fr)) (c10 : k ∈ fkeys fr ∨ k ∈ ord) (c11 : rem (absG G) ul₁ (fabs fr₁) = rem (absG G) ul (fabs fr)) (c12 : n = fr.length) : FindR w mean mg mb A base outs g L' s Nm Sn It St x dx d R I t1 t2 t3 t4 po nf u3 u4 od oI rq re G ord₀ k ul₁ fr₁ n s₁
section
variable {w : World} {mean : ExcName → Option Value} {mg mb : Str → Option Value} {dp un : Nat} {gd : Option (List Code)} {cn : Str} {cs : Scope} {a : Addr} {ccd : Value} {cl : List (Str × Addr)} {outer : List Env} {A₀ : Around} {base h₀ : Heap} {L : Addr} {m : Str → Option Value} {rest : List (Addr × Obj)} {s : Shared}
  {x dx d R : Addr} {t1 t2 t3 t4 : Tok} {po nf : Int} {u3 u4 : Tok} {od : Obj} {G : List Nd} {rq : List (Int × Tok)} {re : Nat} {Q E : Value → Shared → Prop}

theorem find_K (H : AtT w mean mg mb 8 dp un cs A₀ base h₀ outer L m s.heap)
    (N : News h₀ L s.heap (S4 w.params x dx d R t1 t2 t3 t4 po u3 nf u4 od rq re ++ (objs G ++ rest)))
    (nd : (adr (S4 w.params x dx d R t1 t2 t3 t4 po u3 nf u4 od rq re ++ objs G)).Nodup)
    (har : ∀ q ∈ rest, q.1 ∉ adr (S4 w.params x dx d R t1 t2 t3 t4 po u3 nf u4 od rq re ++ objs G))
    (hod : od.IsDictOf (intKind PySem.Challenge.rw_oh0060_01.row.prog w) (kvs G)) (lo : (d == sysModules) = false)
    (hgl : G.length ≤ 300) (hsc : ∀ n ∈ G, n.succ.length ≤ 100) (hcl : ∀ n ∈ G, ∀ p ∈ n.succ, p.1 ∈ keys G)
    (hretN : ∀ h' tk' h₀', KtsTurn (outer.filterMap (·.frame)) h₀ h₀' → AtT w mean mg mb 8 dp un cs A₀ base h₀' outer L m h' → News h₀' L h' (S4 w.params x dx d R t1 t2 t3 t4 po u3 nf u4 od rq re ++ (objs G ++ rest)) → Acy (absG G) → Q .none { s with heap := h', toks := tk' })
    (hretC : ∀ h' tk' h₀' C vs e, KtsTurn (outer.filterMap (·.frame)) h₀ h₀' → AtT w mean mg mb 8 dp un cs A₀ base h₀' outer L m h' → News h₀' L h' ((C, W.listOf vs.toArray e) :: (S4 w.params x dx d R t1 t2 t3 t4 po u3 nf u4 od rq re ++ (objs G ++ rest))) → vs ≠ [] → vs.length ≤ 1000 → (∀ q ∈ S4 w.params x dx d R t1 t2 t3 t4 po u3 nf u4 od rq re ++ (objs G ++ rest), q.1 ≠ C) → Cyc (absG G) → Q (.ref C) { s with heap := h', toks := tk' }) :
    wpAny (model PySem.Challenge.rw_oh0060_01.row.prog w) (ktrTop dp un gd cn cs L a ccd cl outer) (call (.ref 148) [.ref x]) Q E s := by
  have hQM : QMark := trivial
  obtain ⟨⟨B, F, X, T, hk, hdp, hu⟩, XB, TB, Dc⟩ := H
  have Nf : News h₀ L s.heap ((x, instObj 158 dx) :: (dx, dictOf (attrs w.params t1 t2 t3 t4 d (.ref R) (.int po u3) (.int nf u4)) 4) :: (d, od) :: (R, W.listOf (vals rq).toArray re) :: objs G) := News.sub N (by (first | (walk_at "MY sub2") | (intro p hp; (simp only [List.mem_append, List.mem_cons, List.not_mem_nil, or_false, false_or, List.append_assoc, List.cons_append, List.nil_append] at hp ⊢); grind)))
  have Nr : News h₀ L s.heap rest := News.sub N fun p hp => List.mem_append_right _ (List.mem_append_right _ hp)
  have har' : ∀ q ∈ rest, q.1 ∉ ((x, instObj 158 dx) :: (dx, dictOf (attrs w.params t1 t2 t3 t4 d (.ref R) (.int po u3) (.int nf u4)) 4) :: (d, od) :: (R, W.listOf (vals rq).toArray re) :: objs G).map (·.1) := har
  have hFM : FindMark := trivial
  refine wpAny_call ?_
  ((k_dflt (refine' code_defT ?k1x2 ?k2x2 ?k3x2 ?k4x2 ?k5x2 ?xbx2 ?tbx2 ?Dx2 ?nrx2 ?harx2 ?kAx2 ?kFx2 ?k6x2 ?k7x2 ?k8x2 ?k9x2 ?kBx2 ?_ ?c1x2 ?c2x2 ?c3x2 ?c4x2 ?c5x2; (case kAx2 => exact rfl); (case kFx2 => exact rfl); (case harx2 => assumption); (case k1x2 => k_asm); (case k2x2 => k_asm); (case k3x2 => assumption); (case k4x2 => assumption); (case k5x2 => assumption); (case xbx2 => assumption); (case tbx2 => assumption); (case Dx2 => assumption); (case nrx2 => assumption); (case k6x2 => k_is); (case k7x2 => k_is); (case k8x2 => ktr_room); (case k9x2 => first | exact BindsTo.of_eq rfl | exact binds_K (by k_in) rfl (by k_is) rfl rfl rfl); (case c5x2 => decide); (case kBx2 => exact locs rfl); (case c1x2 => first | exact rfl | assumption); (case c2x2 => exact rfl); (case c3x2 => exact rfl); (case c4x2 => exact rfl); k_whole)))
  intro g L' h₁ FG F' N' hro l1 B' X' T' Dg
  clear B X T Dc FG Nf F
  dsimp only
  try k_fold
  k_steps
  show wpAny _ _ _ _ _ _
  have key0 : (keys G).Nodup := dict_keys hod
  have hJx : ∃ Nm Sn It St om so, Fr g L' _ (fun y => if y = Str.ofString "node2stacki" then some (Value.ref Nm) else if y = Str.ofString "seen" then some (.ref Sn) else if y = Str.ofString "itstack" then some (.ref It) else if y = Str.ofString "stack" then some (.ref St) else if y = Str.ofString "n2i" then some (.ref d) else List.lookup y [(Str.ofString "self", Value.ref x)]) ∧ News g L' _ ((Nm, om) :: (Sn, so) :: (It, W.listOf #[] 0) :: (St, W.listOf #[] 0) :: (x, instObj 158 dx) :: (dx, dictOf (attrs w.params t1 t2 t3 t4 d (.ref R) (.int po u3) (.int nf u4)) 4) :: (d, od) :: (R, W.listOf (vals rq).toArray re) :: objs G) ∧ om.IsDictOf (intKind PySem.Challenge.rw_oh0060_01.row.prog w) [] ∧ (Nm == sysModules) = false ∧ so.SetObjOf (intKind PySem.Challenge.rw_oh0060_01.row.prog w) (fun _ => false) 0 ∧ (x < St ∧ dx < St ∧ d < St ∧ R < St ∧ AllLt St (objs G)) ∧ (St < It ∧ x < It ∧ dx < It ∧ d < It ∧ R < It ∧ AllLt It (objs G)) ∧ (It < Sn ∧ St < Sn ∧ x < Sn ∧ dx < Sn ∧ d < Sn ∧ R < Sn ∧ AllLt Sn (objs G)) ∧ (Sn < Nm ∧ It < Nm ∧ St < Nm ∧ x < Nm ∧ dx < Nm ∧ d < Nm ∧ R < Nm ∧ AllLt Nm (objs G)) := ⟨_, _, _, _, _, _, ‹Fr g L' _ _›, ‹News g L' _ _›, by assumption, by assumption, by assumption, by assumption, by assumption, by assumption, by assumption⟩
  refine ex6a9 hJx fun Nm Sn It St om so F5 N5 hom0 loN hso0 q1 q2 q3 q4 => ?_
  clear hJx
  have hAD0 : (Nm :: Sn :: It :: St :: x :: dx :: d :: R :: adr (objs G)).Nodup := ad0 nd q1 q2 q3 q4
  refine wpAny_For ?_ (fun _ => rfl)
  k_steps
  have hG0 : GrOk w mean mg mb _ base _ g g := ⟨KtsTurn.refl, B', X', T', Dg⟩
  clear B' X' T' Dg
  k_dflt (refine for_dictT (fun i gg m₁ news₁ => GrOk w mean mg mb (ktrTop dp un gd cn cs L a ccd cl outer) base (envX cn cs L a ccd cl :: outer) g gg ∧ (∃ u : Str → Option Value, m₁ = fun y => if [Str.ofString "node"].contains y then u y else (if y = Str.ofString "node2stacki" then some (Value.ref Nm) else if y = Str.ofString "seen" then some (.ref Sn) else if y = Str.ofString "itstack" then some (.ref It) else if y = Str.ofString "stack" then some (.ref St) else if y = Str.ofString "n2i" then some (.ref d) else List.lookup y [(Str.ofString "self", Value.ref x)])) ∧
      ∃ om so e1 e2 ul ord S ns kv, news₁ = (Nm, om) :: (Sn, so) :: (It, W.listOf (its []).toArray e2) :: (St, W.listOf (stk []).toArray e1) :: (x, instObj 158 dx) :: (dx, dictOf (attrs w.params t1 t2 t3 t4 d (.ref R) (.int po u3) (.int nf u4)) 4) :: (d, od) :: (R, W.listOf (vals rq).toArray re) :: objs G ∧ om.IsDictOf (intKind PySem.Challenge.rw_oh0060_01.row.prog w) kv ∧ so.SetObjOf (intKind PySem.Challenge.rw_oh0060_01.row.prog w) S ns ∧ DfsOk G G.length ul ord [] S ns kv (Nm :: Sn :: It :: St :: x :: dx :: d :: R :: adr (objs G)) ∧ ∀ j, j < i → ∀ k v, (kvs G)[j]? = some (k, v) → k ∈ ord) rfl ?hE F5 N5 hod lo ?hJl ⟨hG0, m_form fun _ _ => rfl, om, so, 0, 0, keys G, [], fun _ => false, 0, [], rfl, hom0, hso0, ?ok0, fun j hj => absurd hj (Nat.not_lt_zero _)⟩ ?turn ?done)
  case hE => passes_own
  case hJl =>
    rintro i gg m₁ n₁ ⟨_, _, om, so, e1, e2, ul, ord, S, ns, kv, rfl, _⟩
    k_mem
  case ok0 =>
    refine ⟨?_, fun k hk => .inl hk, List.nodup_nil, fun f hf => by simp at hf, fun k => by simp [fkeys], by simp [keys], Nat.zero_le _, fun k => by simp [valueAt, fkeys], Nat.zero_le _, fun k v h => by simp [valueAt] at h, by simpa [fobjs] using hAD0⟩
    intro pre a post e
    simp at e
  case turn =>
    rintro I oI i k t gg m₁ news₁ h6 tk6 hId ⟨v, hv⟩ hJJ
    refine exg9a5 hJJ fun hgr0 u hmE om so e1 e2 ul ord S ns kv hqE1 hom hso ok hord => ?_
    clear hJJ
    obtain ⟨hTg, Bg, Xg, Pg, Dg⟩ := hgr0
    subst hmE
    subst hqE1
    rintro hnI F6 N6
    clear F5 N5 hG0 hom0 hso0
    have hcnt := ok.cnt
    have hns := ok.nsz
    simp only [List.length_nil] at hcnt hns
    have hkk : k ∈ keys G := by
      have h1 := List.mem_of_getElem? hv
      simp only [kvs, List.mem_map] at h1
      obtain ⟨n, hn, e⟩ := h1
      simp only [Prod.mk.injEq] at e
      rw [← e.1]
      exact List.mem_map_of_mem hn
    have hI0 : (I : Nat) ∉ (Nm :: Sn :: It :: St :: x :: dx :: d :: R :: adr (objs G)) := by
      intro hm
      have hm' : I ∈ adr ((Nm, om) :: (Sn, so) :: (It, W.listOf (its []).toArray e2) :: (St, W.listOf (stk []).toArray e1) :: (x, instObj 158 dx) :: (dx, dictOf (attrs w.params t1 t2 t3 t4 d (.ref R) (.int po u3) (.int nf u4)) 4) :: (d, od) :: (R, W.listOf (vals rq).toArray re) :: objs G) := hm
      refine ex1a2 (List.mem_map.mp hm') fun p hp e => ?_
      exact hnI p hp e
    k_steps
    · show Halt _
      have hS : S k = true := by assumption
      refine ⟨gg, _, _, _, _, rfl, ‹Fr gg L' _ _›, ‹News gg L' _ _›, hnI, ⟨hTg, Bg, Xg, Pg, Dg⟩, m_form (by ((intro y hy; (have hy' := hy); (simp only [List.contains_cons, List.contains_nil, Bool.or_false, Bool.or_eq_false_iff, beq_eq_false_iff_ne, ne_eq] at hy'); first | (simp only [hy, hy', if_false, Bool.false_eq_true, reduceIte]; done) | simp [hy']))), om, so, e1, e2, ul, ord, S, ns, kv, rfl, by assumption, by assumption, ok, ?_⟩
      intro j hj k' v' hv'
      by_cases e : j = i
      · subst e
        rw [hv] at hv'
        cases hv'
        rcases (ok.set k).mp hS with h | h
        · simp [fkeys] at h
        · exact h
      · exact hord j (by omega) k' v' hv'
    · show WhlRest _ _ _ _ _ _ _ _ _ _ _
      have hS : S k = false := by
        first | assumption | simpa using ‹¬ S k = true›
      obtain ⟨ord₀, hord₀⟩ : ∃ ord₀, ord₀ = ord := ⟨_, rfl⟩
      have hordK : ∀ j, j < i + 1 → ∀ k' v', (kvs G)[j]? = some (k', v') → k' = k ∨ k' ∈ ord₀ := by
        intro j hj k' v' hv'
        by_cases e : j = i
        · subst e
          rw [hv] at hv'
          cases hv'
          exact .inl rfl
        · exact .inr (hord₀ ▸ hord j (by omega) k' v' hv')
      obtain ⟨PO, hPO⟩ : ∃ P, P = FindO w mean mg mb (ktrTop dp un gd cn cs L a ccd cl outer) base (envX cn cs L a ccd cl :: outer) g L' s Nm Sn It St x dx d R I t1 t2 t3 t4 po nf u3 u4 od oI rq re G ord₀ k := ⟨_, rfl⟩
      refine whl_inv PO ?hE2 ?step1 (rem (absG G) ul []) _ ?init1
      case hE2 => passes_own
      case init1 =>
        rw [hPO]
        refine ⟨gg, _, _, om, so, e1, e2, ul, ord, [], S, ns, kv, k, t, u, rfl, ⟨hTg, Bg, Xg, Pg, Dg⟩, ‹Fr gg L' _ _›, News.sub ‹News gg L' _ _› (by simp only [fobjs, List.flatMap_nil, List.append_nil]; (first | (walk_at "MY sub2") | (intro p hp; (simp only [List.mem_append, List.mem_cons, List.not_mem_nil, or_false, false_or, List.append_assoc, List.cons_append, List.nil_append] at hp ⊢); grind))), by assumption, by assumption, { ok with adn := ?_ }, fun z hz => hord₀ ▸ hz, trivial, hkk, .inl ⟨rfl, rfl⟩, rfl⟩
        exact List.nodup_cons.mpr ⟨fun hm => (List.mem_append.mp hm).elim hI0 (fun h => by cases h), ok.adn⟩
      case step1 =>
        (try clear hord); (try clear hom); (try clear hso); (try clear hv); (try clear hcnt); (try clear hns); (try clear F6); (try clear N6); (try clear Bg); (try clear Xg); (try clear Pg); (try clear Dg); (try clear hTg)
        rintro n s₁ hO1
        rw [hPO] at hO1
        obtain ⟨gg, h, tk, om, so, e1, e2, ul, ord, fr, S, ns, kv, cur, tc, u, rfl, ⟨hTg, Bg, Xg, Pg, Dg⟩, F7, N7, hom, hso, ok, hsub, hch, hcur, hk0, rfl⟩ := hO1
        have hcnt := ok.cnt
        have hns := ok.nsz
        have hds := ok.dsz
        refine ex0a4 (adF ok.adn) fun jj1 jj2 jj3 jj4 => ?_
        refine ex0a9 jj1 fun na1 na2 na3 na4 na5 na6 na7 na8 na9 => ?_
        refine ex0a9 jj2 fun sa1 sa2 sa3 sa4 sa5 sa6 sa7 sa8 sa9 => ?_
        refine ex0a9 jj3 fun ia1 ia2 ia3 ia4 ia5 ia6 ia7 ia8 ia9 => ?_
        refine ex0a9 jj4 fun ta1 ta2 ta3 ta4 ta5 ta6 ta7 ta8 ta9 => ?_
        refine ex3a3 (node_of hcur) fun A nc C hG hnk hva => ?_
        have hmn : ∀ p ∈ nc.objs, p ∈ objs G := fun p hp => by rw [hG, objs_mid]; exact List.mem_append_right _ (List.mem_append_left _ hp)
        have hne : ∀ b : Addr, (∀ p ∈ objs G ++ fobjs fr, p.1 ≠ b) → b ≠ nc.ia ∧ b ≠ nc.da ∧ b ≠ nc.la := fun b hb =>
          ⟨fun e => hb _ (List.mem_append_left _ (hmn _ (.head _))) e.symm, fun e => hb _ (List.mem_append_left _ (hmn _ (.tail _ (.head _)))) e.symm, fun e => hb _ (List.mem_append_left _ (hmn _ (.tail _ (.tail _ (.head _))))) e.symm⟩
        refine ex0a3 (hne _ na9) fun nb1 nb2 nb3 => ?_
        refine ex0a3 (hne _ sa9) fun sb1 sb2 sb3 => ?_
        refine ex0a3 (hne _ ia9) fun ib1 ib2 ib3 => ?_
        refine ex0a3 (hne _ ta9) fun tb1 tb2 tb3 => ?_
        have hil : (its fr).length = fr.length := its_len fr
        have hsl : (stk fr).length = fr.length := stk_len fr
        have N8 : News gg L' h ((nc.ia, infoObj nc.da nc.key nc.tk nc.np nc.tnp nc.la) :: (nc.da, dictOf [] 0) :: (nc.la, W.listOf (vals nc.succ).toArray nc.ep) :: (Nm, om) :: (Sn, so) :: (It, W.listOf (its fr).toArray e2) :: (St, W.listOf (stk fr).toArray e1) :: (x, instObj 158 dx) :: (dx, dictOf (attrs w.params t1 t2 t3 t4 d (.ref R) (.int po u3) (.int nf u4)) 4) :: (d, od) :: (R, W.listOf (vals rq).toArray re) :: (I, oI) :: (objs G ++ fobjs fr)) := News.sub N7 (by
          intro p hp
          rcases List.mem_cons.mp hp with rfl | hp
          · exact .tail _ (.tail _ (.tail _ (.tail _ (.tail _ (.tail _ (.tail _ (.tail _ (.tail _ (List.mem_append_left _ (hmn _ (.head _)))))))))))
          rcases List.mem_cons.mp hp with rfl | hp
          · exact .tail _ (.tail _ (.tail _ (.tail _ (.tail _ (.tail _ (.tail _ (.tail _ (.tail _ (List.mem_append_left _ (hmn _ (.tail _ (.head _))))))))))))
          rcases List.mem_cons.mp hp with rfl | hp
          · exact .tail _ (.tail _ (.tail _ (.tail _ (.tail _ (.tail _ (.tail _ (.tail _ (.tail _ (List.mem_append_left _ (hmn _ (.tail _ (.tail _ (.head _)))))))))))))
          exact hp)
        clear N7
        have hIM : IfMark := trivial
        obtain ⟨ul₁, hul₁⟩ : ∃ ul₁, ul₁ = ul := ⟨_, rfl⟩
        obtain ⟨fr₁, hfr₁⟩ : ∃ fr₁, fr₁ = fr := ⟨_, rfl⟩
        k_steps
        show wpAny _ _ _ _ _ _
        rename IfMark => hIM
        clear hIM
        obtain ⟨PM, hPM⟩ : ∃ P, P = FindM w mean mg mb (ktrTop dp un gd cn cs L a ccd cl outer) base (envX cn cs L a ccd cl :: outer) g L' s Nm Sn It St x dx d R I t1 t2 t3 t4 po nf u3 u4 od oI rq re G ord₀ k ul₁ fr₁ := ⟨_, rfl⟩
        refine mono_mid PM ?ifp ?rest
        case ifp =>
          cases hS1 : S cur with
          | true =>
            cases hd1 : (valueAt kv cur).isSome with
            | true =>
              --<A
              obtain ⟨vv, hvv⟩ := Option.isSome_iff_exists.mp hd1
              obtain ⟨iv, tv, rfl⟩ := ok.vint _ _ hvv
              have hpk := pick_len (stk fr) (some iv) none
              have hCM : CompMark := trivial
              k_steps
              have hcy : Cyc (absG G) := ⟨cur, hch.path cur (by rw [fabs_keys]; exact (ok.dct cur).mp hd1)⟩
              rename_i D' _ _ hN hl
              refine ex0a15 (hl) fun _ _ _ _ _ _ _ _ _ l1 l2 l3 l4 _ l5 => ?_
              have hD' : ∀ q ∈ S4 w.params x dx d R t1 t2 t3 t4 po u3 nf u4 od rq re ++ (objs G ++ rest), q.1 ≠ D' := by
                intro q hq e
                have l5' := allLt_mem l5
                rcases List.mem_append.mp hq with hq | hq
                · simp only [List.mem_cons, List.not_mem_nil, or_false] at hq
                  rcases hq with rfl | rfl | rfl | rfl
                  · exact Nat.ne_of_lt l1 e
                  · exact Nat.ne_of_lt l2 e
                  · exact Nat.ne_of_lt l3 e
                  · exact Nat.ne_of_lt l4 e
                · rcases List.mem_append.mp hq with hq | hq
                  · exact Nat.ne_of_lt (l5' q (List.mem_append_left _ hq)) e
                  · obtain ⟨sl, hsl⟩ := hTg.up (hro q hq)
                    have := (hN _ (.head _)).2.2
                    rw [← e, hsl] at this
                    cases this
              refine ⟨gg, L', _, (D', W.listOf ((kms_pick (stk fr) (some iv) none ++ [Value.int cur tc]).toArray) 0) :: (S4 w.params x dx d R t1 t2 t3 t4 po u3 nf u4 od rq re ++ objs G), hTg, ‹Fr gg L' _ _›, News.sub hN (by walk_at "MY sub2"), fun h₀' T₁ F₁ N₁ B₁ X₁ P₁ D₁ => ?_⟩
              exact hretC _ _ h₀' D' _ 0 T₁ ⟨⟨B₁, F₁, X₁, P₁, hk, hdp, hu⟩, XB, TB, D₁⟩ (News.sub N₁ (by walk_at "MY sub2")) (by simp) (by simp only [List.length_append, List.length_cons, List.length_nil]; omega) hD' hcy
              --A>
            | false =>
              --<B
              have hco : cur ∈ ord := by
                rcases (ok.set cur).mp hS1 with h | h
                · have := (ok.dct cur).mpr h
                  rw [hd1] at this
                  cases this
                · exact h
              k_steps
              show Halt _
              rw [hPM]
              obtain ⟨u₂, F9⟩ := fr_form (stored := [Str.ofString "node"]) (m₀ := fun y => if y = Str.ofString "node2stacki" then some (Value.ref Nm) else if y = Str.ofString "seen" then some (.ref Sn) else if y = Str.ofString "itstack" then some (.ref It) else if y = Str.ofString "stack" then some (.ref St) else if y = Str.ofString "n2i" then some (.ref d) else List.lookup y [(Str.ofString "self", Value.ref x)]) ‹Fr gg L' _ _› (by ((intro y hy; (have hy' := hy); (simp only [List.contains_cons, List.contains_nil, Bool.or_false, Bool.or_eq_false_iff, beq_eq_false_iff_ne, ne_eq] at hy'); first | (simp only [hy, hy', if_false, Bool.false_eq_true, reduceIte]; done) | simp [hy'])))
              refine ⟨gg, _, _, om, so, e1, e2, ul, ord, fr, S, ns, kv, u₂, rfl, ⟨hTg, Bg, Xg, Pg, Dg⟩, F9, News.sub ‹News gg L' _ _› (by (first | (walk_at "MY sub2") | (intro p hp; (simp only [List.mem_append, List.mem_cons, List.not_mem_nil, or_false, false_or, List.append_assoc, List.cons_append, List.nil_append] at hp ⊢); grind))), by assumption, by assumption, ok, hsub, hch.toR hco, ?_, by rw [hul₁, hfr₁]⟩
              rcases hk0 with ⟨h1, h2⟩ | h | h
              · exact .inr (h2 ▸ hco)
              · exact .inl h
              · exact .inr h
              --B>
          | false =>
            --<C
            have hd1 : (valueAt kv cur).isSome = false := by
              cases e : (valueAt kv cur).isSome with
              | false => rfl
              | true =>
                have := (ok.set cur).mpr (.inl ((ok.dct cur).mp e))
                rw [hS1] at this
                cases this
            k_steps
            show wpAny _ _ _ _ _ _
            ((k_dflt (refine iter_L (by k_asm) (by k_asm) (by k_mem) ?_); intro Dzz hzz Fzz Nzz lzz; (try k_lt lzz)))
            ((k_dflt (refine next_L (by k_asm) (by k_asm) (by k_mem) ?_); intro Dzz2 hzz2 Fzz2 Nzz2 lzz2; (try k_lt lzz2)))
            k_steps
            show wpAny _ _ _ _ _ _
            ((k_dflt (refine' kda_set (knd := PySem.intKind _ _) ?Fx9 ?Nx9 ?Ux9 ?dx9 (intKind_is _ _ _ _) ?zx9 ?_; (case Fx9 => k_asm); (case Nx9 => k_asm); (case Ux9 => k_updF); (case dx9 => k_asm); (case zx9 => (rw [sizeLine_eq]; omega))); intro hzz ozz Fzz Nzz dzz; (try dsimp only at Nzz)))
            k_steps
            show Halt _
            rw [hPM]
            obtain ⟨u₂, F9⟩ := fr_form (stored := [Str.ofString "node"]) (m₀ := fun y => if y = Str.ofString "node2stacki" then some (Value.ref Nm) else if y = Str.ofString "seen" then some (.ref Sn) else if y = Str.ofString "itstack" then some (.ref It) else if y = Str.ofString "stack" then some (.ref St) else if y = Str.ofString "n2i" then some (.ref d) else List.lookup y [(Str.ofString "self", Value.ref x)]) ‹Fr gg L' _ _› (by ((intro y hy; (have hy' := hy); (simp only [List.contains_cons, List.contains_nil, Bool.or_false, Bool.or_eq_false_iff, beq_eq_false_iff_ne, ne_eq] at hy'); first | (simp only [hy, hy', if_false, Bool.false_eq_true, reduceIte]; done) | simp [hy'])))
            have hJx : ∃ bB bI om' so' tt, News gg L' _ ((bB, mwObj bI) :: (bI, liObj nc.la 0) :: (nc.ia, infoObj nc.da nc.key nc.tk nc.np nc.tnp nc.la) :: (nc.da, dictOf [] 0) :: (nc.la, W.listOf (vals nc.succ).toArray nc.ep) :: (Nm, om') :: (Sn, so') :: (It, W.listOf ((its fr).toArray.push (Value.ref bB)) (e2 + 1)) :: (St, W.listOf ((stk fr).toArray.push (Value.int cur tc)) (e1 + 1)) :: (x, instObj 158 dx) :: (dx, dictOf (attrs w.params t1 t2 t3 t4 d (.ref R) (.int po u3) (.int nf u4)) 4) :: (d, od) :: (R, W.listOf (vals rq).toArray re) :: (I, oI) :: (objs G ++ fobjs fr)) ∧ om'.IsDictOf (intKind PySem.Challenge.rw_oh0060_01.row.prog w) (stored kv cur (.int ((stk fr).length : Int) tt)) ∧ so'.SetObjOf (intKind PySem.Challenge.rw_oh0060_01.row.prog w) (fun k' => S k' || decide (k' = cur)) (if S cur = true then ns else ns + 1) ∧ (nc.ia < bI ∧ nc.da < bI ∧ nc.la < bI ∧ Nm < bI ∧ Sn < bI ∧ It < bI ∧ St < bI ∧ x < bI ∧ dx < bI ∧ d < bI ∧ R < bI ∧ I < bI ∧ AllLt bI (objs G ++ fobjs fr)) ∧ (bI < bB ∧ nc.ia < bB ∧ nc.da < bB ∧ nc.la < bB ∧ Nm < bB ∧ Sn < bB ∧ It < bB ∧ St < bB ∧ x < bB ∧ dx < bB ∧ d < bB ∧ R < bB ∧ I < bB ∧ AllLt bB (objs G ++ fobjs fr)) := ⟨_, _, _, _, _, ‹News gg L' _ _›, by assumption, by assumption, by assumption, by assumption⟩
            refine ex5a5 hJx fun bB bI om' so' tt hN hdd hss hl1 hl2 => ?_
            clear hJx
            refine ex0a13 (hl1) fun _ _ _ l4 l5 l6 l7 l8 l9 l10 l11 l12 l13 => ?_
            refine ex0a14 (hl2) fun k0 _ _ _ k4 k5 k6 k7 k8 k9 k10 k11 k12 k13 => ?_
            have l13' := lt_adr l13
            have k13' := lt_adr k13
            rw [adr_append] at l13' k13'
            have e1' : (I :: Nm :: Sn :: It :: St :: x :: dx :: d :: R :: adr (objs G)) ++ adr (fobjs fr) = I :: Nm :: Sn :: It :: St :: x :: dx :: d :: R :: (adr (objs G) ++ adr (fobjs fr)) := rfl
            have hnd := adP (f := ⟨cur, tc, nc.la, nc.succ, nc.ep, 0, bI, bB⟩) ok.adn
              (by rw [e1']; exact all_lt_cons l12 (all_lt_cons l4 (all_lt_cons l5 (all_lt_cons l6 (all_lt_cons l7 (all_lt_cons l8 (all_lt_cons l9 (all_lt_cons l10 (all_lt_cons l11 l13')))))))))
              k0 (by rw [e1']; exact all_lt_cons k12 (all_lt_cons k4 (all_lt_cons k5 (all_lt_cons k6 (all_lt_cons k7 (all_lt_cons k8 (all_lt_cons k9 (all_lt_cons k10 (all_lt_cons k11 k13')))))))))
            obtain ⟨hun, ok2⟩ := DfsOk.push (f := ⟨cur, tc, nc.la, nc.succ, nc.ep, 0, bI, bB⟩) (nc := nc) (i := ((stk fr).length : Int)) (t := tt) ok hS1 hd1 (by rw [hG]; simp) hnk rfl rfl rfl hnd
            refine ⟨gg, _, _, om', so', e1 + 1, e2 + 1, ul.erase cur, ord, ⟨cur, tc, nc.la, nc.succ, nc.ep, 0, bI, bB⟩ :: fr, _, _, _, u₂, rfl, ⟨hTg, Bg, Xg, Pg, Dg⟩, F9, News.sub hN ?_, hdd, hss, ok2, hsub, hch.push, ?_, ?_⟩
            · rw [its_cons, stk_cons, fobjs_cons]
              simp only [← List.push_toArray]
              walk_at "MY sub2"
            · rcases hk0 with ⟨h1, h2⟩ | h | h
              · exact .inl (by simp [fkeys, h2])
              · exact .inl (List.mem_cons_of_mem _ h)
              · exact .inr h
            · rw [hul₁, hfr₁]
              exact (rem_push (fr := fabs fr) hun).symm
            --C>
        case rest =>
          clear hcur hva hnk hmn hne nb1 nb2 nb3 sb1 sb2 sb3 ib1 ib2 ib3 tb1 tb2 tb3 hil hsl hG na1 na2 na3 na4 na5 na6 na7 na8 na9 sa1 sa2 sa3 sa4 sa5 sa6 sa7 sa8 sa9 ia1 ia2 ia3 ia4 ia5 ia6 ia7 ia8 ia9 ta1 ta2 ta3 ta4 ta5 ta6 ta7 ta8 ta9 hTg Bg Xg Pg Dg F7 N8 hom hso hch hk0 hcnt hns hds hsub ok
          (try clear hS)
          rintro s₂ hO2
          rw [hPM] at hO2
          obtain ⟨gg, h, tk, om, so, e1, e2, ul, ord, fr, S, ns, kv, u, rfl, hgr, F7, N7, hom, hso, ok, hsub, hch, hk0, hrem⟩ := hO2
          try dsimp only
          k_steps
          show WhlRest _ _ _ _ _ _ _ _ _ _ _
          obtain ⟨PR, hPR⟩ : ∃ P, P = FindR w mean mg mb (ktrTop dp un gd cn cs L a ccd cl outer) base (envX cn cs L a ccd cl :: outer) g L' s Nm Sn It St x dx d R I t1 t2 t3 t4 po nf u3 u4 od oI rq re G ord₀ k ul₁ fr₁ := ⟨_, rfl⟩
          refine whl_inv PR ?hE3 ?step2 fr.length _ ?init2
          case hE3 => passes_own
          case init2 => rw [hPR]; exact ⟨gg, _, _, om, so, e1, e2, ul, ord, fr, S, ns, kv, u, rfl, hgr, ‹Fr gg L' _ _›, ‹News gg L' _ _›, by assumption, by assumption, ok, hsub, hch, hk0, hrem, rfl⟩
          case step2 =>
            clear hgr F7 N7 hom hso ok hsub hch hk0 hrem
            rintro n s₁ hO3
            rw [hPR] at hO3
            obtain ⟨gg, h, tk, om, so, e1, e2, ul, ord, fr, S, ns, kv, u, rfl, ⟨hTg, Bg, Xg, Pg, Dg⟩, F7, N7, hom, hso, ok, hsub, hch, hk0, hrem, rfl⟩ := hO3
            cases fr with
            | nil =>
              --<D
              k_steps
              show wpAny _ _ _ _ _ _
              ((k_dflt (first | (refine truthy_L0 (by k_asm) (by k_mem) (by rfl) ?_) | (refine truthy_L1 (by k_asm) (by k_mem) (by assumption) (by size_fits) ?_))))
              k_steps
              show Halt _
              refine ⟨gg, _, _, _, (Nm, om) :: (Sn, so) :: (It, W.listOf (its []).toArray e2) :: (St, W.listOf (stk []).toArray e1) :: (x, instObj 158 dx) :: (dx, dictOf (attrs w.params t1 t2 t3 t4 d (.ref R) (.int po u3) (.int nf u4)) 4) :: (d, od) :: (R, W.listOf (vals rq).toArray re) :: objs G, rfl, ‹Fr gg L' _ _›, News.sub ‹News gg L' _ _› (by walk_at "MY sub2"), ?_, ⟨hTg, Bg, Xg, Pg, Dg⟩, m_form (by ((intro y hy; (have hy' := hy); (simp only [List.contains_cons, List.contains_nil, Bool.or_false, Bool.or_eq_false_iff, beq_eq_false_iff_ne, ne_eq] at hy'); first | (simp only [hy, hy', if_false, Bool.false_eq_true, reduceIte]; done) | simp [hy']))), om, so, e1, e2, ul, ord, S, ns, kv, rfl, by assumption, by assumption, { ok with adn := ?_ }, ?_⟩
              · have h1 := ok.adn
                intro p hp e
                exact (List.nodup_cons.mp h1).1 (List.mem_append_left _ (e ▸ adr_mem hp))
              · exact (List.nodup_cons.mp ok.adn).2
              · intro j hj k' v' hv'
                rcases hordK j hj k' v' hv' with e | h
                · rw [e]
                  rcases hk0 with h | h
                  · simp [fkeys] at h
                  · exact h
                · exact hsub _ h
              --D>
            | cons f b =>
              --<F
              have hne1 : stk b ++ [Value.int f.key f.tk] ≠ [] := by simp
              have hne2 : ∃ ws, its b ++ [Value.ref f.ba] = ws ++ [Value.ref f.ba] := ⟨_, rfl⟩
              have hcnt := ok.cnt
              have hns := ok.nsz
              have hds := ok.dsz
              have hil : (its b).length = b.length := its_len _
              have hsl : (stk b).length = b.length := stk_len _
              rw [List.length_cons] at hcnt hns hds
              refine ex1a5 (ok.nodes f (.head _)) fun nnf hnf hf1 hf2 hf3 hf4 => ?_
              have hla : (f.la, W.listOf (vals f.sc).toArray f.ep) ∈ objs G := by
                rw [objs, List.mem_flatMap]
                exact ⟨nnf, hnf, by rw [← hf2, ← hf3, ← hf4]; exact .tail _ (.tail _ (.head _))⟩
              have hsucc : succOf (absG G) f.key = f.sc.map (·.1) := by
                refine ex2a1 (List.append_of_mem hnf) fun A C hG => ?_
                rw [hG, succOf_mid hf1 (by rw [← hG]; exact key0), hf3]
              refine ex0a4 (adFr ok.adn) fun ad1 ad2 ad3 ad4 => ?_
              rw [its_cons, stk_cons, fobjs_cons] at N7
              have N8 : News gg L' h ((f.ia, liObj f.la f.pos) :: (f.la, W.listOf (vals f.sc).toArray f.ep) :: (f.ba, mwObj f.ia) :: (Nm, om) :: (Sn, so) :: (It, W.listOf (its b ++ [Value.ref f.ba]).toArray e2) :: (St, W.listOf (stk b ++ [Value.int f.key f.tk]).toArray e1) :: (x, instObj 158 dx) :: (dx, dictOf (attrs w.params t1 t2 t3 t4 d (.ref R) (.int po u3) (.int nf u4)) 4) :: (d, od) :: (R, W.listOf (vals rq).toArray re) :: (I, oI) :: (objs G ++ fobjs b)) := News.sub N7 (sub_cons (by walk_at "MY in") (sub_cons (.tail _ (.tail _ (.tail _ (.tail _ (.tail _ (.tail _ (.tail _ (.tail _ (.tail _ (List.mem_append_left _ hla)))))))))) (by walk_at "MY sub2")))
              have hdisj : ∀ p ∈ (f.ba, mwObj f.ia) :: (Nm, om) :: (Sn, so) :: (It, W.listOf (its b ++ [Value.ref f.ba]).toArray e2) :: (St, W.listOf (stk b ++ [Value.int f.key f.tk]).toArray e1) :: (x, instObj 158 dx) :: (dx, dictOf (attrs w.params t1 t2 t3 t4 d (.ref R) (.int po u3) (.int nf u4)) 4) :: (d, od) :: (R, W.listOf (vals rq).toArray re) :: (I, oI) :: (objs G ++ fobjs b), p ∈ (f.ia, liObj f.la f.pos) :: (f.la, W.listOf (vals f.sc).toArray f.ep) :: (f.ba, mwObj f.ia) :: (Nm, om) :: (Sn, so) :: (It, W.listOf (its b ++ [Value.ref f.ba]).toArray e2) :: (St, W.listOf (stk b ++ [Value.int f.key f.tk]).toArray e1) :: (x, instObj 158 dx) :: (dx, dictOf (attrs w.params t1 t2 t3 t4 d (.ref R) (.int po u3) (.int nf u4)) 4) :: (d, od) :: (R, W.listOf (vals rq).toArray re) :: (I, oI) :: (objs G ++ fobjs b) ∧ p.1 ≠ f.ia := by
                refine hr_cons ⟨by walk_at "MY in", ad2⟩ ?_
                iterate 9 refine hr_cons ⟨by walk_at "MY in", (ad1 _ (by simp)).1⟩ ?_
                intro q hq
                refine ⟨?_, ?_⟩
                · iterate 12 refine List.mem_cons_of_mem _ ?_
                  exact hq
                · rcases List.mem_append.mp hq with hq | hq
                  · exact (ad1 q.1 (by simp only [List.mem_cons]; exact .inr (.inr (.inr (.inr (.inr (.inr (.inr (.inr (.inr (adr_mem hq)))))))))) ).1
                  · exact (ad3 q hq).1
              clear N7
              k_steps
              show wpAny _ _ _ _ _ _
              ((k_dflt (first | (refine truthy_L0 (by k_asm) (by k_mem) (by rfl) ?_) | (refine truthy_L1 (by k_asm) (by k_mem) (by assumption) (by size_fits) ?_))))
              k_steps
              show wpAny _ _ _ _ _ _
              ((k_dflt (refine item_last (by k_asm) (by k_mem) (by assumption) (by size_fits) ?_ (by with_unfolding_all rfl))))
              ((k_dflt (refine mwWith_L (by k_asm) (by k_mem) ?_)))
              show wpAny _ _ _ _ _ _
              cases hsc' : f.sc[f.pos]? with
              | some q =>
                --<G
                have hq2 : (succOf (absG G) f.key)[f.pos]? = some q.1 := by rw [hsucc, List.getElem?_map, hsc']; rfl
                k_dflt (refine item_L (i := f.pos) (vs := vals f.sc) (v := .int q.1 q.2) (n := f.ep) (l := f.la) (I := f.ia) (rest := (f.ba, mwObj f.ia) :: (Nm, om) :: (Sn, so) :: (It, W.listOf (its b ++ [Value.ref f.ba]).toArray e2) :: (St, W.listOf (stk b ++ [Value.int f.key f.tk]).toArray e1) :: (x, instObj 158 dx) :: (dx, dictOf (attrs w.params t1 t2 t3 t4 d (.ref R) (.int po u3) (.int nf u4)) 4) :: (d, od) :: (R, W.listOf (vals rq).toArray re) :: (I, oI) :: (objs G ++ fobjs b)) ‹Fr gg L' _ _› ‹News gg L' _ _› (by walk_at "MY in") (by walk_at "MY in") (by walk_at "MY in") (by simp [vals, hsc']) hdisj ?_)
                intro h9 F9 N9
                dsimp only
                k_steps
                show Halt _
                rw [hPO]
                refine ⟨rem (absG G) ul (fabs ({ f with pos := f.pos + 1 } :: b)), ?_, gg, _, _, om, so, e1, e2, ul, ord, { f with pos := f.pos + 1 } :: b, S, ns, kv, q.1, q.2, u, rfl, ⟨hTg, Bg, Xg, Pg, Dg⟩, ‹Fr gg L' _ _›, News.sub ‹News gg L' _ _› ?_, by assumption, by assumption, ok.step _, hsub, hch.item hq2, ?_, .inr hk0, rfl⟩
                · have h1 : rem (absG G) ul ((f.key, f.pos + 1) :: fabs b) + 1 = rem (absG G) ul ((f.key, f.pos) :: fabs b) := rem_item (f := (f.key, f.pos)) hq2
                  rw [← hul₁, ← hfr₁, hrem]
                  show rem (absG G) ul ((f.key, f.pos + 1) :: fabs b) < rem (absG G) ul ((f.key, f.pos) :: fabs b)
                  omega
                · rw [its_cons, stk_cons, fobjs_cons]
                  walk_at "MY sub2"
                · exact hcl nnf hnf q (by rw [hf3]; exact List.mem_of_getElem? hsc')
                --G>
              | none =>
                --<H
                have hq2 : (succOf (absG G) f.key)[f.pos]? = none := by rw [hsucc, List.getElem?_map, hsc']; rfl
                k_dflt (refine stop_L (i := f.pos) (vs := vals f.sc) (n := f.ep) (l := f.la) (I := f.ia) (rest := (f.ba, mwObj f.ia) :: (Nm, om) :: (Sn, so) :: (It, W.listOf (its b ++ [Value.ref f.ba]).toArray e2) :: (St, W.listOf (stk b ++ [Value.int f.key f.tk]).toArray e1) :: (x, instObj 158 dx) :: (dx, dictOf (attrs w.params t1 t2 t3 t4 d (.ref R) (.int po u3) (.int nf u4)) 4) :: (d, od) :: (R, W.listOf (vals rq).toArray re) :: (I, oI) :: (objs G ++ fobjs b)) rfl ‹Fr gg L' _ _› ‹News gg L' _ _› (by walk_at "MY in") (by walk_at "MY in") (by walk_at "MY in") (by simp [vals, hsc']) hdisj ?_)
                intro h9 h10 ex F9 N9 hx
                have hvk : (valueAt kv f.key).isSome = true := (ok.dct f.key).mpr (.head _)
                refine ex0a4 (adF ad4) fun jj5 jj6 jj7 jj8 => ?_
                refine ex0a9 jj5 fun na1 na2 na3 na4 na5 na6 na7 na8 na9 => ?_
                refine ex0a9 jj6 fun sa1 sa2 sa3 sa4 sa5 sa6 sa7 sa8 sa9 => ?_
                refine ex0a9 jj7 fun ia1 ia2 ia3 ia4 ia5 ia6 ia7 ia8 ia9 => ?_
                refine ex0a9 jj8 fun ta1 ta2 ta3 ta4 ta5 ta6 ta7 ta8 ta9 => ?_
                obtain ⟨nb1, nb2⟩ := ad1 Nm (by simp)
                obtain ⟨ib1, ib2⟩ := ad1 It (by simp)
                obtain ⟨tb1, tb2⟩ := ad1 St (by simp)
                k_dflt (refine caught_new (T' := "StopIteration") (mean := mean) (KF := hd.heap_1 w.params) Bg hx F9 N9 XB TB Dg (by k_is) (by boot_by_name) (by decide) si_exc si_nt si_sub ?_)
                intro h11 gg2 hT2 F11 N11 Bg2 Xg2 Pg2 Dg2
                k_steps
                show wpAny _ _ _ _ _ _
                ((k_dflt (refine' kl_pop ?Fx16 ?Nx16 ?ex16 ?Ux16 ?zx16 ?_; (case Fx16 => k_asm); (case Nx16 => k_asm); (case Ux16 => k_upd); (case ex16 => exact kpa_last _ _); (case zx16 => size_fits)); intro hzz Fzz Nzz; (try dsimp only [List.nil_append, List.cons_append] at Nzz)))
                ((k_dflt (refine' kob_del (knd := PySem.intKind _ _) ?Fx17 ?Nx17 ?Ux17 ?dx17 (intKind_is _ _ _ _) ?lx17 ?zx17 ?_; (case Fx17 => k_asm); (case Nx17 => k_asm); (case Ux17 => k_updF); (case dx17 => k_asm); (case lx17 => assumption); (case zx17 => (rw [sizeLine_eq]; omega))); intro hzz2 ozz Fzz2 Nzz2 dzz; (try dsimp only at Nzz2)))
                k_steps
                show wpAny _ _ _ _ _ _
                ((k_dflt (refine' kl_pop ?Fx18 ?Nx18 ?ex18 ?Ux18 ?zx18 ?_; (case Fx18 => k_asm); (case Nx18 => k_asm); (case Ux18 => k_upd); (case ex18 => exact kpa_last _ _); (case zx18 => size_fits)); intro hzz Fzz Nzz; (try dsimp only [List.nil_append, List.cons_append] at Nzz)))
                k_steps
                show Halt _
                rw [hPR]
                refine ⟨b.length, Nat.lt_succ_self _, gg2, _, _, _, so, e1 + 1, e2 + 1, ul, ord ++ [f.key], b, S, ns, _, u, rfl, ⟨hTg.trans hT2, Bg2, Xg2, Pg2, Dg2⟩, ‹Fr gg2 L' _ _›, News.sub ‹News gg2 L' _ _› (by walk_at "MY sub2"), by assumption, by assumption, ok.pop (ok.clo.pop (ChR.all (f := (f.key, f.pos)) hch hq2)), fun z hz => List.mem_append_left _ (hsub z hz), ChR.pop (f := (f.key, f.pos)) hch, ?_, hrem.trans (rem_pop (f := (f.key, f.pos)) hq2).symm, rfl⟩
                rcases hk0 with h | h
                · rcases List.mem_cons.mp h with e | h
                  · exact .inr (by simp [e])
                  · exact .inl h
                · exact .inr (List.mem_append_left _ h)
                --H>
              --F>
  case done =>
    rintro gg m₁ news₁ h6 tk6 hJJ
    refine exg9a5 hJJ fun hgr0 u hmE om so e1 e2 ul ord S ns kv hqE1 hom hso ok hord => ?_
    clear hJJ
    obtain ⟨hTg, Bg, Xg, Pg, Dg⟩ := hgr0
    subst hmE
    subst hqE1
    rintro F6 N6
    clear F5 N5 hG0 hom0 hso0
    dsimp only
    k_steps
    refine ⟨gg, L', _, _, hTg, ‹Fr gg L' _ _›, ‹News gg L' _ _›, fun h₀' T₁ F₁ N₁ B₁ X₁ P₁ D₁ => ?_⟩
    refine hretN _ _ h₀' T₁ ⟨⟨B₁, F₁, X₁, P₁, hk, hdp, hu⟩, XB, TB, D₁⟩ (News.sub N₁ (by (first | (walk_at "MY sub2") | (intro p hp; (simp only [List.mem_append, List.mem_cons, List.not_mem_nil, or_false, false_or, List.append_assoc, List.cons_append, List.nil_append] at hp ⊢); grind)))) ⟨ord, ok.clo, fun k hk => ?_⟩
    rw [keys_absG] at hk
    obtain ⟨j, hj, e⟩ := List.mem_iff_getElem.mp hk
    have hj' : j < (kvs G).length := by rw [kvs_length]; simpa [keys] using hj
    have hJx : ∃ p, (kvs G)[j]? = some p := ⟨(kvs G)[j], by simp [hj']⟩
    refine ex1a1 hJx fun jj9 hkv => ?_
    obtain ⟨k', v'⟩ := jj9
    clear hJx
    have := hord j hj' k' v' hkv
    have e2 : k' = k := by
      have h1 : (keys G)[j]? = some k := by rw [List.getElem?_eq_getElem hj, e]
      simp only [kvs, keys, List.getElem?_map, Option.map_eq_some_iff] at hkv h1
      obtain ⟨n1, a1, b1⟩ := hkv
      obtain ⟨n2, a2, b2⟩ := h1
      rw [a1] at a2
      cases a2
      cases b1
      exact b2
    exact e2 ▸ this
end
-- plain
open LCg in
/-- a loop's source: its iterator stands at I -/
inductive Src (prog : Program) (w : World) (A : Around) (h₀ : Heap) (L I : Addr) (n : Nat) (P : Nat → Value → Prop) (S : List (Addr × Obj) → Prop) (h : Heap) : Prop
  | mk (fp : List Addr) (St : Nat → Heap → Prop) (c1 : Walks prog w A I fp [I] n P St) (c2 : ∀ i h, St i h → ∃ o, h.get? I = some o)
    (c3 : ∀ i h h' o nw, St i h → h.get? I = some o → h'.get? I = some o → (∀ b o, h₀.get? b = some o → h'.get? b = some o) → News h₀ L h' nw → S nw → St i h') (c4 : St 0 h) (c5 : L ≠ I ∧ h₀.get? I = none) : Src prog w A h₀ L I n P S h
section
variable {prog : Program} {w : World} {A : Around} {E : Value → Shared → Prop} {s : Shared} {h₀ : Heap} {L : Addr} {m : Str → Option Value} {news : List (Addr × Obj)} {Q : Value → Shared → Prop}
theorem src_list {l : Addr} {items : List Value} {k : Nat} (hh : A.handled = none) (F : Fr h₀ L s.heap m) (N : News h₀ L s.heap news) (hl : (l, W.listOf items.toArray k) ∈ news)
    (h : ∀ I h, Fr h₀ L h m → News h₀ L h news → (∀ p ∈ news, p.1 < I) → Src prog w A h₀ L I items.length (fun i v => items[i]? = some v) (fun nw => (l, W.listOf items.toArray k) ∈ nw) h → Q (.ref I) { s with heap := h }) :
    wpAny (model prog w) A (pyIter (.ref l)) Q E s := by
  have hT : s.heap.IsList l items.toArray := ⟨_, (N _ hl).1, rfl, k, rfl⟩
  have hne : l ≠ s.heap.objs.size := Nat.ne_of_lt (Heap.lt_size (N _ hl).1)
  refine wpAny_pyIter_list hT ?_
  have W := Walks.list (prog := prog) (w := w) hh s.heap.objs.size l hne items.toArray
  rw [show items.toArray.size = items.length from List.size_toArray ..] at W
  refine h _ _ (F.push _) (fun p hp => ⟨Heap.get?_push_of_some _ (N p hp).1, (N p hp).2⟩) (fun p hp => Heap.lt_size (N p hp).1) ⟨_, _, ⟨W.sub, W.frame, fun i s Q E hi st hQ => W.item i s Q E hi st fun v h' tk hP => hQ v h' tk (by simpa using hP), W.done, W.self⟩, fun i h st => let ⟨o, ho, _⟩ := st.1; ⟨o, ho⟩, fun i h h' o nw st e e' k N' S => ⟨?_, ⟨_, (N' _ S).1, rfl, _, rfl⟩⟩, ⟨⟨_, Heap.get?_push_size _ rfl, rfl, rfl⟩, hT.at fun o e => Heap.get?_push_of_some _ e⟩, Nat.ne_of_lt F.ns.lt, next_is_new F⟩
  obtain ⟨o', q, r⟩ := st.1
  rw [e] at q; cases q
  exact ⟨o, e', r⟩
theorem src_tup {l : Addr} {items : List Value} {k : Nat} (hh : A.handled = none) (F : Fr h₀ L s.heap m) (N : News h₀ L s.heap news) (hl : (l, ({ cls := .type "tuple", data := .seq items.toArray k } : Obj)) ∈ news)
    (h : ∀ I h, Fr h₀ L h m → News h₀ L h news → (∀ p ∈ news, p.1 < I) → Src prog w A h₀ L I items.length (fun i v => items[i]? = some v) (fun nw => (l, ({ cls := .type "tuple", data := .seq items.toArray k } : Obj)) ∈ nw) h → Q (.ref I) { s with heap := h }) :
    wpAny (model prog w) A (pyIter (.ref l)) Q E s := by
  have hT : s.heap.IsTuple l items.toArray := ⟨_, (N _ hl).1, rfl, k, rfl⟩
  have hne : l ≠ s.heap.objs.size := Nat.ne_of_lt (Heap.lt_size (N _ hl).1)
  refine wpAny_pyIter_tuple hT ?_
  have W := Walks.tuple (prog := prog) (w := w) hh s.heap.objs.size l hne items.toArray
  rw [show items.toArray.size = items.length from List.size_toArray ..] at W
  refine h _ _ (F.push _) (fun p hp => ⟨Heap.get?_push_of_some _ (N p hp).1, (N p hp).2⟩) (fun p hp => Heap.lt_size (N p hp).1) ⟨_, _, ⟨W.sub, W.frame, fun i s Q E hi st hQ => W.item i s Q E hi st fun v h' tk hP => hQ v h' tk (by simpa using hP), W.done, W.self⟩, fun i h st => let ⟨o, ho, _⟩ := st.1; ⟨o, ho⟩, fun i h h' o nw st e e' k N' S => ⟨?_, ⟨_, (N' _ S).1, rfl, _, rfl⟩⟩, ⟨⟨_, Heap.get?_push_size _ rfl, rfl, rfl⟩, hT.at fun o e => Heap.get?_push_of_some _ e⟩, Nat.ne_of_lt F.ns.lt, next_is_new F⟩
  obtain ⟨o', q, r⟩ := st.1
  rw [e] at q; cases q
  exact ⟨o, e', r⟩
theorem src_rng {r : Addr} {b₀ : Int} {n : Nat} {t₀ u₀ v₀ : Tok} (hh : A.handled = none) (F : Fr h₀ L s.heap m) (N : News h₀ L s.heap news) (hr : IsRange s.heap r 0 b₀ 1 t₀ u₀ v₀) (hb : b₀ = (n : Int)) (hn : n ≤ 1000000)
    (h : ∀ I h, Fr h₀ L h m → News h₀ L h news → (∀ p ∈ news, p.1 < I) → Src prog w A h₀ L I n (fun i v => ∃ t, v = .int (i : Int) t) (fun _ => True) h → Q (.ref I) { s with heap := h }) :
    wpAny (model prog w) A (pyIter (.ref r)) Q E s := by
  subst hb
  have hsz : Builtin.Range.rangeSize 0 (n : Int) 1 = (n : Int) := by
    rw [rangeSize_one]
    split <;> omega
  refine wpAny_pyIter_range hr (small_one (by omega) (by omega) (by omega) (by omega)) ?_
  have W := LCg.range_walks (prog := prog) (w := w) (I := s.heap.objs.size) hh 0 n
  refine h _ _ (F.push _) (fun p hp => ⟨Heap.get?_push_of_some _ (N p hp).1, (N p hp).2⟩) (fun p hp => Heap.lt_size (N p hp).1) ⟨_, _, ⟨W.sub, W.frame, fun i s Q E hi st hQ => W.item i s Q E hi st fun v h' tk hP => hQ v h' tk (by simpa using hP), W.done, W.self⟩, fun i h st => ⟨_, st⟩, LCg.range_st, ?_, Nat.ne_of_lt F.ns.lt, next_is_new F⟩
  show IsRangeIter _ _ _ _ _
  rw [hsz]
  simpa using Heap.get?_push_size _ rfl
theorem src_vals {v d : Addr} {ov od : Obj} {kv : List (Int × Value)} (hh : A.handled = none) (F : Fr h₀ L s.heap m) (N : News h₀ L s.heap news) (hv : (v, ov) ∈ news) (hov : ov.cls = .type "dict_values" ∧ ov.data = .fields #[.ref d]) (hd : (d, od) ∈ news) (hod : od.IsDictOf (intKind prog w) kv)
    (h : ∀ I h, Fr h₀ L h m → News h₀ L h news → (∀ p ∈ news, p.1 < I) → Src prog w A h₀ L I kv.length (fun i v => ∃ k, kv[i]? = some (k, v)) (fun nw => (d, od) ∈ nw) h → Q (.ref I) { s with heap := h }) :
    wpAny (model prog w) A (pyIter (.ref v)) Q E s := by
  have hne : d ≠ s.heap.objs.size := Nat.ne_of_lt (Heap.lt_size (N _ hd).1)
  obtain ⟨ep, ha⟩ := KdkAt.of hod
  have hm := ha.dictAt (N _ hd).1
  refine wpAny_pyIter_values (knd := intKind prog w) ⟨_, (N _ hv).1, hov.1, hov.2⟩ hm ?_
  have W := Walks.dictValues (prog := prog) (w := w) (knd := intKind prog w) hh s.heap.objs.size d hne kv ep
  refine h _ _ (F.push _) (fun p hp => ⟨Heap.get?_push_of_some _ (N p hp).1, (N p hp).2⟩) (fun p hp => Heap.lt_size (N p hp).1) ⟨_, _, W, fun i h st => let ⟨o, ho, _⟩ := st.1; ⟨o, ho⟩, fun i h h' o nw st e e' k N' S => ⟨?_, ha.dictAt (N' _ S).1⟩, ⟨⟨_, Heap.get?_push_size _ rfl, rfl, rfl⟩, hm.push _⟩, Nat.ne_of_lt F.ns.lt, next_is_new F⟩
  obtain ⟨o', q, r⟩ := st.1
  rw [e] at q; cases q
  exact ⟨o, e', r⟩
end

section
open LCg
variable {prog : Program} {w : World} {A : Around} {R : Result → Shared → Prop} {s : Shared} {h₀ : Heap} {L : Addr} {m : Str → Option Value} {env : Env}
/-- a turn's end -/
noncomputable def EndJ (h₀ : Heap) (L : Addr) (m : Str → Option Value) (s : Shared) (I : Addr) (oI : Obj) (T D : Addr) (S : List (Addr × Obj) → Prop) (OkT : Obj → Prop) (J : List Value → Obj → List (Addr × Obj) → Prop) (s' : Shared) : Prop :=
  ∃ h' tk' ys oT news', s' = { s with heap := h', toks := tk' } ∧ Fr h₀ L h' m ∧ News h₀ L h' ((I, oI) :: (T, oT) :: (D, lst ys) :: news') ∧ Off3 I T D news' ∧ S news' ∧ OkT oT ∧ J ys oT news'
/-- the loop of a clause -/
theorem comp_core {I T D : Addr} {n : Nat} {P : Nat → Value → Prop} {S : List (Addr × Obj) → Prop} {OkT : Obj → Prop} {UpT : Value → Obj → Obj → Prop} {TB : (Shared → Prop) → (Value → Shared → Prop) → Shared → Prop} {C : Code} {as : Value → Sem Unit} {ys₀ : List Value} {oT₀ : Obj} {news₀ : List (Addr × Obj)}
    (W : Src prog w A h₀ L I n P S s.heap) (hIT : I ≠ T) (hID : I ≠ D) (hTD : T ≠ D)
    (asg : ∀ v oT (s : Shared) Q E, s.heap.get? T = some oT → OkT oT → (∀ h' tk oT', h'.get? T = some oT' → UpT v oT oT' → OkT oT' → Heap.SameBut T s.heap h' → Q () { s with heap := h', toks := tk }) → wpAny (model prog w) A (as v) Q E s)
    (mono : ∀ (K K' : Shared → Prop) E s, (∀ s, K s → K' s) → TB K E s → TB K' E s)
    (rule : ∀ (Inv : Nat → Shared → Prop), (∀ k s, Inv k s → ∀ E', wpAny (model prog w) A (pyNext (.ref I)) (fun r s₁ => match r with
        | none => R (.ok .next) s₁
        | some v => wpAny (model prog w) A (as v) (fun _ s₂ => TB (fun s₃ => ∃ k', k' < k ∧ Inv k' s₃) E' s₂) E' s₁) E' s) → ∀ k s, Inv k s → codeAny (model prog w) A C R s)
    (J : Nat → List Value → Obj → List (Addr × Obj) → Prop)
    (turn : ∀ i v ys oI oT oT' news h tk E', i < n → P i v → J i ys oT news → S news → UpT v oT oT' → OkT oT' → Fr h₀ L h m → News h₀ L h ((I, oI) :: (T, oT') :: (D, lst ys) :: news) → Off3 I T D news →
      TB (EndJ h₀ L m s I oI T D S OkT (J (i + 1))) E' { s with heap := h, toks := tk })
    (done : ∀ ys oT news h tk, J n ys oT news → OkT oT → Fr h₀ L h m → News h₀ L h ((T, oT) :: (D, lst ys) :: news) → Off3 I T D news → R (.ok .next) { s with heap := h, toks := tk })
    (F : Fr h₀ L s.heap m) (N : News h₀ L s.heap ((T, oT₀) :: (D, lst ys₀) :: news₀)) (off : Off3 I T D news₀) (hS : S news₀) (hO : OkT oT₀) (hJ : J 0 ys₀ oT₀ news₀) :
    codeAny (model prog w) A C R s := by
  obtain ⟨fp, St, W, hIo, hSt, st0, hLI, hI₀⟩ := W
  refine rule (fun k s' => ∃ i h' tk ys oT news', s' = { s with heap := h', toks := tk } ∧ i ≤ n ∧ k = n + 1 - i ∧ St i h' ∧ Fr h₀ L h' m ∧ News h₀ L h' ((T, oT) :: (D, lst ys) :: news') ∧ Off3 I T D news' ∧ S news' ∧ OkT oT ∧ J i ys oT news') ?_ (n + 1) s
    ⟨0, s.heap, s.toks, ys₀, oT₀, news₀, rfl, Nat.zero_le _, rfl, st0, F, N, off, hS, hO, hJ⟩
  rintro k s' ⟨i, h', tk, ys, oT, news', rfl, hi, rfl, st, F', N', off', hS', hO', hJ'⟩ E'
  have offm := off'.mem
  have hT : T ≠ L ∧ h₀.get? T = none := (N' _ (.head _)).2
  have hD : D ≠ L ∧ h₀.get? D = none := (N' _ (.tail _ (.head _))).2
  by_cases hlt : i < n
  · refine W.item i _ _ _ hlt st fun v h₂ tk₂ hP st₂ hk₂ => ?_
    have F₂ : Fr h₀ L h₂ m := fr_but F' hk₂ hLI hI₀
    have N₂ : News h₀ L h₂ ((T, oT) :: (D, lst ys) :: news') := news_but N' hk₂ fun p hp => by
      rcases List.mem_cons.mp hp with rfl | hp
      · exact Ne.symm hIT
      · rcases List.mem_cons.mp hp with rfl | hp
        · exact Ne.symm hID
        · exact (offm p hp).1
    obtain ⟨oI, heI⟩ := hIo _ _ st₂
    refine asg v oT _ _ _ (N₂ _ (.head _)).1 hO' fun h₃ tk₃ oT' heT hU hO₃ hs₃ => ?_
    have F₃ : Fr h₀ L h₃ m := F₂.change hs₃ hT.1 hT.2
    have heI₃ : h₃.get? I = some oI := hs₃.extBut _ _ hIT heI
    have N₃ : News h₀ L h₃ ((I, oI) :: (T, oT') :: (D, lst ys) :: news') := fun p hp => by
      rcases List.mem_cons.mp hp with rfl | hp
      · exact ⟨heI₃, Ne.symm hLI, hI₀⟩
      · rcases List.mem_cons.mp hp with rfl | hp
        · exact ⟨heT, hT⟩
        · have z := N₂ p (.tail _ hp)
          refine ⟨hs₃.extBut _ _ ?_ z.1, z.2⟩
          rcases List.mem_cons.mp hp with rfl | hp
          · exact Ne.symm hTD
          · exact (offm p hp).2.1
    have Nn : ∀ {h nw oI' oT' ys}, News h₀ L h ((I, oI') :: (T, oT') :: (D, lst ys) :: nw) → News h₀ L h nw := fun N p hp => N p (.tail _ (.tail _ (.tail _ hp)))
    refine mono _ _ _ _ ?_ (turn i v ys oI oT oT' news' h₃ tk₃ E' hlt hP hJ' hS' hU hO₃ F₃ N₃ off')
    rintro s₄ ⟨h₄, tk₄, ys₄, oT₄, news₄, rfl, F₄, N₄, off₄, hS₄, hO₄, hJ₄⟩
    exact ⟨n + 1 - (i + 1), by omega, i + 1, h₄, tk₄, ys₄, oT₄, news₄, rfl, hlt, rfl, hSt _ _ _ _ _ st₂ heI (N₄ _ (.head _)).1 F₄.keep (Nn N₄) hS₄, F₄, fun p hp => N₄ p (.tail _ hp), off₄, hS₄, hO₄, hJ₄⟩
  · obtain rfl : i = n := Nat.le_antisymm hi (Nat.not_lt.mp hlt)
    refine W.done _ _ _ st fun h₂ tk₂ hk₂ => ?_
    exact done ys oT news' h₂ tk₂ hJ' hO' (fr_but F' hk₂ hLI hI₀) (news_but N' hk₂ fun p hp => by
      rcases List.mem_cons.mp hp with rfl | hp
      · exact Ne.symm hIT
      · rcases List.mem_cons.mp hp with rfl | hp
        · exact Ne.symm hID
        · exact (offm p hp).1) off'
end

section
variable {prog : Program} {w : World} {A : Around} {E : Value → Shared → Prop} {R : Result → Shared → Prop} {s : Shared} {env : Env}
noncomputable abbrev testsOf (ifs : List PySem.Expr) (env : Env) : Sem Bool := forIn ifs true fun c r => if r = true then do let ok ← isTrue c env (eval c env); pure (ForInStep.yield ok) else pure (ForInStep.yield r)
theorem tests_mono {ifs : List PySem.Expr} {Q Q' : Bool → Shared → Prop} (h : wpAny (model prog w) A (testsOf ifs env) Q E s) (k : ∀ b s, Q b s → Q' b s) : wpAny (model prog w) A (testsOf ifs env) Q' E s := wpAny_mono h (fun b s h => k b s h) fun _ _ e => e
theorem turn2a (elt t1 i1 t2 i2 : PySem.Expr) (ifs1 ifs2 : List PySem.Expr) (scope : Scope) (pos : Pos) (it acc : Value) (env : Env) :
    compTurn (.ListComp elt [⟨t1, i1, ifs1, 0⟩, ⟨t2, i2, ifs2, 0⟩] scope pos) 0 it acc env = (do
      standAt i1.pos
      match ← pyNext it with
      | none => pure (.done .next)
      | some v =>
        letOwnedTupleGo t1 it v
        assign t1 env v
        let mut ok := true
        for c in ifs1 do
          if ok then ok ← isTrue c env (eval c env)
        if ok then
          let x ← eval i2 env
          standAt i2.pos
          let x ← foldedSetIterable i2 env x
          let _ ← runOwn (.compStart (.ListComp elt [⟨t1, i1, ifs1, 0⟩, ⟨t2, i2, ifs2, 0⟩] scope pos) 1 (← holding [x] (pyIter x)) acc env) env
        again (.compLoop (.ListComp elt [⟨t1, i1, ifs1, 0⟩, ⟨t2, i2, ifs2, 0⟩] scope pos) 0 it acc env)) := by rfl
theorem turn2b (elt t1 i1 t2 i2 : PySem.Expr) (ifs1 ifs2 : List PySem.Expr) (scope : Scope) (pos : Pos) (it acc : Value) (env : Env) :
    compTurn (.ListComp elt [⟨t1, i1, ifs1, 0⟩, ⟨t2, i2, ifs2, 0⟩] scope pos) 1 it acc env = (do
      standAt i2.pos
      match ← pyNext it with
      | none => pure (.done .next)
      | some v =>
        letOwnedTupleGo t2 it v
        assign t2 env v
        let mut ok := true
        for c in ifs2 do
          if ok then ok ← isTrue c env (eval c env)
        if ok then
          (do let _ ← call (.builtin "list.append") [acc, ← eval elt env])
        again (.compLoop (.ListComp elt [⟨t1, i1, ifs1, 0⟩, ⟨t2, i2, ifs2, 0⟩] scope pos) 1 it acc env)) := by rfl

/-- what a last clause does behind its assignment -/
noncomputable def TBlast (prog : Program) (w : World) (A : Around) (ifs : List PySem.Expr) (elt : PySem.Expr) (acc : Value) (env : Env) (K : Shared → Prop) (E : Value → Shared → Prop) (s : Shared) : Prop :=
  wpAny (model prog w) A (testsOf ifs env) (fun ok s₃ => if ok = true then wpAny (model prog w) A (eval elt env) (fun x s₄ => wpAny (model prog w) A (call (.builtin "list.append") [acc, x]) (fun _ s₅ => K s₅) E s₄) E s₃ else K s₃) E s
theorem TBlast.mono {ifs : List PySem.Expr} {elt : PySem.Expr} {acc : Value} (K K' : Shared → Prop) (E : Value → Shared → Prop) (s : Shared) (hk : ∀ s, K s → K' s) (h : TBlast prog w A ifs elt acc env K E s) : TBlast prog w A ifs elt acc env K' E s :=
  wpAny_mono h (fun ok s₃ h₃ => by
    cases ok with
    | false => exact hk _ h₃
    | true => exact wpAny_mono h₃ (fun x s₄ h₄ => wpAny_mono h₄ (fun _ s₅ h₅ => hk _ h₅) fun _ _ e => e) fun _ _ e => e) fun _ _ e => e
theorem rule1 {elt target iter : PySem.Expr} {ifs : List PySem.Expr} {scope : Scope} {pos : Pos} {it acc : Value} (ht : ∀ v, letOwnedTupleGo target it v = pure ()) (Inv : Nat → Shared → Prop)
    (turn : ∀ k s, Inv k s → ∀ E', wpAny (model prog w) A (pyNext it) (fun r s₁ => match r with
        | none => R (.ok .next) s₁
        | some v => wpAny (model prog w) A (assign target env v) (fun _ s₂ => TBlast prog w A ifs elt acc env (fun s₃ => ∃ k', k' < k ∧ Inv k' s₃) E' s₂) E' s₁) E' s) :
    ∀ k s, Inv k s → codeAny (model prog w) A (.compLoop (.ListComp elt [⟨target, iter, ifs, 0⟩] scope pos) 0 it acc env) R s :=
  fun k s hI => codeAny_compLoop_tests Inv (fun n s hI => turn n s hI _) k hI ht
theorem rule2b {elt t1 i1 t2 i2 : PySem.Expr} {ifs1 ifs2 : List PySem.Expr} {scope : Scope} {pos : Pos} {it acc : Value} (ht : ∀ v, letOwnedTupleGo t2 it v = pure ()) (Inv : Nat → Shared → Prop)
    (turn : ∀ k s, Inv k s → ∀ E', wpAny (model prog w) A (pyNext it) (fun r s₁ => match r with
        | none => R (.ok .next) s₁
        | some v => wpAny (model prog w) A (assign t2 env v) (fun _ s₂ => TBlast prog w A ifs2 elt acc env (fun s₃ => ∃ k', k' < k ∧ Inv k' s₃) E' s₂) E' s₁) E' s) :
    ∀ k s, Inv k s → codeAny (model prog w) A (.compLoop (.ListComp elt [⟨t1, i1, ifs1, 0⟩, ⟨t2, i2, ifs2, 0⟩] scope pos) 1 it acc env) R s := by
  intro k s hI
  refine codeAny_loop rfl Inv (fun n s hI => ?_) k hI
  show wpAny _ A ((compTurn (.ListComp elt [⟨t1, i1, ifs1, 0⟩, ⟨t2, i2, ifs2, 0⟩] scope pos) 1 it acc env).onRaise (fun x => do noteFrame x env; theTreesLotGoes x)) _ _ s
  refine wpAny_noted ?_
  rw [turn2b]
  refine wpAny_bind (wpAny_standAt (wpAny_bind (wpAny_mono (turn n s hI _) (fun r s₁ h₁ => ?_) fun _ _ h' => h')))
  cases r with
  | none => exact wpAny_pure h₁
  | some v =>
    refine wpAny_bind (wpAny_of_eq (ht v) ?_)
    refine wpAny_bind (wpAny_mono h₁ (fun _ s₂ h₂ => wpAny_bind (wpAny_mono h₂ (fun ok s₃ h₃ => ?_) fun _ _ h' => h')) fun _ _ h' => h')
    cases ok with
    | false => exact wpAny_pure ⟨rfl, h₃⟩
    | true => exact wpAny_bind (wpAny_bind (wpAny_mono h₃ (fun x s₄ h₄ => wpAny_bind (wpAny_mono h₄ (fun _ s₅ h₅ => wpAny_pure (wpAny_pure ⟨rfl, h₅⟩)) fun _ _ h' => h')) fun _ _ h' => h'))
noncomputable def Rin (K : Shared → Prop) (r : Result) (s : Shared) : Prop := match r with
  | .ok _ => K s
  | .error _ => False
/-- what the first of two clauses does behind its assignment -/
noncomputable def TBfst (prog : Program) (w : World) (A : Around) (ifs : List PySem.Expr) (i2 : PySem.Expr) (C : Value → Code) (env : Env) (K : Shared → Prop) (E : Value → Shared → Prop) (s : Shared) : Prop :=
  wpAny (model prog w) A (testsOf ifs env) (fun ok s₃ => if ok = true then wpAny (model prog w) A (eval i2 env) (fun x s₄ => wpAny (model prog w) A (pyIter x) (fun it s₅ => codeAny (model prog w) A (C it) (Rin K) s₅) E s₄) E s₃ else K s₃) E s
theorem TBfst.mono {ifs : List PySem.Expr} {i2 : PySem.Expr} {C : Value → Code} (K K' : Shared → Prop) (E : Value → Shared → Prop) (s : Shared) (hk : ∀ s, K s → K' s) (h : TBfst prog w A ifs i2 C env K E s) : TBfst prog w A ifs i2 C env K' E s :=
  wpAny_mono h (fun ok s₃ h₃ => by
    cases ok with
    | false => exact hk _ h₃
    | true => exact wpAny_mono h₃ (fun x s₄ h₄ => wpAny_mono h₄ (fun _ s₅ h₅ => codeAny_mono h₅ fun r s₆ h₆ => by
        cases r with
        | ok f => exact hk _ h₆
        | error e => exact h₆) fun _ _ e => e) fun _ _ e => e) fun _ _ e => e
theorem rule2a {elt t1 i1 t2 i2 : PySem.Expr} {ifs1 ifs2 : List PySem.Expr} {scope : Scope} {pos : Pos} {it acc : Value} (ht : ∀ v, letOwnedTupleGo t1 it v = pure ()) (hs : ∀ x, foldedSetIterable i2 env x = pure x) (Inv : Nat → Shared → Prop)
    (turn : ∀ k s, Inv k s → ∀ E', wpAny (model prog w) A (pyNext it) (fun r s₁ => match r with
        | none => R (.ok .next) s₁
        | some v => wpAny (model prog w) A (assign t1 env v) (fun _ s₂ => TBfst prog w A ifs1 i2 (fun it' => .compStart (.ListComp elt [⟨t1, i1, ifs1, 0⟩, ⟨t2, i2, ifs2, 0⟩] scope pos) 1 it' acc env) env (fun s₃ => ∃ k', k' < k ∧ Inv k' s₃) E' s₂) E' s₁) E' s) :
    ∀ k s, Inv k s → codeAny (model prog w) A (.compLoop (.ListComp elt [⟨t1, i1, ifs1, 0⟩, ⟨t2, i2, ifs2, 0⟩] scope pos) 0 it acc env) R s := by
  intro k s hI
  refine codeAny_loop rfl Inv (fun n s hI => ?_) k hI
  show wpAny _ A ((compTurn (.ListComp elt [⟨t1, i1, ifs1, 0⟩, ⟨t2, i2, ifs2, 0⟩] scope pos) 0 it acc env).onRaise (fun x => do noteFrame x env; theTreesLotGoes x)) _ _ s
  refine wpAny_noted ?_
  rw [turn2a]
  refine wpAny_bind (wpAny_standAt (wpAny_bind (wpAny_mono (turn n s hI _) (fun r s₁ h₁ => ?_) fun _ _ h' => h')))
  cases r with
  | none => exact wpAny_pure h₁
  | some v =>
    refine wpAny_bind (wpAny_of_eq (ht v) ?_)
    refine wpAny_bind (wpAny_mono h₁ (fun _ s₂ h₂ => wpAny_bind (wpAny_mono h₂ (fun ok s₃ h₃ => ?_) fun _ _ h' => h')) fun _ _ h' => h')
    cases ok with
    | false => exact wpAny_pure ⟨rfl, h₃⟩
    | true =>
      refine wpAny_bind (wpAny_mono h₃ (fun x s₄ h₄ => ?_) fun _ _ h' => h')
      refine wpAny_bind (wpAny_standAt (wpAny_bind (wpAny_of_eq (hs x) (wpAny_bind (wpAny_holding (wpAny_mono h₄ (fun it' s₅ h₅ => ?_) fun _ _ h' => h'))))))
      refine wpAny_bind (wpAny_runOwn (h := none) (codeAny_mono h₅ fun r s₆ h₆ => ?_))
      cases r with
      | ok f => exact wpAny_pure ⟨rfl, h₆⟩
      | error e => exact h₆.elim
theorem start_any {elt : PySem.Expr} {g0 : List Comprehension} {g : Comprehension} {scope : Scope} {pos : Pos} {it acc : Value} {d : Nat} (hg : (clausesOf (.ListComp elt g0 scope pos))[d]? = some g) (ha : g.is_async = 0)
    (h0 : codeAny (model prog w) A (.compLoop (.ListComp elt g0 scope pos) d it acc env) R s)
    (h : ∀ E', wpAny (model prog w) A (pyIter it) (fun it' s' => codeAny (model prog w) A (.compLoop (.ListComp elt g0 scope pos) d it' acc env) R s') E' s) :
    codeAny (model prog w) A (.compStart (.ListComp elt g0 scope pos) d it acc env) R s := by
  refine codeAny_of_tree ?_
  show wpAny _ _ ((compStart (.ListComp elt g0 scope pos) d it acc env).onRaise (fun x => do noteFrame x env; standAt theWindowsPlace)) _ _ s
  refine wpAny_notedAt ?_
  unfold compStart
  simp only [hg, Option.elim, ha, bne_self_eq_false, Bool.false_eq_true, if_false]
  refine wpAny_bind (wpAny_askSetting (wpAny_ite ?_))
  split
  · first
      | exact wpAny_bind (wpAny_pure (wpAny_pure (And.intro rfl h0)))
      | exact wpAny_pure (And.intro rfl h0)
  · exact wpAny_bind (wpAny_rule (wpAny_bind (wpAny_standAt (wpAny_bind (wpAny_mono (h _) (fun it' s' h' => wpAny_pure (And.intro rfl h')) fun _ _ x => x)))))
end
-- plain
section
open LCg
variable {prog : Program} {w : World} {A : Around} {E : Value → Shared → Prop} {R : Result → Shared → Prop} {s : Shared} {h₀ : Heap} {L : Addr} {m : Str → Option Value} {env : Env} {news : List (Addr × Obj)} {scope : Scope} {cl : List (Str × Addr)}
theorem Src.keeps {I : Addr} {n : Nat} {P : Nat → Value → Prop} {S : List (Addr × Obj) → Prop} {h h' : Heap} (W : Src prog w A h₀ L I n P S h) (hk : ∀ b o, h.get? b = some o → h'.get? b = some o) : Src prog w A h₀ L I n P S h' := by
  obtain ⟨fp, St, W, a, b, st, c⟩ := W
  exact ⟨fp, St, W, a, b, W.frame _ _ _ st fun b _ o e => hk b o e, c⟩
theorem Src.self {I : Addr} {n : Nat} {P : Nat → Value → Prop} {S : List (Addr × Obj) → Prop} {Q : Value → Shared → Prop} (W : Src prog w A h₀ L I n P S s.heap) (h : Q (.ref I) s) : wpAny (model prog w) A (pyIter (.ref I)) Q E s := by
  obtain ⟨fp, St, W, a, b, st, c⟩ := W
  exact W.self 0 s Q E st h
noncomputable abbrev cellO (v : Option Value) : Obj := { cls := .type "cell", data := .cell v }
theorem comp_open0 {e : PySem.Expr} {it : Value} {RR : Value → Addr → Result → Shared → Prop} (F : Fr h₀ L s.heap m) (N : News h₀ L s.heap news) (hcell : ∀ y ∈ scope.names, y.2 ≠ .cell) (hkind : scope.kind = .function)
    (h : ∀ C oC D h, NsObj oC (fun _ => none) → Fr h₀ L h m → News h₀ L h ((C, oC) :: (D, lst []) :: news) → D < C → (∀ p ∈ news, p.1 < D) → (∀ b o, s.heap.get? b = some o → h.get? b = some o) → (∀ b o, s.heap.get? b = some o → b < D) →
      codeAny (model prog w) A (.compStart e 0 it (.ref D) (compEnvC scope cl C env)) (RR (.ref D) C) { s with heap := h }) :
    wpAny (model prog w) A (newList []) (fun acc s₃ => wpAny (model prog w) A (newFunctionEnv scope env.globals cl [] env.qual none .none (some env)) (fun cenv s₄ =>
      codeAny (model prog w) A (.compStart e 0 it acc { cenv with scope := relabel scope env }) (RR acc cenv.locals) s₄) E s₃) E s := by
  refine wpAny_newObj_type (wpAny_newFunctionEnv hcell (by intro y hy; simp at hy) (fun h₁ hns₁ hsb₁ => ?_) hkind)
  dsimp only at hns₁ hsb₁ ⊢
  have F1 := F.push (lst [])
  have N1 := News.push F N (lst [])
  have hlt : s.heap.objs.size < (s.heap.push (lst [])).objs.size := by rw [Heap.size_push]; exact Nat.lt_succ_self _
  have up : ∀ b o, (s.heap.push (lst [])).get? b = some o → h₁.get? b = some o := fun b o e => hsb₁.extBut b o (Nat.ne_of_lt (Heap.lt_size e)) (Heap.get?_push_of_some _ e)
  have hns₂ : h₁.Ns (s.heap.push (lst [])).objs.size (fun _ => none) := hns₁
  obtain ⟨oC, hoC, hN⟩ := ns_obj hns₂
  have hC0 : h₀.get? (s.heap.push (lst [])).objs.size = none := next_is_new F1
  refine h _ oC _ h₁ hN (F1.keeps up) (fun p hp => ?_) hlt (fun p hp => Heap.lt_size (N p hp).1) (fun b o e => up b o (Heap.get?_push_of_some _ e)) (fun b o e => Heap.lt_size e)
  rcases List.mem_cons.mp hp with rfl | hp
  · exact ⟨hoC, Nat.ne_of_gt F1.ns.lt, hC0⟩
  · exact ⟨up _ _ (N1 p hp).1, (N1 p hp).2⟩
theorem comp_open1 {e : PySem.Expr} {it : Value} {y : Str} {RR : Value → Addr → Result → Shared → Prop} (F : Fr h₀ L s.heap m) (N : News h₀ L s.heap news) (hcf : ∀ n, cellsFrom n scope.names cl = (y, n) :: cl) (hpc : ∀ h, pushCells h scope.names = h.push (cellO none)) (hkind : scope.kind = .function)
    (h : ∀ C oC c D h, NsObj oC (fun _ => none) → Fr h₀ L h m → News h₀ L h ((c, cellO none) :: (C, oC) :: (D, lst []) :: news) → D < C → C < c → (∀ p ∈ news, p.1 < D) → (∀ b o, s.heap.get? b = some o → h.get? b = some o) → (∀ b o, s.heap.get? b = some o → b < D) →
      codeAny (model prog w) A (.compStart e 0 it (.ref D) (compEnvC scope ((y, c) :: cl) C env)) (RR (.ref D) C) { s with heap := h }) :
    wpAny (model prog w) A (newList []) (fun acc s₃ => wpAny (model prog w) A (newFunctionEnv scope env.globals cl [] env.qual none .none (some env)) (fun cenv s₄ =>
      codeAny (model prog w) A (.compStart e 0 it acc { cenv with scope := relabel scope env }) (RR acc cenv.locals) s₄) E s₃) E s := by
  refine wpAny_newObj_type ?_
  have F1 := F.push (lst [])
  have N1 := News.push F N (lst [])
  have F2 := F1.push ({ cls := .type "dict", data := .dict #[] } : Obj)
  have N2 := News.push F1 N1 ({ cls := .type "dict", data := .dict #[] } : Obj)
  have F3 := F2.push (cellO none)
  have hlt1 : s.heap.objs.size < (s.heap.push (lst [])).objs.size := by rw [Heap.size_push]; exact Nat.lt_succ_self _
  have hlt2 : (s.heap.push (lst [])).objs.size < ((s.heap.push (lst [])).push ({ cls := .type "dict", data := .dict #[] } : Obj)).objs.size := by simp only [Heap.size_push]; omega
  have N3 := News.push F2 N2 (cellO none)
  simp only [newFunctionEnv, Option.isSome_some, if_true]
  refine wpAny_bind (wpAny_alloc ?_)
  refine wpAny_bind (wpAny_layCells _ (fun name kind cells => by cases hkc : kind == NameKind.cell <;> simp [hkc]) _ _ _ _ ?_)
  rw [hcf, hpc]
  refine wpAny_bind ?_
  rw [List.forIn_nil]
  refine wpAny_pure (wpAny_pure ?_)
  refine h _ _ _ _ _ ⟨#[], 0, rfl, ?_, fun _ => rfl⟩ F3 N3 ?_ ?_ (fun p hp => Heap.lt_size (N p hp).1) (fun b o e => Heap.get?_push_of_some _ (Heap.get?_push_of_some _ (Heap.get?_push_of_some _ e))) (fun b o e => Heap.lt_size e)
  · intro e he
    simp at he
  · exact hlt1
  · exact hlt2
theorem nsObj_eq {o : Obj} {m₁ m₂ : Str → Option Value} (h : NsObj o m₁) (h' : NsObj o m₂) : m₁ = m₂ := by
  obtain ⟨es, ep, a, _, b⟩ := h
  obtain ⟨es', ep', a', _, b'⟩ := h'
  rw [a] at a'
  cases a'
  funext x
  rw [← b, ← b']
theorem asg_local {x : Str} {px : Pos} {C : Addr} (hkind : scope.kind = .function) (hx : scope.names.lookup x = some .local) : ∀ v oT (s : Shared) (Q : Unit → Shared → Prop) (E : Value → Shared → Prop), s.heap.get? C = some oT → (∃ m, NsObj oT m) →
    (∀ h' tk oT', h'.get? C = some oT' → (∃ m, NsObj oT m ∧ NsObj oT' (fun z => if z = x then some v else m z)) → (∃ m, NsObj oT' m) → Heap.SameBut C s.heap h' → Q () { s with heap := h', toks := tk }) → wpAny (model prog w) A (assign (.Name x px) (compEnvC scope cl C env) v) Q E s := by
  rintro v oT s Q E ho ⟨m₁, hm₁⟩ hQ
  refine wpAny_assign_Name (wpAny_storeName_local (lookup_relabel_local hx) (hm₁.ns ho) (fun h₃ hn₃ hs₃ => ?_) (by simp [compEnvC, relabel, hkind]))
  obtain ⟨o', ho', hn'⟩ := ns_obj hn₃
  exact hQ h₃ _ o' ho' ⟨m₁, hm₁, hn'⟩ ⟨_, hn'⟩ hs₃
theorem asg_cell {x : Str} {px : Pos} {C c : Addr} (hkind : (compEnvC scope cl C env).scope.kind = .function) (hx : (compEnvC scope cl C env).kindOf x = some .cell) (hc : cl.lookup x = some c) : ∀ v oT (s : Shared) (Q : Unit → Shared → Prop) (E : Value → Shared → Prop), s.heap.get? c = some oT → (∃ v, oT.data = .cell v) →
    (∀ h' tk oT', h'.get? c = some oT' → (oT'.data = .cell (some v)) → (∃ v, oT'.data = .cell v) → Heap.SameBut c s.heap h' → Q () { s with heap := h', toks := tk }) → wpAny (model prog w) A (assign (.Name x px) (compEnvC scope cl C env) v) Q E s := by
  rintro v oT s Q E ho ⟨v₀, hv₀⟩ hQ
  refine wpAny_assign_Name (wpAny_storeName_cell hkind hx hc ⟨oT, ho, hv₀⟩ fun h' hc' hs' => ?_)
  obtain ⟨o', ho', hd'⟩ := hc'
  exact hQ h' _ o' ho' hd' ⟨_, hd'⟩ hs'
/-- where a turn of the last clause ends -/
inductive CEnd (h₀ : Heap) (L : Addr) (m : Str → Option Value) (s : Shared) (I : Addr) (oI : Obj) (T : Addr) (oT : Obj) (D : Addr) (ys : List Value) (S : List (Addr × Obj) → Prop) (K : List (Addr × Obj) → Prop) (s' : Shared) : Prop
  | mk (h' : Heap) (tk' : Nat) (news' : List (Addr × Obj)) (c1 : s' = { s with heap := h', toks := tk' }) (c2 : Fr h₀ L h' m) (c3 : News h₀ L h' ((I, oI) :: (T, oT) :: (D, lst ys) :: news')) (c4 : Off3 I T D news') (c5 : S news') (c6 : K news') : CEnd h₀ L m s I oI T oT D ys S K s'
theorem tb_last {ifs : List PySem.Expr} {elt : PySem.Expr} {ce : Env} {I T D : Addr} {oI oT : Obj} {ys : List Value} {S : List (Addr × Obj) → Prop} {OkT : Obj → Prop} {J : List Value → Obj → List (Addr × Obj) → Prop} {s₀ : Shared} (hO : OkT oT) (hz : ys.length ≤ 100000) (hID : I ≠ D) (hTD : T ≠ D)
    (h : wpAny (model prog w) A (testsOf ifs ce) (fun ok s₃ => WhlIf ok (wpAny (model prog w) A (eval elt ce) (fun y s₄ => Halt (CEnd h₀ L m s₀ I oI T oT D ys S (fun nw => J (ys ++ [y]) oT nw) s₄)) E s₃) (Halt (CEnd h₀ L m s₀ I oI T oT D ys S (fun nw => J ys oT nw) s₃))) E s) :
    TBlast prog w A ifs elt (.ref D) ce (EndJ h₀ L m s₀ I oI T D S OkT J) E s := by
  refine wpAny_mono h (fun ok s₃ h₃ => ?_) fun _ _ e => e
  cases ok with
  | false =>
    have h₄ : CEnd h₀ L m s₀ I oI T oT D ys S (fun nw => J ys oT nw) s₃ := by unfold WhlIf at h₃; rw [if_neg Bool.false_ne_true] at h₃; exact h₃
    obtain ⟨h', tk', news', e, F', N', off, hS, hJ⟩ := h₄
    exact ⟨h', tk', ys, oT, news', e, F', N', off, hS, hO, hJ⟩
  | true =>
    unfold WhlIf at h₃
    rw [if_pos rfl] at h₃
    refine wpAny_mono h₃ (fun y s₄ h₄ => ?_) fun _ _ e => e
    obtain ⟨h', tk', news', rfl, F', N', off, hS, hJ⟩ := h₄
    have zD := N' _ (.tail _ (.tail _ (.head _)))
    have offm := off.mem
    refine append_at (hsz := by show ys.toArray.size ≤ sizeLine; rw [List.size_toArray, sizeLine_eq]; omega) zD.1 fun h₅ hs₅ hD₅ => ?_
    refine ⟨h₅, tk', ys ++ [y], oT, news', rfl, F'.change hs₅ zD.2.1 zD.2.2, fun p hp => ?_, off, hS, hO, hJ⟩
    rcases List.mem_cons.mp hp with rfl | hp
    · exact ⟨hs₅.extBut _ _ hID (N' _ (.head _)).1, (N' _ (.head _)).2⟩
    · rcases List.mem_cons.mp hp with rfl | hp
      · exact ⟨hs₅.extBut _ _ hTD (N' _ (.tail _ (.head _))).1, (N' _ (.tail _ (.head _))).2⟩
      · rcases List.mem_cons.mp hp with rfl | hp
        · exact ⟨hD₅.trans (congrArg some (lst_snoc ys y)), zD.2⟩
        · exact ⟨hs₅.extBut _ _ (offm p hp).2.2 (N' p (.tail _ (.tail _ (.tail _ hp)))).1, (N' p (.tail _ (.tail _ (.tail _ hp)))).2⟩
/-- the end of a comprehension that is an expression -/
theorem post_none {C D : Addr} {f : Flow} {oC : Obj} {ys : List Value} {h : Heap} {tk : Nat} {mC : Str → Option Value} {Q : Value → Shared → Prop} (F : Fr h₀ L h m) (N : News h₀ L h ((C, oC) :: (D, lst ys) :: news)) (hC : NsObj oC mC) (hCD : C ≠ D) (off : ∀ p ∈ news, p.1 ≠ C)
    (hq : ∀ h', Fr h₀ L h' m → News h₀ L h' ((D, lst ys) :: news) → Q (.ref D) { s with heap := h', toks := tk }) : compPost (model prog w) A E none Q (.ref D) C (.ok f) { s with heap := h, toks := tk } := by
  refine ⟨mC, hC.ns (N _ (.head _)).1, fun h'' hs'' => hq h'' (F.change hs'' (N _ (.head _)).2.1 (N _ (.head _)).2.2) fun p hp => ⟨hs''.extBut _ _ ?_ (N p (.tail _ hp)).1, (N p (.tail _ hp)).2⟩⟩
  rcases List.mem_cons.mp hp with rfl | hp
  · exact Ne.symm hCD
  · exact off p hp
theorem post_assign {y : Str} {py : Pos} {C D : Addr} {f : Flow} {oC : Obj} {ys : List Value} {h : Heap} {tk : Nat} {mC : Str → Option Value} {Q : Value → Shared → Prop} (hLe : env.locals = L) (hy : env.kindOf y = some .local) (hp : (env.scope.kind == .class || (env.scope.kind == .module && env.locals != env.globals)) = false)
    (F : Fr h₀ L h m) (N : News h₀ L h ((C, oC) :: (D, lst ys) :: news)) (hC : NsObj oC mC) (hCD : C ≠ D) (off : ∀ p ∈ news, p.1 ≠ C)
    (hq : ∀ h' tk', Fr h₀ L h' (fun z => if z = y then some (.ref D) else m z) → News h₀ L h' ((D, lst ys) :: news) → Q .none { s with heap := h', toks := tk' }) : compPost (model prog w) A E (some (assign (.Name y py) env)) Q (.ref D) C (.ok f) { s with heap := h, toks := tk } := by
  subst hLe
  show wpAny _ A (assign (.Name y py) env (.ref D)) _ _ _
  refine wpAny_assign_Name (wpAny_storeName_local hy F.ns (fun h₂ hn₂ hs₂ => ?_) hp)
  have F₂ : Fr h₀ env.locals h₂ (fun z => if z = y then some (.ref D) else m z) := F.set hn₂ hs₂
  have hCx := N _ (.head _)
  refine ⟨mC, (hC.ns hCx.1).sameBut hs₂ hCx.2.1, fun h'' hs'' => hq h'' _ (F₂.change hs'' hCx.2.1 hCx.2.2) fun p hp' => ⟨hs''.extBut _ _ ?_ (hs₂.extBut _ _ (N p (.tail _ hp')).2.1 (N p (.tail _ hp')).1), (N p (.tail _ hp')).2⟩⟩
  rcases List.mem_cons.mp hp' with rfl | hp'
  · exact Ne.symm hCD
  · exact off p hp'
end

section
open LCg
variable {prog : Program} {w : World} {A : Around} {E : Value → Shared → Prop} {R : Result → Shared → Prop} {s : Shared} {h₀ : Heap} {L : Addr} {m : Str → Option Value} {env : Env} {news : List (Addr × Obj)} {scope : Scope} {cl : List (Str × Addr)}
theorem one_local {elt iter : PySem.Expr} {x : Str} {px pos : Pos} {ifs : List PySem.Expr} {I C D : Addr} {n : Nat} {P : Nat → Value → Prop} {S : List (Addr × Obj) → Prop} {oC₀ : Obj} {m₀ : Str → Option Value} {nw₀ : List (Addr × Obj)}
    (hkind : scope.kind = .function) (hx : scope.names.lookup x = some .local) (W : Src prog w A h₀ L I n P S s.heap) (hIC : I ≠ C) (hID : I ≠ D) (hCD : C ≠ D)
    (J : Nat → List Value → List (Addr × Obj) → Prop) (hlen : ∀ i ys nw, J i ys nw → ys.length ≤ 100000)
    (turn : ∀ i v ys oI oC m₂ nw h tk E', i < n → P i v → J i ys nw → S nw → NsObj oC m₂ → m₂ x = some v → Fr h₀ L h m → News h₀ L h ((I, oI) :: (C, oC) :: (D, lst ys) :: nw) → Off3 I C D nw →
      wpAny (model prog w) A (testsOf ifs (compEnvC scope cl C env)) (fun ok s₃ => WhlIf ok (wpAny (model prog w) A (eval elt (compEnvC scope cl C env)) (fun y s₄ => Halt (CEnd h₀ L m s I oI C oC D ys S (fun nw => J (i + 1) (ys ++ [y]) nw) s₄)) E' s₃) (Halt (CEnd h₀ L m s I oI C oC D ys S (fun nw => J (i + 1) ys nw) s₃))) E' { s with heap := h, toks := tk })
    (done : ∀ ys oC mC nw h tk, J n ys nw → NsObj oC mC → Fr h₀ L h m → News h₀ L h ((C, oC) :: (D, lst ys) :: nw) → Off3 I C D nw → R (.ok .next) { s with heap := h, toks := tk })
    (F : Fr h₀ L s.heap m) (N : News h₀ L s.heap ((C, oC₀) :: (D, lst []) :: nw₀)) (off : Off3 I C D nw₀) (hS : S nw₀) (hC : NsObj oC₀ m₀) (hJ : J 0 [] nw₀) :
    codeAny (model prog w) A (.compStart (.ListComp elt [⟨.Name x px, iter, ifs, 0⟩] scope pos) 0 (.ref I) (.ref D) (compEnvC scope cl C env)) R s := by
  have loop : codeAny (model prog w) A (.compLoop (.ListComp elt [⟨.Name x px, iter, ifs, 0⟩] scope pos) 0 (.ref I) (.ref D) (compEnvC scope cl C env)) R s := by
    refine comp_core (UpT := fun v oT oT' => ∃ m, NsObj oT m ∧ NsObj oT' (fun z => if z = x then some v else m z)) (OkT := fun o => ∃ m, NsObj o m) W hIC hID hCD (asg_local hkind hx) TBlast.mono (rule1 (fun _ => rfl)) (fun i ys _ nw => J i ys nw) ?_ ?_ F N off hS ⟨_, hC⟩ hJ
    · intro i v ys oI oT oT' nw h tk E' hi hP hJ' hS' hU hO F' N' off'
      obtain ⟨m₁, -, hm₂⟩ := hU
      exact tb_last ⟨_, hm₂⟩ (hlen _ _ _ hJ') hID hCD (turn i v ys oI oT' _ nw h tk E' hi hP hJ' hS' hm₂ (by simp) F' N' off')
    · rintro ys oT nw h tk hJ' ⟨mC, hmC⟩ F' N' off'
      exact done ys oT mC nw h tk hJ' hmC F' N' off'
  exact start_any rfl rfl loop fun E' => W.self loop
theorem one_cell {elt iter : PySem.Expr} {x : Str} {px pos : Pos} {ifs : List PySem.Expr} {I C c D : Addr} {n : Nat} {P : Nat → Value → Prop} {S : List (Addr × Obj) → Prop} {oC₀ : Obj} {nw₀ : List (Addr × Obj)}
    (hkind : (compEnvC scope cl C env).scope.kind = .function) (hx : (compEnvC scope cl C env).kindOf x = some .cell) (hc : cl.lookup x = some c) (W : Src prog w A h₀ L I n P S s.heap) (hIc : I ≠ c) (hID : I ≠ D) (hcD : c ≠ D)
    (J : Nat → List Value → List (Addr × Obj) → Prop) (hlen : ∀ i ys nw, J i ys nw → ys.length ≤ 100000)
    (turn : ∀ i v ys oI oc nw h tk E', i < n → P i v → J i ys nw → S nw → oc.data = .cell (some v) → Fr h₀ L h m → News h₀ L h ((I, oI) :: (c, oc) :: (D, lst ys) :: nw) → Off3 I c D nw →
      wpAny (model prog w) A (testsOf ifs (compEnvC scope cl C env)) (fun ok s₃ => WhlIf ok (wpAny (model prog w) A (eval elt (compEnvC scope cl C env)) (fun y s₄ => Halt (CEnd h₀ L m s I oI c oc D ys S (fun nw => J (i + 1) (ys ++ [y]) nw) s₄)) E' s₃) (Halt (CEnd h₀ L m s I oI c oc D ys S (fun nw => J (i + 1) ys nw) s₃))) E' { s with heap := h, toks := tk })
    (done : ∀ ys oc nw h tk, J n ys nw → Fr h₀ L h m → News h₀ L h ((c, oc) :: (D, lst ys) :: nw) → Off3 I c D nw → R (.ok .next) { s with heap := h, toks := tk })
    (F : Fr h₀ L s.heap m) (N : News h₀ L s.heap ((c, cellO none) :: (D, lst []) :: nw₀)) (off : Off3 I c D nw₀) (hS : S nw₀) (hJ : J 0 [] nw₀) :
    codeAny (model prog w) A (.compStart (.ListComp elt [⟨.Name x px, iter, ifs, 0⟩] scope pos) 0 (.ref I) (.ref D) (compEnvC scope cl C env)) R s := by
  have loop : codeAny (model prog w) A (.compLoop (.ListComp elt [⟨.Name x px, iter, ifs, 0⟩] scope pos) 0 (.ref I) (.ref D) (compEnvC scope cl C env)) R s := by
    refine comp_core (UpT := fun v oT oT' => oT'.data = .cell (some v)) (OkT := fun o => ∃ v, o.data = .cell v) W hIc hID hcD (asg_cell hkind hx hc) TBlast.mono (rule1 (fun _ => rfl)) (fun i ys _ nw => J i ys nw) ?_ ?_ F N off hS ⟨_, rfl⟩ hJ
    · intro i v ys oI oT oT' nw h tk E' hi hP hJ' hS' hU hO F' N' off'
      exact tb_last hO (hlen _ _ _ hJ') hID hcD (turn i v ys oI oT' nw h tk E' hi hP hJ' hS' hU F' N' off')
    · rintro ys oT nw h tk hJ' - F' N' off'
      exact done ys oT nw h tk hJ' F' N' off'
  exact start_any rfl rfl loop fun E' => W.self loop
/-- the second of two clauses, as the turn of the first one finds it -/
inductive In2 (prog : Program) (w : World) (A : Around) (h₀ : Heap) (L : Addr) (m : Str → Option Value) (s : Shared) (ce : Env) (elt : PySem.Expr) (x1 x2 : Str) (ifs2 : List PySem.Expr) (v : Value) (I : Addr) (oI : Obj) (C D : Addr) (oC : Obj) (ys : List Value) (S : List (Addr × Obj) → Prop) (K : List Value → List (Addr × Obj) → Prop) (it : Value) (s₅ : Shared) : Prop
  | mk (I2 : Addr) (n2 : Nat) (P2 : Nat → Value → Prop) (S2 : List (Addr × Obj) → Prop) (nw2 : List (Addr × Obj)) (h : Heap) (tk : Nat) (J2 : Nat → List Value → List (Addr × Obj) → Prop) (c0 : it = .ref I2) (c1 : s₅ = { s with heap := h, toks := tk }) (c2 : Src prog w A h₀ L I2 n2 P2 S2 h) (c3 : Fr h₀ L h m) (c4 : News h₀ L h ((I, oI) :: (C, oC) :: (D, lst ys) :: nw2)) (c5 : Off3 I C D nw2) (c6 : (I2 ≠ I ∧ I2 ≠ C ∧ I2 ≠ D ∧ ∀ p ∈ nw2, p.1 ≠ I2)) (c7 : (∀ nw, (∀ p ∈ nw2, p ∈ nw) → S2 nw)) (c8 : J2 0 ys nw2) (c9 : (∀ j ys nw, J2 j ys nw → ys.length ≤ 100000 ∧ S nw ∧ (∀ p ∈ nw2, p ∈ nw) ∧ ∀ p ∈ nw, p.1 ≠ I)) (c10 : (∀ j v2 ys oI2 oC m₂ nw h tk E', j < n2 → P2 j v2 → J2 j ys nw → NsObj oC m₂ → m₂ x1 = some v → m₂ x2 = some v2 → Fr h₀ L h m → News h₀ L h ((I2, oI2) :: (C, oC) :: (D, lst ys) :: (I, oI) :: nw) → Off3 I2 C D ((I, oI) :: nw) → wpAny (model prog w) A (testsOf ifs2 ce) (fun ok s₃ => WhlIf ok (wpAny (model prog w) A (eval elt ce) (fun y s₄ => Halt (CEnd h₀ L m { s with heap := h, toks := tk } I2 oI2 C oC D ys (fun _ => True) (fun nwx => ∃ nw', nwx = (I, oI) :: nw' ∧ J2 (j + 1) (ys ++ [y]) nw') s₄)) E' s₃) (Halt (CEnd h₀ L m { s with heap := h, toks := tk } I2 oI2 C oC D ys (fun _ => True) (fun nwx => ∃ nw', nwx = (I, oI) :: nw' ∧ J2 (j + 1) ys nw') s₃))) E' { s with heap := h, toks := tk })) (c11 : (∀ ys nw, J2 n2 ys nw → K ys nw)) : In2 prog w A h₀ L m s ce elt x1 x2 ifs2 v I oI C D oC ys S K it s₅
theorem two_local {elt i1 i2 : PySem.Expr} {x1 x2 : Str} {px1 px2 pos : Pos} {ifs2 : List PySem.Expr} {I C D : Addr} {n : Nat} {P : Nat → Value → Prop} {S : List (Addr × Obj) → Prop} {oC₀ : Obj} {m₀ : Str → Option Value} {nw₀ : List (Addr × Obj)}
    (hkind : scope.kind = .function) (hx1 : scope.names.lookup x1 = some .local) (hx2 : scope.names.lookup x2 = some .local) (hx12 : x1 ≠ x2) (hs : ∀ x, foldedSetIterable i2 (compEnvC scope cl C env) x = pure x) (W : Src prog w A h₀ L I n P S s.heap) (hIC : I ≠ C) (hID : I ≠ D) (hCD : C ≠ D)
    (J : Nat → List Value → List (Addr × Obj) → Prop)
    (turn : ∀ i v ys oI oC m₂ nw h tk E', i < n → P i v → J i ys nw → S nw → NsObj oC m₂ → m₂ x1 = some v → Fr h₀ L h m → News h₀ L h ((I, oI) :: (C, oC) :: (D, lst ys) :: nw) → Off3 I C D nw →
      wpAny (model prog w) A (eval i2 (compEnvC scope cl C env)) (fun xv s₄ => wpAny (model prog w) A (pyIter xv) (fun it s₅ => Halt (In2 prog w A h₀ L m s (compEnvC scope cl C env) elt x1 x2 ifs2 v I oI C D oC ys S (J (i + 1)) it s₅)) E' s₄) E' { s with heap := h, toks := tk })
    (done : ∀ ys oC mC nw h tk, J n ys nw → NsObj oC mC → Fr h₀ L h m → News h₀ L h ((C, oC) :: (D, lst ys) :: nw) → Off3 I C D nw → R (.ok .next) { s with heap := h, toks := tk })
    (F : Fr h₀ L s.heap m) (N : News h₀ L s.heap ((C, oC₀) :: (D, lst []) :: nw₀)) (off : Off3 I C D nw₀) (hS : S nw₀) (hC : NsObj oC₀ m₀) (hJ : J 0 [] nw₀) :
    codeAny (model prog w) A (.compStart (.ListComp elt [⟨.Name x1 px1, i1, [], 0⟩, ⟨.Name x2 px2, i2, ifs2, 0⟩] scope pos) 0 (.ref I) (.ref D) (compEnvC scope cl C env)) R s := by
  have loop : codeAny (model prog w) A (.compLoop (.ListComp elt [⟨.Name x1 px1, i1, [], 0⟩, ⟨.Name x2 px2, i2, ifs2, 0⟩] scope pos) 0 (.ref I) (.ref D) (compEnvC scope cl C env)) R s := by
    refine comp_core (UpT := fun v oT oT' => ∃ m, NsObj oT m ∧ NsObj oT' (fun z => if z = x1 then some v else m z)) (OkT := fun o => ∃ m, NsObj o m) W hIC hID hCD (asg_local hkind hx1) TBfst.mono (rule2a (fun _ => rfl) hs) (fun i ys _ nw => J i ys nw) ?_ ?_ F N off hS ⟨_, hC⟩ hJ
    · intro i v ys oI oT oT' nw h tk E' hi hP hJ' hS' hU hO F' N' off'
      obtain ⟨m₁, -, hm₂⟩ := hU
      refine wpAny_tests_nil ?_
      rw [if_pos rfl]
      refine wpAny_mono (turn i v ys oI oT' _ nw h tk E' hi hP hJ' hS' hm₂ (by simp) F' N' off') (fun xv s₄ h₄ => wpAny_mono h₄ (fun it s₅ h₅ => ?_) fun _ _ e => e) fun _ _ e => e
      obtain ⟨I2, n2, P2, S2, nw2, h2, tk2, J2, rfl, rfl, W2, F2, N2, off2, ⟨a1, a2, a3, a4⟩, hS2, hJ2, hpr, turn2, fin2⟩ := h₅
      have offm := off2.mem
      have hgo : codeAny (model prog w) A (.compLoop (.ListComp elt [⟨.Name x1 px1, i1, [], 0⟩, ⟨.Name x2 px2, i2, ifs2, 0⟩] scope pos) 1 (.ref I2) (.ref D) (compEnvC scope cl C env)) (Rin (EndJ h₀ L m s I oI C D S (fun o => ∃ m, NsObj o m) (fun ys _ nw => J (i + 1) ys nw))) { s with heap := h2, toks := tk2 } := by
        refine comp_core (R := Rin (EndJ h₀ L m s I oI C D S (fun o => ∃ m, NsObj o m) (fun ys _ nw => J (i + 1) ys nw))) (TB := TBlast prog w A ifs2 elt (.ref D) (compEnvC scope cl C env)) (news₀ := (I, oI) :: nw2) (ys₀ := ys) (oT₀ := oT') (UpT := fun v oT oT' => ∃ m, NsObj oT m ∧ NsObj oT' (fun z => if z = x2 then some v else m z)) (OkT := fun o => ∃ m, NsObj o m) W2 a2 a3 hCD (asg_local hkind hx2) TBlast.mono (rule2b (fun _ => rfl))
          (fun j ys oT nwx => ∃ nw', nwx = (I, oI) :: nw' ∧ J2 j ys nw' ∧ ∃ m', NsObj oT m' ∧ m' x1 = some v) ?_ ?_ F2 ?_ ?_ (hS2 _ fun p hp => .tail _ hp) ⟨_, hm₂⟩ ⟨nw2, rfl, hJ2, _, hm₂, by simp⟩
        · rintro j v2 ys' oI2 oT3 oT4 nwx h3 tk3 E3 hj hP2 ⟨nw', rfl, hJj, mj, hmj, hmj1⟩ hS3 hU3 hO3 F3 N3 off3
          obtain ⟨m₃, hm₃, hm₄⟩ := hU3
          obtain rfl := nsObj_eq hmj hm₃
          refine tb_last ⟨_, hm₄⟩ (hpr _ _ _ hJj).1 a3 hCD (wpAny_mono (turn2 j v2 ys' oI2 oT4 _ nw' h3 tk3 E3 hj hP2 hJj hm₄ (by simp [hx12, hmj1]) (by simp) F3 N3 off3) (fun ok s₇ h₇ => ?_) fun _ _ e => e)
          cases ok with
          | false =>
            refine WhlIf.no rfl ?_
            unfold WhlIf at h₇
            rw [if_neg Bool.false_ne_true] at h₇
            obtain ⟨h8, tk8, nw8, e8, F8, N8, off8, -, nw9, rfl, hJ9⟩ := h₇
            exact ⟨h8, tk8, _, e8, F8, N8, off8, hS2 _ fun p hp => .tail _ ((hpr _ _ _ hJ9).2.2.1 p hp), nw9, rfl, hJ9, _, hm₄, by simp [hx12, hmj1]⟩
          | true =>
            refine WhlIf.yes rfl ?_
            unfold WhlIf at h₇
            rw [if_pos rfl] at h₇
            refine wpAny_mono h₇ (fun y s₉ h₉ => ?_) fun _ _ e => e
            obtain ⟨h8, tk8, nw8, e8, F8, N8, off8, -, nw9, rfl, hJ9⟩ := h₉
            exact ⟨h8, tk8, _, e8, F8, N8, off8, hS2 _ fun p hp => .tail _ ((hpr _ _ _ hJ9).2.2.1 p hp), nw9, rfl, hJ9, _, hm₄, by simp [hx12, hmj1]⟩
        · rintro ys' oT3 nwx h3 tk3 ⟨nw', rfl, hJj, mj, hmj, -⟩ - F3 N3 off3
          have offm3 := off3.mem
          refine ⟨h3, tk3, ys', oT3, nw', rfl, F3, fun p hp => ?_, Off3.of fun p hp => ⟨(hpr _ _ _ hJj).2.2.2 p hp, (offm3 p (.tail _ hp)).2⟩, (hpr _ _ _ hJj).2.1, ⟨_, hmj⟩, fin2 _ _ hJj⟩
          rcases List.mem_cons.mp hp with rfl | hp
          · exact N3 _ (.tail _ (.tail _ (.head _)))
          · rcases List.mem_cons.mp hp with rfl | hp
            · exact N3 _ (.head _)
            · rcases List.mem_cons.mp hp with rfl | hp
              · exact N3 _ (.tail _ (.head _))
              · exact N3 _ (.tail _ (.tail _ (.tail _ hp)))
        · intro p hp
          rcases List.mem_cons.mp hp with rfl | hp
          · exact N2 _ (.tail _ (.head _))
          · rcases List.mem_cons.mp hp with rfl | hp
            · exact N2 _ (.tail _ (.tail _ (.head _)))
            · rcases List.mem_cons.mp hp with rfl | hp
              · exact N2 _ (.head _)
              · exact N2 _ (.tail _ (.tail _ (.tail _ hp)))
        · refine Off3.of fun p hp => ?_
          rcases List.mem_cons.mp hp with rfl | hp
          · exact ⟨Ne.symm a1, hIC, hID⟩
          · exact ⟨a4 p hp, (offm p hp).2⟩
      exact start_any rfl rfl hgo fun E' => W2.self hgo
    · rintro ys oT nw h tk hJ' ⟨mC, hmC⟩ F' N' off'
      exact done ys oT mC nw h tk hJ' hmC F' N' off'
  exact start_any rfl rfl loop fun E' => W.self loop
theorem evalComp {elt : PySem.Expr} {g : Comprehension} {gs : List Comprehension} {pos : Pos} {Q : Value → Shared → Prop} (hclos : closureFor scope env = pure cl) (hkind : scope.kind = .function) (hnames : ∀ x ∈ scope.names, x.2 = .local → scope.names.lookup x.1 = some .local) (hs : ∀ x, foldedSetIterable g.iter env x = pure x) (ha : g.is_async = 0)
    (h : wpAny (model prog w) A (eval g.iter env) (fun xv s₁ => wpAny (model prog w) A (pyIter xv) (fun it s₂ => Halt (wpAny (model prog w) A (newList []) (fun acc s₃ => wpAny (model prog w) A (newFunctionEnv scope env.globals cl [] env.qual none .none (some env)) (fun cenv s₄ =>
      codeAny (model prog w) A (.compStart (.ListComp elt (g :: gs) scope pos) 0 it acc { cenv with scope := relabel scope env }) (compPost (model prog w) A E none Q acc cenv.locals) s₄) E s₃) E s₂)) E s₁) E s) :
    wpAny (model prog w) A (eval (.ListComp elt (g :: gs) scope pos) env) Q E s := by
  rw [eval_ListComp]
  obtain ⟨gt, gi, gf, ga⟩ := g
  simp only at ha
  subst ha
  exact wpAny_comprehension_free (use := none) rfl hs hclos hkind hnames h
theorem assignComp {elt : PySem.Expr} {g : Comprehension} {gs : List Comprehension} {y : Str} {py pos spos : Pos} {Q : Flow → Shared → Prop} (hsw : swapsWith (.ListComp elt (g :: gs) scope pos) (some (.Name y py)) spos.line env = pure true) (hclos : closureFor scope env = pure cl) (hkind : scope.kind = .function) (hnames : ∀ x ∈ scope.names, x.2 = .local → scope.names.lookup x.1 = some .local) (hs : ∀ x, foldedSetIterable g.iter env x = pure x) (ha : g.is_async = 0)
    (h : wpAny (model prog w) A (eval g.iter env) (fun xv s₁ => wpAny (model prog w) A (pyIter xv) (fun it s₂ => Halt (wpAny (model prog w) A (newList []) (fun acc s₃ => wpAny (model prog w) A (newFunctionEnv scope env.globals cl [] env.qual none .none (some env)) (fun cenv s₄ =>
      codeAny (model prog w) A (.compStart (.ListComp elt (g :: gs) scope pos) 0 it acc { cenv with scope := relabel scope env }) (compPost (model prog w) A E (some (assign (.Name y py) env)) (fun _ s' => Q .next s') acc cenv.locals) s₄) E s₃) E s₂)) E s₁) E s) :
    wpAny (model prog w) A (exec (.Assign [.Name y py] (.ListComp elt (g :: gs) scope pos) spos) env) Q E s := by
  rw [exec_Assign_Name_used _ _ _ _ hsw]
  refine wpAny_bind (wpAny_standAt (wpAny_bind ?_))
  obtain ⟨gt, gi, gf, ga⟩ := g
  simp only at ha
  subst ha
  show wpAny _ A (do let _ ← comprehension (.ListComp elt (⟨gt, gi, gf, 0⟩ :: gs) scope pos) scope env _ (newList []) false (eval gi env) (some (assign (.Name y py) env))) _ _ s
  exact wpAny_bind (wpAny_mono (wpAny_comprehension_free (use := some (assign (.Name y py) env)) (Q := fun _ s' => Q .next s') rfl hs hclos hkind hnames h) (fun _ s' hq => wpAny_pure (wpAny_pure hq)) fun _ _ e => e)
end
open LCg in
theorem comp_off {I C D : Addr} {news : List (Addr × Obj)} (lI : ∀ p ∈ news, p.1 < I) (hlt : ∀ p ∈ news, p.1 < D) (hDC : D < C) : Off3 I C D news := Off3.of fun p hp => ⟨Nat.ne_of_lt (lI p hp), Nat.ne_of_lt (Nat.lt_trans (hlt p hp) hDC), Nat.ne_of_lt (hlt p hp)⟩
theorem Src.there {prog : Program} {w : World} {A : Around} {h₀ : Heap} {L I : Addr} {n : Nat} {P : Nat → Value → Prop} {S : List (Addr × Obj) → Prop} {h : Heap} (W : Src prog w A h₀ L I n P S h) : ∃ o, h.get? I = some o := by
  obtain ⟨fp, St, W, a, b, st, c⟩ := W
  exact a _ _ st
noncomputable def TryMark : Prop := True
local macro_rules | `(tactic| walk_at "eval ListComp") => `(tactic| (k_here; (with_reducible rename CompMark => hCM'); refine Halt.out ?_))
local macro_rules | `(tactic| walk_at "exec Assign cons ListComp") => `(tactic| (k_here; (with_reducible rename FindMark => hCM'); refine Halt.out ?_))
local macro_rules | `(tactic| walk_at "pyIter ref") => `(tactic| (k_here; (with_reducible rename CompMark => hCM'); refine Halt.out ?_))
-- plain
section
variable {A₀ : Around} {base h₀ g g2 : Heap} {outer : List Env} {env : Env} {L : Addr} {m : Str → Option Value} {rest news : List (Addr × Obj)} {e t : Addr} {cls : Value} {vs : List Value} {h : Heap} {l : List Env}
/-- a callee's turned ground, as its caller sees it -/
theorem turn_back (B : Below A₀ base outer h₀) (F : Fr h₀ L g m) (hf : env.frame = some L) (T' : KtsTurn ((env :: outer).filterMap (·.frame)) g g2) (D : KtsDicts (outer.filterMap (·.frame)) h₀) :
    ∃ h₀', KtsTurn (outer.filterMap (·.frame)) h₀ h₀' ∧ Fr h₀' L g2 m ∧ Below A₀ base outer h₀' ∧ KtsDicts (outer.filterMap (·.frame)) h₀' := by
  have kts_mem : ∀ {b : Addr}, b ∈ (env :: outer).filterMap (·.frame) → b = L ∨ b ∈ outer.filterMap (·.frame) := fun {b} hm => by
    obtain ⟨e', he, hf'⟩ := List.mem_filterMap.mp hm
    rcases List.mem_cons.mp he with rfl | he
    · rw [hf] at hf'
      exact .inl (Option.some.inj hf').symm
    · exact .inr (List.mem_filterMap.mpr ⟨e', he, hf'⟩)
  have nL₀ : h₀.get? L = none := kts_self F
  obtain ⟨T₁, S₁⟩ := kts_turn_at (h := g2) (fs := outer.filterMap (·.frame)) (g := h₀)
    (fun b hb => by
      obtain ⟨_, o, ho', _⟩ := B.frames.mem hb
      exact ⟨o, ho'⟩)
    (fun b o e nmem => T'.other b o (F.keep b o e) (fun q => by
      rcases kts_mem q with z | z
      · rw [z, nL₀] at e
        cases e
      · exact nmem z))
    (fun b o e _ => T'.up (F.keep b o e))
  obtain ⟨oL, es, ep, hL, hLd, hLk, hLf⟩ := F.ns
  obtain ⟨sl, hs⟩ := T'.up hL
  refine ⟨_, T₁, ⟨⟨_, es, ep, hs, hLd, hLk, hLf⟩, S₁, by rw [T₁.size]; exact F.above⟩, ⟨B.stack, fun b o e => T₁.other b o (B.stays b o e) (fun hm => by
    rw [(B.frames.mem hm).1] at e
    cases e), B.frames.of_keeps fun b o e _ => by
    obtain ⟨sl', hs'⟩ := T₁.up e
    exact ⟨_, hs', rfl⟩⟩, D.turn T₁⟩
theorem raised_rest (R : RaisedS base g l e cls t vs news h) (hr : ∀ q ∈ rest, g.get? q.1 = some q.2 ∧ q.1 ∉ l.filterMap (·.frame) ∧ base.get? q.1 = none) : RaisedS base (hideAll g (rest.map (·.1))) l e cls t vs (news ++ rest) h := by
  obtain ⟨⟨B, hB, hBG, hl, hfl, hnew⟩, htup⟩ := R
  refine ⟨⟨B, hB, fun b o e nm => hBG b o (of_hideAll _ e) nm, fun q hq => ?_, hfl, hnew⟩, htup⟩
  rcases List.mem_append.mp hq with hq | hq
  · refine ⟨(hl q hq).1, ?_, (hl q hq).2.2⟩
    cases z : (hideAll g (rest.map (·.1))).get? q.1 with
    | none => rfl
    | some o =>
      have := of_hideAll _ z
      rw [(hl q hq).2.1] at this
      cases this
  · exact ⟨hBG _ _ (hr q hq).1 (hr q hq).2.1, hideAll_none _ (List.mem_map_of_mem hq), (hr q hq).2.2⟩
theorem raised_sub {news' : List (Addr × Obj)} (R : RaisedS base g l e cls t vs news h) (hs : ∀ q ∈ news', q ∈ news) : RaisedS base g l e cls t vs news' h := by
  obtain ⟨⟨B, hB, hBG, hl, hfl, hnew⟩, htup⟩ := R
  exact ⟨⟨B, hB, hBG, fun q hq => hl q (hs q hq), hfl, hnew⟩, htup⟩
theorem fr_hide (F : Fr h₀ L g m) (hr : ∀ q ∈ rest, q.1 ≠ L ∧ h₀.get? q.1 = none) : Fr h₀ L (hideAll g (rest.map (·.1))) m := by
  obtain ⟨oL, es, ep, hL, r⟩ := F.ns
  refine ⟨⟨oL, es, ep, hideAll_get _ hL fun hm => ?_, r⟩, fun b o e => hideAll_get _ (F.keep b o e) fun hm => ?_, F.above⟩
  · obtain ⟨q, hq, e⟩ := List.mem_map.mp hm
    exact (hr q hq).1 e
  · obtain ⟨q, hq, e'⟩ := List.mem_map.mp hm
    have := (hr q hq).2
    rw [e', e] at this
    cases this
theorem upTo_hide (U : g.UpToSlots h) (ad : List Addr) : (hideAll g ad).UpToSlots h := fun b o e => U b o (of_hideAll _ e)
end
section
variable {w : World} {mean : ExcName → Option Value} {mg mb : Str → Option Value} {dp un : Nat} {gd : Option (List Code)} {cn : Str} {cs : Scope} {a : Addr} {ccd : Value} {cl : List (Str × Addr)} {outer : List Env} {A₀ : Around} {base h₀ : Heap} {L : Addr} {m : Str → Option Value} {rest : List (Addr × Obj)} {s : Shared}
  {x dx d : Addr} {t1 t2 t3 t4 : Tok} {u3 u4 : Tok} {od : Obj} {G : List Nd} {Q E : Value → Shared → Prop}
noncomputable def ready0 (g : Gr) : List Int := (g.filter fun e => e.2.1 == 0).map (·.1)
theorem prep_K (H : AtT w mean mg mb 16 dp un cs A₀ base h₀ outer L m s.heap)
    (N : News h₀ L s.heap (S3 w.params x dx d t1 t2 t3 t4 .none (.int 0 u3) (.int 0 u4) 4 od ++ (objs G ++ rest)))
    (nd : (adr (S3 w.params x dx d t1 t2 t3 t4 .none (.int 0 u3) (.int 0 u4) 4 od ++ objs G)).Nodup)
    (har : ∀ q ∈ rest, q.1 ∉ adr (S3 w.params x dx d t1 t2 t3 t4 .none (.int 0 u3) (.int 0 u4) 4 od ++ objs G))
    (hod : od.IsDictOf (intKind PySem.Challenge.rw_oh0060_01.row.prog w) (kvs G)) (lo : (d == sysModules) = false)
    (hgl : G.length ≤ 300) (hsc : ∀ n ∈ G, n.succ.length ≤ 100) (hcl : ∀ n ∈ G, ∀ p ∈ n.succ, p.1 ∈ keys G)
    (hretN : ∀ h' tk' h₀' R rd re, KtsTurn (outer.filterMap (·.frame)) h₀ h₀' → AtT w mean mg mb 16 dp un cs A₀ base h₀' outer L m h' → News h₀' L h' (S4 w.params x dx d R t1 t2 t3 t4 0 u3 0 u4 od rd re ++ (objs G ++ rest)) → (x :: dx :: d :: R :: adr (objs G)).Nodup → (∀ q ∈ rest, q.1 ∉ x :: dx :: d :: R :: adr (objs G)) → rd.map (·.1) = ready0 (absG G) → rd.length ≤ 300 → Acy (absG G) → Q .none { s with heap := h', toks := tk' })
    (hretE : ∀ h' tk' h₀' G₂ R rd re ex tx vs, KtsTurn (outer.filterMap (·.frame)) h₀ h₀' → RaisedS base G₂ (envX cn cs L a ccd cl :: outer) ex (.ref 76) tx vs (S4 w.params x dx d R t1 t2 t3 t4 0 u3 0 u4 od rd re ++ (objs G ++ rest)) h' → Fr h₀' L G₂ m → Below A₀ base outer h₀' → G₂.UpToSlots h' → KtsDicts (outer.filterMap (·.frame)) h₀' →
      (x :: dx :: d :: R :: adr (objs G)).Nodup → (∀ q ∈ rest, q.1 ∉ x :: dx :: d :: R :: adr (objs G)) → rd.map (·.1) = ready0 (absG G) → rd.length ≤ 300 → Cyc (absG G) → E (.ref ex) { s with heap := h', toks := tk' }) :
    wpAny (model PySem.Challenge.rw_oh0060_01.row.prog w) (ktrTop dp un gd cn cs L a ccd cl outer) (call (.ref 113) [.ref x]) Q E s := by
  have hQM : QMark := trivial
  obtain ⟨⟨B, F, X, T, hk, hdp, hu⟩, XB, TB, Dc⟩ := H
  have Nf : News h₀ L s.heap ((x, instObj 158 dx) :: (dx, dictOf (attrs w.params t1 t2 t3 t4 d .none (.int 0 u3) (.int 0 u4)) 4) :: (d, od) :: objs G) := News.sub N (by walk_at "MY sub2")
  have Nr : News h₀ L s.heap rest := News.sub N fun p hp => List.mem_append_right _ (List.mem_append_right _ hp)
  have har' : ∀ q ∈ rest, q.1 ∉ ((x, instObj 158 dx) :: (dx, dictOf (attrs w.params t1 t2 t3 t4 d .none (.int 0 u3) (.int 0 u4)) 4) :: (d, od) :: objs G).map (·.1) := har
  have hCM : CompMark := trivial
  refine wpAny_call ?_
  ((k_dflt (refine' code_defT ?k1x1 ?k2x1 ?k3x1 ?k4x1 ?k5x1 ?xbx1 ?tbx1 ?Dx1 ?nrx1 ?harx1 ?kAx1 ?kFx1 ?k6x1 ?k7x1 ?k8x1 ?k9x1 ?kBx1 ?_ ?c1x1 ?c2x1 ?c3x1 ?c4x1 ?c5x1; (case kAx1 => exact rfl); (case kFx1 => exact rfl); (case harx1 => assumption); (case k1x1 => k_asm); (case k2x1 => k_asm); (case k3x1 => assumption); (case k4x1 => assumption); (case k5x1 => assumption); (case xbx1 => assumption); (case tbx1 => assumption); (case Dx1 => assumption); (case nrx1 => assumption); (case k6x1 => k_is); (case k7x1 => k_is); (case k8x1 => ktr_room); (case k9x1 => first | exact BindsTo.of_eq rfl | exact binds_K (by k_in) rfl (by k_is) rfl rfl rfl); (case c5x1 => decide); (case kBx1 => exact locs rfl); (case c1x1 => first | exact rfl | assumption); (case c2x1 => exact rfl); (case c3x1 => exact rfl); (case c4x1 => exact rfl); k_whole)))
  intro g L' h₁ FG F' N' hro l1 B' X' T' Dg
  clear X T Nf
  dsimp only
  try k_fold
  k_steps
  show wpAny _ _ _ _ _ _
  k_dflt (refine evalComp (by with_unfolding_all rfl) (by rfl) (by decide) (by intro _; rfl) rfl ?_)
  k_steps
  show wpAny _ _ _ _ _ _
  k_dflt (refine src_vals (kv := kvs G) (d := d) rfl ‹Fr g L' _ _› ‹News g L' _ _› (by walk_at "MY in") ⟨rfl, rfl⟩ (by walk_at "MY in") hod ?_)
  intro I h6 F6 N6 lI W6
  show wpAny _ _ _ _ _ _
  have N6' : News g L' h6 ((x, instObj 158 dx) :: (dx, dictOf (attrs w.params t1 t2 t3 t4 d .none (.int 0 u3) (.int 0 u4)) 4) :: (d, od) :: objs G) := fun p hp => N6 p (.tail _ hp)
  have lI' : ∀ p ∈ (x, instObj 158 dx) :: (dx, dictOf (attrs w.params t1 t2 t3 t4 d .none (.int 0 u3) (.int 0 u4)) 4) :: (d, od) :: objs G, p.1 < I := fun p hp => lI p (.tail _ hp)
  k_dflt (refine comp_open0 F6 N6' (by decide) rfl ?_)
  intro C oC D h7 hoC F7 N7 hDC hlt hkeep hall
  obtain ⟨oI₀, hoI₀⟩ := W6.there
  have hID : I < D := hall _ _ hoI₀
  have off0 := comp_off (I := I) lI' hlt hDC
  k_dflt (refine one_local rfl rfl (W6.keeps hkeep) (Nat.ne_of_lt (Nat.lt_trans hID hDC)) (Nat.ne_of_lt hID) (Nat.ne_of_gt hDC) (fun i ys nw => nw = (x, instObj 158 dx) :: (dx, dictOf (attrs w.params t1 t2 t3 t4 d .none (.int 0 u3) (.int 0 u4)) 4) :: (d, od) :: objs G ∧ ys = vals (((G.take i).filter fun n => n.np == 0).map fun n => (n.key, n.tk))) ?hlen ?turn ?done F7 N7 off0 (.tail _ (.tail _ (.head _))) hoC ⟨rfl, rfl⟩)
  case hlen =>
    rintro i ys nw ⟨-, rfl⟩
    have h1 := List.length_filter_le (fun n : Nd => n.np == 0) (G.take i)
    have h2 := List.length_take_le i G
    simp only [vals, List.length_map]
    have h3 : (G.take i).length ≤ G.length := by simp [List.length_take]; omega
    omega
  case turn =>
    rintro i v ys oI oC m₂ nw h8 tk8 E' hi ⟨k, hkv⟩ hJJ
    refine ex0a2 hJJ fun hqE1 hqE2 => ?_
    clear hJJ
    subst hqE1
    subst hqE2
    rintro hS hoC hmx F8 N8 off
    refine wpAny_tests_one ?_
    obtain ⟨n, hn, rfl⟩ : ∃ n, G[i]? = some n ∧ v = .ref n.ia := by
      simp only [kvs, List.getElem?_map, Option.map_eq_some_iff, Prod.mk.injEq] at hkv
      obtain ⟨n, h1, -, h2⟩ := hkv
      exact ⟨n, h1, h2.symm⟩
    have hnG : ∀ p ∈ n.objs, p ∈ objs G := fun p hp => by
      rw [objs, List.mem_flatMap]
      exact ⟨n, List.mem_of_getElem? hn, hp⟩
    have N9 : News g L' h8 ((n.ia, infoObj n.da n.key n.tk n.np n.tnp n.la) :: (n.da, dictOf [] 0) :: (n.la, W.listOf (vals n.succ).toArray n.ep) :: (I, oI) :: (C, oC) :: (D, LCg.lst (vals (((G.take i).filter fun n => n.np == 0).map fun n => (n.key, n.tk)))) :: (x, instObj 158 dx) :: (dx, dictOf (attrs w.params t1 t2 t3 t4 d .none (.int 0 u3) (.int 0 u4)) 4) :: (d, od) :: objs G) := News.sub N8 (sub_app (l := n.objs) (fun p hp => .tail _ (.tail _ (.tail _ (.tail _ (.tail _ (.tail _ (hnG p hp))))))) (by walk_at "MY sub2"))
    clear N8 F6 N6 F7 N7
    have htk : ((G.take (i + 1)).filter fun n => n.np == 0).map (fun n => (n.key, n.tk)) = ((G.take i).filter fun n => n.np == 0).map (fun n => (n.key, n.tk)) ++ (if (n.np == 0) = true then [(n.key, n.tk)] else []) := by
      rw [List.take_add_one, hn, List.filter_append]
      cases hb : (n.np == 0) <;> simp [hb]
    cases hb : (n.np == 0) with
    | true =>
      rw [hb, if_pos rfl] at htk
      k_steps
      show Halt _
      refine ⟨_, _, (x, instObj 158 dx) :: (dx, dictOf (attrs w.params t1 t2 t3 t4 d .none (.int 0 u3) (.int 0 u4)) 4) :: (d, od) :: objs G, rfl, ‹Fr g L' _ _›, News.sub ‹News g L' _ _› (by walk_at "MY sub2"), off, hS, rfl, ?_⟩
      rw [htk]
      simp [vals]
    | false =>
      rw [hb, if_neg Bool.false_ne_true, List.append_nil] at htk
      k_steps
      show Halt _
      refine ⟨_, _, (x, instObj 158 dx) :: (dx, dictOf (attrs w.params t1 t2 t3 t4 d .none (.int 0 u3) (.int 0 u4)) 4) :: (d, od) :: objs G, rfl, ‹Fr g L' _ _›, News.sub ‹News g L' _ _› (by walk_at "MY sub2"), off, hS, rfl, ?_⟩
      rw [htk]
  case done =>
    rintro ys oC mC nw h8 tk8 hJJ
    refine ex0a2 hJJ fun hqE1 hqE2 => ?_
    clear hJJ
    subst hqE1
    subst hqE2
    rintro hC F8 N8 off
    have hlk : (kvs G).length = G.length := kvs_length G
    rw [hlk, List.take_length] at N8
    obtain ⟨rd, hrd⟩ : ∃ rd, rd = (G.filter fun n => n.np == 0).map fun n => (n.key, n.tk) := ⟨_, rfl⟩
    rw [← hrd] at N8
    k_dflt (refine post_none F8 N8 hC (Nat.ne_of_gt hDC) (fun p hp => (off.mem p hp).2.1) ?_)
    intro h9 F9 N9
    have N10 : News g L' h9 ((D, W.listOf (vals rd).toArray (vals rd).length) :: (x, instObj 158 dx) :: (dx, dictOf (attrs w.params t1 t2 t3 t4 d .none (.int 0 u3) (.int 0 u4)) 4) :: (d, od) :: objs G) := N9
    have hn1 := nd
    simp only [adr, List.map_cons, List.cons_append, List.nil_append, List.nodup_cons, List.mem_cons, not_or] at hn1
    obtain ⟨⟨e1, e2, e3⟩, ⟨e4, e5⟩, e6, -⟩ := hn1
    have e7 : ∀ p ∈ objs G, p.1 ≠ dx := not_adr e5
    have e8 : dx ≠ D := Nat.ne_of_lt (hlt _ (.tail _ (.head _)))
    have e9 : dx ≠ x := Ne.symm e1
    have e10 : dx ≠ d := e4
    clear N9 N8 F8 F7 N7 F6 N6 N6' lI lI' N' F'
    (try dsimp only)
    k_steps
    show wpAny _ _ _ _ _ _
    have hDn : D ∉ x :: dx :: d :: adr (objs G) := by
      intro hm
      have hm' : D ∈ adr ((x, instObj 158 dx) :: (dx, dictOf (attrs w.params t1 t2 t3 t4 d .none (.int 0 u3) (.int 0 u4)) 4) :: (d, od) :: objs G) := hm
      obtain ⟨p, hp, e⟩ := List.mem_map.mp hm'
      exact Nat.ne_of_lt (hlt p hp) e
    have nd4 : (x :: dx :: d :: D :: adr (objs G)).Nodup := by
      have h1 : (D :: x :: dx :: d :: adr (objs G)).Nodup := List.nodup_cons.mpr ⟨hDn, nd⟩
      refine nodup_perm h1 fun a => ?_
      simp only [List.count_cons]
      omega
    have hrl : rd.length ≤ 300 := by
      rw [hrd, List.length_map]
      exact Nat.le_trans (List.length_filter_le _ _) hgl
    have hrD : ∀ q ∈ rest, q.1 ∉ x :: dx :: d :: D :: adr (objs G) := fun q hq hm => by
      have h1 := har q hq
      have h2 : q.1 ∈ D :: x :: dx :: d :: adr (objs G) := by
        simp only [List.mem_cons] at hm ⊢
        rcases hm with h | h | h | h | h
        · exact .inr (.inl h)
        · exact .inr (.inr (.inl h))
        · exact .inr (.inr (.inr (.inl h)))
        · exact .inl h
        · exact .inr (.inr (.inr (.inr h)))
      rcases List.mem_cons.mp h2 with h2 | h2
      · have := (‹News g L' _ ((D, _) :: _)› _ (.head _)).2.2
        rw [← h2, hro q hq] at this
        cases this
      · exact h1 h2
    have hre : rd.map (·.1) = ready0 (absG G) := by
      rw [hrd, List.map_map]
      unfold ready0 absG
      rw [List.filter_map, List.map_map]
      rfl
    k_dflt (refine find_K (rest := []) (R := D) (rq := rd) (re := (vals rd).length) ⟨⟨B', ‹Fr g L' _ _›, X', T', rfl, by (first | omega | (dsimp only [ktrTop, Around.deeper, Around.mark] at *; omega) | (simp only [depth_under_make, depth_under_kw, depth_in1, depth_deeper, depth_caller, units_in1, units_deeper, Around.mark_units, units_caller] at *; dsimp only [ktrTop] at *; omega)), by (first | omega | (dsimp only [ktrTop, Around.deeper, Around.mark] at *; omega) | (simp only [depth_under_make, depth_under_kw, depth_in1, depth_deeper, depth_caller, units_in1, units_deeper, Around.mark_units, units_caller] at *; dsimp only [ktrTop] at *; omega))⟩, XB, TB, Dg⟩ (News.sub ‹News g L' _ _› (by walk_at "MY sub2")) nd4 (fun q hq => by cases hq) hod lo hgl hsc hcl ?retN ?retC)
    case retN =>
      intro h11 tk11 g2 hT2 hAt N11 hacy
      obtain ⟨⟨B2, F11, X2, T2, -, -, -⟩, -, -, D2⟩ := hAt
      clear B' X' T' Dg
      k_steps
      refine ⟨g2, L', _, _, hT2, ‹Fr g2 L' _ _›, News.sub ‹News g2 L' _ _› (l' := S4 w.params x dx d D t1 t2 t3 t4 0 u3 0 u4 od rd (vals rd).length ++ objs G) (by walk_at "MY sub2"), fun h₀' T₁ F₁ N₁ B₁ X₁ P₁ D₁ => ?_⟩
      exact hretN _ _ h₀' D rd _ T₁ ⟨⟨B₁, F₁, X₁, P₁, hk, hdp, hu⟩, XB, TB, D₁⟩ (News.sub N₁ (by walk_at "MY sub2")) nd4 hrD hre hrl hacy
    case retC =>
      intro h11 tk11 g2 Cy vs e hT2 hAt N11 hvs hvl hCy hcyc
      obtain ⟨⟨B2, F11, X2, T2, -, -, -⟩, -, -, D2⟩ := hAt
      clear B' X' T' Dg
      have N12 : News g2 L' h11 ((Cy, W.listOf vs.toArray e) :: (x, instObj 158 dx) :: (dx, dictOf (attrs w.params t1 t2 t3 t4 d (.ref D) (.int 0 u3) (.int 0 u4)) 4) :: (d, od) :: (D, W.listOf (vals rd).toArray (vals rd).length) :: objs G) := News.sub N11 (by walk_at "MY sub2")
      clear N11
      obtain ⟨h₀', T₁, F₁, B₁, D₁⟩ := turn_back B FG rfl hT2 Dc
      have hrF : ∀ q ∈ rest, g2.get? q.1 = some q.2 ∧ q.1 ∉ (envX cn cs L a ccd cl :: outer).filterMap (·.frame) ∧ base.get? q.1 = none := fun q hq => by
        have hq0 := Nr q hq
        have hnf : q.1 ∉ (envX cn cs L a ccd cl :: outer).filterMap (·.frame) := fun hm => by
          obtain ⟨env, he, hf⟩ := List.mem_filterMap.mp hm
          rcases List.mem_cons.mp he with rfl | he
          · exact hq0.2.1 (Option.some.inj hf).symm
          · obtain ⟨o, ho, _⟩ := (B.frames.mem (List.mem_filterMap.mpr ⟨env, he, hf⟩)).2
            rw [hq0.2.2] at ho; cases ho
        refine ⟨hT2.other _ _ (hro q hq) hnf, hnf, ?_⟩
        cases z : base.get? q.1 with
        | none => rfl
        | some o =>
          have := B.stays _ _ z
          rw [hq0.2.2] at this
          cases this
      have hrF2 : ∀ q ∈ rest, q.1 ≠ L ∧ h₀'.get? q.1 = none := fun q hq => ⟨(Nr q hq).2.1, T₁.none_ _ (Nr q hq).2.2⟩
      clear B FG Dc
      k_steps
      show wpAny _ _ _ _ _ _
      ((k_dflt (first | (refine truthy_L0 (by k_asm) (by k_mem) (by rfl) ?_) | (refine truthy_L1 (by k_asm) (by k_mem) (by assumption) (by size_fits) ?_))))
      k_steps
      exact hretE _ _ h₀' _ D rd (vals rd).length _ _ _ T₁ (raised_sub (raised_rest ‹RaisedS base g2 _ _ _ _ _ _ _› hrF) (by walk_at "MY sub2")) (fr_hide F₁ hrF2) B₁ (upTo_hide ‹g2.UpToSlots _› _) ‹KtsDicts _ h₀'› nd4 hrD hre hrl hcyc
end
-- plain
/-! the rounds without the heap -/
noncomputable def ind (g0 : Gr) (D : List Int) (k : Int) : Nat := (g0.map fun e => if e.1 ∈ D then 0 else e.2.2.count k).sum
noncomputable def shape (g : Gr) : List (Int × List Int) := g.map fun e => (e.1, e.2.2)
noncomputable def stepR (c : Gr × List Int) : Gr × List Int := c.2.foldl doneN (c.2.foldl (fun g k => setnp g k (-1)) c.1, [])
structure RI (g0 : Gr) (D : List Int) (c : Gr × List Int) : Prop where
  nd0 : (g0.map (·.1)).Nodup
  cl0 : ∀ e ∈ g0, ∀ k ∈ e.2.2, k ∈ g0.map (·.1)
  sh : shape c.1 = shape g0
  nd : (D ++ c.2).Nodup
  sub : ∀ k ∈ D ++ c.2, k ∈ g0.map (·.1)
  npD : ∀ k ∈ D, npOf c.1 k = -2
  npN : ∀ k ∈ g0.map (·.1), k ∉ D → npOf c.1 k = ind g0 D k
  rdy : ∀ k ∈ g0.map (·.1), k ∉ D → (k ∈ c.2 ↔ ind g0 D k = 0)
  cloD : ∀ k ∈ D, ind g0 D k = 0
noncomputable def RoundsOk (g0 : Gr) (R : List (List Int)) : Prop := ∀ pre rd post, R = pre ++ rd :: post → rd ≠ [] ∧ ∀ k ∈ rd, ind g0 pre.flatten k = 0
theorem RoundsOk.nil (g0 : Gr) : RoundsOk g0 [] := fun pre rd post e => by simp at e
theorem RoundsOk.snoc {g0 : Gr} {R : List (List Int)} {rd : List Int} (h : RoundsOk g0 R) (h1 : rd ≠ []) (h2 : ∀ k ∈ rd, ind g0 R.flatten k = 0) : RoundsOk g0 (R ++ [rd]) := by
  intro pre a post e
  rcases List.eq_nil_or_concat post with rfl | ⟨post', z, rfl⟩
  · obtain ⟨e1, e2⟩ := List.append_inj' e rfl
    cases e2
    rw [← e1]
    exact ⟨h1, h2⟩
  · have e' : R ++ [rd] = (pre ++ a :: post') ++ [z] := by rw [e]; simp
    obtain ⟨e1, _⟩ := List.append_inj' e' rfl
    exact h pre a post' e1
theorem RI.rd0 {g0 : Gr} {D : List Int} {c : Gr × List Int} (h : RI g0 D c) : ∀ k ∈ c.2, ind g0 D k = 0 := fun k hk => by
  have hD : k ∉ D := fun hd => by
    have := List.nodup_append.mp h.nd
    exact this.2.2 k hd k hk rfl
  exact (h.rdy k (h.sub k (List.mem_append_right _ hk)) hD).mp hk
theorem fr_eq {g h : Heap} {L : Addr} {m m' : Str → Option Value} (F : Fr g L h m) (e : ∀ y, m y = m' y) : Fr g L h m' := (funext e : m = m') ▸ F
noncomputable abbrev Rnd := Addr × List (Int × Tok)
noncomputable def refsOf (rs : List Rnd) : List Value := rs.map fun r => Value.ref r.1
noncomputable def robjs (rs : List Rnd) : List (Addr × Obj) := rs.map fun r => (r.1, tupO (vals r.2))
noncomputable def rkeys (rs : List Rnd) : List (List Int) := rs.map fun r => r.2.map (·.1)
theorem refsOf_snoc (rs : List Rnd) (r : Rnd) : refsOf (rs ++ [r]) = refsOf rs ++ [Value.ref r.1] := by simp [refsOf]
theorem robjs_snoc (rs : List Rnd) (r : Rnd) : robjs (rs ++ [r]) = robjs rs ++ [(r.1, tupO (vals r.2))] := by simp [robjs]
theorem rkeys_snoc (rs : List Rnd) (r : Rnd) : rkeys (rs ++ [r]) = rkeys rs ++ [r.2.map (·.1)] := by simp [rkeys]
theorem nodup_sub_len {l : List Int} : ∀ {l' : List Int}, l.Nodup → (∀ k ∈ l, k ∈ l') → l.length ≤ l'.length := by
  induction l with
  | nil => intro l' _ _; simp
  | cons a l ih =>
    intro l' hn hs
    obtain ⟨h1, h2⟩ := List.nodup_cons.mp hn
    have h3 : l.length ≤ (l'.erase a).length := ih h2 fun k hk => (List.mem_erase_of_ne (a := k) (b := a) (fun e : k = a => h1 (e ▸ hk))).mpr (hs k (.tail _ hk))
    have h4 := List.length_erase_of_mem (hs a (.head _))
    have h5 : 0 < l'.length := List.length_pos_of_mem (hs a (.head _))
    simp only [List.length_cons]
    omega
theorem RI.len {g0 : Gr} {D : List Int} {c : Gr × List Int} (h : RI g0 D c) : D.length + c.2.length ≤ g0.length := by
  have h1 : (D ++ c.2).length ≤ (g0.map (·.1)).length := nodup_sub_len h.nd fun k hk => h.sub k hk
  simpa using h1
theorem roundsOk_len {g0 : Gr} {R : List (List Int)} (h : RoundsOk g0 R) : R.length ≤ R.flatten.length := by
  have h1 : ∀ rd ∈ R, rd ≠ [] := fun rd hrd => by
    obtain ⟨pre, post, e⟩ := List.append_of_mem hrd
    exact (h pre rd post e).1
  clear h
  induction R with
  | nil => simp
  | cons a R ih =>
    have h2 := ih fun rd hrd => h1 rd (.tail _ hrd)
    have h3 : 0 < a.length := List.length_pos_iff.mpr (h1 a (.head _))
    simp only [List.length_cons, List.flatten_cons, List.length_append]
    omega
theorem factsR {Rl x dx d R : Addr} {G : List Nd} {rs : List Rnd} (h : ((Rl :: x :: dx :: d :: R :: adr (objs G)) ++ adr (robjs rs)).Nodup) :
    (x :: dx :: d :: R :: adr (objs G)).Nodup ∧ (∀ q ∈ robjs rs, q.1 ∉ Rl :: x :: dx :: d :: R :: adr (objs G)) ∧ Rl ∉ x :: dx :: d :: R :: adr (objs G) := by
  obtain ⟨h1, _, h3⟩ := List.nodup_append.mp h
  exact ⟨(List.nodup_cons.mp h1).2, fun q hq hm => h3 q.1 hm q.1 (adr_mem hq) rfl, (List.nodup_cons.mp h1).1⟩
theorem factsA {x dx d R : Addr} {G : List Nd} (h : (x :: dx :: d :: R :: adr (objs G)).Nodup) : d ∉ [x, dx, R] ∧ ∀ q ∈ objs G, q.1 ∉ [x, dx, R] := by
  obtain ⟨h1, h2⟩ := List.nodup_cons.mp h
  obtain ⟨h3, h4⟩ := List.nodup_cons.mp h2
  obtain ⟨h5, h6⟩ := List.nodup_cons.mp h4
  obtain ⟨h7, h8⟩ := List.nodup_cons.mp h6
  constructor
  · intro hm
    simp only [List.mem_cons, List.not_mem_nil, or_false] at hm
    rcases hm with e | e | e
    · exact h1 (by rw [← e]; exact .tail _ (.head _))
    · exact h3 (by rw [← e]; exact .head _)
    · exact h5 (by rw [← e]; exact .head _)
  · intro q hq hm
    have hq' := adr_mem hq
    simp only [List.mem_cons, List.not_mem_nil, or_false] at hm
    rcases hm with e | e | e
    · exact h1 (by rw [← e]; exact .tail _ (.tail _ (.tail _ hq')))
    · exact h3 (by rw [← e]; exact .tail _ (.tail _ hq'))
    · exact h7 (by rw [← e]; exact hq')
local macro_rules | `(tactic| walk_at "exec Try") => `(tactic| (k_here; (with_reducible rename TryMark => hTM'); refine Halt.out ?_))
-- plain
section
variable {M : Model} {A : Around} {E : Value → Shared → Prop} {s : Shared} {env : Env}
theorem methodCall_star {o e : PySem.Expr} {name : Str} {apos pos p : Pos} {Q : Value → Shared → Prop}
    (h : wpAny M A (eval o env) (fun ov s₁ => wpAny M A (getAttr ov name true) (fun f s₂ => wpAny M A (callWith pos f [] (backTo pos (starEach [.Starred e p] env)) []) Q E s₂) E s₁) E s)
    (he : eval (.Call (.Attribute o name apos) [.Starred e p] [] pos) env = (do
      let ov ← eval o env
      standAt apos.atName
      let fx ← holding [ov] (do let f ← getAttr ov name true; pure (f, ([] : List Value)))
      let callPos ← pure pos
      callWith callPos fx.1 fx.2 (backTo pos (starEach [.Starred e p] env)) []) := by rfl) :
    wpAny M A (eval (.Call (.Attribute o name apos) [.Starred e p] [] pos) env) Q E s := by
  rw [he]
  exact wpAny_bind (wpAny_mono h (fun ov s₁ h₁ => wpAny_bind (wpAny_standAt (wpAny_bind (wpAny_holding (wpAny_bind (wpAny_mono h₁ (fun f s₂ h₂ => wpAny_pure (wpAny_bind (wpAny_pure h₂))) fun _ _ x => x)))))) fun _ _ x => x)
end
section
variable {M : Model} {A : Around} {E : Value → Shared → Prop} {s : Shared} {env : Env} {K : Frag}
theorem callWith_SM {q g : Addr} {self : Value} {first : List Value} {pos p : Pos} {e : PySem.Expr} {Q : Value → Shared → Prop} {h₀ : Heap} {L : Addr} {news : List (Addr × Obj)} (_N : News h₀ L s.heap news) (_q : (q, methodObj (.ref g) self) ∈ news) (_X : K.In h₀) (hf : fnIn K g = true)
    (h : wpAny M A (eval e env) (fun v s₁ => StarOf M A E v (fun vs s₂ => MethP K q g self s₂.heap ∧ wpAny M A (call (.ref q) (first ++ vs)) Q E s₂) s₁) E s)
    (he : starEach [.Starred e p] env = [(true, eval e env)] := by rfl) :
    wpAny M A (callWith pos (.ref q) first (backTo pos (starEach [.Starred e p] env)) []) Q E s := by
  rw [he]
  exact ks_call rfl (keeps_M hf) (ks_lone h)
end
section
variable {prog : Program} {w : World} {A : Around} {E : Value → Shared → Prop} {s : Shared} {h₀ : Heap} {L l : Addr} {news : List (Addr × Obj)} {vs : List Value} {n : Nat}
theorem item_push {value slice : PySem.Expr} {u : Tok} {v : Value} {Q : Value → Shared → Prop} (N : News h₀ L s.heap news) (hl : (l, W.listOf (vs.toArray.push v) n) ∈ news) (hz : vs.length ≤ 16000) (h : Q v s)
    (hs : subscripted slice false (.ref l) (.int (-1) u) = operate [.ref l, .int (-1) u] (getItem (.ref l) (.int (-1) u)) := by with_unfolding_all rfl) :
    wpAny (model prog w) A (subscriptTail value slice (.ref l) (.int (-1) u)) Q E s := by
  rw [List.push_toArray] at hl
  exact item_last N hl ⟨_, rfl⟩ (by simp only [List.length_append, List.length_cons, List.length_nil]; omega) h hs
end
local macro_rules | `(tactic| walk_at "eval Call Attribute") => `(tactic| (k_here; (with_reducible rename TryMark => hCM'); refine Halt.out ?_))
local macro_rules | `(tactic| walk_at "callWith ref") => `(tactic| (k_here; (with_reducible rename TryMark => hCM'); refine Halt.out ?_))
local macro_rules | `(tactic| walk_at "StarOf ref") => `(tactic| (k_here; refine Halt.out ?_))
-- plain
theorem shape_setnp (g : Gr) (k v : Int) : shape (setnp g k v) = shape g := by
  unfold shape setnp
  rw [List.map_map]
  refine List.map_congr_left fun e _ => ?_
  simp only [Function.comp]
  split <;> rfl
theorem shape_setall (l : List Int) (g : Gr) (v : Int) : shape (l.foldl (fun g k => setnp g k v) g) = shape g := by
  induction l generalizing g with
  | nil => rfl
  | cons a l ih => rw [List.foldl_cons, ih, shape_setnp]
theorem shape_node {G G' : List Nd} (h : shape (absG G') = shape (absG G)) {n : Nd} (hn : n ∈ G') : ∃ n0 ∈ G, n0.key = n.key ∧ n0.succ.map (·.1) = n.succ.map (·.1) := by
  have h1 : (n.key, n.succ.map (·.1)) ∈ shape (absG G') := by
    unfold shape absG
    rw [List.map_map]
    exact List.mem_map.mpr ⟨n, hn, rfl⟩
  rw [h] at h1
  unfold shape absG at h1
  rw [List.map_map] at h1
  obtain ⟨n0, hn0, e⟩ := List.mem_map.mp h1
  simp only [Function.comp, absN, Prod.mk.injEq] at e
  exact ⟨n0, hn0, e.1, e.2⟩
theorem find_setnp (g : Gr) (k v k' : Int) : (setnp g k v).find? (fun e => e.1 == k') = (g.find? fun e => e.1 == k').map fun e => if e.1 = k then (e.1, v, e.2.2) else e := by
  unfold setnp
  rw [List.find?_map]
  have e : ((fun e : Int × Int × List Int => e.1 == k') ∘ fun e => if e.1 = k then (e.1, v, e.2.2) else e) = fun e => e.1 == k' := by
    funext e
    simp only [Function.comp]
    split <;> rfl
  rw [e]
theorem find_key {g : Gr} {k : Int} {e : Int × Int × List Int} (h : g.find? (fun e => e.1 == k) = some e) : e.1 = k := by
  have := List.find?_some h
  simpa using this
theorem find_of_key {g : Gr} {k : Int} (h : k ∈ g.map (·.1)) : ∃ e, g.find? (fun e => e.1 == k) = some e := by
  obtain ⟨e, he, hk⟩ := List.mem_map.mp h
  cases q : g.find? (fun e => e.1 == k) with
  | some e => exact ⟨e, rfl⟩
  | none =>
    have := List.find?_eq_none.mp q e he
    simp [hk] at this
theorem npOf_setnp {g : Gr} {k : Int} (v k' : Int) (h : k ∈ g.map (·.1)) : npOf (setnp g k v) k' = if k' = k then v else npOf g k' := by
  unfold npOf
  rw [find_setnp]
  cases q : g.find? (fun e => e.1 == k') with
  | none =>
    rw [if_neg]
    · rfl
    · intro e
      subst e
      obtain ⟨e, he⟩ := find_of_key h
      rw [q] at he
      cases he
  | some e =>
    have := find_key q
    by_cases hk : k' = k
    · simp [this, hk]
    · simp [this, hk]
theorem succOf_shape {g g' : Gr} (h : shape g = shape g') (k : Int) : succOf g k = succOf g' k := by
  have e : ∀ g : Gr, succOf g k = (((shape g).find? fun e => e.1 == k).map (·.2)).getD [] := fun g => by
    unfold succOf shape
    rw [List.find?_map, Option.map_map]
    rfl
  rw [e, e, h]
theorem keys_shape {g g' : Gr} (h : shape g = shape g') : g.map (·.1) = g'.map (·.1) := by
  have e : ∀ g : Gr, g.map (·.1) = (shape g).map (·.1) := fun g => by
    unfold shape
    rw [List.map_map]
    rfl
  rw [e, e, h]
theorem doneS_fold (l : List Int) : ∀ (g : Gr) (q : List Int), (∀ k ∈ l, k ∈ g.map (·.1)) → (∀ k ∈ l, (l.count k : Int) ≤ npOf g k) →
    ∃ g' new, l.foldl doneS (g, q) = (g', q ++ new) ∧ shape g' = shape g ∧ (∀ k ∈ g.map (·.1), npOf g' k = npOf g k - l.count k) ∧ new.Nodup ∧ ∀ k, k ∈ new ↔ k ∈ l ∧ npOf g k = l.count k := by
  induction l with
  | nil =>
    intro g q _ _
    exact ⟨g, [], by simp, rfl, fun k _ => by simp, List.nodup_nil, fun k => by simp⟩
  | cons s l ih =>
    intro g q hk hc
    have hsk := hk s (.head _)
    have hkeys : (setnp g s (npOf g s - 1)).map (·.1) = g.map (·.1) := keys_shape (shape_setnp _ _ _)
    have hnp := fun k' => npOf_setnp (npOf g s - 1) k' hsk
    have hcs := hc s (.head _)
    rw [List.count_cons_self] at hcs
    obtain ⟨g', new, e, sh, np', nd, mem⟩ := ih (setnp g s (npOf g s - 1)) (if npOf g s - 1 = 0 then q ++ [s] else q) (fun k h => by rw [hkeys]; exact hk k (.tail _ h)) (fun k h => by
      rw [hnp]
      by_cases e : k = s
      · rw [if_pos e, e]; omega
      · rw [if_neg e]
        have := hc k (.tail _ h)
        rw [List.count_cons_of_ne (Ne.symm e)] at this
        exact this)
    refine ⟨g', (if npOf g s - 1 = 0 then [s] else []) ++ new, ?_, sh.trans (shape_setnp _ _ _), fun k hkk => ?_, ?_, fun k => ?_⟩
    · rw [List.foldl_cons]
      have : doneS (g, q) s = (setnp g s (npOf g s - 1), if npOf g s - 1 = 0 then q ++ [s] else q) := rfl
      rw [this, e]
      split <;> simp
    · rw [np' k (by rw [hkeys]; exact hkk), hnp]
      by_cases e : k = s
      · rw [if_pos e, e, List.count_cons_self]; omega
      · rw [if_neg e, List.count_cons_of_ne (Ne.symm e)]
    · split
      · rename_i h0
        refine List.nodup_cons.mpr ⟨fun hm => ?_, nd⟩
        have h1 := (mem s).mp hm
        have h2 : 0 < l.count s := List.count_pos_iff.mpr h1.1
        omega
      · exact nd
    · have hm := mem k
      rw [hnp] at hm
      by_cases e : k = s
      · subst e
        rw [if_pos rfl] at hm
        rw [List.count_cons_self]
        split
        · rename_i h0
          constructor
          · intro _
            exact ⟨.head _, by omega⟩
          · intro _
            exact .head _
        · rename_i h0
          rw [List.nil_append, hm]
          constructor
          · rintro ⟨h1, h2⟩
            exact ⟨.head _, by omega⟩
          · rintro ⟨_, h2⟩
            refine ⟨List.count_pos_iff.mp (by omega), by omega⟩
      · rw [if_neg e] at hm
        rw [List.count_cons_of_ne (Ne.symm e)]
        have : k ∈ (if npOf g s - 1 = 0 then [s] else []) ++ new ↔ k ∈ new := by
          split <;> simp [e]
        rw [this, hm]
        simp [e]
theorem ind_cons (e : Int × Int × List Int) (g : Gr) (D : List Int) (k : Int) : ind (e :: g) D k = (if e.1 ∈ D then 0 else e.2.2.count k) + ind g D k := by simp [ind]
theorem ind_off {g : Gr} {D : List Int} {a k : Int} (h : a ∉ g.map (·.1)) : ind g (D ++ [a]) k = ind g D k := by
  induction g with
  | nil => rfl
  | cons e g ih =>
    have h1 : e.1 ≠ a := fun h' => h (by simp [h'])
    have h2 : a ∉ g.map (·.1) := fun h' => h (List.mem_cons_of_mem _ h')
    rw [ind_cons, ind_cons, ih h2]
    simp [h1]
theorem succOf_cons (e : Int × Int × List Int) (g : Gr) (a : Int) : succOf (e :: g) a = if e.1 = a then e.2.2 else succOf g a := by
  unfold succOf
  by_cases h : e.1 = a
  · rw [List.find?_cons_of_pos (by simp [h]), if_pos h]; rfl
  · rw [List.find?_cons_of_neg (by simp [h]), if_neg h]
theorem ind_snoc {g : Gr} {D : List Int} {a : Int} (k : Int) (hn : (g.map (·.1)).Nodup) (ha : a ∈ g.map (·.1)) (hD : a ∉ D) : ind g (D ++ [a]) k + (succOf g a).count k = ind g D k := by
  induction g with
  | nil => simp at ha
  | cons e g ih =>
    rw [List.map_cons, List.nodup_cons] at hn
    rw [ind_cons, ind_cons, succOf_cons]
    by_cases h : e.1 = a
    · rw [if_pos h, ind_off (by rw [← h]; exact hn.1)]
      have h1 : e.1 ∈ D ++ [a] := by simp [h]
      have h2 : e.1 ∉ D := by rw [h]; exact hD
      rw [if_pos h1, if_neg h2]
      omega
    · rw [if_neg h]
      have ha' : a ∈ g.map (·.1) := by
        rcases List.mem_cons.mp ha with e' | h'
        · exact absurd e'.symm h
        · exact h'
      have := ih hn.2 ha'
      have h3 : e.1 ∈ D ++ [a] ↔ e.1 ∈ D := by simp [h]
      by_cases h4 : e.1 ∈ D
      · rw [if_pos h4, if_pos (h3.mpr h4)]; omega
      · rw [if_neg h4, if_neg (fun h' => h4 (h3.mp h'))]; omega
theorem ind_le (g : Gr) {D D' : List Int} (k : Int) (h : ∀ a ∈ D, a ∈ D') : ind g D' k ≤ ind g D k := by
  induction g with
  | nil => exact Nat.le_refl _
  | cons e g ih =>
    rw [ind_cons, ind_cons]
    by_cases h1 : e.1 ∈ D
    · rw [if_pos h1, if_pos (h _ h1)]; omega
    · rw [if_neg h1]
      split <;> omega
structure SI (g0 : Gr) (D rd P : List Int) (c : Gr × List Int) : Prop where
  sh : shape c.1 = shape g0
  np2 : ∀ k ∈ g0.map (·.1), k ∈ D ∨ k ∈ P → npOf c.1 k = -2
  np1 : ∀ k ∈ g0.map (·.1), k ∈ rd → k ∉ P → npOf c.1 k = -1
  npN : ∀ k ∈ g0.map (·.1), k ∉ D → k ∉ rd → npOf c.1 k = ind g0 (D ++ P) k
  ndq : c.2.Nodup
  memq : ∀ k, k ∈ c.2 ↔ k ∈ g0.map (·.1) ∧ k ∉ D ∧ k ∉ rd ∧ ind g0 (D ++ P) k = 0
theorem SI.step {g0 : Gr} {D : List Int} {c0 c : Gr × List Int} {P : List Int} {a : Int} (r : RI g0 D c0) (h : SI g0 D c0.2 P c) (ha : a ∈ c0.2) (hP : a ∉ P) (hPr : ∀ k ∈ P, k ∈ c0.2) : SI g0 D c0.2 (P ++ [a]) (doneN c a) := by
  have hndD := List.nodup_append.mp r.nd
  have haD : a ∉ D := fun hd => hndD.2.2 a hd a ha rfl
  have hak : a ∈ g0.map (·.1) := r.sub a (List.mem_append_right _ ha)
  have hkc : c.1.map (·.1) = g0.map (·.1) := keys_shape h.sh
  have hl : succOf c.1 a = succOf g0 a := succOf_shape h.sh a
  have haDP : a ∉ D ++ P := fun hm => (List.mem_append.mp hm).elim haD hP
  have hcnt : ∀ k, ind g0 D k = 0 → (succOf g0 a).count k = 0 := fun k hk => by
    have := ind_snoc k r.nd0 hak haD
    omega
  have hsnoc : ∀ k, ind g0 (D ++ (P ++ [a])) k + (succOf g0 a).count k = ind g0 (D ++ P) k := fun k => by
    rw [← List.append_assoc]
    exact ind_snoc k r.nd0 hak haDP
  have hlD : ∀ k ∈ succOf g0 a, k ∉ D ∧ k ∉ c0.2 ∧ k ∈ g0.map (·.1) := fun k hk => by
    have hp : 0 < (succOf g0 a).count k := List.count_pos_iff.mpr hk
    refine ⟨fun hd => ?_, fun hd => ?_, ?_⟩
    · have := hcnt k (r.cloD k hd); omega
    · have := hcnt k (r.rd0 k hd); omega
    · obtain ⟨e, he⟩ := find_of_key hak
      have e2 : succOf g0 a = e.2.2 := by unfold succOf; rw [he]; rfl
      rw [e2] at hk
      exact r.cl0 e (List.mem_of_find?_eq_some he) k hk
  have hka : a ∈ c.1.map (·.1) := by rw [hkc]; exact hak
  have hnp := fun k' => npOf_setnp (-2) k' hka
  have hk2 : (setnp c.1 a (-2)).map (·.1) = g0.map (·.1) := (keys_shape (shape_setnp _ _ _)).trans hkc
  obtain ⟨g', new, e, sh, np', nd, mem⟩ := doneS_fold (succOf g0 a) (setnp c.1 a (-2)) c.2 (fun k hk => by rw [hk2]; exact (hlD k hk).2.2) (fun k hk => by
    obtain ⟨h1, h2, h3⟩ := hlD k hk
    rw [hnp, if_neg (fun e : k = a => h2 (e ▸ ha)), h.npN k h3 h1 h2]
    have := hsnoc k
    omega)
  have hd : doneN c a = (g', c.2 ++ new) := by
    unfold doneN
    rw [hl]
    exact e
  rw [hd]
  have hnp2 : ∀ k ∈ g0.map (·.1), npOf g' k = (if k = a then -2 else npOf c.1 k) - (succOf g0 a).count k := fun k hk => by
    rw [np' k (by rw [hk2]; exact hk), hnp]
  refine ⟨sh.trans ((shape_setnp _ _ _).trans h.sh), fun k hk hm => ?_, fun k hk hr hnP => ?_, fun k hk h1 h2 => ?_, ?_, fun k => ?_⟩
  · rw [hnp2 k hk]
    have hz : (succOf g0 a).count k = 0 := by
      rcases hm with hd | hp
      · exact hcnt k (r.cloD k hd)
      · rcases List.mem_append.mp hp with hp | hp
        · exact hcnt k (r.rd0 k (hPr k hp))
        · rw [List.mem_singleton.mp hp]; exact hcnt a (r.rd0 a ha)
    by_cases e : k = a
    · rw [if_pos e, hz]; rfl
    · have : npOf c.1 k = -2 := h.np2 k hk (by
        rcases hm with hd | hp
        · exact .inl hd
        · rcases List.mem_append.mp hp with hp | hp
          · exact .inr hp
          · exact absurd (List.mem_singleton.mp hp) e)
      rw [if_neg e, hz, this]; rfl
  · have e : k ≠ a := fun e => hnP (by simp [e])
    rw [hnp2 k hk, if_neg e, hcnt k (r.rd0 k hr), h.np1 k hk hr (fun hp => hnP (List.mem_append_left _ hp))]
    rfl
  · have e : k ≠ a := fun e => h2 (e ▸ ha)
    rw [hnp2 k hk, if_neg e, h.npN k hk h1 h2]
    have := hsnoc k
    omega
  · refine List.nodup_append.mpr ⟨h.ndq, nd, fun k hk k' hk' e => ?_⟩
    subst e
    have h1 := (h.memq k).mp hk
    have h2 := (mem k).mp hk'
    have e : k ≠ a := fun e => h1.2.2.1 (e ▸ ha)
    rw [hnp, if_neg e, h.npN k h1.1 h1.2.1 h1.2.2.1, h1.2.2.2] at h2
    have h3 : 0 < (succOf g0 a).count k := List.count_pos_iff.mpr h2.1
    omega
  · rw [List.mem_append, h.memq k, mem k, hnp]
    constructor
    · rintro (⟨h1, h2, h3, h4⟩ | ⟨h1, h2⟩)
      · refine ⟨h1, h2, h3, ?_⟩
        have := hsnoc k
        omega
      · obtain ⟨h3, h4, h5⟩ := hlD k h1
        refine ⟨h5, h3, h4, ?_⟩
        have e : k ≠ a := fun e => h4 (e ▸ ha)
        rw [if_neg e, h.npN k h5 h3 h4] at h2
        have := hsnoc k
        omega
    · rintro ⟨h1, h2, h3, h4⟩
      by_cases hz : ind g0 (D ++ P) k = 0
      · exact .inl ⟨h1, h2, h3, hz⟩
      · have := hsnoc k
        have e : k ≠ a := fun e => h3 (e ▸ ha)
        refine .inr ⟨List.count_pos_iff.mp (by omega), ?_⟩
        rw [if_neg e, h.npN k h1 h2 h3]
        omega
theorem npOf_setall (l : List Int) (g : Gr) (v : Int) (hl : ∀ k ∈ l, k ∈ g.map (·.1)) (k : Int) : npOf (l.foldl (fun g k => setnp g k v) g) k = if k ∈ l then v else npOf g k := by
  induction l generalizing g with
  | nil => simp
  | cons a l ih =>
    rw [List.foldl_cons, ih (setnp g a v) (fun k hk => by rw [keys_shape (shape_setnp _ _ _)]; exact hl k (.tail _ hk)), npOf_setnp v k (hl a (.head _))]
    by_cases h1 : k ∈ l
    · rw [if_pos h1, if_pos (List.mem_cons_of_mem _ h1)]
    · rw [if_neg h1]
      by_cases h2 : k = a
      · rw [if_pos h2, if_pos (by simp [h2])]
      · rw [if_neg h2, if_neg (by simp [h1, h2])]
theorem RI.si {g0 : Gr} {D : List Int} {c : Gr × List Int} (h : RI g0 D c) : SI g0 D c.2 [] (c.2.foldl (fun g k => setnp g k (-1)) c.1, []) := by
  have hndD := List.nodup_append.mp h.nd
  have hkc : c.1.map (·.1) = g0.map (·.1) := keys_shape h.sh
  have hs := fun k => npOf_setall c.2 c.1 (-1) (fun k hk => by rw [hkc]; exact h.sub k (List.mem_append_right _ hk)) k
  refine ⟨(shape_setall _ _ _).trans h.sh, fun k hk hm => ?_, fun k hk hr _ => ?_, fun k hk h1 h2 => ?_, List.nodup_nil, fun k => ?_⟩
  · have hd : k ∈ D := hm.elim id (fun h => by cases h)
    show npOf (c.2.foldl _ c.1) k = -2
    rw [hs, if_neg (fun hr => hndD.2.2 k hd k hr rfl)]
    exact h.npD k hd
  · show npOf (c.2.foldl _ c.1) k = -1
    rw [hs, if_pos hr]
  · show npOf (c.2.foldl _ c.1) k = _
    rw [hs, if_neg h2, List.append_nil]
    exact h.npN k hk h1
  · constructor
    · intro h; cases h
    · rintro ⟨h1, h2, h3, h4⟩
      rw [List.append_nil] at h4
      exact absurd ((h.rdy k h1 h2).mpr h4) h3
theorem RI.go {g0 : Gr} {D : List Int} {c : Gr × List Int} (h : RI g0 D c) : ∀ (Q P S : List Int) (st : Gr × List Int), c.2 = P ++ (Q ++ S) → SI g0 D c.2 P st → SI g0 D c.2 (P ++ Q) (Q.foldl doneN st) := by
  intro Q
  induction Q with
  | nil => intro P S st _ hs; rw [List.append_nil]; exact hs
  | cons a Q ih =>
    intro P S st e hs
    have hnd : c.2.Nodup := (List.nodup_append.mp h.nd).2.1
    have h1 : SI g0 D c.2 (P ++ [a]) (doneN st a) := SI.step h hs (by rw [e]; simp) (fun hp => by
      rw [e] at hnd
      exact (List.nodup_append.mp hnd).2.2 a hp a (.head _) rfl) (fun k hk => by rw [e]; exact List.mem_append_left _ hk)
    have h2 := ih (P ++ [a]) S (doneN st a) (by rw [e]; simp) h1
    rw [List.append_assoc] at h2
    exact h2
theorem RI.prefix {g0 : Gr} {D : List Int} {c : Gr × List Int} (h : RI g0 D c) (P S : List Int) (e : c.2 = P ++ S) : SI g0 D c.2 P (P.foldl doneN (c.2.foldl (fun g k => setnp g k (-1)) c.1, [])) := h.go P [] S _ e h.si
theorem RI.ok {g0 : Gr} {D : List Int} {c : Gr × List Int} (h : RI g0 D c) : ∀ i k, c.2[i]? = some k → npOf ((c.2.take i).foldl doneN (c.2.foldl (fun g k => setnp g k (-1)) c.1, [])).1 k = -1 := by
  intro i k hk
  have hkm := List.mem_of_getElem? hk
  have hnd : c.2.Nodup := (List.nodup_append.mp h.nd).2.1
  refine (h.prefix (c.2.take i) (c.2.drop i) (List.take_append_drop i c.2).symm).np1 k (h.sub k (List.mem_append_right _ hkm)) hkm fun hm => ?_
  obtain ⟨hi, e⟩ := List.getElem?_eq_some_iff.mp hk
  rw [← List.take_append_drop i c.2] at hnd
  refine (List.nodup_append.mp hnd).2.2 k hm k ?_ rfl
  rw [List.drop_eq_getElem_cons hi, e]
  exact .head _
theorem RI.step {g0 : Gr} {D : List Int} {c : Gr × List Int} (h : RI g0 D c) : RI g0 (D ++ c.2) (stepR c) := by
  have z := h.prefix c.2 [] (by simp)
  have hmem : ∀ k, k ∉ D ++ c.2 ↔ k ∉ D ∧ k ∉ c.2 := fun k => by simp
  refine ⟨h.nd0, h.cl0, z.sh, List.nodup_append.mpr ⟨h.nd, z.ndq, fun k hk k' hk' e => ?_⟩, fun k hk => ?_, fun k hk => z.np2 k (h.sub k hk) (List.mem_append.mp hk), fun k hk hn => z.npN k hk ((hmem k).mp hn).1 ((hmem k).mp hn).2, fun k hk hn => ?_, fun k hk => ?_⟩
  · subst e
    have h1 := (z.memq k).mp hk'
    exact (hmem k).mpr ⟨h1.2.1, h1.2.2.1⟩ hk
  · rcases List.mem_append.mp hk with hk | hk
    · exact h.sub k hk
    · exact ((z.memq k).mp hk).1
  · have h1 := z.memq k
    constructor
    · intro hq; exact (h1.mp hq).2.2.2
    · intro h0; exact h1.mpr ⟨hk, ((hmem k).mp hn).1, ((hmem k).mp hn).2, h0⟩
  · have h1 : ind g0 D k = 0 := by
      rcases List.mem_append.mp hk with hk | hk
      · exact h.cloD k hk
      · exact h.rd0 k hk
    have h2 := ind_le g0 (D := D) (D' := D ++ c.2) k fun a ha => List.mem_append_left _ ha
    omega
theorem npOf_mem {g : Gr} (hn : (g.map (·.1)).Nodup) {e : Int × Int × List Int} (he : e ∈ g) : npOf g e.1 = e.2.1 := by
  induction g with
  | nil => cases he
  | cons a g ih =>
    rw [List.map_cons, List.nodup_cons] at hn
    unfold npOf
    rcases List.mem_cons.mp he with rfl | he
    · rw [List.find?_cons_of_pos (by simp)]; rfl
    · have : a.1 ≠ e.1 := fun h => hn.1 (h ▸ List.mem_map_of_mem he)
      rw [List.find?_cons_of_neg (by simpa using this)]
      exact ih hn.2 he
theorem RI.init {g0 : Gr} (hnd : (g0.map (·.1)).Nodup) (hcl : ∀ e ∈ g0, ∀ k ∈ e.2.2, k ∈ g0.map (·.1)) (hnp : ∀ k ∈ g0.map (·.1), npOf g0 k = ind g0 [] k) : RI g0 [] (g0, ready0 g0) := by
  refine ⟨hnd, hcl, rfl, ?_, fun k hk => ?_, (fun k hk => by cases hk), (fun k hk _ => hnp k hk), fun k hk _ => ?_, (fun k hk => by cases hk)⟩
  · show (([] : List Int) ++ ready0 g0).Nodup
    rw [List.nil_append]
    exact List.Sublist.nodup (List.Sublist.map (fun e : Int × Int × List Int => e.1) (List.filter_sublist (p := fun e => e.2.1 == 0) (l := g0))) hnd
  · have hk' : k ∈ ready0 g0 := hk
    obtain ⟨e, he, rfl⟩ := List.mem_map.mp hk'
    exact List.mem_map_of_mem (List.mem_filter.mp he).1
  · have h1 := hnp k hk
    constructor
    · intro hm
      obtain ⟨e, he, rfl⟩ := List.mem_map.mp hm
      have h2 := (List.mem_filter.mp he).2
      have h3 := npOf_mem hnd (List.mem_filter.mp he).1
      have h4 : e.2.1 = 0 := by simpa using h2
      show ind g0 [] e.1 = 0
      omega
    · intro h0
      obtain ⟨e, he, rfl⟩ := List.mem_map.mp hk
      have h3 := npOf_mem hnd he
      refine List.mem_map_of_mem (List.mem_filter.mpr ⟨he, ?_⟩)
      have : e.2.1 = 0 := by omega
      simpa using this
section
variable {w : World} {mean : ExcName → Option Value} {mg mb : Str → Option Value} {dp un : Nat} {gd : Option (List Code)} {cn : Str} {cs : Scope} {a : Addr} {ccd : Value} {cl : List (Str × Addr)} {outer : List Env} {A₀ : Around} {base h₀ : Heap} {L : Addr} {m : Str → Option Value} {rest : List (Addr × Obj)} {s : Shared}
  {x dx d : Addr} {t1 t2 t3 t4 : Tok} {u3 u4 : Tok} {od : Obj} {G : List Nd} {Q E : Value → Shared → Prop}
theorem rounds_K (H : AtT w mean mg mb 30 dp un cs A₀ base h₀ outer L m s.heap)
    (N : News h₀ L s.heap (S3 w.params x dx d t1 t2 t3 t4 .none (.int 0 u3) (.int 0 u4) 4 od ++ (objs G ++ rest)))
    (nd : (adr (S3 w.params x dx d t1 t2 t3 t4 .none (.int 0 u3) (.int 0 u4) 4 od ++ objs G)).Nodup)
    (har : ∀ q ∈ rest, q.1 ∉ adr (S3 w.params x dx d t1 t2 t3 t4 .none (.int 0 u3) (.int 0 u4) 4 od ++ objs G))
    (hod : od.IsDictOf (intKind PySem.Challenge.rw_oh0060_01.row.prog w) (kvs G)) (lo : (d == sysModules) = false)
    (hgl : G.length ≤ 100) (hsc : ∀ n ∈ G, n.succ.length ≤ 100) (hcl : ∀ n ∈ G, ∀ p ∈ n.succ, p.1 ∈ keys G)
    (hnp : ∀ k ∈ (absG G).map (·.1), npOf (absG G) k = ind (absG G) [] k)
    (hret : ∀ h' tk' h₀' Tn Rl rs e2 rf g', KtsTurn (outer.filterMap (·.frame)) h₀ h₀' → AtT w mean mg mb 30 dp un cs A₀ base h₀' outer L m h' → News h₀' L h' ((Tn, tupO [.bool rf, .ref Rl]) :: (Rl, W.listOf (refsOf rs).toArray e2) :: (robjs rs ++ rest)) → (Tn :: Rl :: adr (robjs rs)).Nodup → (∀ q ∈ rest, q.1 ∉ Tn :: Rl :: adr (robjs rs)) →
      RI (absG G) (rkeys rs).flatten (g', []) → RoundsOk (absG G) (rkeys rs) → (rf = true → Cyc (absG G)) → (rf = false → Acy (absG G)) → rs.length ≤ 100 → Q (.ref Tn) { s with heap := h', toks := tk' }) :
    wpAny (model PySem.Challenge.rw_oh0060_01.row.prog w) (ktrTop dp un gd cn cs L a ccd cl outer) (call (.ref 190) [.ref x]) Q E s := by
  have hQM : QMark := trivial
  obtain ⟨⟨B, F, X, T, hk, hdp, hu⟩, XB, TB, Dc⟩ := H
  have Nf : News h₀ L s.heap ((x, instObj 158 dx) :: (dx, dictOf (attrs w.params t1 t2 t3 t4 d .none (.int 0 u3) (.int 0 u4)) 4) :: (d, od) :: objs G) := News.sub N (by walk_at "MY sub2")
  have Nr : News h₀ L s.heap rest := News.sub N fun p hp => List.mem_append_right _ (List.mem_append_right _ hp)
  have har' : ∀ q ∈ rest, q.1 ∉ ((x, instObj 158 dx) :: (dx, dictOf (attrs w.params t1 t2 t3 t4 d .none (.int 0 u3) (.int 0 u4)) 4) :: (d, od) :: objs G).map (·.1) := har
  have hTM : TryMark := trivial
  refine wpAny_call ?_
  ((k_dflt (refine' code_defT ?k1x1 ?k2x1 ?k3x1 ?k4x1 ?k5x1 ?xbx1 ?tbx1 ?Dx1 ?nrx1 ?harx1 ?kAx1 ?kFx1 ?k6x1 ?k7x1 ?k8x1 ?k9x1 ?kBx1 ?_ ?c1x1 ?c2x1 ?c3x1 ?c4x1 ?c5x1; (case kAx1 => exact rfl); (case kFx1 => exact rfl); (case harx1 => assumption); (case k1x1 => k_asm); (case k2x1 => k_asm); (case k3x1 => assumption); (case k4x1 => assumption); (case k5x1 => assumption); (case xbx1 => assumption); (case tbx1 => assumption); (case Dx1 => assumption); (case nrx1 => assumption); (case k6x1 => k_is); (case k7x1 => k_is); (case k8x1 => ktr_room); (case k9x1 => first | exact BindsTo.of_eq rfl | exact binds_K (by k_in) rfl (by k_is) rfl rfl rfl); (case c5x1 => decide); (case kBx1 => exact locs rfl); (case c1x1 => first | exact rfl | assumption); (case c2x1 => exact rfl); (case c3x1 => exact rfl); (case c4x1 => exact rfl); k_whole)))
  intro g L' h₁ FG F' N' hro l1 B' X' T' Dg
  clear B X T Nf Dc FG
  dsimp only
  try k_fold
  k_steps
  show wpAny _ _ _ _ _ _
  rename TryMark => hTM
  clear hTM
  refine mono_mid (fun s₁ => ∃ gg h tk R rd re rf, s₁ = ({ s with heap := h, toks := tk } : Shared) ∧ GrOk w mean mg mb (ktrTop dp un gd cn cs L a ccd cl outer) base (envX cn cs L a ccd cl :: outer) g gg ∧ Fr gg L' h (fun y => if y = Str.ofString "refused" then some (Value.bool rf) else List.lookup y [(Str.ofString "sorter", Value.ref x)]) ∧ News gg L' h (S4 w.params x dx d R t1 t2 t3 t4 0 u3 0 u4 od rd re ++ objs G) ∧ (x :: dx :: d :: R :: adr (objs G)).Nodup ∧ rd.map (·.1) = ready0 (absG G) ∧ rd.length ≤ 300 ∧ (rf = true → Cyc (absG G)) ∧ (rf = false → Acy (absG G))) ?tryp ?rest
  case tryp =>
    k_steps
    show wpAny _ _ _ _ _ _
    k_dflt (refine prep_K (rest := []) ⟨⟨B', ‹Fr g L' _ _›, X', T', rfl, by (first | omega | (dsimp only [ktrTop, Around.deeper, Around.mark] at *; omega) | (simp only [depth_under_make, depth_under_kw, depth_in1, depth_deeper, depth_caller, units_in1, units_deeper, Around.mark_units, units_caller] at *; dsimp only [ktrTop] at *; omega)), by (first | omega | (dsimp only [ktrTop, Around.deeper, Around.mark] at *; omega) | (simp only [depth_under_make, depth_under_kw, depth_in1, depth_deeper, depth_caller, units_in1, units_deeper, Around.mark_units, units_caller] at *; dsimp only [ktrTop] at *; omega))⟩, XB, TB, Dg⟩ (News.sub ‹News g L' _ _› (by walk_at "MY sub2")) nd (fun q hq => by cases hq) hod lo (by omega) hsc hcl ?retN ?retE)
    case retN =>
      intro h11 tk11 g2 R rd re hT2 hAt N11 nd4 hrD hre hrl hacy
      obtain ⟨⟨B2, F11, X2, T2, -, -, -⟩, -, -, D2⟩ := hAt
      clear B' X' T' Dg
      k_steps
      show Halt _
      exact ⟨_, _, _, R, rd, re, false, rfl, ⟨by assumption, by assumption, by assumption, by assumption, by assumption⟩, fr_eq ‹Fr g2 L' _ _› (fun y => rfl), News.sub ‹News g2 L' _ (S4 w.params x dx d R t1 t2 t3 t4 0 u3 0 u4 od rd re ++ (objs G ++ []))› (by walk_at "MY sub2"), nd4, hre, hrl, (fun h => by cases h), fun _ => hacy⟩
    case retE =>
      intro h11 tk11 g2 G₂ R rd re ex tx vs hT2 hR F2 B2 U2 D2 nd4 hrD hre hrl hcyc
      clear B' X' T' Dg
      k_steps
      show Halt _
      have Nx := ‹News _ L' _ (S4 w.params x dx d R t1 t2 t3 t4 0 u3 0 u4 od rd re ++ (objs G ++ []))›
      exact ⟨_, _, _, R, rd, re, true, rfl, ⟨by assumption, by assumption, by assumption, by assumption, by assumption⟩, fr_eq ‹Fr _ L' _ _› (fun y => by by_cases e : y = Str.ofString "refused" <;> simp [e] <;> rfl), News.sub Nx (by walk_at "MY sub2"), nd4, hre, hrl, fun _ => hcyc, fun h => by cases h⟩
  case rest =>
    clear B' X' T' Dg
    rintro s₂ ⟨gg, h, tk, R, rd, re, rf, rfl, hgr, F7, N7, nd4, hre, hrl, hcyc, hacy⟩
    try dsimp only
    have N8 : News gg L' h ((x, instObj 158 dx) :: (dx, dictOf (attrs w.params t1 t2 t3 t4 d (.ref R) (.int 0 u3) (.int 0 u4)) 4) :: (d, od) :: (R, W.listOf (vals rd).toArray re) :: objs G) := N7
    clear N7
    k_steps
    show WhlRest _ _ _ _ _ _ _ _ _ _ _
    have hJx : ∃ Rl, (x < Rl ∧ dx < Rl ∧ d < Rl ∧ R < Rl ∧ AllLt Rl (objs G)) ∧ Fr gg L' _ (fun y => if y = Str.ofString "rounds" then some (Value.ref Rl) else if y = Str.ofString "refused" then some (Value.bool rf) else List.lookup y [(Str.ofString "sorter", Value.ref x)]) ∧ News gg L' _ ((Rl, W.listOf #[] 0) :: (x, instObj 158 dx) :: (dx, dictOf (attrs w.params t1 t2 t3 t4 d (.ref R) (.int 0 u3) (.int 0 u4)) 4) :: (d, od) :: (R, W.listOf (vals rd).toArray re) :: objs G) := ⟨_, by assumption, ‹Fr gg L' _ _›, ‹News gg L' _ _›⟩
    refine ex1a3 hJx fun Rl hRl F8 N9 => ?_
    clear hJx
    have key0 : (keys G).Nodup := dict_keys hod
    have ri0 : RI (absG G) [] (absG G, rd.map (·.1)) := by
      rw [hre]
      refine RI.init (by rw [keys_absG]; exact key0) (fun e he k hk => ?_) hnp
      obtain ⟨n, hn, rfl⟩ := List.mem_map.mp he
      obtain ⟨p, hp, rfl⟩ := List.mem_map.mp hk
      rw [keys_absG]
      exact hcl n hn p hp
    obtain ⟨hTg, Bg, Xg, Pg, Dg⟩ := hgr
    refine whl_inv (fun n s₁ => ∃ h tk G₁ rd₁ re₁ po v3 v4 rs e2, s₁ = ({ s with heap := h, toks := tk } : Shared) ∧ Fr gg L' h (fun y => if y = Str.ofString "rounds" then some (Value.ref Rl) else if y = Str.ofString "refused" then some (Value.bool rf) else List.lookup y [(Str.ofString "sorter", Value.ref x)]) ∧ News gg L' h ((Rl, W.listOf (refsOf rs).toArray e2) :: (x, instObj 158 dx) :: (dx, dictOf (attrs w.params t1 t2 t3 t4 d (.ref R) (.int po v3) (.int po v4)) 4) :: (d, od) :: (R, W.listOf (vals rd₁).toArray re₁) :: (objs G₁ ++ robjs rs)) ∧ (kvs G₁ = kvs G ∧ adr (objs G₁) = adr (objs G)) ∧ ((Rl :: x :: dx :: d :: R :: adr (objs G)) ++ adr (robjs rs)).Nodup ∧ RI (absG G) (rkeys rs).flatten (absG G₁, rd₁.map (·.1)) ∧ RoundsOk (absG G) (rkeys rs) ∧ n = G.length - (rkeys rs).flatten.length) ?hE ?step (G.length - 0) _ ?init
    case hE => passes_own
    case init =>
      refine ⟨_, _, G, rd, re, 0, u3, u4, [], 0, rfl, F8, News.sub N9 (by simp only [robjs, List.map_nil, List.append_nil, refsOf]; exact fun _ h => h), ⟨rfl, rfl⟩, ?_, ri0, RoundsOk.nil _, rfl⟩
      have h1 := lt_adr hRl.2.2.2.2
      simp only [robjs, List.map_nil, List.append_nil]
      exact new_nodup nd4 (all_lt_cons hRl.1 (all_lt_cons hRl.2.1 (all_lt_cons hRl.2.2.1 (all_lt_cons hRl.2.2.2.1 h1))))
    case step =>
      (try clear N8); (try clear F7); (try clear F8); (try clear N9); (try clear nd4); (try clear hre); (try clear hrl); (try clear ri0); (try clear hRl)
      rintro n s₁ hJJ
      refine ex10a8 hJJ fun h tk G₁ rd₁ re₁ po v3 v4 rs e2 hqE1 F10 N10 hsm ndR ri rok hqE2 => ?_
      clear hJJ
      subst hqE1
      subst hqE2
      have hlen := ri.len
      rw [List.length_map] at hlen
      have hgG : (absG G).length = G.length := by simp [absG]
      rw [hgG] at hlen
      have hrl : rd₁.length ≤ 100 := by omega
      have hrs := roundsOk_len rok
      have hrs2 : rs.length ≤ 100 := by
        have : (rkeys rs).length = rs.length := by simp [rkeys]
        omega
      have ndR1 : ((Rl :: x :: dx :: d :: R :: adr (objs G₁)) ++ adr (robjs rs)).Nodup := by rw [hsm.2]; exact ndR
      refine ex0a3 (factsR ndR1) fun nd1 hq1 hRl => ?_
      obtain ⟨fa1, fa2⟩ := factsA nd1
      k_steps
      show wpAny _ _ _ _ _ _
      k_dflt (refine active_K (mean := mean) (rest := (Rl, W.listOf (refsOf rs).toArray e2) :: (d, od) :: (objs G₁ ++ robjs rs)) ⟨Bg, ‹Fr gg L' _ _›, Xg, Pg, rfl, by (first | omega | (dsimp only [ktrTop, Around.deeper, Around.mark] at *; omega) | (simp only [depth_under_make, depth_under_kw, depth_in1, depth_deeper, depth_caller, units_in1, units_deeper, Around.mark_units, units_caller] at *; dsimp only [ktrTop] at *; omega)), by (first | omega | (dsimp only [ktrTop, Around.deeper, Around.mark] at *; omega) | (simp only [depth_under_make, depth_under_kw, depth_in1, depth_deeper, depth_caller, units_in1, units_deeper, Around.mark_units, units_caller] at *; dsimp only [ktrTop] at *; omega))⟩ (News.sub ‹News gg L' _ _› (by walk_at "MY sub2")) ?hap (by omega) ?_)
      case hap =>
        intro q hq hm
        have key : ∀ b : Nat, b ∈ [x, dx, R] → b ∈ x :: dx :: d :: R :: adr (objs G₁) := fun b hb => by
          simp only [List.mem_cons, List.not_mem_nil, or_false] at hb ⊢
          rcases hb with e | e | e
          · exact .inl e
          · exact .inr (.inl e)
          · exact .inr (.inr (.inr (.inl e)))
        rcases List.mem_cons.mp hq with rfl | hq
        · exact hRl (key _ hm)
        · rcases List.mem_cons.mp hq with rfl | hq
          · exact fa1 hm
          · rcases List.mem_append.mp hq with hq | hq
            · exact fa2 q hq hm
            · exact hq1 q hq (.tail _ (key _ hm))
      intro h11 tk11 F11 N11
      have N12 : News gg L' h11 ((Rl, W.listOf (refsOf rs).toArray e2) :: (x, instObj 158 dx) :: (dx, dictOf (attrs w.params t1 t2 t3 t4 d (.ref R) (.int po v3) (.int po v4)) 4) :: (d, od) :: (R, W.listOf (vals rd₁).toArray re₁) :: (objs G₁ ++ robjs rs)) := News.sub N11 (by walk_at "MY sub2")
      clear N10 N11 F10
      have hb : (decide (po < po) || !rd₁.isEmpty) = !rd₁.isEmpty := by simp
      rw [hb]
      clear hb
      cases hrd : rd₁.isEmpty with
      | true =>
        --<A
        have hrd0 : rd₁ = [] := List.isEmpty_iff.mp hrd
        k_steps
        rename_i Tn _ _ hN hl
        refine ex0a6 (hl) fun l0 _ _ _ _ l5 => ?_
        have l5' := lt_adr l5
        rw [adr_append] at l5'
        refine ⟨gg, L', _, (Tn, tupO [.bool rf, .ref Rl]) :: (Rl, W.listOf (refsOf rs).toArray e2) :: robjs rs, hTg, ‹Fr gg L' _ _›, News.sub hN (by walk_at "MY sub2"), fun h₀' T₁ F₁ N₁ B₁ X₁ P₁ D₁ => ?_⟩
        have hnd : (Rl :: adr (robjs rs)).Nodup := by
          refine ex0a3 (List.nodup_append.mp ndR) fun _ h2 h3 => ?_
          exact List.nodup_cons.mpr ⟨fun hm => h3 Rl (.head _) Rl hm rfl, h2⟩
        refine hret _ _ h₀' Tn Rl rs e2 rf (absG G₁) T₁ ⟨⟨B₁, F₁, X₁, P₁, hk, hdp, hu⟩, XB, TB, D₁⟩ (News.sub N₁ (by walk_at "MY sub2")) (new_nodup hnd (all_lt_cons l0 fun a ha => l5' a (List.mem_append_right _ ha))) (fun q hq hm => ?_) (by rw [hrd0] at ri; exact ri) rok hcyc hacy hrs2
        have hm' : q.1 ∈ adr ((Tn, tupO [.bool rf, .ref Rl]) :: (Rl, W.listOf (refsOf rs).toArray e2) :: robjs rs) := hm
        refine ex1a2 (List.mem_map.mp hm') fun p hp e => ?_
        have hpN : News gg L' _ ((Tn, tupO [.bool rf, .ref Rl]) :: (Rl, W.listOf (refsOf rs).toArray e2) :: robjs rs) := News.sub hN (by walk_at "MY sub2")
        obtain ⟨sl, hsl⟩ := hTg.up (hro q hq)
        have := (hpN p hp).2.2
        rw [e, hsl] at this
        cases this
        --A>
      | false =>
        --<B
        have hne : rd₁ ≠ [] := by
          intro e
          rw [e] at hrd
          cases hrd
        have hod1 := hod
        rw [← hsm.1] at hod1
        have hin : ∀ p ∈ rd₁, p.1 ∈ keys G₁ := fun p hp => by
          rw [keys_kvs hsm.1, ← keys_absG]
          exact ri.sub p.1 (List.mem_append_right _ (List.mem_map_of_mem hp))
        k_steps
        show wpAny _ _ _ _ _ _
        k_dflt (refine ready_K (mean := mean) (rest := (Rl, W.listOf (refsOf rs).toArray e2) :: robjs rs) ⟨Bg, ‹Fr gg L' _ _›, Xg, Pg, rfl, by (first | omega | (dsimp only [ktrTop, Around.deeper, Around.mark] at *; omega) | (simp only [depth_under_make, depth_under_kw, depth_in1, depth_deeper, depth_caller, units_in1, units_deeper, Around.mark_units, units_caller] at *; dsimp only [ktrTop] at *; omega)), by (first | omega | (dsimp only [ktrTop, Around.deeper, Around.mark] at *; omega) | (simp only [depth_under_make, depth_under_kw, depth_in1, depth_deeper, depth_caller, units_in1, units_deeper, Around.mark_units, units_caller] at *; dsimp only [ktrTop] at *; omega))⟩ (News.sub ‹News gg L' _ _› (by walk_at "MY sub2")) nd1 ?har hod1 lo (by omega) hne hin ?_)
        case har =>
          intro q hq hm
          rcases List.mem_cons.mp hq with rfl | hq
          · exact hRl hm
          · exact hq1 q hq (.tail _ hm)
        intro h13 tk13 Tn u3' G₂ re₂ F13 N13 ha2 hk2 hTn hTr hab2
        have hTn' : Tn ∉ x :: dx :: d :: R :: adr (objs G₁) := hTn
        have hRT : Rl ≠ Tn := hTr _ (.head _)
        obtain ⟨r1, r2, r3, r4, r5⟩ : Rl ≠ x ∧ Rl ≠ dx ∧ Rl ≠ d ∧ Rl ≠ R ∧ Rl ∉ adr (objs G₁) := by
          simp only [List.mem_cons, not_or] at hRl
          exact ⟨hRl.1, hRl.2.1, hRl.2.2.1, hRl.2.2.2.1, hRl.2.2.2.2⟩
        have r6 : ∀ p ∈ objs G₂ ++ robjs rs, p.1 ≠ Rl := by
          intro p hp e
          rcases List.mem_append.mp hp with hp | hp
          · exact r5 (by rw [← ha2, ← e]; exact adr_mem hp)
          · exact hq1 p hp (by rw [e]; exact .head _)
        have N14 : News gg L' h13 ((Rl, W.listOf (refsOf rs).toArray e2) :: (x, instObj 158 dx) :: (dx, dictOf (attrs w.params t1 t2 t3 t4 d (.ref R) (.int (po + rd₁.length) u3') (.int po v4)) 4) :: (d, od) :: (R, W.listOf (vals []).toArray re₂) :: (Tn, tupO (vals rd₁)) :: (objs G₂ ++ robjs rs)) := News.sub N13 (by walk_at "MY sub2")
        clear N12 N13 F11
        have hrf : (refsOf rs).length = rs.length := by simp [refsOf]
        have hsh2 : shape (absG G₂) = shape (absG G) := by
          rw [hab2, ← List.foldl_map (f := fun p : Int × Tok => p.1) (g := fun g k => setnp g k (-1)), shape_setall]
          exact ri.sh
        have hab3 : absG G₂ = (rd₁.map (·.1)).foldl (fun g k => setnp g k (-1)) (absG G₁) := by rw [hab2, List.foldl_map]
        have hTM : TryMark := trivial
        k_steps
        show wpAny _ _ _ _ _ _
        ((k_dflt (refine methodCall_star ?_ (by with_unfolding_all rfl))))
        k_steps
        show wpAny _ _ _ _ _ _
        ((k_dflt (refine' callWith_SM ?k1x9 ?k2x9 ?k3x9 ?k4x9 ?_; (case k1x9 => k_asm); (case k2x9 => k_mem); (case k3x9 => k_asm); (case k4x9 => k_is); k_whole)))
        k_steps
        show wpAny _ _ _ _ _ _
        ((k_dflt (with_reducible_and_instances refine' item_push ?Nx10 ?mx10 ?zx10 ?_ ?rx10; (case Nx10 => k_asm); (case mx10 => k_mem); (case zx10 => size_fits); (case rx10 => with_unfolding_all rfl); k_whole)))
        ((k_dflt (refine' star_seq ?k1x11 ?k2x11 ?mx11 ?cx11 ?dx11 ?Tx11 ?ex11 ?zx11 ?_; (case k1x11 => k_asm); (case k2x11 => k_asm); (case mx11 => k_mem); (case cx11 => exact rfl); (case dx11 => exact rfl); (case Tx11 => first | exact .inl rfl | exact .inr rfl); (case ex11 => exact rfl); (case zx11 => size_fits); k_whole); intro hzz Fzz Nzz; (try k_sweep); try dsimp only [List.nil_append, List.cons_append]))
        k_steps
        show wpAny _ _ _ _ _ _
        have Nq := ‹News gg L' _ _›
        refine call_meth Nq (.head _) ?_
        have nd2 : (x :: dx :: d :: R :: adr (objs G₂)).Nodup := by rw [ha2]; exact nd1
        have hk3 : keys G₂ = keys G := keys_kvs (hk2.trans hsm.1)
        k_dflt (refine done_C (mean := mean) (rd := rd₁) (rq := []) (re := re₂) (rest := (Rl, W.listOf ((refsOf rs).toArray.push (.ref Tn)) (e2 + 1)) :: (Tn, tupO (vals rd₁)) :: robjs rs) ⟨Bg, ‹Fr gg L' _ _›, Xg, Pg, rfl, by (first | omega | (dsimp only [ktrTop, Around.deeper, Around.mark] at *; omega) | (simp only [depth_under_make, depth_under_kw, depth_in1, depth_deeper, depth_caller, units_in1, units_deeper, Around.mark_units, units_caller] at *; dsimp only [ktrTop] at *; omega)), by (first | omega | (dsimp only [ktrTop, Around.deeper, Around.mark] at *; omega) | (simp only [depth_under_make, depth_under_kw, depth_in1, depth_deeper, depth_caller, units_in1, units_deeper, Around.mark_units, units_caller] at *; dsimp only [ktrTop] at *; omega))⟩ (News.sub Nq (by walk_at "MY sub2")) nd2 ?har2 (by rw [hk2]; exact hod1) lo hrl (Nat.zero_le _) hne ?hin2 ?hsc2 ?hcl2 ?hok ?_)
        case har2 =>
          intro q hq hm
          have hm2 : q.1 ∈ x :: dx :: d :: R :: adr (objs G₁) := by rw [← ha2]; exact hm
          rcases List.mem_cons.mp hq with rfl | hq
          · exact hRl hm2
          · rcases List.mem_cons.mp hq with rfl | hq
            · exact hTn' hm2
            · exact hq1 q hq (.tail _ hm2)
        case hin2 =>
          intro p hp
          rw [hk3, ← keys_kvs hsm.1]
          exact hin p hp
        case hsc2 =>
          intro n hn
          obtain ⟨n0, hn0, -, e⟩ := shape_node hsh2 hn
          have := congrArg List.length e
          simp only [List.length_map] at this
          rw [← this]
          exact hsc n0 hn0
        case hcl2 =>
          intro n hn p hp
          obtain ⟨n0, hn0, -, e⟩ := shape_node hsh2 hn
          have h1 : p.1 ∈ n0.succ.map (·.1) := by rw [e]; exact List.mem_map_of_mem hp
          refine ex1a2 (List.mem_map.mp h1) fun p0 hp0 e0 => ?_
          rw [hk3, ← e0]
          exact hcl n0 hn0 p0 hp0
        case hok =>
          intro i p hp
          have h1 := ri.ok i p.1 (by simp only [List.getElem?_map, hp, Option.map_some])
          rw [hab3, List.map_take]
          exact h1
        intro h17 tk17 u4' G₃ rq' re' F17 N17 hsm3 hab4
        have hst : (absG G₃, rq'.map (·.1)) = stepR (absG G₁, rd₁.map (·.1)) := by
          rw [hab4]
          unfold stepR
          rw [hab3]
          rfl
        have ri2 := ri.step
        rw [← hst] at ri2
        have hfl : (rkeys (rs ++ [(Tn, rd₁)])).flatten = (rkeys rs).flatten ++ rd₁.map (·.1) := by rw [rkeys_snoc]; simp
        rw [← hfl] at ri2
        have rok2 : RoundsOk (absG G) (rkeys (rs ++ [(Tn, rd₁)])) := by
          rw [rkeys_snoc]
          exact rok.snoc (by simpa using hne) ri.rd0
        (try clear N14); (try clear Nq)
        k_steps
        show Halt _
        refine ⟨G.length - (rkeys (rs ++ [(Tn, rd₁)])).flatten.length, ?_, _, _, G₃, rq', re', po + rd₁.length, u3', u4', rs ++ [(Tn, rd₁)], e2 + 1, rfl, ‹Fr gg L' _ _›, News.sub ‹News gg L' _ _› ?_, ⟨hsm3.kvs.trans (hk2.trans hsm.1), hsm3.adr.trans (ha2.trans hsm.2)⟩, ?_, ri2, rok2, rfl⟩
        · have h1 := List.length_pos_iff.mpr hne
          rw [hfl, List.length_append, List.length_map]
          omega
        · rw [refsOf_snoc, robjs_snoc, ← List.push_toArray]
          walk_at "MY sub2"
        · rw [robjs_snoc, adr_append, ← List.append_assoc]
          refine List.nodup_append.mpr ⟨ndR, List.nodup_cons.mpr ⟨List.not_mem_nil, List.nodup_nil⟩, fun a ha b hb e => ?_⟩
          have hb' : b = Tn := List.mem_singleton.mp hb
          rw [e, hb'] at ha
          rcases List.mem_append.mp ha with ha | ha
          · rcases List.mem_cons.mp ha with e1 | ha
            · exact hRT e1.symm
            · exact hTn' (by rw [hsm.2]; exact ha)
          · refine ex1a2 (List.mem_map.mp ha) fun p hp e1 => ?_
            exact hTr p (.tail _ hp) e1
        --B>
end
-- plain
noncomputable def wordS (bs : List Bool) : Str := ⟨(bs.map fun b => if b then 40 else 41).toArray⟩
noncomputable def stepRun {α : Type} (row : List α) (st : List α × List α × Nat) (b : Bool) : List α × List α × Nat :=
  if b then (st.1, st.2.1 ++ (row[st.2.2]?).toList, st.2.2 + 1) else (st.1 ++ st.2.1.getLast?.toList, st.2.1.dropLast, st.2.2)
noncomputable def RunOk {α : Type} (row : List α) (bs : List Bool) : Prop := ∀ i b, bs[i]? = some b → (b = true → ((bs.take i).foldl (stepRun row) ([], [], 0)).2.2 < row.length) ∧ (b = false → ((bs.take i).foldl (stepRun row) ([], [], 0)).2.1 ≠ [])
section
variable {prog : Program} {w : World} {A : Around} {E : Value → Shared → Prop} {s : Shared} {env : Env} {h₀ : Heap} {x : Str} {body : List Stmt} {Q : Flow → Shared → Prop} {m : Str → Option Value} {news : List (Addr × Obj)}
theorem iter_str {bs : List Bool} {t : Tok} (J : Nat → (Str → Option Value) → List (Addr × Obj) → Prop) (hh : A.handled = none)
    (F : Fr h₀ env.locals s.heap m) (N : News h₀ env.locals s.heap news) (hj : J 0 m news)
    (turn : ∀ I i b u m₁ news₁ h tk own, bs[i]? = some b → J i m₁ news₁ → (∀ p ∈ news₁, p.1 ≠ I) → (∀ p ∈ own, p.1 = I) → (∃ o, (I, o) ∈ own) → Fr h₀ env.locals h (fun y => if y = x then some (.str ⟨#[if b = true then 40 else 41]⟩ u) else m₁ y) → News h₀ env.locals h (own ++ news₁) →
      wpAny (model prog w) A (execs body env) (TP h₀ env.locals I own (J (i + 1)) s Q) E { s with heap := h, toks := tk })
    (done : ∀ m₁ news₁ h tk, J bs.length m₁ news₁ → Fr h₀ env.locals h m₁ → News h₀ env.locals h news₁ → Q .next { s with heap := h, toks := tk }) :
    wpAny (model prog w) A (pyIter (.str (wordS bs) t)) (fun it s₂ => LoopAtV prog w A h₀ env x body Q E it s₂) E s := by
  have ha : (wordS bs).cps.all (· < 128) = true := by
    rw [wordS, List.all_toArray, List.all_eq_true]
    intro c hc
    obtain ⟨b, _, rfl⟩ := List.mem_map.mp hc
    cases b <;> decide
  have hsz : (wordS bs).cps.size = bs.length := by simp [wordS]
  refine wpAny_pyIter_ascii ha ?_
  have W := Walks.strAscii (prog := prog) (w := w) hh s.heap.objs.size (wordS bs) t
  rw [hsz] at W
  refine loop_any (s := { s with heap := s.heap.push _ }) J W (.head _) (fun _ _ st => let ⟨o, ho, _⟩ := st; ⟨o, ho⟩) ?_ (next_is_new F) (fun p hp => Nat.ne_of_lt (Heap.lt_size (N p hp).1)) ⟨_, Heap.get?_push_size _ rfl, rfl, rfl⟩ (F.push _) (fun p hp => ⟨Heap.get?_push_of_some _ (N p hp).1, (N p hp).2⟩) hj ?_ ?_
  · intro hm
    exact absurd F.ns.lt ((List.mem_singleton.mp hm) ▸ Nat.lt_irrefl _)
  · rintro i v m₁ news₁ h tk own hi ⟨c, u, hc, rfl⟩ hJ h1 h2 h3 F₁ N₁
    obtain ⟨b, hb, rfl⟩ : ∃ b, bs[i]? = some b ∧ c = if b = true then 40 else 41 := by
      simp only [wordS, List.getElem?_toArray, List.getElem?_map, Option.map_eq_some_iff] at hc
      obtain ⟨b, h1, h2⟩ := hc
      exact ⟨b, h1, h2.symm⟩
    exact turn s.heap.objs.size i b u m₁ news₁ h tk own hb hJ h1 (fun p hp => List.mem_singleton.mp (h2 p hp)) h3 F₁ N₁
  · intro m₁ news₁ h tk hJ F₁ N₁
    exact done m₁ news₁ h tk hJ F₁ N₁
end
theorem run_snoc {α : Type} (row : List α) (bs : List Bool) (i : Nat) (b : Bool) (h : bs[i]? = some b) : (bs.take (i + 1)).foldl (stepRun row) ([], [], 0) = stepRun row ((bs.take i).foldl (stepRun row) ([], [], 0)) b := by
  rw [List.take_add_one, h, List.foldl_append]
  rfl
theorem m_form2 {stored : List Str} {m m₀ : Str → Option Value} {k : Str} {v : Value} (h : ∀ y, stored.contains y = false → m y = m₀ y) (hk : m k = some v) : ∃ u : Str → Option Value, (m = fun y => if stored.contains y then u y else m₀ y) ∧ u k = some v :=
  ⟨m, funext fun y => by
    cases q : stored.contains y with
    | true => simp
    | false => simp [h y q], hk⟩
section
variable {prog : Program} {w : World} {A : Around} {E : Value → Shared → Prop} {s : Shared} {h₀ : Heap} {L l : Addr} {news : List (Addr × Obj)} {vs : List Value} {n : Nat}
theorem item_at {value slice : PySem.Expr} {z : Int} {u : Tok} {v : Value} {Q : Value → Shared → Prop} (N : News h₀ L s.heap news) (hl : (l, W.listOf vs.toArray n) ∈ news) (hz : 0 ≤ z ∧ z < 100000) (hv : vs[z.toNat]? = some v) (h : Q v s)
    (hs : subscripted slice false (.ref l) (.int z u) = operate [.ref l, .int z u] (getItem (.ref l) (.int z u)) := by with_unfolding_all rfl) :
    wpAny (model prog w) A (subscriptTail value slice (.ref l) (.int z u)) Q E s :=
  tail_any (News.isList N hl).typeIs slot_list_getitem.lookup (wpAny_getItem_list (News.isList N hl) hz.1 (by omega) (by simpa using hv) h) hs
end
theorem vals_snoc (l : List (Int × Tok)) (q : Int × Tok) : vals (l ++ [q]) = vals l ++ [Value.int q.1 q.2] := by simp [vals]
theorem runs_len {α : Type} (row : List α) (bs : List Bool) : ((bs.foldl (stepRun row) ([], [], 0)).1.length ≤ bs.length) ∧ (bs.foldl (stepRun row) ([], [], 0)).2.1.length ≤ bs.length := by
  have key : ∀ (bs : List Bool) (st : List α × List α × Nat), (bs.foldl (stepRun row) st).1.length ≤ st.1.length + bs.length ∧ (bs.foldl (stepRun row) st).2.1.length ≤ st.2.1.length + bs.length := by
    intro bs
    induction bs with
    | nil => intro st; exact ⟨Nat.le_refl _, Nat.le_refl _⟩
    | cons b bs ih =>
      intro st
      have h := ih (stepRun row st b)
      rw [List.foldl_cons]
      have h1 : (stepRun row st b).1.length ≤ st.1.length + 1 ∧ (stepRun row st b).2.1.length ≤ st.2.1.length + 1 := by
        unfold stepRun
        cases b
        · simp only [Bool.false_eq_true, if_false, List.length_append, List.length_dropLast]
          cases st.2.1.getLast? <;> simp <;> omega
        · simp only [if_true, List.length_append]
          cases row[st.2.2]? <;> simp
      simp only [List.length_cons]
      omega
  have := key bs ([], [], 0)
  simpa using this
local macro_rules | `(tactic| walk_at "pyIter str") => `(tactic| (k_here; refine Halt.out ?_))
local macro_rules | `(tactic| walk_at "subscriptTail Name Name ref int") => `(tactic| (k_here; k_dflt (refine item_at (by k_asm) (by k_mem) (by assumption) (by assumption) ?_ (by with_unfolding_all rfl))))
section
variable {w : World} {mean : ExcName → Option Value} {mg mb : Str → Option Value} {dp un : Nat} {gd : Option (List Code)} {cn : Str} {cs : Scope} {a : Addr} {ccd : Value} {cl : List (Str × Addr)} {outer : List Env} {A₀ : Around} {base h₀ : Heap} {L : Addr} {m : Str → Option Value} {rest : List (Addr × Obj)} {s : Shared}
  {D : Addr} {e : Nat} {rv : List (Int × Tok)} {bs : List Bool} {tw : Tok} {Q E : Value → Shared → Prop}
theorem run_K (H : At w mean mg mb 5 dp un cs A₀ base h₀ outer L m s.heap)
    (N : News h₀ L s.heap ((D, W.listOf (vals rv).toArray e) :: rest)) (har : ∀ q ∈ rest, q.1 ≠ D) (hn : rv.length ≤ 7) (hb : bs.length ≤ 100) (hok : RunOk rv bs)
    (hret : ∀ h' tk' Tn Ol Hl ov hv e1 e2 tt, Fr h₀ L h' m → News h₀ L h' ((Tn, tupO [.ref Ol, .ref Hl, .int ((bs.foldl (stepRun rv) ([], [], 0)).2.2 : Int) tt]) :: (Ol, W.listOf (vals ov).toArray e1) :: (Hl, W.listOf (vals hv).toArray e2) :: (D, W.listOf (vals rv).toArray e) :: rest) →
      ov = (bs.foldl (stepRun rv) ([], [], 0)).1 → hv = (bs.foldl (stepRun rv) ([], [], 0)).2.1 → (Tn :: Ol :: Hl :: D :: adr rest).Nodup ∨ True → Q (.ref Tn) { s with heap := h', toks := tk' }) :
    wpAny (model PySem.Challenge.rw_oh0060_01.row.prog w) (ktrTop dp un gd cn cs L a ccd cl outer) (call (.ref 197) [.ref D, .str (wordS bs) tw]) Q E s := by
  have hQM : QMark := trivial
  obtain ⟨B, F, X, T, hk, hdp, hu⟩ := H
  have Nf : News h₀ L s.heap [(D, W.listOf (vals rv).toArray e)] := fun p hp => N p (by rw [List.mem_singleton.mp hp]; exact .head _)
  have hr : ∀ q ∈ rest, s.heap.get? q.1 = some q.2 ∧ q.1 ∉ [(D, W.listOf (vals rv).toArray e)].map (·.1) := fun q hq => ⟨(N q (.tail _ hq)).1, fun hm => har q hq (List.mem_singleton.mp hm)⟩
  refine wpAny_call ?_
  ((k_dflt (refine' code_defR ?k1x1 ?k2x1 ?k3x1 ?k4x1 ?k5x1 ?kAx1 ?kFx1 ?kKx1 ?hrx1 ?k6x1 ?k7x1 ?k8x1 ?k9x1 ?kBx1 ?_ ?c2x1 ?c3x1 ?c4x1 ?c5x1; (case kAx1 => exact rfl); (case kFx1 => exact rfl); (case kKx1 => first | exact rfl | assumption); (case k1x1 => k_asm); (case k2x1 => k_asm); (case k3x1 => k_asm); (case k4x1 => k_asm); (case k5x1 => k_asm); (case hrx1 => assumption); (case k6x1 => k_is); (case k7x1 => k_is); (case k8x1 => ktr_room); (case k9x1 => first | exact BindsTo.of_eq rfl | exact binds_K (by k_in) rfl (by k_is) rfl rfl rfl); (case c5x1 => decide); (case kBx1 => exact locs rfl); (case c2x1 => exact rfl); (case c3x1 => exact rfl); (case c4x1 => exact rfl); k_whole)))
  intro g L' h₁ FG F' N' hro l1 B' X' T'
  k_lt l1
  dsimp only
  try k_fold
  refine wpAny_noRaise ?_
  have hFM : FindMark := trivial
  k_steps
  show wpAny _ _ _ _ _ _
  ((k_dflt (refine' for_F ?fx2 ?ax2 ?bx2 ?_ ?cx2 ?dx2; (case fx2 => k_asm); (case ax2 => exact rfl); (case bx2 => exact rfl); (case cx2 => (intro _; exact rfl)); (case dx2 => passes_own))))
  k_steps
  show wpAny _ _ _ _ _ _
  obtain ⟨Ol, Hl, tt₀, F5, N5, hOH, hOD, hHD⟩ : ∃ Ol Hl tt₀, Fr g L' _ (fun y => if y = Str.ofString "taken" then some (Value.int 0 tt₀) else if y = Str.ofString "out" then some (Value.ref Ol) else if y = Str.ofString "held" then some (.ref Hl) else List.lookup y [(Str.ofString "word", Value.str (wordS bs) tw), (Str.ofString "row", Value.ref D)]) ∧ News g L' _ ((Ol, W.listOf #[] 0) :: (Hl, W.listOf #[] 0) :: [(D, W.listOf (vals rv).toArray e)]) ∧ @Ne Nat Ol Hl ∧ @Ne Nat Ol D ∧ @Ne Nat Hl D := ⟨_, _, _, ‹Fr g L' _ _›, ‹News g L' _ _›, by omega, by omega, by omega⟩
  k_dflt (refine iter_str (bs := bs) (fun i m₁ news₁ => (∃ u : Str → Option Value, (m₁ = fun y => if [Str.ofString "sign", Str.ofString "taken"].contains y then u y else (fun y => if y = Str.ofString "out" then some (Value.ref Ol) else if y = Str.ofString "held" then some (.ref Hl) else List.lookup y [(Str.ofString "word", Value.str (wordS bs) tw), (Str.ofString "row", Value.ref D)]) y) ∧ ∃ z tt, u (Str.ofString "taken") = some (.int z tt) ∧ z = (((bs.take i).foldl (stepRun rv) ([], [], 0)).2.2 : Int)) ∧ ∃ ov hv e1 e2, news₁ = (Ol, W.listOf (vals ov).toArray e1) :: (Hl, W.listOf (vals hv).toArray e2) :: [(D, W.listOf (vals rv).toArray e)] ∧ ov = ((bs.take i).foldl (stepRun rv) ([], [], 0)).1 ∧ hv = ((bs.take i).foldl (stepRun rv) ([], [], 0)).2.1) rfl F5 N5 ⟨?m0, [], [], 0, 0, rfl, rfl, rfl⟩ ?turn ?done)
  case m0 =>
    obtain ⟨u, hu, hk⟩ := m_form2 (stored := [Str.ofString "sign", Str.ofString "taken"]) (m := fun y => if y = Str.ofString "taken" then some (Value.int 0 tt₀) else (fun y => if y = Str.ofString "out" then some (Value.ref Ol) else if y = Str.ofString "held" then some (.ref Hl) else List.lookup y [(Str.ofString "word", Value.str (wordS bs) tw), (Str.ofString "row", Value.ref D)]) y) (m₀ := fun y => if y = Str.ofString "out" then some (Value.ref Ol) else if y = Str.ofString "held" then some (.ref Hl) else List.lookup y [(Str.ofString "word", Value.str (wordS bs) tw), (Str.ofString "row", Value.ref D)]) (k := Str.ofString "taken") (v := .int 0 tt₀) (by ((intro y hy; (have hy' := hy); (simp only [List.contains_cons, List.contains_nil, Bool.or_false, Bool.or_eq_false_iff, beq_eq_false_iff_ne, ne_eq] at hy'); first | (simp only [hy, hy', if_false, Bool.false_eq_true, reduceIte]; done) | simp [hy']))) (by simp)
    exact ⟨u, hu, 0, tt₀, hk, rfl⟩
  case turn =>
    rintro I i b u m₁ news₁ h6 tk6 own hbi hJJ
    refine ex0a2 hJJ fun jA jB => ?_
    clear hJJ
    refine ex1a2 jA fun um hqE1 jC => ?_
    refine ex2a2 jC fun z tt hut hz => ?_
    refine ex4a3 jB fun ov hv e1 e2 hqE2 hov hhv => ?_
    clear jA jB jC
    subst hqE1
    subst hqE2
    rintro hnI hown ⟨io, hio⟩ F6 N6
    have hst := run_snoc rv bs i b hbi
    obtain ⟨hk1, hk2⟩ := hok i b hbi
    have hil : i < bs.length := (List.getElem?_eq_some_iff.mp hbi).1
    have hl1 := runs_len rv (bs.take i)
    have hl2 : (bs.take i).length ≤ 100 := by rw [List.length_take]; omega
    rw [← hov, ← hhv] at hl1
    obtain ⟨o1, o2, o3⟩ : (∀ p ∈ own, p.1 ≠ Ol) ∧ (∀ p ∈ own, p.1 ≠ Hl) ∧ (∀ p ∈ own, p.1 ≠ D) := ⟨fun p hp => by rw [hown p hp]; exact Ne.symm (hnI _ (.head _)), fun p hp => by rw [hown p hp]; exact Ne.symm (hnI _ (.tail _ (.head _))), fun p hp => by rw [hown p hp]; exact Ne.symm (hnI _ (.tail _ (.tail _ (.head _))))⟩
    have F7 := fr_eq (m' := fun y => if y = Str.ofString "taken" then some (Value.int z tt) else if y = Str.ofString "sign" then some (.str ⟨#[if b = true then 40 else 41]⟩ u) else (fun y => if y = Str.ofString "out" then some (Value.ref Ol) else if y = Str.ofString "held" then some (.ref Hl) else List.lookup y [(Str.ofString "word", Value.str (wordS bs) tw), (Str.ofString "row", Value.ref D)]) y) F6 (fun y => by
      by_cases h1 : y = Str.ofString "taken"
      · subst h1
        simp [hut]
        intro h; exact absurd h (by decide)
      · by_cases h2 : y = Str.ofString "sign"
        · subst h2
          simp [show ¬ Str.ofString "sign" = Str.ofString "taken" by decide]
        · simp [h1, h2])
    have N7 : News g L' h6 ((Ol, W.listOf (vals ov).toArray e1) :: (Hl, W.listOf (vals hv).toArray e2) :: (D, W.listOf (vals rv).toArray e) :: own) := News.sub N6 (by walk_at "MY sub2")
    clear F6 N6 F5 N5
    cases b with
    | true =>
      --<A
      have hlt := hk1 rfl
      obtain ⟨q, hq⟩ : ∃ q, rv[((bs.take i).foldl (stepRun rv) ([], [], 0)).2.2]? = some q := ⟨_, List.getElem?_eq_getElem hlt⟩
      have hzb : 0 ≤ z ∧ z < 100000 := by omega
      have hzq : (vals rv)[z.toNat]? = some (.int q.1 q.2) := by
        rw [hz, Int.toNat_natCast]
        simp [vals, hq]
      dsimp only [if_true] at F7
      k_steps
      have F9 := ‹Fr g L' _ _›
      obtain ⟨u', hu', hk'⟩ := m_form2 (stored := [Str.ofString "sign", Str.ofString "taken"]) (m := mOf F9) (m₀ := fun y => if y = Str.ofString "out" then some (Value.ref Ol) else if y = Str.ofString "held" then some (.ref Hl) else List.lookup y [(Str.ofString "word", Value.str (wordS bs) tw), (Str.ofString "row", Value.ref D)]) (k := Str.ofString "taken") (by dsimp only [mOf]; ((intro y hy; (have hy' := hy); (simp only [List.contains_cons, List.contains_nil, Bool.or_false, Bool.or_eq_false_iff, beq_eq_false_iff_ne, ne_eq] at hy'); first | (simp only [hy, hy', if_false, Bool.false_eq_true, reduceIte]; done) | simp [hy']))) rfl
      refine ⟨_, _, _, (Ol, W.listOf (vals ov).toArray e1) :: (Hl, W.listOf (vals (hv ++ [(q.1, q.2)])).toArray (e2 + 1)) :: [(D, W.listOf (vals rv).toArray e)], rfl, F9, News.sub ‹News g L' _ _› (by rw [vals_push]; walk_at "MY sub2"), ?_, ⟨u', hu', _, _, hk', ?_⟩, ov, hv ++ [(q.1, q.2)], e1, e2 + 1, rfl, ?_, ?_⟩
      · intro p hp
        simp only [List.mem_cons, List.not_mem_nil, or_false] at hp
        rcases hp with rfl | rfl | rfl
        · exact hnI (Ol, W.listOf (vals ov).toArray e1) (.head _)
        · exact hnI (Hl, W.listOf (vals hv).toArray e2) (.tail _ (.head _))
        · exact hnI (D, W.listOf (vals rv).toArray e) (.tail _ (.tail _ (.head _)))
      · rw [hst, hz]
        simp [stepRun]
      · rw [hst, hov]
        simp [stepRun]
      · rw [hst, hhv]
        simp [stepRun, hq]
      --A>
    | false =>
      --<B
      have hne := hk2 rfl
      rw [← hhv] at hne
      obtain ⟨hs, q, rfl⟩ : ∃ hs q, hv = hs ++ [q] := ⟨hv.dropLast, hv.getLast hne, (List.dropLast_concat_getLast hne).symm⟩
      rw [vals_snoc] at N7
      have hl3 : (vals hs).length = hs.length := by simp [vals]
      have hl4 : (vals ov).length = ov.length := by simp [vals]
      have hl5 : (hs ++ [q]).length = hs.length + 1 := by simp
      rw [hl5] at hl1
      k_steps
      show wpAny _ _ _ _ _ _
      ((k_dflt (refine' kl_pop ?Fx5 ?Nx5 ?ex5 ?Ux5 ?zx5 ?_; (case Fx5 => k_asm); (case Nx5 => k_asm); (case Ux5 => k_upd); (case ex5 => exact kpa_last _ _); (case zx5 => size_fits)); intro hzz Fzz Nzz; (try dsimp only [List.nil_append, List.cons_append] at Nzz)))
      k_steps
      have F9 := ‹Fr g L' _ _›
      obtain ⟨u', hu', hk'⟩ := m_form2 (stored := [Str.ofString "sign", Str.ofString "taken"]) (m := mOf F9) (m₀ := fun y => if y = Str.ofString "out" then some (Value.ref Ol) else if y = Str.ofString "held" then some (.ref Hl) else List.lookup y [(Str.ofString "word", Value.str (wordS bs) tw), (Str.ofString "row", Value.ref D)]) (k := Str.ofString "taken") (by dsimp only [mOf]; ((intro y hy; (have hy' := hy); (simp only [List.contains_cons, List.contains_nil, Bool.or_false, Bool.or_eq_false_iff, beq_eq_false_iff_ne, ne_eq] at hy'); first | (simp only [hy, hy', if_false, Bool.false_eq_true, reduceIte]; done) | simp [hy']))) rfl
      refine ⟨_, _, _, (Ol, W.listOf (vals (ov ++ [(q.1, q.2)])).toArray (e1 + 1)) :: (Hl, W.listOf (vals hs).toArray (e2 + 1)) :: [(D, W.listOf (vals rv).toArray e)], rfl, F9, News.sub ‹News g L' _ _› (by rw [vals_push]; walk_at "MY sub2"), ?_, ⟨u', hu', _, _, hk', ?_⟩, ov ++ [(q.1, q.2)], hs, e1 + 1, e2 + 1, rfl, ?_, ?_⟩
      · intro p hp
        simp only [List.mem_cons, List.not_mem_nil, or_false] at hp
        rcases hp with rfl | rfl | rfl
        · exact hnI (Ol, W.listOf (vals ov).toArray e1) (.head _)
        · exact hnI (Hl, W.listOf (vals (hs ++ [q])).toArray e2) (.tail _ (.head _))
        · exact hnI (D, W.listOf (vals rv).toArray e) (.tail _ (.tail _ (.head _)))
      · rw [hst, hz]
        simp [stepRun]
      · rw [hst, hov]
        simp [stepRun, ← hhv]
      · rw [hst]
        simp [stepRun, ← hhv]
      --B>
  case done =>
    rintro m₁ news₁ h6 tk6 hJJ
    refine ex0a2 hJJ fun jA jB => ?_
    clear hJJ
    refine ex1a2 jA fun um hqE1 jC => ?_
    refine ex2a2 jC fun z tt hut hz => ?_
    refine ex4a3 jB fun ov hv e1 e2 hqE2 hov hhv => ?_
    clear jA jB jC
    subst hqE1
    subst hqE2
    rintro F6 N6
    rw [List.take_length] at hov hhv hz
    have F7 := fr_eq (m' := fun y => if y = Str.ofString "taken" then some (Value.int z tt) else if y = Str.ofString "sign" then um y else (fun y => if y = Str.ofString "out" then some (Value.ref Ol) else if y = Str.ofString "held" then some (.ref Hl) else List.lookup y [(Str.ofString "word", Value.str (wordS bs) tw), (Str.ofString "row", Value.ref D)]) y) F6 (fun y => by
      by_cases h1 : y = Str.ofString "taken"
      · subst h1
        simp [hut]
      · by_cases h2 : y = Str.ofString "sign"
        · subst h2
          simp [show ¬ Str.ofString "sign" = Str.ofString "taken" by decide]
        · simp [h1, h2])
    clear F6 F5 N5
    subst hz
    dsimp only
    k_steps
    refine hret _ _ _ Ol Hl ov hv e1 e2 tt ‹Fr h₀ L _ _› (news_end ‹News h₀ L _ _› (by assumption) N (fun q hq => .tail _ hq) ?_) hov hhv (.inr trivial)
    intro p hp
    simp only [List.mem_cons, List.not_mem_nil, or_false] at hp ⊢
    rcases hp with h | h | h | h | h
    · exact .inl (.inl h)
    · exact .inl (.inr (.inl h))
    · exact .inl (.inr (.inr (.inl h)))
    · exact .inl (.inr (.inr (.inr h)))
    · exact .inr h
end
-- plain
noncomputable def dstep (st : List (Int × Tok) × List (Int × Tok)) (q : Int × Tok) : List (Int × Tok) × List (Int × Tok) :=
  if q.1 ∈ st.2.map (·.1) then (st.1, st.2.eraseP fun p => p.1 == q.1) else (st.1 ++ [q], st.2)
theorem erase_at {k : Int} : ∀ {av : List (Int × Tok)}, k ∈ av.map (·.1) → ∃ j, ∃ hj : j < av.length, av[j].1 = k ∧ (∀ i, (hi : i < av.length) → i < j → av[i].1 ≠ k) ∧ av.eraseIdx j = av.eraseP fun p => p.1 == k
  | p :: av, h => by
    by_cases e : p.1 = k
    · exact ⟨0, by simp, e, fun i _ hi => absurd hi (Nat.not_lt_zero _), by simp [e]⟩
    · have h' : k ∈ av.map (·.1) := by
        rcases List.mem_cons.mp h with e' | h'
        · exact absurd e'.symm e
        · exact h'
      obtain ⟨j, hj, h1, h2, h3⟩ := erase_at h'
      refine ⟨j + 1, by simp; exact hj, by simpa using h1, fun i hi hij => ?_, ?_⟩
      · cases i with
        | zero => simpa using e
        | succ i =>
          have := h2 i (by simpa using hi) (by omega)
          simpa using this
      · rw [List.eraseIdx_cons_succ, h3, List.eraseP_cons_of_neg (by simpa using e)]
theorem map_erase {α β : Type} (f : α → β) : ∀ (l : List α) (j : Nat), (l.eraseIdx j).map f = (l.map f).eraseIdx j
  | [], j => by simp
  | a :: l, 0 => by simp
  | a :: l, j + 1 => by simp [map_erase f l j]
theorem erase_arr (l : List Value) (j : Nat) (hj : j < l.length) : l.toArray.eraseIdxIfInBounds j = (l.eraseIdx j).toArray := by
  simp [Array.eraseIdxIfInBounds, hj]
section
open MeetsSeq
variable {prog : Program} {w : World} {A : Around} {E : Value → Shared → Prop} {s : Shared} {h₀ : Heap} {L l : Addr} {m : Str → Option Value} {news : List (Addr × Obj)} {n : Nat}
theorem eqs (av : List (Int × Tok)) (k : Int) (t : Tok) : ∀ y, y ∈ (vals av).toArray → EqGives y (.int k t) (match y with | .int a _ => a == k | _ => false) := by
  intro y hy
  have hy' : y ∈ vals av := by simpa using hy
  obtain ⟨p, _, rfl⟩ := List.mem_map.mp hy'
  exact EqGives.int p.1 k p.2 t
theorem remove_L {av : List (Int × Tok)} {k : Int} {t : Tok} {rest : List (Addr × Obj)} {Q : Value → Shared → Prop} (F : Fr h₀ L s.heap m) (N : News h₀ L s.heap news) (hl : (l, W.listOf (vals av).toArray n) ∈ news) (hz : av.length ≤ 1000) (hk : k ∈ av.map (·.1)) (hr : ∀ p ∈ rest, p ∈ news ∧ p.1 ≠ l)
    (h : ∀ h' n', Fr h₀ L h' m → News h₀ L h' ((l, W.listOf (vals (av.eraseP fun p => p.1 == k)).toArray n') :: rest) → Q .none { s with heap := h' }) :
    wpAny (model prog w) A (call (.builtin "list.remove") [.ref l, .int k t]) Q E s := by
  obtain ⟨j, hj, h1, h2, h3⟩ := erase_at hk
  have hlen : (vals av).toArray.size = av.length := by simp [vals]
  have hm := N _ hl
  refine call_meets PySem.F.slot_list_remove ⟨_, hm.1, rfl⟩ PySem.F.entry_list_remove (PySem.F.args_list_remove_2 _ _) (list_remove l (vals av).toArray n (.int k t) _ (eqs av k t) j (by rw [hlen]; exact hj) ?_ ?_ (by rw [hlen, sizeLine_eq]; omega)) ⟨hm.1, ?_⟩
  · simp [vals, h1]
  · intro i hi hij
    have := h2 i (by rw [hlen] at hi; exact hi) hij
    simpa [vals] using this
  · have hs : Heap.SameBut l s.heap (s.heap.update l (Obj.mapSeq fun xs => xs.eraseIdxIfInBounds j)) := Heap.SameBut.update ..
    obtain ⟨n', e2⟩ : ∃ n', Obj.mapSeq (fun xs => xs.eraseIdxIfInBounds j) (W.listOf (vals av).toArray n) = W.listOf ((vals av).toArray.eraseIdxIfInBounds j) n' := ⟨_, rfl⟩
    have e3 : (vals av).toArray.eraseIdxIfInBounds j = (vals (av.eraseIdx j)).toArray := by
      rw [erase_arr _ _ (by simpa [vals] using hj)]
      unfold vals
      rw [map_erase]
    refine h _ n' (F.change hs hm.2.1 hm.2.2) fun p hp => ?_
    rcases List.mem_cons.mp hp with rfl | hp
    · refine ⟨?_, hm.2⟩
      rw [← h3, ← e3, ← e2]
      exact Heap.get?_update_self _ hm.1 rfl
    · exact ⟨hs.extBut _ _ (hr p hp).2 (N p (hr p hp).1).1, (N p (hr p hp).1).2⟩
theorem remove_none {av : List (Int × Tok)} {k : Int} {t : Tok} {Q : Value → Shared → Prop} (hh : A.handled = none) (N : News h₀ L s.heap news) (hl : (l, W.listOf (vals av).toArray n) ∈ news) (hk : k ∉ av.map (·.1))
    (h : ∀ h' tk e, Heap.NewExcOf s.heap h' e "ValueError" → E (.ref e) { s with heap := h', toks := tk }) :
    wpAny (model prog w) A (call (.builtin "list.remove") [.ref l, .int k t]) Q E s := by
  have hm := N _ hl
  refine call_meets PySem.F.slot_list_remove ⟨_, hm.1, rfl⟩ PySem.F.entry_list_remove (PySem.F.args_list_remove_2 _ _) (list_remove_none l (vals av).toArray n (.int k t) _ (eqs av k t) ?_) ⟨hm.1, ?_⟩
  · intro i hi
    have hi' : i < av.length := by simpa [vals] using hi
    have : av[i].1 ≠ k := fun e => hk (e ▸ List.mem_map_of_mem (List.getElem_mem hi'))
    simpa [vals] using this
  · exact ⟨hh, fun h' tk e he => h h' tk e he.of⟩
end
local macro_rules | `(tactic| walk_at "call builtin:list.remove") => `(tactic| (k_here; refine Halt.out ?_))
section
variable {w : World} {mean : ExcName → Option Value} {mg mb : Str → Option Value} {dp un : Nat} {gd : Option (List Code)} {cn : Str} {cs : Scope} {a : Addr} {ccd : Value} {cl : List (Str × Addr)} {outer : List Env} {A₀ : Around} {base h₀ : Heap} {L : Addr} {m : Str → Option Value} {rest : List (Addr × Obj)} {s : Shared}
  {De Da : Addr} {ee ea : Nat} {ev av : List (Int × Tok)} {Q E : Value → Shared → Prop}
theorem diff_K (H : AtT w mean mg mb 8 dp un cs A₀ base h₀ outer L m s.heap)
    (N : News h₀ L s.heap ((De, W.listOf (vals ev).toArray ee) :: (Da, W.listOf (vals av).toArray ea) :: rest)) (hDD : @Ne Nat De Da) (har : ∀ q ∈ rest, q.1 ∉ [De, Da]) (he : ev.length ≤ 100) (ha : av.length ≤ 100)
    (hret : ∀ h' tk' h₀' Tn Ml ms av' e1 e2, KtsTurn (outer.filterMap (·.frame)) h₀ h₀' → AtT w mean mg mb 8 dp un cs A₀ base h₀' outer L m h' → News h₀' L h' ((Tn, tupO [.ref Ml, .ref Da]) :: (Ml, W.listOf (vals ms).toArray e1) :: (Da, W.listOf (vals av').toArray e2) :: rest) →
      (ms, av') = ev.reverse.foldl dstep ([], av) → Q (.ref Tn) { s with heap := h', toks := tk' }) :
    wpAny (model PySem.Challenge.rw_oh0060_01.row.prog w) (ktrTop dp un gd cn cs L a ccd cl outer) (call (.ref 169) [.ref De, .ref Da]) Q E s := by
  have hQM : QMark := trivial
  obtain ⟨⟨B, F, X, T, hk, hdp, hu⟩, XB, TB, Dc⟩ := H
  have Nf : News h₀ L s.heap ((De, W.listOf (vals ev).toArray ee) :: [(Da, W.listOf (vals av).toArray ea)]) := News.sub N (by walk_at "MY sub2")
  have Nr : News h₀ L s.heap rest := News.sub N fun p hp => .tail _ (.tail _ hp)
  have har' : ∀ q ∈ rest, q.1 ∉ ((De, W.listOf (vals ev).toArray ee) :: [(Da, W.listOf (vals av).toArray ea)]).map (·.1) := har
  refine wpAny_call ?_
  ((k_dflt (refine' code_defT ?k1x1 ?k2x1 ?k3x1 ?k4x1 ?k5x1 ?xbx1 ?tbx1 ?Dx1 ?nrx1 ?harx1 ?kAx1 ?kFx1 ?k6x1 ?k7x1 ?k8x1 ?k9x1 ?kBx1 ?_ ?c1x1 ?c2x1 ?c3x1 ?c4x1 ?c5x1; (case kAx1 => exact rfl); (case kFx1 => exact rfl); (case harx1 => assumption); (case k1x1 => k_asm); (case k2x1 => k_asm); (case k3x1 => assumption); (case k4x1 => assumption); (case k5x1 => assumption); (case xbx1 => assumption); (case tbx1 => assumption); (case Dx1 => assumption); (case nrx1 => assumption); (case k6x1 => k_is); (case k7x1 => k_is); (case k8x1 => ktr_room); (case k9x1 => first | exact BindsTo.of_eq rfl | exact binds_K (by k_in) rfl (by k_is) rfl rfl rfl); (case c5x1 => decide); (case kBx1 => exact locs rfl); (case c1x1 => first | exact rfl | assumption); (case c2x1 => exact rfl); (case c3x1 => exact rfl); (case c4x1 => exact rfl); k_whole)))
  intro g L' h₁ FG F' N' hro l1 B' X' T' Dg
  clear B X T Nf Dc FG
  k_lt l1
  dsimp only
  try k_fold
  refine wpAny_noRaise ?_
  k_steps
  show WhlRest _ _ _ _ _ _ _ _ _ _ _
  obtain ⟨Ml, F5, N5, hMD, hMA⟩ : ∃ Ml, Fr g L' _ (fun y => if y = Str.ofString "missing" then some (Value.ref Ml) else List.lookup y [(Str.ofString "actual", Value.ref Da), (Str.ofString "expected", Value.ref De)]) ∧ News g L' _ ((Ml, W.listOf #[] 0) :: (De, W.listOf (vals ev).toArray ee) :: [(Da, W.listOf (vals av).toArray ea)]) ∧ @Ne Nat Ml De ∧ @Ne Nat Ml Da := ⟨_, ‹Fr g L' _ _›, ‹News g L' _ _›, by omega, by omega⟩
  refine whl_inv (fun n s₁ => ∃ gg h tk ms ev₁ dn av₁ e1 e2 e3, ∃ u : Str → Option Value, s₁ = ({ s with heap := h, toks := tk } : Shared) ∧ GrOk w mean mg mb (ktrTop dp un gd cn cs L a ccd cl outer) base (envX cn cs L a ccd cl :: outer) g gg ∧ Fr gg L' h (fun y => if [Str.ofString "item"].contains y then u y else (if y = Str.ofString "missing" then some (Value.ref Ml) else List.lookup y [(Str.ofString "actual", Value.ref Da), (Str.ofString "expected", Value.ref De)])) ∧ News gg L' h ((Ml, W.listOf (vals ms).toArray e1) :: (De, W.listOf (vals ev₁).toArray e2) :: [(Da, W.listOf (vals av₁).toArray e3)]) ∧ ev = ev₁ ++ dn ∧ (ms, av₁) = dn.reverse.foldl dstep ([], av) ∧ ms.length ≤ dn.length ∧ av₁.length ≤ 100 ∧ n = ev₁.length) ?hE ?step ev.length _ ?init
  case hE => passes_own
  case init =>
    obtain ⟨u, hu⟩ := fr_form (stored := [Str.ofString "item"]) (m₀ := fun y => if y = Str.ofString "missing" then some (Value.ref Ml) else List.lookup y [(Str.ofString "actual", Value.ref Da), (Str.ofString "expected", Value.ref De)]) F5 (by ((intro y hy; (have hy' := hy); (simp only [List.contains_cons, List.contains_nil, Bool.or_false, Bool.or_eq_false_iff, beq_eq_false_iff_ne, ne_eq] at hy'); first | (simp only [hy, hy', if_false, Bool.false_eq_true, reduceIte]; done) | simp [hy'])))
    exact ⟨g, _, _, [], ev, [], av, 0, ee, ea, u, rfl, ⟨KtsTurn.refl, B', X', T', Dg⟩, hu, N5, by simp, rfl, Nat.le_refl _, ha, rfl⟩
  case step =>
    clear F5 N5 B' X' T' Dg
    rintro n s₁ hJJ
    refine ex11a9 hJJ fun gg h tk ms ev₁ dn av₁ e1 e2 e3 u hqE1 hgrJ F6 N6 hev hst hml hal hqE2 => ?_
    clear hJJ
    subst hqE1
    subst hqE2
    obtain ⟨hTg, Bg, Xg, Pg, Dg⟩ := hgrJ
    have hlen : ev₁.length + dn.length ≤ 100 := by
      rw [hev, List.length_append] at he
      exact he
    rcases List.eq_nil_or_concat ev₁ with rfl | ⟨es, q, rfl⟩
    · --<A
      have hev' : ev = dn := by simpa using hev
      k_steps
      show wpAny _ _ _ _ _ _
      ((k_dflt (first | (refine truthy_L0 (by k_asm) (by k_mem) (by rfl) ?_) | (refine truthy_L1 (by k_asm) (by k_mem) (by assumption) (by size_fits) ?_))))
      k_steps
      rename_i Tn _ _ hN hl
      refine ⟨gg, L', _, (Tn, tupO [.ref Ml, .ref Da]) :: (Ml, W.listOf (vals ms).toArray e1) :: [(Da, W.listOf (vals av₁).toArray e3)], hTg, ‹Fr gg L' _ _›, News.sub hN (by walk_at "MY sub2"), fun h₀' T₁ F₁ N₁ B₁ X₁ P₁ D₁ => ?_⟩
      exact hret _ _ h₀' Tn Ml ms av₁ e1 e3 T₁ ⟨⟨B₁, F₁, X₁, P₁, hk, hdp, hu⟩, XB, TB, D₁⟩ (News.sub N₁ (by walk_at "MY sub2")) (by rw [hev']; exact hst)
      --A>
    · --<B
      rw [List.concat_eq_append] at hev hlen N6 ⊢
      rw [vals_snoc] at N6
      have hv1 : (vals es).length = es.length := by simp [vals]
      have hv2 : (vals ms).length = ms.length := by simp [vals]
      have hl2 : (es ++ [q]).length = es.length + 1 := by simp
      rw [hl2] at hlen ⊢
      have hne : vals es ++ [Value.int q.1 q.2] ≠ [] := by simp
      k_steps
      show wpAny _ _ _ _ _ _
      ((k_dflt (first | (refine truthy_L0 (by k_asm) (by k_mem) (by rfl) ?_) | (refine truthy_L1 (by k_asm) (by k_mem) (by assumption) (by size_fits) ?_))))
      k_steps
      show wpAny _ _ _ _ _ _
      ((k_dflt (refine' kl_pop ?Fx5 ?Nx5 ?ex5 ?Ux5 ?zx5 ?_; (case Fx5 => k_asm); (case Nx5 => k_asm); (case Ux5 => k_upd); (case ex5 => exact kpa_last _ _); (case zx5 => size_fits)); intro hzz Fzz Nzz; (try dsimp only [List.nil_append, List.cons_append] at Nzz)))
      k_steps
      show wpAny _ _ _ _ _ _
      have hst2 : (q :: dn).reverse.foldl dstep ([], av) = dstep (ms, av₁) q := by
        rw [List.reverse_cons, List.foldl_append, ← hst]
        rfl
      have hev2 : ev = es ++ (q :: dn) := by rw [hev]; simp
      by_cases hin : q.1 ∈ av₁.map (·.1)
      · k_dflt (refine remove_L (av := av₁) (n := e3) (rest := (Ml, W.listOf (vals ms).toArray e1) :: [(De, W.listOf (vals es).toArray (e2 + 1))]) ‹Fr gg L' _ _› ‹News gg L' _ _› (by walk_at "MY in") (by omega) hin ?hr ?_)
        case hr => exact hr_cons ⟨by walk_at "MY in", hMA⟩ (hr_cons ⟨by walk_at "MY in", hDD⟩ fun _ h => by cases h)
        intro h9 n9 F9 N9
        have hle : (av₁.eraseP fun p => p.1 == q.1).length ≤ av₁.length := List.length_eraseP_le
        k_steps
        show Halt _
        obtain ⟨u', F12⟩ := fr_form (stored := [Str.ofString "item"]) (m₀ := fun y => if y = Str.ofString "missing" then some (Value.ref Ml) else List.lookup y [(Str.ofString "actual", Value.ref Da), (Str.ofString "expected", Value.ref De)]) ‹Fr gg L' _ _› (by ((intro y hy; (have hy' := hy); (simp only [List.contains_cons, List.contains_nil, Bool.or_false, Bool.or_eq_false_iff, beq_eq_false_iff_ne, ne_eq] at hy'); first | (simp only [hy, hy', if_false, Bool.false_eq_true, reduceIte]; done) | simp [hy'])))
        exact ⟨es.length, Nat.lt_succ_self _, gg, _, _, ms, es, q :: dn, _, e1, e2 + 1, n9, u', rfl, ⟨hTg, Bg, Xg, Pg, Dg⟩, F12, News.sub ‹News gg L' _ _› (by walk_at "MY sub2"), hev2, by rw [hst2, dstep, if_pos hin], by simp only [List.length_cons]; omega, by omega, rfl⟩
      · k_dflt (refine remove_none (av := av₁) (n := e3) rfl ‹News gg L' _ _› (by walk_at "MY in") hin ?_)
        intro h9 tk9 ex hx
        k_dflt (refine caught_new (T' := "ValueError") (mean := mean) (KF := hd.heap_1 w.params) Bg hx ‹Fr gg L' _ _› ‹News gg L' _ _› XB TB Dg (by k_is) (by boot_by_name) (by decide) PySem.F.isExc_ValueError PySem.F.notTuple_ValueError (by rw [isSubtype_type]; kernel_rfl) ?_)
        intro h11 gg2 hT2 F11 N11 Bg2 Xg2 Pg2 Dg2
        k_steps
        show Halt _
        obtain ⟨u', F12⟩ := fr_form (stored := [Str.ofString "item"]) (m₀ := fun y => if y = Str.ofString "missing" then some (Value.ref Ml) else List.lookup y [(Str.ofString "actual", Value.ref Da), (Str.ofString "expected", Value.ref De)]) ‹Fr gg2 L' _ _› (by ((intro y hy; (have hy' := hy); (simp only [List.contains_cons, List.contains_nil, Bool.or_false, Bool.or_eq_false_iff, beq_eq_false_iff_ne, ne_eq] at hy'); first | (simp only [hy, hy', if_false, Bool.false_eq_true, reduceIte]; done) | simp [hy'])))
        refine ⟨es.length, Nat.lt_succ_self _, gg2, _, _, ms ++ [(q.1, q.2)], es, q :: dn, av₁, e1 + 1, e2 + 1, e3, u', rfl, ⟨hTg.trans hT2, Bg2, Xg2, Pg2, Dg2⟩, F12, News.sub ‹News gg2 L' _ _› (by rw [vals_push]; walk_at "MY sub2"), hev2, by rw [hst2, dstep, if_neg hin], by simp only [List.length_append, List.length_cons, List.length_nil]; omega, hal, rfl⟩
      --B>
end
-- plain
/-- the pairs (who waits, for whom) that _law_sorter tells -/
noncomputable def edgesJ (ns : List Int) (k j : Nat) : List (Int × Int) :=
  if ns.getD j 0 < ns.getD k 0 then [(2 * (k : Int), 2 * (j : Int) + 1)] else if ns.getD k 0 < ns.getD j 0 then [(2 * (j : Int) + 1, 2 * (k : Int) + 1)] else []
noncomputable def edgesK0 (k : Nat) : List (Int × Int) := (2 * (k : Int) + 1, 2 * (k : Int)) :: if 0 < k then [(2 * (k : Int), 2 * (k : Int) - 2)] else []
noncomputable def edgesK (ns : List Int) (k : Nat) : List (Int × Int) := edgesK0 k ++ (List.range k).flatMap (edgesJ ns k)
noncomputable def edges (ns : List Int) : List (Int × Int) := (List.range ns.length).flatMap (edgesK ns)
noncomputable def addAll (g : Gr) (l : List (Int × Int)) : Gr := l.foldl (fun g e => addG g e.1 e.2) g
theorem addAll_append (g : Gr) (l l' : List (Int × Int)) : addAll g (l ++ l') = addAll (addAll g l) l' := List.foldl_append
theorem stepJ_all (ns : List Int) (k j : Nat) (g : Gr) : stepJ ns k g j = addAll g (edgesJ ns k j) := by
  unfold stepJ edgesJ
  split
  · rfl
  · split <;> rfl
theorem stepK0_all (k : Nat) (g : Gr) : stepK0 g k = addAll g (edgesK0 k) := by
  unfold stepK0 edgesK0
  split <;> rfl
theorem row_all (ns : List Int) (k i : Nat) (g : Gr) : (List.range i).foldl (stepJ ns k) g = addAll g ((List.range i).flatMap (edgesJ ns k)) := by
  induction i with
  | zero => rfl
  | succ i ih => rw [foldl_range_succ, ih, stepJ_all, List.range_succ, List.flatMap_append, addAll_append]; simp
theorem stepK_all (ns : List Int) (k : Nat) (g : Gr) : stepK ns g k = addAll g (edgesK ns k) := by
  unfold stepK edgesK
  rw [row_all, stepK0_all, addAll_append]
theorem build_all (ns : List Int) : buildG ns = addAll [] (edges ns) := by
  have key : ∀ i, buildTo ns i = addAll [] ((List.range i).flatMap (edgesK ns)) := by
    intro i
    unfold buildTo
    induction i with
    | zero => rfl
    | succ i ih => rw [foldl_range_succ, ih, stepK_all, List.range_succ, List.flatMap_append, addAll_append]; simp
  exact key ns.length
theorem mem_ensure (g : Gr) (k p : Int) : p ∈ (ensure g k).map (·.1) ↔ p ∈ g.map (·.1) ∨ p = k := by
  unfold ensure
  split
  · constructor
    · exact .inl
    · rintro (h | rfl)
      · exact h
      · assumption
  · simp
theorem nd_ensure {g : Gr} (k : Int) (h : (g.map (·.1)).Nodup) : ((ensure g k).map (·.1)).Nodup := by
  unfold ensure
  split
  · exact h
  · rename_i hk
    rw [List.map_append]
    refine List.nodup_append.mpr ⟨h, by simp, ?_⟩
    intro a ha b hb e
    simp only [List.map_cons, List.map_nil, List.mem_singleton] at hb
    subst hb
    exact hk (e ▸ ha)
theorem keys_bump (g : Gr) (k : Int) : (bump g k).map (·.1) = g.map (·.1) := by
  unfold bump
  rw [List.map_map]
  refine List.map_congr_left fun e _ => ?_
  simp only [Function.comp]
  split <;> rfl
theorem keys_link (g : Gr) (j k : Int) : (link g j k).map (·.1) = g.map (·.1) := by
  unfold link
  rw [List.map_map]
  refine List.map_congr_left fun e _ => ?_
  simp only [Function.comp]
  split <;> rfl
theorem find_none {g : Gr} {p : Int} (h : p ∉ g.map (·.1)) : g.find? (fun e => e.1 == p) = none := by
  rw [List.find?_eq_none]
  intro e he hp
  exact h ((beq_iff_eq.mp hp) ▸ List.mem_map_of_mem he)
theorem find_ensure (g : Gr) (k p : Int) : (ensure g k).find? (fun e => e.1 == p) = if p = k ∧ k ∉ g.map (·.1) then some (k, 0, []) else g.find? (fun e => e.1 == p) := by
  unfold ensure
  by_cases hk : k ∈ g.map (·.1)
  · rw [if_pos hk, if_neg (fun h => h.2 hk)]
  · rw [if_neg hk, List.find?_append]
    by_cases e : p = k
    · subst e
      rw [if_pos ⟨rfl, hk⟩, find_none hk]
      simp
    · rw [if_neg (fun h => e h.1)]
      have : ([(k, 0, [])] : Gr).find? (fun e => e.1 == p) = none := by simp [Ne.symm e]
      rw [this, Option.or_none]
theorem find_map {g : Gr} {f : Int × Int × List Int → Int × Int × List Int} (hf : ∀ e, (f e).1 = e.1) (p : Int) : (g.map f).find? (fun e => e.1 == p) = (g.find? (fun e => e.1 == p)).map f := by
  rw [List.find?_map]
  have e : ((fun e : Int × Int × List Int => e.1 == p) ∘ f) = fun e => e.1 == p := by
    funext e
    simp only [Function.comp, hf]
  rw [e]
theorem find_fst {g : Gr} {p : Int} {e : Int × Int × List Int} (h : g.find? (fun e => e.1 == p) = some e) : e.1 = p := by
  have := List.find?_some h
  simpa using this
theorem succ_ensure (g : Gr) (k p : Int) : succOf (ensure g k) p = succOf g p := by
  unfold succOf
  rw [find_ensure]
  split
  · rename_i h
    rw [h.1, find_none h.2]; rfl
  · rfl
theorem np_ensure (g : Gr) (k p : Int) : npOf (ensure g k) p = npOf g p := by
  unfold npOf
  rw [find_ensure]
  split
  · rename_i h
    rw [h.1, find_none h.2]; rfl
  · rfl
theorem succ_bump (g : Gr) (k p : Int) : succOf (bump g k) p = succOf g p := by
  unfold succOf bump
  rw [find_map (fun e => by split <;> rfl)]
  cases g.find? (fun e => e.1 == p) with
  | none => rfl
  | some e => simp only [Option.map_some, Option.getD_some]; split <;> rfl
theorem np_link (g : Gr) (j k p : Int) : npOf (link g j k) p = npOf g p := by
  unfold npOf link
  rw [find_map (fun e => by split <;> rfl)]
  cases g.find? (fun e => e.1 == p) with
  | none => rfl
  | some e => simp only [Option.map_some, Option.getD_some]; split <;> rfl
theorem find_some {g : Gr} {p : Int} (h : p ∈ g.map (·.1)) : ∃ e, g.find? (fun e => e.1 == p) = some e := by
  cases q : g.find? (fun e => e.1 == p) with
  | some e => exact ⟨e, rfl⟩
  | none =>
    obtain ⟨e, he, rfl⟩ := List.mem_map.mp h
    have := List.find?_eq_none.mp q e he
    simp at this
theorem np_bump {g : Gr} {k : Int} (hk : k ∈ g.map (·.1)) (p : Int) : npOf (bump g k) p = npOf g p + if p = k then 1 else 0 := by
  unfold npOf bump
  rw [find_map (fun e => by split <;> rfl)]
  cases q : g.find? (fun e => e.1 == p) with
  | none =>
    have : p ≠ k := by
      rintro rfl
      obtain ⟨e, he⟩ := find_some hk
      rw [he] at q; cases q
    simp [this]
  | some e =>
    have he := find_fst q
    simp only [Option.map_some, Option.getD_some]
    subst he
    split <;> simp
theorem succ_link {g : Gr} {j : Int} (hj : j ∈ g.map (·.1)) (k p : Int) : succOf (link g j k) p = succOf g p ++ if p = j then [k] else [] := by
  unfold succOf link
  rw [find_map (fun e => by split <;> rfl)]
  cases q : g.find? (fun e => e.1 == p) with
  | none =>
    have : p ≠ j := by
      rintro rfl
      obtain ⟨e, he⟩ := find_some hj
      rw [he] at q; cases q
    simp [this]
  | some e =>
    have he := find_fst q
    simp only [Option.map_some, Option.getD_some]
    subst he
    split <;> simp
theorem ind_append (g g' : Gr) (D : List Int) (k : Int) : ind (g ++ g') D k = ind g D k + ind g' D k := by simp [ind]
theorem ind_ensure (g : Gr) (k : Int) (D : List Int) (p : Int) : ind (ensure g k) D p = ind g D p := by
  unfold ensure
  split
  · rfl
  · rw [ind_append]; simp [ind]
theorem ind_bump (g : Gr) (k : Int) (D : List Int) (p : Int) : ind (bump g k) D p = ind g D p := by
  unfold ind bump
  rw [List.map_map]
  refine congrArg List.sum (List.map_congr_left fun e _ => ?_)
  simp only [Function.comp]
  split <;> rfl
theorem ind_link_off {g : Gr} {j : Int} (hj : j ∉ g.map (·.1)) (k p : Int) : ind (link g j k) [] p = ind g [] p := by
  have : link g j k = g := by
    unfold link
    conv => rhs; rw [← List.map_id g]
    refine List.map_congr_left fun e he => ?_
    rw [if_neg]
    · rfl
    · intro e'; exact hj (e' ▸ List.mem_map_of_mem he)
  rw [this]
theorem ind_link {g : Gr} {j : Int} (hn : (g.map (·.1)).Nodup) (hj : j ∈ g.map (·.1)) (k p : Int) : ind (link g j k) [] p = ind g [] p + if p = k then 1 else 0 := by
  induction g with
  | nil => cases hj
  | cons a g ih =>
    rw [List.map_cons, List.nodup_cons] at hn
    have e1 : link (a :: g) j k = (if a.1 = j then (a.1, a.2.1, a.2.2 ++ [k]) else a) :: link g j k := rfl
    have e2 : ∀ (b : Int × Int × List Int) (g' : Gr), ind (b :: g') [] p = b.2.2.count p + ind g' [] p := fun b g' => by simp [ind]
    rw [e1, e2, e2]
    by_cases e : a.1 = j
    · subst e
      rw [if_pos rfl, ind_link_off hn.1]
      simp only [List.count_append, List.count_singleton]
      by_cases h : p = k
      · subst h; simp; omega
      · have h' : (k == p) = false := by simpa using Ne.symm h
        simp [h, h']
    · rw [if_neg e, ih hn.2]
      · omega
      · rcases List.mem_cons.mp hj with h | h
        · exact absurd h.symm e
        · exact h
/-- what addG does, seen from outside -/
structure Built (l : List (Int × Int)) (g : Gr) : Prop where
  nd : (g.map (·.1)).Nodup
  keys : ∀ p, p ∈ g.map (·.1) ↔ ∃ e ∈ l, p = e.1 ∨ p = e.2
  succ : ∀ p s, s ∈ succOf g p ↔ (s, p) ∈ l
  np : ∀ p, npOf g p = ind g [] p
theorem Built.nil : Built [] [] := ⟨by simp, by simp, by simp [succOf], by simp [npOf, ind]⟩
theorem Built.add {l : List (Int × Int)} {g : Gr} (h : Built l g) (k j : Int) : Built (l ++ [(k, j)]) (addG g k j) := by
  have n1 := nd_ensure k h.nd
  have k1 : k ∈ (ensure g k).map (·.1) := (mem_ensure g k k).mpr (.inr rfl)
  have n2 : ((bump (ensure g k) k).map (·.1)).Nodup := by rw [keys_bump]; exact n1
  have n3 := nd_ensure j n2
  have j3 : j ∈ (ensure (bump (ensure g k) k) j).map (·.1) := (mem_ensure _ j j).mpr (.inr rfl)
  refine ⟨?_, ?_, ?_, ?_⟩
  · unfold addG; rw [keys_link]; exact n3
  · intro p
    unfold addG
    rw [keys_link, mem_ensure, keys_bump, mem_ensure, h.keys]
    constructor
    · rintro ((⟨e, he, h'⟩ | rfl) | rfl)
      · exact ⟨e, List.mem_append_left _ he, h'⟩
      · exact ⟨(p, j), by simp, .inl rfl⟩
      · exact ⟨(k, p), by simp, .inr rfl⟩
    · rintro ⟨e, he, h'⟩
      rcases List.mem_append.mp he with he | he
      · exact .inl (.inl ⟨e, he, h'⟩)
      · rw [List.mem_singleton] at he
        subst he
        rcases h' with h' | h'
        · exact .inl (.inr h')
        · exact .inr h'
  · intro p s
    unfold addG
    rw [succ_link j3, succ_ensure, succ_bump, succ_ensure, List.mem_append, List.mem_append, h.succ]
    by_cases e : p = j
    · subst e; simp
    · simp [e]
  · intro p
    unfold addG
    rw [np_link, np_ensure, np_bump k1, np_ensure, ind_link n3 j3, ind_ensure, ind_bump, ind_ensure, h.np]
    split <;> simp
theorem Built.addAll {l : List (Int × Int)} : ∀ (l' : List (Int × Int)) {g : Gr}, Built l g → Built (l ++ l') (addAll g l')
  | [], g, h => by simpa [Mine.addAll] using h
  | e :: l', g, h => by
    have := Built.addAll (l := l ++ [e]) l' (h.add e.1 e.2)
    rw [List.append_assoc] at this
    exact this
theorem built (ns : List Int) : Built (edges ns) (buildG ns) := by
  rw [build_all]
  exact Built.nil.addAll (edges ns)
theorem mem_succ {g : Gr} (hn : (g.map (·.1)).Nodup) {e : Int × Int × List Int} (he : e ∈ g) : succOf g e.1 = e.2.2 := by
  induction g with
  | nil => cases he
  | cons a g ih =>
    rw [List.map_cons, List.nodup_cons] at hn
    unfold succOf
    rcases List.mem_cons.mp he with rfl | he
    · rw [List.find?_cons_of_pos (by simp)]; rfl
    · have : a.1 ≠ e.1 := fun h => hn.1 (h ▸ List.mem_map_of_mem he)
      rw [List.find?_cons_of_neg (by simpa using this)]
      exact ih hn.2 he
theorem build_nd (ns : List Int) : ((buildG ns).map (·.1)).Nodup := (built ns).nd
theorem build_cl (ns : List Int) : ∀ e ∈ buildG ns, ∀ k ∈ e.2.2, k ∈ (buildG ns).map (·.1) := fun e he k hk => by
  rw [← mem_succ (build_nd ns) he, (built ns).succ] at hk
  exact ((built ns).keys k).mpr ⟨_, hk, .inl rfl⟩
theorem build_np (ns : List Int) : ∀ k ∈ (buildG ns).map (·.1), npOf (buildG ns) k = ind (buildG ns) [] k := fun k _ => (built ns).np k
/-- who waits for whom -/
noncomputable def Ed (ns : List Int) (p s : Int) : Prop := ∃ k : Nat, k < ns.length ∧ ((p = 2 * (k : Int) ∧ s = 2 * (k : Int) + 1) ∨ (0 < k ∧ p = 2 * (k : Int) - 2 ∧ s = 2 * (k : Int)) ∨
  ∃ j : Nat, j < k ∧ ((ns.getD j 0 < ns.getD k 0 ∧ p = 2 * (j : Int) + 1 ∧ s = 2 * (k : Int)) ∨ (ns.getD k 0 < ns.getD j 0 ∧ p = 2 * (k : Int) + 1 ∧ s = 2 * (j : Int) + 1)))
theorem mem_edgesJ (ns : List Int) (k j : Nat) (s p : Int) : (s, p) ∈ edgesJ ns k j ↔ ((ns.getD j 0 < ns.getD k 0 ∧ p = 2 * (j : Int) + 1 ∧ s = 2 * (k : Int)) ∨ (ns.getD k 0 < ns.getD j 0 ∧ p = 2 * (k : Int) + 1 ∧ s = 2 * (j : Int) + 1)) := by
  unfold edgesJ
  split
  · simp only [List.mem_singleton, Prod.mk.injEq]
    constructor
    · rintro ⟨h1, h2⟩; exact .inl ⟨by assumption, h2, h1⟩
    · rintro (⟨_, h1, h2⟩ | ⟨h, _⟩)
      · exact ⟨h2, h1⟩
      · omega
  · split
    · simp only [List.mem_singleton, Prod.mk.injEq]
      constructor
      · rintro ⟨h1, h2⟩; exact .inr ⟨by assumption, h2, h1⟩
      · rintro (⟨h, _⟩ | ⟨_, h1, h2⟩)
        · omega
        · exact ⟨h2, h1⟩
    · simp only [List.not_mem_nil, false_iff]
      rintro (⟨h, _⟩ | ⟨h, _⟩) <;> omega
theorem mem_edgesK0 (k : Nat) (s p : Int) : (s, p) ∈ edgesK0 k ↔ ((p = 2 * (k : Int) ∧ s = 2 * (k : Int) + 1) ∨ (0 < k ∧ p = 2 * (k : Int) - 2 ∧ s = 2 * (k : Int))) := by
  unfold edgesK0
  split
  · simp only [List.mem_cons, List.not_mem_nil, or_false, Prod.mk.injEq]
    constructor
    · rintro (⟨h1, h2⟩ | ⟨h1, h2⟩)
      · exact .inl ⟨h2, h1⟩
      · exact .inr ⟨by assumption, h2, h1⟩
    · rintro (⟨h1, h2⟩ | ⟨_, h1, h2⟩)
      · exact .inl ⟨h2, h1⟩
      · exact .inr ⟨h2, h1⟩
  · simp only [List.mem_cons, List.not_mem_nil, or_false, Prod.mk.injEq]
    constructor
    · rintro ⟨h1, h2⟩; exact .inl ⟨h2, h1⟩
    · rintro (⟨h1, h2⟩ | ⟨h, _⟩)
      · exact ⟨h2, h1⟩
      · omega
theorem mem_edges (ns : List Int) (s p : Int) : (s, p) ∈ edges ns ↔ Ed ns p s := by
  unfold edges edgesK Ed
  simp only [List.mem_flatMap, List.mem_range, List.mem_append, mem_edgesK0, mem_edgesJ]
  constructor
  · rintro ⟨k, hk, (h | h) | h⟩
    · exact ⟨k, hk, .inl h⟩
    · exact ⟨k, hk, .inr (.inl h)⟩
    · exact ⟨k, hk, .inr (.inr h)⟩
  · rintro ⟨k, hk, h | h | h⟩
    · exact ⟨k, hk, .inl (.inl h)⟩
    · exact ⟨k, hk, .inl (.inr h)⟩
    · exact ⟨k, hk, .inr h⟩
theorem build_succ (ns : List Int) (p s : Int) : s ∈ succOf (buildG ns) p ↔ Ed ns p s := by rw [(built ns).succ, mem_edges]
theorem build_keys (ns : List Int) (p : Int) : p ∈ (buildG ns).map (·.1) ↔ ∃ k : Nat, k < ns.length ∧ (p = 2 * (k : Int) ∨ p = 2 * (k : Int) + 1) := by
  rw [(built ns).keys]
  constructor
  · rintro ⟨⟨s, q⟩, he, h⟩
    obtain ⟨k, hk, h'⟩ := (mem_edges ns s q).mp he
    rcases h' with ⟨h1, h2⟩ | ⟨h0, h1, h2⟩ | ⟨j, hj, ⟨_, h1, h2⟩ | ⟨_, h1, h2⟩⟩ <;> rcases h with h | h <;> simp only at h
    · exact ⟨k, hk, (by first | exact .inl (h.trans h1) | exact .inr (h.trans h1) | exact .inl (h.trans h2) | exact .inr (h.trans h2) | exact .inl (h.symm.trans h1) | exact .inr (h.symm.trans h1) | exact .inl (h.symm.trans h2) | exact .inr (h.symm.trans h2) | omega)⟩
    · exact ⟨k, hk, (by first | exact .inl (h.trans h1) | exact .inr (h.trans h1) | exact .inl (h.trans h2) | exact .inr (h.trans h2) | exact .inl (h.symm.trans h1) | exact .inr (h.symm.trans h1) | exact .inl (h.symm.trans h2) | exact .inr (h.symm.trans h2) | omega)⟩
    · exact ⟨k, hk, (by first | exact .inl (h.trans h1) | exact .inr (h.trans h1) | exact .inl (h.trans h2) | exact .inr (h.trans h2) | exact .inl (h.symm.trans h1) | exact .inr (h.symm.trans h1) | exact .inl (h.symm.trans h2) | exact .inr (h.symm.trans h2) | omega)⟩
    · exact ⟨k - 1, by omega, by omega⟩
    · exact ⟨k, hk, (by first | exact .inl (h.trans h1) | exact .inr (h.trans h1) | exact .inl (h.trans h2) | exact .inr (h.trans h2) | exact .inl (h.symm.trans h1) | exact .inr (h.symm.trans h1) | exact .inl (h.symm.trans h2) | exact .inr (h.symm.trans h2) | omega)⟩
    · exact ⟨j, Nat.lt_trans hj hk, (by first | exact .inl (h.trans h1) | exact .inr (h.trans h1) | exact .inl (h.trans h2) | exact .inr (h.trans h2) | exact .inl (h.symm.trans h1) | exact .inr (h.symm.trans h1) | exact .inl (h.symm.trans h2) | exact .inr (h.symm.trans h2) | omega)⟩
    · exact ⟨j, Nat.lt_trans hj hk, (by first | exact .inl (h.trans h1) | exact .inr (h.trans h1) | exact .inl (h.trans h2) | exact .inr (h.trans h2) | exact .inl (h.symm.trans h1) | exact .inr (h.symm.trans h1) | exact .inl (h.symm.trans h2) | exact .inr (h.symm.trans h2) | omega)⟩
    · exact ⟨k, hk, (by first | exact .inl (h.trans h1) | exact .inr (h.trans h1) | exact .inl (h.trans h2) | exact .inr (h.trans h2) | exact .inl (h.symm.trans h1) | exact .inr (h.symm.trans h1) | exact .inl (h.symm.trans h2) | exact .inr (h.symm.trans h2) | omega)⟩
  · rintro ⟨k, hk, h⟩
    refine ⟨(2 * (k : Int) + 1, 2 * (k : Int)), (mem_edges ns _ _).mpr ⟨k, hk, .inl ⟨rfl, rfl⟩⟩, ?_⟩
    rcases h with h | h
    · exact .inr h
    · exact .inl h
theorem build_len (ns : List Int) (h : ns.length ≤ 7) : (buildG ns).length ≤ 14 := by
  have h1 : ((buildG ns).map (·.1)).length ≤ ((List.range 14).map fun i : Nat => (i : Int)).length := nodup_sub_len (build_nd ns) fun p hp => by
    obtain ⟨k, hk, e⟩ := (build_keys ns p).mp hp
    refine List.mem_map.mpr ⟨p.toNat, List.mem_range.mpr (by omega), by omega⟩
  simpa using h1
-- plain
/-! rules for the body of a generator function: for, if -/
section
variable {M : Model} {A : Around} {R : GenEnd} {Y : Protocol} {n : Nat} {s₀ : Shared} {c : Code} {fs : List Frame} {s : Shared} {env : Env}
  {K : Flow → Sem Fin} {H : Value → Sem Fin} {gd : Bool → Bool} {lv : List Value → List Value}
theorem seg_If {test : PySem.Expr} {body orelse : List Stmt} {pos : Pos}
    (h : wpAny M (A.over c fs) (isTrue test env (eval test env)) (fun b s' => Seg M A R Y n s₀ c ((if b = true then execs body env else execs orelse env).wrap K H gd lv) fs s') (fun x s' => Seg M A R Y n s₀ c (H x) fs s') s) :
    Seg M A R Y n s₀ c ((exec (.If test body orelse pos) env).wrap K H gd lv) fs s := by
  rw [exec_If]
  refine seg_bind_wrap (wpAny_standAt ?_)
  exact seg_bind_wrap h
theorem seg_step {st : Stmt} (h : wpAny M (A.over c fs) (exec st env) (fun f s' => Seg M A R Y n s₀ c (K f) fs s') (fun x s' => Seg M A R Y n s₀ c (H x) fs s') s) :
    Seg M A R Y n s₀ c ((exec st env).wrap K H gd lv) fs s := seg_wrap h
/-- what a for statement's own frame does when its loop comes back -/
noncomputable def forBack (env : Env) (K : Flow → Sem Fin) (H : Value → Sem Fin) (gd : Bool → Bool) (lv : List Value → List Value) (r : Result) : Sem Fin :=
  ((match r with | .ok f => (.pure f : Sem Flow) | .error e => .raise e).onRaise fun (x : Value) => do
        if (← field x 1) == Value.none then unsupported "frame.own-activation:exception-without-traceback"
        setFlight x env.frame).wrap K H gd lv
theorem seg_For {target iter : PySem.Expr} {body orelse : List Stmt} {pos : Pos}
    (h : wpAny M (A.over c fs) (eval iter env) (fun x s₁ => wpAny M (A.over c fs) (pyIter x) (fun it s₂ => ∀ p, Seg M A R Y n s₀ (.forLoop target it body orelse env) (M.den (.forLoop target it body orelse env))
      (.ret (forBack env K H gd lv) none (gd false) (lv []) c p [] :: fs) s₂) (fun x s' => Seg M A R Y n s₀ c (H x) fs s') s₁) (fun x s' => Seg M A R Y n s₀ c (H x) fs s') s)
    (hs : ∀ x, foldedSetIterable iter env x = pure x) :
    Seg M A R Y n s₀ c ((exec (.For target iter body orelse pos) env).wrap K H gd lv) fs s := by
  rw [exec_For]
  refine seg_bind_wrap (wpAny_standAt ?_)
  refine seg_bind_wrap (wpAny_mono h (fun x s₁ h₁ => ?_) fun _ _ e => e)
  refine seg_bind_wrap (wpAny_of_eq (hs x) ?_)
  refine seg_bind_wrap (wpAny_standAt ?_)
  refine seg_bind_wrap (wpAny_holding (wpAny_mono h₁ (fun it s₂ h₂ => ?_) fun _ _ e => e))
  exact seg_call h₂
end
section
variable {prog : Program} {w : World} {A : Around} {R : GenEnd} {Y : Protocol} {n : Nat} {s₀ : Shared} {fs : List Frame} {s : Shared} {env : Env}
/-- how a turn's exception leaves the loop -/
noncomputable def forOut (env : Env) (e : Value) : Sem Fin := (do noteFrame e env; theTreesLotGoes e : Sem Unit).wrap (fun _ => .raise e) .raise id id
noncomputable def forOn (target : PySem.Expr) (it : Value) (body orelse : List Stmt) (env : Env) (f : Flow) : Sem Fin := match f with
  | .next | .cont => .pure (.again (.forLoop target it body orelse env))
  | .brk => .pure (.done .next)
  | .ret v => .pure (.done (.ret v))
theorem seg_forLoop {target : PySem.Expr} {it : Value} {body orelse : List Stmt}
    (h : wpAny (model prog w) (A.over (.forLoop target it body orelse env) fs) (pyNext it) (fun r s₁ => match r with
      | none => Seg (model prog w) A R Y n s₀ (.forLoop target it body orelse env) (.pure (.again (.block orelse env))) fs s₁
      | some v => wpAny (model prog w) (A.over (.forLoop target it body orelse env) fs) (letOwnedTupleGo target it v) (fun _ s₂ => wpAny (model prog w) (A.over (.forLoop target it body orelse env) fs) (assign target env v) (fun _ s₃ =>
          Seg (model prog w) A R Y n s₀ (.forLoop target it body orelse env) ((execs body env).wrap (forOn target it body orelse env) (forOut env) id id) fs s₃)
        (fun _ _ => False) s₂) (fun _ _ => False) s₁) (fun _ _ => False) s) :
    Seg (model prog w) A R Y n s₀ (.forLoop target it body orelse env) ((model prog w).den (.forLoop target it body orelse env)) fs s := by
  show Seg _ A R Y n s₀ _ ((forTurn target it body orelse env).onRaise (fun x => do noteFrame x env; theTreesLotGoes x)) fs s
  unfold forTurn
  rw [Sem.onRaise_eq_wrap]
  refine seg_bind_wrap (wpAny_standAt ?_)
  refine seg_bind_wrap (wpAny_onRaise (wpAny_mono h (fun r s₁ h₁ => ?_) fun _ _ e => e.elim))
  cases r with
  | none => exact h₁
  | some v =>
    refine seg_bind_wrap (wpAny_mono h₁ (fun _ s₂ h₂ => ?_) fun _ _ e => e.elim)
    refine seg_bind_wrap (wpAny_mono h₂ (fun _ s₃ h₃ => ?_) fun _ _ e => e.elim)
    rw [Sem.bind_eq_wrap', Sem.wrap_wrap]
    rw [Sem.wrap_congr (execs body env) _ _ (K' := forOn target it body orelse env) (H' := forOut env) (fun f => by cases f <;> rfl)
      (fun e => by first | exact Sem.bind_eq_wrap _ _ | (show (do noteFrame e env; theTreesLotGoes e : Sem Unit).bind (fun _ => .raise e) = _; rw [Sem.bind_eq_wrap]; rfl))]
    exact h₃
/-- a loop's end: the empty else, then back to the statement -/
theorem seg_noElse {c₁ : Code} {c : Code} {k : Result → Sem Fin} {hd' : Option Value} {g : Bool} {l : List Value} {p : Pos} {kp : List Value} (h : Seg (model prog w) A R Y n s₀ c (k (.ok .next)) fs s) :
    Seg (model prog w) A R Y n s₀ c₁ (.pure (.again (.block [] env))) (.ret k hd' g l c p kp :: fs) s := by
  refine seg_again rfl ?_
  have e : (model prog w).den (.block [] env) = leafOf (.ok .next) := by rfl
  rw [e]
  exact seg_leaf (.ok .next) h
end
-- plain
noncomputable def bodyOf : Stmt → List Stmt
  | .FunctionDef _ _ b _ _ _ _ _ _ _ => b
  | _ => []
noncomputable def scopeOf : Stmt → Scope
  | .FunctionDef _ _ _ _ _ _ s _ _ _ => s
  | _ => default
/-- a def of the text, by its place -/
noncomputable def defAt (k : Nat) : Stmt := PySem.Challenge.rw_oh0060_01.row.prog.main.body.getD k (.Pass default)
noncomputable def genBody : List Stmt := bodyOf (defAt 2)
noncomputable def genScope : Scope := scopeOf (defAt 2)
noncomputable def forTarget : Stmt → PySem.Expr
  | .For t _ _ _ _ => t
  | _ => default
noncomputable def forBody : Stmt → List Stmt
  | .For _ _ b _ _ => b
  | _ => []
noncomputable def genFor : Stmt := genBody.getD 2 (.Pass default)
noncomputable abbrev genEnv (C : Addr) (cdv : Value) : Env := envOf (Str.ofString "_iter_escaped_chars") genScope C 28 cdv
/-- what the generator leaves as it was, and what it wants left so -/
noncomputable def Out (h₀ : Heap) (l : List Addr) (s s' : Shared) : Prop := ∃ h' tk, s' = { s with heap := h', toks := tk } ∧ (∀ b o, h₀.get? b = some o → h'.get? b = some o) ∧ ∀ b ∈ l, ∀ o, s.heap.get? b = some o → h'.get? b = some o
noncomputable def Agree (h₀ : Heap) (C a : Addr) (l : List Addr) (s s'' : Shared) : Prop := (∀ b o, h₀.get? b = some o → s''.heap.get? b = some o) ∧ (∀ b o, (b = C ∨ a < b) → s.heap.get? b = some o → s''.heap.get? b = some o) ∧ ∀ b ∈ l, ∃ o, s''.heap.get? b = some o
theorem Out.refl {h₀ : Heap} {l : List Addr} {s : Shared} (h : ∀ b o, h₀.get? b = some o → s.heap.get? b = some o) : Out h₀ l s s := ⟨s.heap, s.toks, rfl, h, fun _ _ _ e => e⟩
theorem Out.step {h₀ : Heap} {l : List Addr} {s₀ s : Shared} (x : Out h₀ l s₀ s) {h' : Heap} {tk : Nat} (h0 : ∀ b o, h₀.get? b = some o → h'.get? b = some o) (hk : ∀ b ∈ l, ∀ o, s.heap.get? b = some o → h'.get? b = some o) : Out h₀ l s₀ { s with heap := h', toks := tk } := by
  obtain ⟨h₁, tk₁, rfl, _, hk₁⟩ := x
  exact ⟨h', tk, rfl, h0, fun b hb o e => hk b hb o (hk₁ b hb o e)⟩
theorem news_kept {h₀ h h' : Heap} {C : Addr} {lo : List (Addr × Obj)} (N : ∀ q ∈ lo, h.get? q.1 = some q.2) (N' : News h₀ C h' lo) : ∀ b ∈ lo.map (·.1), ∀ o, h.get? b = some o → h'.get? b = some o := fun b hb o e => by
  obtain ⟨p, hp, rfl⟩ := List.mem_map.mp hb
  rw [N p hp] at e
  rw [(N' p hp).1, e]
noncomputable def Pair (h : Heap) (T : Addr) (i : Nat) (b : Bool) : Prop := ∃ t u, h.IsTuple T #[.int (i : Int) t, .str ⟨#[if b = true then 40 else 41]⟩ u]
noncomputable def genY (h₀ : Heap) (C a : Addr) (l : List Addr) (bs : List Bool) : Protocol := fun m s₀ v s kap => (∃ T b, bs[bs.length - 1 - m]? = some b ∧ v = .ref T ∧ Pair s.heap T (bs.length - 1 - m) b) ∧ Out h₀ l s₀ s ∧ ∀ s'', Agree h₀ C a l s s'' → kap (.send .none) s''
noncomputable def genR (h₀ : Heap) (l : List Addr) : GenEnd := fun n s₀ r s₁ => r = .ok (.ret .none) ∧ (n = 0 ∧ Out h₀ l s₀ s₁)
theorem up_ne {a e b : Addr} (h : a < e) (hb : b ≤ a) : b ≠ e := Nat.ne_of_lt (Nat.lt_of_le_of_lt hb h)
theorem fr_out {h₀ h h' : Heap} {C a e it : Addr} {m : Str → Option Value} (F : Fr h₀ C h m) (hCa : C < a) (hae : a < e) (hai : a < it) (hk : ∀ b o, b ∉ [e, it] → h.get? b = some o → h'.get? b = some o) : Fr h₀ C h' m :=
  have off : ∀ b : Addr, b ≤ a → b ∉ [e, it] := fun b hb hm => by
    rcases List.mem_cons.mp hm with q | hm
    · exact up_ne hae hb q
    · exact up_ne hai hb (List.mem_singleton.mp hm)
  ⟨F.ns.at' fun o x => hk _ o (off _ (Nat.le_of_lt hCa)) x, fun b o x => hk b o (off _ (Nat.le_of_lt (Nat.lt_trans (Nat.lt_of_lt_of_le (Heap.lt_size x) F.above) hCa))) (F.keep b o x), F.above⟩
theorem fr_over {g h : Heap} {L : Addr} {m : Str → Option Value} (x : Str) {v : Value} (F : Fr g L h m) (e : m x = some v) : Fr g L h (fun y => if y = x then some v else m y) :=
  fr_eq F fun y => by
    by_cases q : y = x
    · subst q; simp [e]
    · simp [q]
theorem word_type (bs : List Bool) : strIterType (wordS bs) = "str_ascii_iterator" := by
  have ha : (wordS bs).cps.all (· < 128) = true := by
    rw [wordS, List.all_toArray, List.all_eq_true]
    intro c hc
    obtain ⟨b, _, rfl⟩ := List.mem_map.mp hc
    cases b <;> decide
  unfold strIterType
  rw [if_pos ha]
section
variable {w : World} {mean : ExcName → Option Value} {mg mb : Str → Option Value} {A : Around} {h₀ : Heap} {C a e it : Addr} {cdv : Value} {bs : List Bool} {t : Tok} {l : List Addr}
theorem seg_gloop (hh : A.handled = none) (hCa : C < a) (hae : a < e) (hai : a < it) (hei : e ≠ it) (hl : ∀ b ∈ l, b ≤ a ∧ b ≠ C) {c : Code} {K : Flow → Sem Fin} {H : Value → Sem Fin} {gd : Bool → Bool} {lv : List Value → List Value} {p : Pos} (hg : gd false = false)
    (hend : ∀ (s₀ s : Shared) m, Fr h₀ C s.heap m → m (Str.ofString "escape") = some (.bool false) → Out h₀ l s₀ s → Seg (model PySem.Challenge.rw_oh0060_01.row.prog w) A (genR h₀ l) (genY h₀ C a l bs) 0 s₀ c (forBack (genEnv C cdv) K H gd lv (.ok .next)) [] s) :
    ∀ (k i : Nat) (s₀ s : Shared) (m : Str → Option Value), bs.length - i = k → i ≤ bs.length → (∃ old, IsEnum s.heap e it i old) → s.heap.IsStrIter it "str_ascii_iterator" (wordS bs) t i → Fr h₀ C s.heap m → m (Str.ofString "escape") = some (.bool false) → Out h₀ l s₀ s →
      Seg (model PySem.Challenge.rw_oh0060_01.row.prog w) A (genR h₀ l) (genY h₀ C a l bs) (bs.length - i) s₀ (.forLoop (forTarget genFor) (.ref e) (forBody genFor) [] (genEnv C cdv)) ((model PySem.Challenge.rw_oh0060_01.row.prog w).den (.forLoop (forTarget genFor) (.ref e) (forBody genFor) [] (genEnv C cdv)))
        [.ret (forBack (genEnv C cdv) K H gd lv) none (gd false) (lv []) c p []] s := by
  have D : ∀ A' : Around, A'.handled = none → WalksT PySem.Challenge.rw_oh0060_01.row.prog w A' e [e, it] [e, it] bs.length _ _ _ := fun A' hA => by
    have h9 := WalksT.enumerateD (Draws.strAscii (prog := PySem.Challenge.rw_oh0060_01.row.prog) (w := w) (A := A'.in1) hA it (wordS bs) t) e hei (by simpa using hei) (List.mem_singleton.mpr rfl)
    rw [show (wordS bs).cps.size = bs.length by simp [wordS]] at h9
    exact h9
  have hh' : (A.over (.forLoop (forTarget genFor) (.ref e) (forBody genFor) [] (genEnv C cdv)) [.ret (forBack (genEnv C cdv) K H gd lv) none (gd false) (lv []) c p []]).handled = none := hh
  have W := D _ hh'
  intro k
  induction k with
  | zero =>
    intro i s₀ s m hk hi he hit F hm hO
    obtain rfl : i = bs.length := by omega
    refine seg_forLoop (W.done s _ _ ⟨he, hit⟩ fun h' tk hk' => ?_)
    have F' : Fr h₀ C h' m := fr_out F hCa hae hai hk'
    rw [Nat.sub_self]
    exact seg_noElse (hend _ _ m F' hm (hO.step F'.keep fun b hb o e => hk' b o (by simp; exact ⟨up_ne hae (hl b hb).1, up_ne hai (hl b hb).1⟩) e))
  | succ k ih =>
    intro i s₀ s m hk hi he hit F hm hO
    have hlt : i < bs.length := by omega
    have off : ∀ b : Addr, b ≤ a → b ∉ [e, it] := fun b hb hm => by
      rcases List.mem_cons.mp hm with q | hm
      · exact up_ne hae hb q
      · exact up_ne hai hb (List.mem_singleton.mp hm)
    refine seg_forLoop (W.item i s _ _ hlt ⟨he, hit⟩ fun T vals h1 tk1 hPt hTs hT hMid hk1 => ?_)
    obtain ⟨t0, x0, ⟨c0, u0, hc0, rfl⟩, rfl⟩ := hPt
    obtain ⟨b, hb, rfl⟩ : ∃ b, bs[i]? = some b ∧ c0 = if b = true then 40 else 41 := by
      simp only [wordS, List.getElem?_toArray, List.getElem?_map, Option.map_eq_some_iff] at hc0
      obtain ⟨b, h1, h2⟩ := hc0
      exact ⟨b, h1, h2.symm⟩
    refine W.go _ _ _ i T _ _ _ hMid fun h2 hst2 hk2 => ?_
    have ht2 : h2.IsTuple T #[.int (i : Int) t0, .str ⟨#[if b = true then 40 else 41]⟩ u0] := hT.at fun o x => hk2 T o (W.apart i T h1 hMid) x
    have F2 : Fr h₀ C h2 m := fr_out (fr_out F hCa hae hai hk1) hCa hae hai hk2
    refine wpAny_assign_Tuple hh' ht2 rfl rfl fun h3 hx3 => ?_
    replace hx3 : Heap.ExtBut h2.objs.size h2 h3 := hx3
    have up3 : ∀ b o, h2.get? b = some o → h3.get? b = some o := fun b o x => hx3 b o (Nat.ne_of_lt (Heap.lt_size x)) x
    have F3 : Fr h₀ C h3 m := ⟨F2.ns.at' fun o x => up3 _ o x, fun b o x => up3 b o (F2.keep b o x), F2.above⟩
    show wpAny _ _ (do holding [_] (assign (.Name _ _) (genEnv C cdv) (.int (i : Int) t0)); do holding [] (assign (.Name _ _) (genEnv C cdv) _); pure ()) _ _ _
    refine wpAny_bind (wpAny_holding (wpAny_assign_Name (wpAny_storeName_local rfl F3.ns (fun h4 hn4 hs4 => ?_) rfl)))
    replace hs4 : Heap.SameBut C h3 h4 := hs4
    have F4 := F3.set hn4 hs4
    refine wpAny_bind (wpAny_holding (wpAny_assign_Name (wpAny_storeName_local rfl F4.ns (fun h5 hn5 hs5 => wpAny_pure ?_) rfl)))
    replace hs5 : Heap.SameBut C h4 h5 := hs5
    have F5 := F4.set hn5 hs5
    have hst5 := W.frame (i + 1) h2 h5 hst2 fun b hb o x => hs5.extBut b o (fun q => by subst q; exact off _ (Nat.le_of_lt hCa) hb) (hs4.extBut b o (fun q => by subst q; exact off _ (Nat.le_of_lt hCa) hb) (up3 b o x))
    have keep5 : ∀ b o, b ≠ C → b ≤ a → s.heap.get? b = some o → h5.get? b = some o := fun b o hC ha x => hs5.extBut b o hC (hs4.extBut b o hC (up3 b o (hk2 b o (off _ ha) (hk1 b o (off _ ha) x))))
    clear F F2 F3 F4 hst2 hk1 hk2 hMid hT ht2
    have F6 := fr_over (Str.ofString "escape") F5 (v := .bool false) (by rw [if_neg (by decide), if_neg (by decide)]; exact hm)
    clear F5
    refine seg_execs_cons (seg_If ?_)
    k_steps
    show Seg _ _ _ _ _ _ _ (Sem.wrap _ _ _ _ (if false = true then _ else _)) _ _
    rw [if_neg Bool.false_ne_true]
    refine seg_execs_cons (seg_If ?_)
    have hbs : (⟨#[if b = true then 40 else 41]⟩ : Str) ≠ Str.ofString "\\" := by cases b <;> decide
    k_steps
    show Seg _ _ _ _ _ _ _ (Sem.wrap _ _ _ _ (if _ = true then _ else _)) _ _
    rw [if_neg (by simpa using hbs)]
    have hk' : bs.length - i = (bs.length - (i + 1)) + 1 := by omega
    rw [hk']
    refine seg_execs_cons (seg_Expr_Yield rfl rfl (by simp [Frame.guarded, hg]) ?_)
    k_steps
    refine wpAny_newTuple ?_
    intro kap hkap
    have e1 : bs.length - 1 - (bs.length - (i + 1)) = i := by omega
    refine ⟨⟨_, b, by rw [e1]; exact hb, rfl, by rw [e1]; exact ⟨t0, u0, _, Heap.get?_push_size _ rfl, rfl, _, rfl⟩⟩, hO.step (fun b o x => Heap.get?_push_of_some _ (F6.keep b o x)) (fun b hb o x => Heap.get?_push_of_some _ (keep5 b o (hl b hb).2 (hl b hb).1 x)), fun s'' hag => hkap .none s'' ?_⟩
    obtain ⟨hag1, hag2, -⟩ := hag
    obtain ⟨⟨old5, he5⟩, hit5⟩ := hst5
    have pu : ∀ b o, (b = C ∨ a < b) → h5.get? b = some o → s''.heap.get? b = some o := fun b o hb x => hag2 b o hb (Heap.get?_push_of_some _ x)
    refine seg_again rfl (ih (i + 1) s'' s'' _ (by omega) hlt ⟨old5, pu _ _ (.inr hae) he5⟩ ?_ ⟨F6.ns.at' fun o x => pu _ o (.inl rfl) x, hag1, F6.above⟩ (by simp) (.refl hag1))
    obtain ⟨oi, ho, r⟩ := hit5
    exact ⟨oi, pu _ _ (.inr hai) ho, r⟩
theorem seg_gbody {lo : List (Addr × Obj)} (X : (hd.heap_1 w.params).In h₀) (T : Top hd.view_1 Names mean mg mb h₀) (hh : A.handled = none) (hCa : C < a) (hlo : ∀ p ∈ lo, p.1 ≤ a ∧ p.1 ≠ C) {s₀ s : Shared} (F : Fr h₀ C s.heap (fun y => List.lookup y [(Str.ofString "addr", Value.str (wordS bs) t)])) (N : News h₀ C s.heap lo) (hO : Out h₀ (lo.map (·.1)) s₀ s) (hal : ∃ o, (a, o) ∈ lo) :
    Seg (model PySem.Challenge.rw_oh0060_01.row.prog w) A (genR h₀ (lo.map (·.1))) (genY h₀ C a (lo.map (·.1)) bs) bs.length s₀ (.func genBody (genEnv C cdv)) ((model PySem.Challenge.rw_oh0060_01.row.prog w).den (.func genBody (genEnv C cdv))) [] s := by
  have hold : ∀ q ∈ lo, s.heap.get? q.1 = some q.2 := fun q hq => (N q hq).1
  refine seg_func ?_
  show Seg _ _ _ _ _ _ _ ((execs (_ :: _) _).wrap _ _ _ _) _ _
  refine seg_execs_cons (seg_step ?_)
  k_steps
  refine seg_execs_cons (seg_step ?_)
  k_steps
  refine seg_execs_cons (seg_For ?_ (by intro _; rfl))
  k_steps
  have F3 := ‹Fr h₀ C _ _›
  have N3 := ‹News h₀ C _ lo›
  obtain ⟨oa, hal⟩ := hal
  have has := Heap.lt_size (N3 _ hal).1
  refine call_enumerate_str fun h2 he2 hs2 hz2 hk2 => ?_
  rw [word_type] at hs2
  refine wpAny_pyIter_enum he2 ?_
  intro p
  have keep2 := news_kept hold N3
  refine seg_gloop hh hCa (Nat.lt_succ_of_lt has) has (Nat.succ_ne_self _) ?hl rfl ?hend bs.length 0 s₀ _ _ (by omega) (Nat.zero_le _) ⟨_, he2⟩ hs2 ⟨F3.ns.at' fun o x => hk2 _ o x, fun b o x => hk2 b o (F3.keep b o x), F3.above⟩ (by with_unfolding_all rfl) (hO.step (fun b o x => hk2 b o (F3.keep b o x)) fun b hb o x => hk2 b o (keep2 b hb o x))
  case hl =>
    intro b hb
    obtain ⟨q, hq, rfl⟩ := List.mem_map.mp hb
    exact hlo q hq
  case hend =>
    clear F3 N3 hO
    intro s₁ s₂ m F hm hO
    have F6 := fr_over (Str.ofString "escape") F hm
    have N : News h₀ C s₂.heap [] := fun p hp => by cases hp
    clear F
    show Seg _ _ _ _ _ _ _ ((execs [_] _).wrap _ _ _ _) _ _
    refine seg_execs_cons (seg_If ?_)
    k_steps
    show Seg _ _ _ _ _ _ _ (Sem.wrap _ _ _ _ (if false = true then _ else _)) _ _
    rw [if_neg Bool.false_ne_true]
    exact seg_end (.ok (.ret .none)) ⟨rfl, rfl, hO⟩
end
-- plain
section
variable {prog : Program} {w : World} {A : Around} {E : Value → Shared → Prop} {s : Shared}
/-- the next of a generator function's generator -/
theorem next_gen {a : Addr} {g n : Nat} {gs : GenState} {P : Nat → Shared → Shared → Prop} {Y : Protocol} {Q : Option Value → Shared → Prop} (hh : A.handled = none) (hl : s.heap.NoLimit) (hroom : A.depth < recursionLimit)
    (hg : s.heap.IsGen a g) (hgs : s.gens[g]? = some gs) (hgo : gs.Goes (model prog w) A.in1 (fun n s₀ r s₁ => r = .ok (.ret .none) ∧ P n s₀ s₁) Y n (.send .none) (s.setGen g .running))
    (hY : ∀ v s₁ gs', gs'.bare = true → Y (n - 1) (s.setGen g .running) v s₁ (fun r' s'' => match n with
        | 0 => False
        | m + 1 => gs'.Goes (model prog w) A.in1 (fun n s₀ r s₁ => r = .ok (.ret .none) ∧ P n s₀ s₁) Y m r' s'') → Q (some v) (s₁.setGen g gs'))
    (hP : ∀ s₁, P n (s.setGen g .running) s₁ → ∀ h', (∀ b o, s₁.heap.get? b = some o → h'.get? b = some o) → Q none { s₁.setGen g .finished with heap := h' }) :
    wpAny (model prog w) A (pyNext (.ref a)) Q E s := by
  unfold pyNext
  refine wpAny_bind (wpAny_attempt (wpAny_callSpecial?_slot (name := Str.ofString "__next__") hg.typeIs slot_gen_next (wpAny_call_entry slot_gen_next hg.typeIs entry_gen_next ?_ (args_gen_next _))))
  show wpAny _ A.in1 (Builtin.Generator.genWake (.ref a) (.send .none)) _ _ s
  unfold Builtin.Generator.genWake
  refine wpAny_bind (wpAny_holding (wpAny_genNumber hg (wpAny_bind (wpAny_genState hgs ?_))))
  have ends : ∀ {α : Type} {k : GenResult → Sem α} {Q₁ : α → Shared → Prop} {E₁ : Value → Shared → Prop}, (∀ s₁, P n (s.setGen g .running) s₁ → wpAny (model prog w) A.in1 (k (.returned .none)) Q₁ E₁ (s₁.setGen g .finished)) →
      (∀ v s₁ gs', gs'.bare = true → Y (n - 1) (s.setGen g .running) v s₁ (fun r' s'' => match n with
        | 0 => False
        | m + 1 => gs'.Goes (model prog w) A.in1 (fun n s₀ r s₁ => r = .ok (.ret .none) ∧ P n s₀ s₁) Y m r' s'') → wpAny (model prog w) A.in1 (k (.yielded v)) Q₁ E₁ (s₁.setGen g gs')) →
      wpAny (model prog w) A.in1 (.resume g (.send .none) [] k) Q₁ E₁ s := fun h1 h2 =>
    wpAny_resumeQ hgs hgo (fun x s₁ hx => by obtain ⟨rfl, hp⟩ := hx; exact h1 s₁ hp) h2
  cases gs with
  | running => exact hgo.elim
  | finished => exact hgo.elim
  | _ =>
    refine wpAny_bind (wpAny_roomToWake hl hroom ?_)
    refine ends (fun s₁ hp => ?_) fun v s₁ gs' hb hv => wpAny_pure ⟨v, rfl, wpAny_pure (hY v s₁ gs' hb hv)⟩
    show wpAny _ A.in1 (newExc (.type "StopIteration") [] >>= _) _ _ _
    refine wpAny_bind ?_
    simp only [newExc, newTuple]
    refine wpAny_bind (wpAny_newObj_type ?_ (by size_fits))
    refine wpAny_bind (m := firstArgMember _ _) (wpAny_of_eq (a := Value.none) (by first | rfl | (simp only [firstArgMember]; rfl)) ?_)
    refine wpAny_newObj_type ?_ (by size_fits)
    simp only [raiseNew]
    refine wpAny_bind (wpAny_bind (wpAny_handled ?_))
    rw [show A.in1.handled = none from hh]
    refine wpAny_throw ?_
    refine wpAny_bind (wpAny_isInstance (T := "StopIteration") (b := true) ⟨_, Heap.get?_push_size _ rfl, rfl⟩ isSubtype_stop ?_)
    exact wpAny_pure (hP s₁ hp _ fun b o hb => Heap.get?_push_of_some _ (Heap.get?_push_of_some _ hb))
end
-- plain
theorem objs_of {h : Heap} : ∀ (l : List Addr), (∀ b ∈ l, ∃ o, h.get? b = some o) → ∃ lo : List (Addr × Obj), lo.map (·.1) = l ∧ ∀ p ∈ lo, h.get? p.1 = some p.2
  | [], _ => ⟨[], rfl, fun _ hp => by cases hp⟩
  | b :: l, hx => by
    obtain ⟨o, ho⟩ := hx b (.head _)
    obtain ⟨lo, h1, h2⟩ := objs_of l fun b hb => hx b (.tail _ hb)
    refine ⟨(b, o) :: lo, by rw [List.map_cons, h1], fun p hp => ?_⟩
    rcases List.mem_cons.mp hp with rfl | hp
    · exact ho
    · exact h2 p hp
section
variable {w : World} {mean : ExcName → Option Value} {mg mb : Str → Option Value} {A : Around} {E : Value → Shared → Prop} {h₀ : Heap} {C a : Addr} {cdv : Value} {bs : List Bool} {t : Tok} {l : List Addr} {g : Nat}
/-- a generator that has told its first i pairs -/
noncomputable def GenSt (w : World) (A : Around) (h₀ : Heap) (C a : Addr) (l : List Addr) (g : Nat) (bs : List Bool) (i : Nat) (s : Shared) : Prop :=
  s.heap.IsGen a g ∧ ∃ gs, s.gens[g]? = some gs ∧ ∀ s'', Agree h₀ C a l s s'' → gs.Goes (model PySem.Challenge.rw_oh0060_01.row.prog w) A.in1 (genR h₀ l) (genY h₀ C a l bs) (bs.length - i) (.send .none) s''
theorem GenSt.fresh (X : (hd.heap_1 w.params).In h₀) (T : Top hd.view_1 Names mean mg mb h₀) (hh : A.handled = none) (hCa : C < a) (hhC : h₀.objs.size ≤ C) (hl : ∀ b ∈ l, b ≤ a ∧ b ≠ C ∧ h₀.get? b = none) (hal : a ∈ l) {s : Shared} (hg : s.heap.IsGen a g) (hgs : s.gens[g]? = some (.fresh (.func genBody (genEnv C cdv)))) (hn : s.heap.Ns C (fun y => List.lookup y [(Str.ofString "addr", Value.str (wordS bs) t)])) :
    GenSt w A h₀ C a l g bs 0 s := by
  refine ⟨hg, _, hgs, fun s'' ⟨h1, h2, h3⟩ => ⟨rfl, ?_⟩⟩
  have F : Fr h₀ C s''.heap (fun y => List.lookup y [(Str.ofString "addr", Value.str (wordS bs) t)]) := ⟨hn.at' fun o x => h2 _ o (.inl rfl) x, h1, hhC⟩
  obtain ⟨lo, rfl, hlo⟩ := objs_of l h3
  have hmem : ∀ p ∈ lo, p.1 ∈ lo.map (·.1) := fun p hp => List.mem_map_of_mem hp
  obtain ⟨q, hq, rfl⟩ := List.mem_map.mp hal
  exact seg_gbody (A := A.in1) X T hh hCa (fun p hp => ⟨(hl _ (hmem p hp)).1, (hl _ (hmem p hp)).2.1⟩) F (fun p hp => ⟨hlo p hp, (hl _ (hmem p hp)).2.1, (hl _ (hmem p hp)).2.2⟩) (.refl h1) ⟨q.2, hq⟩
theorem GenSt.keep {i : Nat} {s s' : Shared} (st : GenSt w A h₀ C a l g bs i s) (e : s'.gens = s.gens) (hk : ∀ b o, (b = C ∨ a ≤ b) → s.heap.get? b = some o → s'.heap.get? b = some o) : GenSt w A h₀ C a l g bs i s' := by
  obtain ⟨⟨o, nm, qn, ho, r⟩, gs, hgs, hgo⟩ := st
  refine ⟨⟨o, nm, qn, hk a o (.inr (Nat.le_refl _)) ho, r⟩, gs, by rw [e]; exact hgs, fun s'' ⟨h1, h2, h3⟩ => hgo s'' ⟨h1, fun b o hb x => h2 b o hb (hk b o (hb.imp id Nat.le_of_lt) x), h3⟩⟩
structure Went (h₀ : Heap) (l : List Addr) (s s' : Shared) : Prop where
  os : s'.os = s.os
  bare : AllBare s.gens → AllBare s'.gens
  keep : ∀ b o, h₀.get? b = some o → s'.heap.get? b = some o
  own : ∀ b ∈ l, ∀ o, s.heap.get? b = some o → s'.heap.get? b = some o
theorem bare_set {s : Shared} {g : Nat} {x : GenState} (h : AllBare s.gens) (hx : x.bare = true) : AllBare (s.setGen g x).gens := fun y hy => by
  obtain ⟨i, hi, rfl⟩ := Array.mem_iff_getElem.mp hy
  simp only [Shared.setGen] at hi ⊢
  have hi' : i < s.gens.size := by simpa using hi
  rw [Array.getElem_setIfInBounds hi']
  split
  · exact hx
  · exact h _ (Array.getElem_mem hi')
theorem GenSt.item {i : Nat} {s : Shared} {Q : Option Value → Shared → Prop} (hh : A.handled = none) (hl : s.heap.NoLimit) (hroom : A.depth < recursionLimit) (hal : a ∈ l) (st : GenSt w A h₀ C a l g bs i s) (hi : i < bs.length) (hk : ∀ b o, h₀.get? b = some o → s.heap.get? b = some o) (hx : ∀ b ∈ l, ∃ o, s.heap.get? b = some o)
    (hQ : ∀ T b s', bs[i]? = some b → Pair s'.heap T i b → GenSt w A h₀ C a l g bs (i + 1) s' → Went h₀ l s s' → Q (some (.ref T)) s') :
    wpAny (model PySem.Challenge.rw_oh0060_01.row.prog w) A (pyNext (.ref a)) Q E s := by
  obtain ⟨hg, gs, hgs, hgo⟩ := st
  have hn : bs.length - i = (bs.length - (i + 1)) + 1 := by omega
  have hgo1 := hgo (s.setGen g .running) ⟨hk, fun _ _ _ x => x, hx⟩
  rw [hn] at hgo1
  refine next_gen (P := fun n s₀ s₁ => n = 0 ∧ Out h₀ l s₀ s₁) hh hl hroom hg hgs hgo1 (fun v s₁ gs' hb hv => ?_) fun s₁ hp => absurd hp.1 (Nat.succ_ne_zero _)
  obtain ⟨⟨T, b, hbi, rfl, hP⟩, ⟨h', tk, rfl, ho1, ho2⟩, hkap⟩ := hv
  have e1 : bs.length - 1 - (bs.length - (i + 1) + 1 - 1) = i := by omega
  rw [e1] at hbi hP
  obtain ⟨o, nm, qn, ho, r⟩ := hg
  exact hQ T b _ hbi hP ⟨⟨o, nm, qn, ho2 a hal o ho, r⟩, gs', setGen_self (gs := .running) (setGen_self hgs), fun s'' hag => hkap s'' hag⟩ ⟨rfl, fun hB => bare_set (bare_set hB rfl) hb, ho1, ho2⟩
theorem GenSt.done {s : Shared} {Q : Option Value → Shared → Prop} (hh : A.handled = none) (hl : s.heap.NoLimit) (hroom : A.depth < recursionLimit) (st : GenSt w A h₀ C a l g bs bs.length s) (hk : ∀ b o, h₀.get? b = some o → s.heap.get? b = some o) (hx : ∀ b ∈ l, ∃ o, s.heap.get? b = some o)
    (hQ : ∀ s', Went h₀ l s s' → Q none s') :
    wpAny (model PySem.Challenge.rw_oh0060_01.row.prog w) A (pyNext (.ref a)) Q E s := by
  obtain ⟨hg, gs, hgs, hgo⟩ := st
  have hgo1 := hgo (s.setGen g .running) ⟨hk, fun _ _ _ x => x, hx⟩
  rw [Nat.sub_self] at hgo1
  refine next_gen (P := fun n s₀ s₁ => n = 0 ∧ Out h₀ l s₀ s₁) hh hl hroom hg hgs hgo1 (fun v s₁ gs' hb hv => ?_) fun s₁ hp h' hk' => ?_
  · obtain ⟨_, ⟨h', tk, rfl, ho1, ho2⟩, hkap⟩ := hv
    exact (hkap _ ⟨ho1, fun _ _ _ x => x, fun b hb => let ⟨o, ho⟩ := hx b hb; ⟨o, ho2 b hb o ho⟩⟩).elim
  · obtain ⟨-, h1, tk, rfl, ho1, ho2⟩ := hp
    exact hQ _ ⟨rfl, fun hB => bare_set (bare_set hB rfl) rfl, fun b o x => hk' b o (ho1 b o x), fun b hb o x => hk' b o (ho2 b hb o x)⟩
end
-- plain
section
variable {w : World} {A : Around} {E : Value → Shared → Prop} {s : Shared} {h₀ : Heap} {C a : Addr} {bs : List Bool} {g : Nat} {env : Env}
theorem go_gen {elts : List PySem.Expr} {k : Nat} {pos : Pos} {T : Addr} {Q : Unit → Shared → Prop} (hg : s.heap.IsGen a g) (h : Q () s) : wpAny (model PySem.Challenge.rw_oh0060_01.row.prog w) A (letOwnedTupleGo (.Tuple elts k pos) (.ref a) (.ref T)) Q E s := by
  obtain ⟨o, nm, qn, ho, hc, hd, -⟩ := hg
  unfold letOwnedTupleGo
  refine wpAny_bind (wpAny_load ho ?_)
  rw [hc, hd]
  exact wpAny_pure h
theorem for_gen {xi xv : Str} {pi pv pt : Pos} {k : Nat} {body : List Stmt} {Q : Flow → Shared → Prop} {m : Str → Option Value} (hh : A.handled = none) (hroom : A.depth < recursionLimit) (hE : PassesOwn (model PySem.Challenge.rw_oh0060_01.row.prog w) A env E) (hxi : env.kindOf xi = some .local) (hxv : env.kindOf xv = some .local)
    (hp : (env.scope.kind == .class || (env.scope.kind == .module && env.locals != env.globals)) = false) (NL : h₀.NoLimit) (hLC : env.locals < C) (hCa : C < a)
    (F : Fr h₀ env.locals s.heap m) (hG : AllBare s.gens) (st : GenSt w A h₀ C a [env.locals, a] g bs 0 s) (J : Nat → (Str → Option Value) → Prop) (hj : J 0 m)
    (turn : ∀ i b t u m₁ s₁ own, bs[i]? = some b → J i m₁ → Fr h₀ env.locals s₁.heap (fun y => if y = xv then some (.str ⟨#[if b = true then 40 else 41]⟩ u) else if y = xi then some (.int (i : Int) t) else m₁ y) → News h₀ env.locals s₁.heap own → s₁.os = s.os → AllBare s₁.gens →
      wpAny (model PySem.Challenge.rw_oh0060_01.row.prog w) A (execs body env) (fun f s₃ => match f with
        | .ret v => Q (.ret v) s₃
        | .brk => Q .next s₃
        | _ => Halt (∃ h' tk' m', s₃ = { s₁ with heap := h', toks := tk' } ∧ Fr h₀ env.locals h' m' ∧ News h₀ env.locals h' own ∧ J (i + 1) m')) E s₁)
    (done : ∀ m₁ s₁, J bs.length m₁ → Fr h₀ env.locals s₁.heap m₁ → s₁.os = s.os → AllBare s₁.gens → Q .next s₁) :
    codeAny (model PySem.Challenge.rw_oh0060_01.row.prog w) A (.forLoop (.Tuple [.Name xi pi, .Name xv pv] k pt) (.ref a) body [] env) (fun r s' => match r with | .ok f => Q f s' | .error e => cameBackBy (model PySem.Challenge.rw_oh0060_01.row.prog w) A env E e s') s := by
  have hLa : env.locals < a := Nat.lt_trans hLC hCa
  have exs : ∀ {i s'} {m' : Str → Option Value}, GenSt w A h₀ C a [env.locals, a] g bs i s' → Fr h₀ env.locals s'.heap m' → ∀ b ∈ [env.locals, a], ∃ o, s'.heap.get? b = some o := fun st F b hb => by
    rcases List.mem_cons.mp hb with rfl | hb
    · obtain ⟨o, _, _, ho, _⟩ := F.ns
      exact ⟨o, ho⟩
    · rw [List.mem_singleton.mp hb]
      obtain ⟨⟨o, _, _, ho, _⟩, _⟩ := st
      exact ⟨o, ho⟩
  refine codeAny_forLoop_any (fun k' s' => ∃ i m₁, k' = bs.length - i ∧ i ≤ bs.length ∧ s'.os = s.os ∧ AllBare s'.gens ∧ GenSt w A h₀ C a [env.locals, a] g bs i s' ∧ Fr h₀ env.locals s'.heap m₁ ∧ J i m₁) ?_ (bs.length - 0) ⟨0, m, rfl, Nat.zero_le _, rfl, hG, st, F, hj⟩
  rintro k' s' ⟨i, m₁, rfl, hi, hos, hB, st₁, F₁, hJ⟩
  rcases Nat.lt_or_ge i bs.length with hlt | hge
  · refine st₁.item hh (NL.keeps F₁.keep) hroom (.tail _ (.head _)) hlt F₁.keep (exs st₁ F₁) fun T b s₂ hbi hP st₂ hw => ?_
    obtain ⟨t, u, hT⟩ := hP
    have F₂ : Fr h₀ env.locals s₂.heap m₁ := ⟨F₁.ns.at' fun o x => hw.own _ (.head _) o x, hw.keep, F₁.above⟩
    refine go_gen st₂.1 (wpAny_assign_Tuple hh hT rfl rfl fun h3 hx3 => ?_)
    have up3 : ∀ b o, s₂.heap.get? b = some o → h3.get? b = some o := fun b o x => hx3 b o (Nat.ne_of_lt (Heap.lt_size x)) x
    have F3 : Fr h₀ env.locals h3 m₁ := ⟨F₂.ns.at' fun o x => up3 _ o x, fun b o x => up3 b o (F₂.keep b o x), F₂.above⟩
    show wpAny _ _ (do holding [_] (assign (.Name _ _) env (.int (i : Int) t)); do holding [] (assign (.Name _ _) env _); pure ()) _ _ _
    refine wpAny_bind (wpAny_holding (wpAny_assign_Name (wpAny_storeName_local hxi F3.ns (fun h4 hn4 hs4 => ?_) hp)))
    replace hs4 : Heap.SameBut env.locals h3 h4 := hs4
    have F4 := F3.set hn4 hs4
    refine wpAny_bind (wpAny_holding (wpAny_assign_Name (wpAny_storeName_local hxv F4.ns (fun h5 hn5 hs5 => wpAny_pure ?_) hp)))
    replace hs5 : Heap.SameBut env.locals h4 h5 := hs5
    have F5 := F4.set hn5 hs5
    have hLf : env.locals ∉ (List.range h5.objs.size).filter (fun b => !decide (b = env.locals)) := by simp
    have N5 := news_ownOf (h₀ := h₀) (h := h5) hLf
    have st₅ : ∀ {h' tk'} {m' : Str → Option Value}, Fr h₀ env.locals h' m' → News h₀ env.locals h' (ownOf h₀ ((List.range h5.objs.size).filter (fun b => !decide (b = env.locals))) h5) → GenSt w A h₀ C a [env.locals, a] g bs (i + 1) { s₂ with heap := h', toks := tk' } := fun {h' tk' m'} F' N' =>
      st₂.keep rfl fun b o hb x => by
        have hbL : b ≠ env.locals := by
          rcases hb with rfl | hb
          · exact Nat.ne_of_gt hLC
          · exact Nat.ne_of_gt (Nat.lt_of_lt_of_le hLa hb)
        have x5 : h5.get? b = some o := hs5.extBut b o hbL (hs4.extBut b o hbL (up3 b o x))
        have hn : h₀.get? b = none := by
          cases q : h₀.get? b with
          | none => rfl
          | some o' =>
            have h1 := Heap.lt_size q
            have h2 := F₁.above
            exfalso
            rcases hb with rfl | hb
            · exact absurd (Nat.lt_of_lt_of_le h1 h2) (Nat.not_lt.mpr (Nat.le_of_lt hLC))
            · exact absurd (Nat.lt_of_lt_of_le h1 h2) (Nat.not_lt.mpr (Nat.le_trans (Nat.le_of_lt hLa) hb))
        exact (N' _ (mem_ownOf (List.mem_filter.mpr ⟨List.mem_range.mpr (Heap.lt_size x5), by simpa using hbL⟩) hn x5)).1
    refine wpAny_mono (turn i b _ _ m₁ _ _ hbi hJ F5 N5 (hw.os.trans hos) (hw.bare hB)) (fun f s₃ h₃ => ?_) hE
    have fin : (∃ h' tk' m', s₃ = { s₂ with heap := h', toks := tk' } ∧ Fr h₀ env.locals h' m' ∧ News h₀ env.locals h' (ownOf h₀ ((List.range h5.objs.size).filter (fun b => !decide (b = env.locals))) h5) ∧ J (i + 1) m') → ∃ n', n' < bs.length - i ∧ ∃ i m₁, n' = bs.length - i ∧ i ≤ bs.length ∧ s₃.os = s.os ∧ AllBare s₃.gens ∧ GenSt w A h₀ C a [env.locals, a] g bs i s₃ ∧ Fr h₀ env.locals s₃.heap m₁ ∧ J i m₁ := by
      rintro ⟨h', tk', m', rfl, F', N', hJ'⟩
      exact ⟨bs.length - (i + 1), by omega, i + 1, m', rfl, hlt, hw.os.trans hos, hw.bare hB, st₅ F' N', F', hJ'⟩
    cases f with
    | next => exact fin h₃
    | cont => exact fin h₃
    | brk => exact h₃
    | ret v => exact h₃
  · obtain rfl : i = bs.length := Nat.le_antisymm hi hge
    refine st₁.done hh (NL.keeps F₁.keep) hroom F₁.keep (exs st₁ F₁) fun s₂ hw => ?_
    exact wpAny_execs_nil (done m₁ s₂ hJ ⟨F₁.ns.at' fun o x => hw.own _ (.head _) o x, hw.keep, F₁.above⟩ (hw.os.trans hos) (hw.bare hB))
end
-- plain
section
variable {w : World} {mean : ExcName → Option Value} {mg mb : Str → Option Value} {A : Around} {E : Value → Shared → Prop} {s : Shared} {h₀ : Heap} {L : Addr} {m : Str → Option Value} {bs : List Bool} {t : Tok}
  {oc : Value} {od : Option Addr} {osl : Array (Option Value)} {name : Str} {params : Arguments} {dV kV doc pm cdv ct : Value} {an : Option Addr}
theorem gen_call {Q : Value → Shared → Prop} (X : (hd.heap_1 w.params).In h₀) (T : Top hd.view_1 Names mean mg mb h₀) (hh : A.handled = none) (hroom : A.depth < recursionLimit) (F : Fr h₀ L s.heap m)
    (ho : (hd.heap_1 w.params).lookup 28 = some ⟨oc, od, .func (fnOf name (Str.ofString "_iter_escaped_chars") params genBody genScope dV kV doc pm an cdv ct), osl⟩) (hcd : codeIn (hd.heap_1 w.params) cdv (Str.ofString "_iter_escaped_chars") = true)
    (hbind : BindsTo s (fnOf name (Str.ofString "_iter_escaped_chars") params genBody genScope dV kV doc pm an cdv ct) ⟨[.str (wordS bs) t], []⟩ [(Str.ofString "addr", .str (wordS bs) t)])
    (hQ : ∀ C a g s', L < C → C < a → Fr h₀ L s'.heap m → GenSt w A h₀ C a [L, a] g bs 0 s' → s'.os = s.os → (AllBare s.gens → AllBare s'.gens) → Q (.ref a) s') :
    wpAny (model PySem.Challenge.rw_oh0060_01.row.prog w) A (call (.ref 28) [.str (wordS bs) t]) Q E s := by
  have Xs := X.keeps F.keep
  refine wpAny_call (codeAny_call_generator hroom (Xs _ _ ho) rfl (by rfl) (by rfl) rfl (codeRec_of Xs hcd) (hbind _ _ _ _ ?_))
  have c1 : ∀ x ∈ genScope.names, x.2 ≠ NameKind.cell := by decide
  have c2 : ∀ x ∈ [(Str.ofString "addr", Value.str (wordS bs) t)], genScope.names.lookup x.1 = some .local := fun x hx => by
    rw [List.mem_singleton] at hx
    subst hx
    rfl
  refine wpAny_newFunctionEnv c1 c2 (fun h1 hns hsb => ⟨(T.nolimit.keeps F.keep).fresh _ hsb, ?_⟩) rfl
  have hC : h1.objs.size = s.heap.objs.size + 1 := by rw [hsb.1, Heap.size_push]
  have keep1 : ∀ b o, s.heap.get? b = some o → h1.get? b = some o := fun b o e => hsb.extBut b o (Nat.ne_of_lt (Heap.lt_size e)) (Heap.get?_push_of_some _ e)
  have hL : L < s.heap.objs.size := F.ns.lt
  refine hQ s.heap.objs.size h1.objs.size s.gens.size _ hL (by rw [hC]; exact Nat.lt_succ_self _) ⟨(F.ns.at' fun o x => keep1 _ o x).push _, fun b o x => Heap.get?_push_of_some _ (keep1 b o (F.keep b o x)), F.above⟩
    (GenSt.fresh (cdv := cdv) (t := t) X T hh (by rw [hC]; exact Nat.lt_succ_self _) ?_ ?_ (.tail _ (.head _)) ⟨_, _, _, Heap.get?_push_size _ rfl, rfl, rfl, rfl⟩ (Array.getElem?_push_size ..) (hns.push _)) rfl (fun hB => hB.push rfl)
  · exact Nat.le_of_lt (Nat.lt_of_le_of_lt F.above hL)
  · intro b hb
    rcases List.mem_cons.mp hb with rfl | hb
    · exact ⟨by rw [hC]; exact Nat.le_of_lt (Nat.lt_succ_of_lt hL), Nat.ne_of_lt hL, kts_self F⟩
    · rw [List.mem_singleton.mp hb]
      refine ⟨Nat.le_refl _, by rw [hC]; exact Nat.succ_ne_self _, ?_⟩
      cases q : h₀.get? h1.objs.size with
      | none => rfl
      | some o =>
        have h9 := Heap.lt_size (F.keep _ _ q)
        rw [hC] at h9
        exact absurd h9 (Nat.not_lt.mpr (Nat.le_succ _))
end
section
variable {w : World} {mean : ExcName → Option Value} {mg mb : Str → Option Value} {dp un : Nat} {gd : Option (List Code)} {cn : Str} {cs : Scope} {a : Addr} {ccd : Value} {cl : List (Str × Addr)} {outer : List Env} {A₀ : Around} {base h₀ : Heap} {L : Addr} {m : Str → Option Value} {rest : List (Addr × Obj)} {s : Shared}
  {bs : List Bool} {t : Tok} {Q E : Value → Shared → Prop}
theorem strip_K (H : At w mean mg mb 5 dp un cs A₀ base h₀ outer L m s.heap) (N : News h₀ L s.heap rest)
    (hret : ∀ h' tk', Fr h₀ L h' m → News h₀ L h' rest → Q (.str (wordS bs) t) { s with heap := h', toks := tk' }) :
    wpAny (model PySem.Challenge.rw_oh0060_01.row.prog w) (ktrTop dp un gd cn cs L a ccd cl outer) (call (.ref 35) [.str (wordS bs) t]) Q E s := by
  obtain ⟨B, F, X, T, hk, hdp, hu⟩ := H
  have Nf : News h₀ L s.heap [] := fun p hp => by cases hp
  have hr : ∀ q ∈ rest, s.heap.get? q.1 = some q.2 ∧ q.1 ∉ ([] : List (Addr × Obj)).map (·.1) := fun q hq => ⟨(N q hq).1, fun hm => by cases hm⟩
  refine wpAny_call ?_
  ((k_dflt (refine' code_defR ?k1x1 ?k2x1 ?k3x1 ?k4x1 ?k5x1 ?kAx1 ?kFx1 ?kKx1 ?hrx1 ?k6x1 ?k7x1 ?k8x1 ?k9x1 ?kBx1 ?_ ?c2x1 ?c3x1 ?c4x1 ?c5x1; (case kAx1 => exact rfl); (case kFx1 => exact rfl); (case kKx1 => first | exact rfl | assumption); (case k1x1 => k_asm); (case k2x1 => k_asm); (case k3x1 => k_asm); (case k4x1 => k_asm); (case k5x1 => k_asm); (case hrx1 => assumption); (case k6x1 => k_is); (case k7x1 => k_is); (case k8x1 => ktr_room); (case k9x1 => first | exact BindsTo.of_eq rfl | exact binds_K (by k_in) rfl (by k_is) rfl rfl rfl); (case c5x1 => decide); (case kBx1 => exact locs rfl); (case c2x1 => exact rfl); (case c3x1 => exact rfl); (case c4x1 => exact rfl); k_whole)))
  intro g L' h₁ FG F' N' hro l1 B' X' T'
  k_lt l1
  dsimp only
  try k_fold
  have hocc : (Builtin.Str.occurrences (wordS bs) (Str.ofString "\"") 0 (wordS bs).length 1).isEmpty = true := by
    have h9 := PySem.StrLaws.found_one (wordS bs) 34
    rw [show (⟨#[34]⟩ : Str) = Str.ofString "\"" by decide] at h9
    have h8 : ¬ 34 ∈ (wordS bs).cps.toList := by
      simp only [wordS]
      intro hm
      obtain ⟨b, _, e⟩ := List.mem_map.mp hm
      cases b <;> simp at e
    rw [decide_eq_false h8] at h9
    simpa using h9
  k_steps
  exact hret _ _ (by assumption) (news_rest (l₀ := []) (by assumption) (by assumption) N)
end
/-- parentheses as _check_parenthesis counts them -/
noncomputable def chkP : Nat → List Bool → Bool
  | o, [] => decide (o = 0)
  | o, true :: bs => chkP (o + 1) bs
  | o, false :: bs => if o = 0 then false else chkP (o - 1) bs
noncomputable def ForMark : Prop := True
local macro_rules | `(tactic| walk_at "exec For Tuple Call cons nil") => `(tactic| (k_here; (with_reducible rename ForMark => hFM'); refine Halt.out ?_))
section
variable {w : World} {mean : ExcName → Option Value} {mg mb : Str → Option Value} {dp un : Nat} {gd : Option (List Code)} {cn : Str} {cs : Scope} {a : Addr} {ccd : Value} {cl : List (Str × Addr)} {outer : List Env} {A₀ : Around} {base h₀ : Heap} {L : Addr} {m : Str → Option Value} {rest : List (Addr × Obj)} {s : Shared}
  {bs : List Bool} {t : Tok} {Q E : Value → Shared → Prop}
theorem check_K (H : At w mean mg mb 15 dp un cs A₀ base h₀ outer L m s.heap) (N : News h₀ L s.heap rest) (hb : bs.length ≤ 100) (hG : AllBare s.gens)
    (hret : ∀ s', Fr h₀ L s'.heap m → News h₀ L s'.heap rest → s'.os = s.os → AllBare s'.gens → Q (.bool (chkP 0 bs)) s') :
    wpAny (model PySem.Challenge.rw_oh0060_01.row.prog w) (ktrTop dp un gd cn cs L a ccd cl outer) (call (.ref 42) [.str (wordS bs) t]) Q E s := by
  have hQM : QMark := trivial
  obtain ⟨B, F, X, T, hk, hdp, hu⟩ := H
  have Nf : News h₀ L s.heap [] := fun p hp => by cases hp
  have hN2 : ∀ q ∈ rest, q.1 ≠ L ∧ h₀.get? q.1 = none := fun q hq => (N q hq).2
  have hr : ∀ q ∈ rest, s.heap.get? q.1 = some q.2 ∧ q.1 ∉ ([] : List (Addr × Obj)).map (·.1) := fun q hq => ⟨(N q hq).1, fun hm => by cases hm⟩
  refine wpAny_call ?_
  ((k_dflt (refine' code_defR ?k1x1 ?k2x1 ?k3x1 ?k4x1 ?k5x1 ?kAx1 ?kFx1 ?kKx1 ?hrx1 ?k6x1 ?k7x1 ?k8x1 ?k9x1 ?kBx1 ?_ ?c2x1 ?c3x1 ?c4x1 ?c5x1; (case kAx1 => exact rfl); (case kFx1 => exact rfl); (case kKx1 => first | exact rfl | assumption); (case k1x1 => k_asm); (case k2x1 => k_asm); (case k3x1 => k_asm); (case k4x1 => k_asm); (case k5x1 => k_asm); (case hrx1 => assumption); (case k6x1 => k_is); (case k7x1 => k_is); (case k8x1 => ktr_room); (case k9x1 => first | exact BindsTo.of_eq rfl | exact binds_K (by k_in) rfl (by k_is) rfl rfl rfl); (case c5x1 => decide); (case kBx1 => exact locs rfl); (case c2x1 => exact rfl); (case c3x1 => exact rfl); (case c4x1 => exact rfl); k_whole)))
  intro g L' h₁ FG F' N' hro l1 B' X' T'
  k_lt l1
  dsimp only
  try k_fold
  have hFM : ForMark := trivial
  k_steps
  show wpAny _ _ (call (Value.ref 35) _) _ _ _
  k_dflt (refine strip_K (rest := []) ⟨B', ‹Fr g L' _ _›, X', T', rfl, by (first | omega | (dsimp only [ktrTop, Around.deeper, Around.mark] at *; omega) | (simp only [depth_under_make, depth_under_kw, depth_in1, depth_deeper, depth_caller, units_in1, units_deeper, Around.mark_units, units_caller] at *; dsimp only [ktrTop] at *; omega)), by (first | omega | (dsimp only [ktrTop, Around.deeper, Around.mark] at *; omega) | (simp only [depth_under_make, depth_under_kw, depth_in1, depth_deeper, depth_caller, units_in1, units_deeper, Around.mark_units, units_caller] at *; dsimp only [ktrTop] at *; omega))⟩ (fun p hp => by cases hp) ?_)
  intro h2 tk2 F2 N2
  k_steps
  show Halt _
  (try clear F2); (try clear N2); (try clear Nf)
  obtain ⟨t0, F3⟩ : ∃ t0, Fr g L' _ (fun y => if y = Str.ofString "opens" then some (Value.int 0 t0) else if y = Str.ofString "addr" then some (Value.str (wordS bs) t) else List.lookup y [(Str.ofString "addr", Value.str (wordS bs) t)]) := ⟨_, ‹Fr g L' _ _›⟩
  refine wpAny_For ?_ (by intro _; rfl)
  k_steps
  show wpAny _ _ (call (Value.ref 28) _) _ _ _
  k_dflt (refine' gen_call ?gX ?gT ?gh ?groom F3 ?ho ?hcd ?hbind ?_; (case gX => exact X'); (case gT => exact T'); (case gh => exact rfl); (case groom => (first | omega | (dsimp only [ktrTop, Around.deeper, Around.mark] at *; omega) | (simp only [depth_under_make, depth_under_kw, depth_in1, depth_deeper, depth_caller, units_in1, units_deeper, Around.mark_units, units_caller] at *; dsimp only [ktrTop] at *; omega))); (case ho => k_is); (case hcd => k_is); (case hbind => exact BindsTo.of_eq rfl))
  intro C ga gn s₂ hLC hCa F4 st4 hos hbare
  refine wpAny_pyIter_gen st4.1 ?_
  have hos' : s₂.os = s.os := hos
  have hG2 : AllBare s₂.gens := hbare hG
  k_dflt (refine for_gen (bs := bs) rfl (by (first | omega | (dsimp only [ktrTop, Around.deeper, Around.mark] at *; omega) | (simp only [depth_under_make, depth_under_kw, depth_in1, depth_deeper, depth_caller, units_in1, units_deeper, Around.mark_units, units_caller] at *; dsimp only [ktrTop] at *; omega))) ?hE rfl rfl rfl T'.nolimit hLC hCa F4 hG2 st4 (fun i m₁ => ∃ (o : Nat) (tk : Tok), m₁ (Str.ofString "opens") = some (.int (o : Int) tk) ∧ o ≤ i ∧ chkP 0 bs = chkP o (bs.drop i)) ⟨0, t0, rfl, Nat.le_refl _, rfl⟩ ?turn ?done)
  case hE => passes_own
  case turn =>
    rintro i b ti u m₁ s₃ own hbi ⟨o, tk, hm, hoi, hchk⟩ F5 N5 os5 B5
    have hib : i < bs.length := (List.getElem?_eq_some_iff.mp hbi).1
    have F6 := fr_over (Str.ofString "opens") F5 (v := .int (o : Int) tk) (by rw [if_neg (by decide), if_neg (by decide)]; exact hm)
    have hdr : bs.drop i = b :: bs.drop (i + 1) := by
      rw [List.drop_eq_getElem_cons hib]
      have := (List.getElem?_eq_some_iff.mp hbi).2
      rw [this]
    rw [hdr] at hchk
    clear F5 F4 st4
    cases b with
    | true =>
      have F7 : Fr g L' s₃.heap (fun y => if y = Str.ofString "opens" then some (.int (o : Int) tk) else if y = Str.ofString "ch" then some (.str ⟨#[40]⟩ u) else if y = Str.ofString "pos" then some (.int (i : Int) ti) else m₁ y) := F6
      clear F6
      k_steps
      show Halt _
      exact ⟨_, _, _, rfl, ‹Fr g L' _ _›, ‹News g L' _ own›, o + 1, _, if_pos rfl, by omega, hchk⟩
    | false =>
      have F7 : Fr g L' s₃.heap (fun y => if y = Str.ofString "opens" then some (.int (o : Int) tk) else if y = Str.ofString "ch" then some (.str ⟨#[41]⟩ u) else if y = Str.ofString "pos" then some (.int (i : Int) ti) else m₁ y) := F6
      clear F6
      rcases Nat.eq_zero_or_pos o with ho | ho
      · have e9 : chkP 0 bs = false := by rw [hchk, ho]; rfl
        k_steps
        have hr9 := ‹∀ q : Addr × Obj, q ∈ rest → Heap.get? _ q.1 = some q.2›
        rw [← e9]
        exact hret _ (by assumption) (fun q hq => ⟨hr9 q hq, hN2 q hq⟩) (os5.trans hos') B5
      · k_steps
        show Halt _
        exact ⟨_, _, _, rfl, ‹Fr g L' _ _›, ‹News g L' _ own›, o - 1, _, (by rw [show (((o - 1 : Nat) : Int)) = (o : Int) - 1 by omega]; exact if_pos rfl), by omega, by rw [hchk]; exact if_neg (by omega)⟩
  case done =>
    rintro m₁ s₃ ⟨o, tk, hm, hoi, hchk⟩ F5 os5 B5
    have F6 := fr_over (Str.ofString "opens") F5 (v := .int (o : Int) tk) hm
    have N5 : News g L' s₃.heap [] := fun p hp => by cases hp
    clear F5 F4 st4
    k_steps
    have hr9 := ‹∀ q : Addr × Obj, q ∈ rest → Heap.get? _ q.1 = some q.2›
    have e9 : ((o : Int) == 0) = chkP 0 bs := by
      rw [hchk, List.drop_length]
      show ((o : Int) == 0) = decide (o = 0)
      by_cases h : o = 0
      · simp [h]
      · simp [h]
    rw [e9]
    exact hret _ (by assumption) (fun q hq => ⟨hr9 q hq, hN2 q hq⟩) (os5.trans hos') B5
end
-- plain
theorem ints_vals : ∀ {vs : List Value} {ns : List Int}, IntsAre vs ns → ∃ rv : List (Int × Tok), vs = vals rv ∧ rv.map (·.1) = ns
  | _, _, .nil => ⟨[], rfl, rfl⟩
  | _, _, .cons n t h => by
    obtain ⟨rv, rfl, rfl⟩ := ints_vals h
    exact ⟨(n, t) :: rv, rfl, rfl⟩
theorem vals_ints : ∀ (rv : List (Int × Tok)), IntsAre (vals rv) (rv.map (·.1))
  | [] => .nil
  | (n, t) :: rv => .cons n t (vals_ints rv)
noncomputable abbrev lOf {h₀ h : Heap} {L : Addr} {m : Str → Option Value} (_ : Fr h₀ L h m) : Addr := L
theorem robjs_mem {rs : List Rnd} {r : Rnd} (h : r ∈ rs) : (r.1, tupO (vals r.2)) ∈ robjs rs := List.mem_map.mpr ⟨r, h, rfl⟩
theorem vals_append (a b : List (Int × Tok)) : vals (a ++ b) = vals a ++ vals b := by simp [vals]
theorem vals_length (a : List (Int × Tok)) : (vals a).length = a.length := by simp [vals]
theorem vals_get {rv : List (Int × Tok)} {i : Nat} {v : Value} (h : (vals rv)[i]? = some v) : ∃ q, rv[i]? = some q ∧ v = .int q.1 q.2 := by
  simp only [vals, List.getElem?_map, Option.map_eq_some_iff] at h
  obtain ⟨q, h1, h2⟩ := h
  exact ⟨q, h1, h2.symm⟩
noncomputable def isIn (k : Int) : Bool := decide (Int.fmod k 2 = 0)
noncomputable def sgnv (l : List (Bool × Tok)) : List Value := l.map fun p => Value.str ⟨#[if p.1 = true then 40 else 41]⟩ p.2
theorem sgnv_snoc (l : List (Bool × Tok)) (b : Bool) (t : Tok) : sgnv (l ++ [(b, t)]) = sgnv l ++ [Value.str ⟨#[if b = true then 40 else 41]⟩ t] := by simp [sgnv]
noncomputable def sgn1 (b : Bool) : Str := ⟨#[if b = true then 40 else 41]⟩
theorem fold_word (bs : List Bool) : ∀ acc : Array Nat, (bs.map sgn1).foldl (fun acc p => acc ++ (Str.ofString "").cps ++ p.cps) acc = acc ++ (bs.map fun b => if b = true then 40 else 41).toArray := by
  have e0 : (Str.ofString "").cps = #[] := by decide
  induction bs with
  | nil => intro acc; simp
  | cons b bs ih =>
    intro acc
    rw [List.map_cons, List.foldl_cons, ih, e0]
    simp only [sgn1, List.map_cons, Array.append_empty]
    apply Array.ext'
    simp
theorem join_word (bs : List Bool) : Txt.join (Str.ofString "") (bs.map sgn1) = wordS bs := by
  unfold Txt.join Builtin.Str.glued wordS
  cases bs with
  | nil => rfl
  | cons b bs =>
    have := fold_word bs #[if b = true then 40 else 41]
    simp only [List.map_cons, List.drop_succ_cons, List.drop_zero, List.headD_cons]
    refine congrArg Str.mk ?_
    show (bs.map sgn1).foldl _ (sgn1 b).cps = _
    rw [show (sgn1 b).cps = #[if b = true then 40 else 41] from rfl, this]
    apply Array.ext'
    simp
theorem sgn_are : ∀ l : List (Bool × Tok), StrsAre (sgnv l) ((l.map (·.1)).map sgn1)
  | [] => .nil
  | (b, t) :: l => .cons _ t (sgn_are l)
theorem e40 : Str.ofString "(" = ⟨#[40]⟩ := by decide
theorem e41 : Str.ofString ")" = ⟨#[41]⟩ := by decide
theorem sum_word (bs : List Bool) : ((bs.map sgn1).map (·.length)).sum = bs.length := by
  induction bs with
  | nil => rfl
  | cons b bs ih =>
    simp only [List.map_cons, List.sum_cons, ih, List.length_cons]
    have e : (sgn1 b).length = 1 := rfl
    omega
theorem sgn_in (l : List (Bool × Tok)) (t : Tok) : ∃ l', sgnv l ++ [Value.str (Str.ofString "(") t] = sgnv l' ∧ l'.map (·.1) = l.map (·.1) ++ [true] := ⟨l ++ [(true, t)], by rw [e40]; exact (sgnv_snoc l true t).symm, by simp⟩
theorem sgn_out (l : List (Bool × Tok)) (t : Tok) : ∃ l', sgnv l ++ [Value.str (Str.ofString ")") t] = sgnv l' ∧ l'.map (·.1) = l.map (·.1) ++ [false] := ⟨l ++ [(false, t)], by rw [e41]; exact (sgnv_snoc l false t).symm, by simp⟩
noncomputable def patB (ns : List Int) (j : Nat) : Bool := (List.range j).any fun i => (ns.drop (j + 1)).any fun x => decide (x < ns.getD i 0) && decide (ns.getD i 0 < ns.getD j 0)
theorem pick_drop (rv : List (Int × Tok)) (k : Nat) (h : k ≤ 1000) : kms_pick (vals rv) (some ((k : Int) + 1)) none = vals (rv.drop (k + 1)) := by
  unfold kms_pick kms_lo kms_hi
  have e : ¬ ((k : Int) + 1 < 0) := by omega
  have e2 : ((k : Int) + 1).toNat = k + 1 := by omega
  simp only [if_neg e, e2]
  have e3 : vals (rv.drop (k + 1)) = (vals rv).drop (k + 1) := by simp [vals, List.map_drop]
  rw [e3]
  rcases Nat.le_total (k + 1) (vals rv).length with hle | hle
  · rw [Nat.min_eq_left hle]
    exact List.take_of_length_le (by rw [List.length_drop]; exact Nat.le_refl _)
  · rw [Nat.min_eq_right hle, List.drop_eq_nil_of_le (Nat.le_refl _), List.drop_eq_nil_of_le hle]
    simp
theorem vals_at {rv : List (Int × Tok)} {ns : List Int} (hrv : rv.map (·.1) = ns) {i : Nat} (hi : i < ns.length) : ∃ q : Int × Tok, (vals rv)[((i : Int)).toNat]? = some (.int q.1 q.2) ∧ ns.getD i 0 = q.1 := by
  subst hrv
  have hi' : i < rv.length := by simpa using hi
  exact ⟨rv[i], by simp [vals, hi'], by simp [hi']⟩
theorem one_end (ov : List (Int × Tok)) (t : Tok) (n : Nat) (h : ov.length ≤ n) (P : Prop) (hP : ¬ P) : ∃ ov', vals ov ++ [Value.int 1 t] = vals ov' ∧ ov'.length ≤ n + 1 ∧ (ov' = [] ↔ P) := ⟨ov ++ [(1, t)], (vals_snoc ov (1, t)).symm, by simp; omega, by simp [hP]⟩
theorem gv_in (gv : List (Int × Tok)) (k : Int) (t : Tok) (l : List Int) (h : gv.map (·.1) ++ [k] = l) : ∃ gv', vals gv ++ [Value.int k t] = vals gv' ∧ gv'.map (·.1) = l := ⟨gv ++ [(k, t)], (vals_snoc gv (k, t)).symm, by simpa using h⟩
theorem filt_succ (p : Nat → Bool) (i : Nat) : ((List.range (i + 1)).filter p).map (fun k : Nat => (k : Int)) = ((List.range i).filter p).map (fun k : Nat => (k : Int)) ++ (if p i = true then [(i : Int)] else []) := by
  rw [List.range_succ, List.filter_append, List.map_append]
  cases h : p i <;> simp [h]
local macro_rules | `(tactic| walk_at "call builtin:str.join") => `(tactic| (k_here; (with_reducible rename CompMark => hCM'); refine Halt.out ?_))
-- plain
open Relation in
noncomputable abbrev Lt (ns : List Int) : Int → Int → Prop := TransGen (Ed ns)
structure Told (ns : List Int) (R : List (List Int)) : Prop where
  nd : R.flatten.Nodup
  keys : ∀ p ∈ R.flatten, ∃ k : Nat, k < ns.length ∧ (p = 2 * (k : Int) ∨ p = 2 * (k : Int) + 1)
  max : ∀ s, (∃ k : Nat, k < ns.length ∧ (s = 2 * (k : Int) ∨ s = 2 * (k : Int) + 1)) → s ∉ R.flatten → ∃ p, Ed ns p s ∧ p ∉ R.flatten
  ok : ∀ pre rd post, R = pre ++ rd :: post → rd ≠ [] ∧ ∀ s ∈ rd, ∀ p, Ed ns p s → p ∈ pre.flatten
theorem ind_zero {g : Gr} {D : List Int} {k : Int} : ind g D k = 0 ↔ ∀ e ∈ g, e.1 ∉ D → k ∉ e.2.2 := by
  induction g with
  | nil => simp [ind]
  | cons a g ih =>
    have e2 : ind (a :: g) D k = (if a.1 ∈ D then 0 else a.2.2.count k) + ind g D k := by simp [ind]
    rw [e2]
    constructor
    · intro h e he hD
      rcases List.mem_cons.mp he with rfl | he
      · rw [if_neg hD] at h
        exact List.count_eq_zero.mp (by omega)
      · exact ih.mp (by omega) e he hD
    · intro h
      have h1 := ih.mpr fun e he => h e (.tail _ he)
      rw [h1]
      split
      · rfl
      · rename_i hD
        rw [List.count_eq_zero.mpr (h a (.head _) hD)]
theorem ind_pred {ns : List Int} {D : List Int} {k : Int} : ind (buildG ns) D k = 0 ↔ ∀ p, Ed ns p k → p ∈ D := by
  rw [ind_zero]
  have hn := build_nd ns
  constructor
  · intro h p hp
    have hs := (build_succ ns p k).mpr hp
    by_cases hD : p ∈ D
    · exact hD
    · exfalso
      unfold succOf at hs
      cases q : (buildG ns).find? (fun e => e.1 == p) with
      | none => rw [q] at hs; cases hs
      | some e =>
        rw [q] at hs
        have h1 := find_fst q
        subst h1
        exact h e (List.mem_of_find?_eq_some q) hD hs
  · intro h e he hD hk
    refine hD (h e.1 ?_)
    rw [← build_succ, mem_succ hn he]
    exact hk
theorem Told.of {ns : List Int} {R : List (List Int)} {g' : Gr} (r : RI (buildG ns) R.flatten (g', [])) (ok : RoundsOk (buildG ns) R) : Told ns R := by
  have nd := r.nd
  have sub := r.sub
  simp only [List.append_nil] at nd sub
  refine ⟨nd, fun p hp => (build_keys ns p).mp (sub p hp), fun s hs hD => ?_, fun pre rd post e => ?_⟩
  · have h1 := r.rdy s ((build_keys ns s).mpr hs) hD
    have h2 : ¬ ind (buildG ns) R.flatten s = 0 := fun h => by cases h1.mpr h
    rw [ind_pred] at h2
    by_cases h3 : ∃ p, Ed ns p s ∧ p ∉ R.flatten
    · exact h3
    · exact absurd (fun p hp => Decidable.byContradiction fun hD => h3 ⟨p, hp, hD⟩) h2
  · obtain ⟨h1, h2⟩ := ok pre rd post e
    exact ⟨h1, fun s hs => ind_pred.mp (h2 s hs)⟩
/-- each one's forerunners stand ahead of it -/
noncomputable def Ord (ns : List Int) (D : List Int) : Prop := ∀ pre s post, D = pre ++ s :: post → ∀ p, Ed ns p s → p ∈ pre
theorem Told.ord {ns : List Int} {R : List (List Int)} (h : Told ns R) : Ord ns R.flatten := by
  have key : ∀ (R : List (List Int)) (pre0 : List (List Int)), (∀ pre rd post, R = pre ++ rd :: post → rd ≠ [] ∧ ∀ s ∈ rd, ∀ p, Ed ns p s → p ∈ (pre0 ++ pre).flatten) → ∀ pre s post, R.flatten = pre ++ s :: post → ∀ p, Ed ns p s → p ∈ pre0.flatten ++ pre := by
    intro R
    induction R with
    | nil => intro pre0 _ pre s post e; simp at e
    | cons rd R ih =>
      intro pre0 hok pre s post e p hp
      rw [List.flatten_cons] at e
      rcases List.append_eq_append_iff.mp e with ⟨as, e1, e2⟩ | ⟨cs, e1, e2⟩
      · have := ih (pre0 ++ [rd]) (fun pre' rd' post' e' => by
          have := hok (rd :: pre') rd' post' (by rw [e']; rfl)
          simpa using this) as s post e2 p hp
        rw [e1]
        simpa using this
      · cases cs with
        | nil =>
          have := ih (pre0 ++ [rd]) (fun pre' rd' post' e' => by
            have := hok (rd :: pre') rd' post' (by rw [e']; rfl)
            simpa using this) [] s post (by simpa using e2.symm) p hp
          have e3 : rd = pre := by simpa using e1
          rw [← e3]
          simpa using this
        | cons c cs =>
          have e3 : s = c := by
            simp only [List.cons_append, List.cons.injEq] at e2
            exact e2.1
          have := (hok [] rd R rfl).2 s (by rw [e1, e3]; simp) p hp
          rw [List.append_nil] at this
          exact List.mem_append_left _ this
  intro pre s post e p hp
  have := key R [] (fun pre rd post e => by simpa using h.ok pre rd post e) pre s post e p hp
  simpa using this
theorem Ord.lt {ns D : List Int} (h : Ord ns D) {p s : Int} (hl : Lt ns p s) : ∀ {pre post}, D = pre ++ s :: post → p ∈ pre := by
  induction hl with
  | single he => intro pre post e; exact h pre _ post e _ he
  | tail _ he ih =>
    intro pre post e
    obtain ⟨as, bs, e1⟩ := List.append_of_mem (h pre _ post e _ he)
    have := ih (pre := as) (post := bs ++ _ :: post) (by rw [e, e1]; simp; rfl)
    rw [e1]
    exact List.mem_append_left _ this
theorem Ord.mem {ns D : List Int} (h : Ord ns D) {p s : Int} (hl : Lt ns p s) (hs : s ∈ D) : p ∈ D := by
  obtain ⟨as, bs, e⟩ := List.append_of_mem hs
  rw [e]
  exact List.mem_append_left _ (h.lt hl e)
theorem Ord.pre {ns P S : List Int} (h : Ord ns (P ++ S)) : Ord ns P := fun pre s post e p hp => h pre s (post ++ S) (by rw [e]; simp) p hp
theorem Ord.acyc {ns D : List Int} (h : Ord ns D) (nd : D.Nodup) {s : Int} (hs : s ∈ D) (hl : Lt ns s s) : False := by
  obtain ⟨as, bs, e⟩ := List.append_of_mem hs
  have h1 := h.lt hl e
  rw [e] at nd
  exact (List.nodup_append.mp nd).2.2 s h1 s (.head _) rfl
theorem ed_io {ns : List Int} {k : Nat} (hk : k < ns.length) : Ed ns (2 * (k : Int)) (2 * (k : Int) + 1) := ⟨k, hk, .inl ⟨rfl, rfl⟩⟩
theorem ed_ii {ns : List Int} {k : Nat} (hk : k + 1 < ns.length) : Ed ns (2 * (k : Int)) (2 * ((k + 1 : Nat) : Int)) := ⟨k + 1, hk, .inr (.inl ⟨by omega, by omega, rfl⟩)⟩
theorem ed_oi {ns : List Int} {j k : Nat} (hk : k < ns.length) (hj : j < k) (h : ns.getD j 0 < ns.getD k 0) : Ed ns (2 * (j : Int) + 1) (2 * (k : Int)) := ⟨k, hk, .inr (.inr ⟨j, hj, .inl ⟨h, rfl, rfl⟩⟩)⟩
theorem ed_oo {ns : List Int} {j k : Nat} (hk : k < ns.length) (hj : j < k) (h : ns.getD k 0 < ns.getD j 0) : Ed ns (2 * (k : Int) + 1) (2 * (j : Int) + 1) := ⟨k, hk, .inr (.inr ⟨j, hj, .inr ⟨h, rfl, rfl⟩⟩)⟩
theorem lt_ii {ns : List Int} {j : Nat} : ∀ {k : Nat}, j < k → k < ns.length → Lt ns (2 * (j : Int)) (2 * (k : Int))
  | 0, h, _ => absurd h (Nat.not_lt_zero _)
  | k + 1, h, hk => by
    rcases Nat.lt_or_ge j k with h' | h'
    · exact .tail (lt_ii h' (by omega)) (ed_ii hk)
    · obtain rfl : j = k := by omega
      exact .single (ed_ii hk)
theorem ed_keys {ns : List Int} {p s : Int} (h : Ed ns p s) : p ∈ (buildG ns).map (·.1) := by
  have := (mem_edges ns s p).mpr h
  exact ((built ns).keys p).mpr ⟨_, this, .inr rfl⟩
/-- the forerunners of a step out -/
theorem ed_out {ns : List Int} {p : Int} {j : Nat} (h : Ed ns p (2 * (j : Int) + 1)) : p = 2 * (j : Int) ∨ ∃ k : Nat, k < ns.length ∧ j < k ∧ ns.getD k 0 < ns.getD j 0 ∧ p = 2 * (k : Int) + 1 := by
  obtain ⟨k, hk, ⟨h1, h2⟩ | ⟨h0, h1, h2⟩ | ⟨i, hi, ⟨h1, h2, h3⟩ | ⟨h1, h2, h3⟩⟩⟩ := h
  · exact .inl (by omega)
  · omega
  · omega
  · obtain rfl : i = j := by omega
    exact .inr ⟨k, hk, hi, h1, h2⟩
/-- the forerunners of a step in -/
theorem ed_in {ns : List Int} {p : Int} {k : Nat} (h : Ed ns p (2 * (k : Int))) : (0 < k ∧ p = 2 * ((k - 1 : Nat) : Int)) ∨ ∃ j : Nat, j < k ∧ ns.getD j 0 < ns.getD k 0 ∧ p = 2 * (j : Int) + 1 := by
  obtain ⟨k', hk, ⟨h1, h2⟩ | ⟨h0, h1, h2⟩ | ⟨i, hi, ⟨h1, h2, h3⟩ | ⟨h1, h2, h3⟩⟩⟩ := h
  · omega
  · exact .inl ⟨by omega, by omega⟩
  · obtain rfl : k' = k := by omega
    exact .inr ⟨i, hi, h1, h2⟩
  · omega
theorem patB_iff {ns : List Int} {j : Nat} : patB ns j = true ↔ ∃ i l : Nat, i < j ∧ j < l ∧ l < ns.length ∧ ns.getD l 0 < ns.getD i 0 ∧ ns.getD i 0 < ns.getD j 0 := by
  unfold patB
  simp only [List.any_eq_true, List.mem_range, Bool.and_eq_true, decide_eq_true_eq]
  constructor
  · rintro ⟨i, hi, x, hx, h1, h2⟩
    obtain ⟨m, hm, e⟩ := List.mem_iff_getElem.mp hx
    rw [List.length_drop] at hm
    rw [List.getElem_drop] at e
    refine ⟨i, j + 1 + m, hi, by omega, by omega, ?_, h2⟩
    have : ns.getD (j + 1 + m) 0 = x := by
      rw [List.getD_eq_getElem?_getD, List.getElem?_eq_getElem (by omega), Option.getD_some, e]
    omega
  · rintro ⟨i, l, hi, hj, hl, h1, h2⟩
    refine ⟨i, hi, ns.getD l 0, ?_, h1, h2⟩
    refine List.mem_iff_getElem.mpr ⟨l - (j + 1), by rw [List.length_drop]; omega, ?_⟩
    rw [List.getElem_drop, List.getD_eq_getElem?_getD, List.getElem?_eq_getElem (by omega), Option.getD_some]
    congr 1
    omega
/-- st is the first place of a greater one, or the row's end -/
structure Stop (ns : List Int) (st : Nat) : Prop where
  le : st ≤ ns.length
  before : ∀ k, k < st → patB ns k = false
  at_ : st < ns.length → patB ns st = true
theorem Told.outs {ns : List Int} {R : List (List Int)} (h : Told ns R) {B : Nat} (hB : B ≤ ns.length) (hin : ∀ j : Nat, j < B → 2 * (j : Int) ∈ R.flatten) :
    ∀ (d j : Nat), ns.length - j ≤ d → j < B → (∀ l : Nat, B ≤ l → l < ns.length → ¬ ns.getD l 0 < ns.getD j 0) → 2 * (j : Int) + 1 ∈ R.flatten := by
  intro d
  induction d with
  | zero => intro j h1 h2; omega
  | succ d ih =>
    intro j h1 h2 h3
    refine Decidable.byContradiction fun hD => ?_
    obtain ⟨p, hp, hpD⟩ := h.max _ ⟨j, by omega, .inr rfl⟩ hD
    rcases ed_out hp with rfl | ⟨k, hk, hjk, hr, rfl⟩
    · exact hpD (hin j h2)
    · have hkB : k < B := Nat.lt_of_not_le fun hle => h3 k hle hk hr
      exact hpD (ih k (by omega) hkB fun l hl hln hlt => h3 l hl hln (by omega))
theorem Told.ins {ns : List Int} {R : List (List Int)} (h : Told ns R) {st : Nat} (hs : Stop ns st) : ∀ k : Nat, k < st → 2 * (k : Int) ∈ R.flatten := by
  have hle := hs.le
  intro k
  induction k using Nat.strongRecOn with
  | _ k ih =>
    intro hk
    refine Decidable.byContradiction fun hD => ?_
    obtain ⟨p, hp, hpD⟩ := h.max _ ⟨k, by omega, .inl rfl⟩ hD
    rcases ed_in hp with ⟨h0, rfl⟩ | ⟨j, hj, hr, rfl⟩
    · exact hpD (ih (k - 1) (by omega) (by omega))
    · refine hpD (h.outs (B := k) (by omega) (fun i hi => ih i hi (by omega)) _ j (Nat.le_refl _) hj fun l hl hln hlt => ?_)
      have hkl : k ≠ l := by rintro rfl; omega
      have := patB_iff.mpr ⟨j, l, hj, by omega, hln, hlt, hr⟩
      rw [hs.before k hk] at this
      cases this
theorem Stop.cyc {ns : List Int} {st : Nat} (hs : Stop ns st) (hl : st < ns.length) : Lt ns (2 * (st : Int)) (2 * (st : Int)) := by
  obtain ⟨i, l, h1, h2, h3, h4, h5⟩ := patB_iff.mp (hs.at_ hl)
  exact (((lt_ii h2 h3).tail (ed_io h3)).tail (ed_oo h3 (by omega) h4)).tail (ed_oi hl h1 h5)
theorem Told.in_iff {ns : List Int} {R : List (List Int)} (h : Told ns R) {st : Nat} (hs : Stop ns st) (k : Nat) : 2 * (k : Int) ∈ R.flatten ↔ k < st := by
  constructor
  · intro hk
    refine Decidable.byContradiction fun hlt => ?_
    have hkn : k < ns.length := by
      obtain ⟨k', h1, h2⟩ := h.keys _ hk
      omega
    have hst : 2 * (st : Int) ∈ R.flatten := by
      rcases Nat.lt_or_ge st k with h' | h'
      · exact h.ord.mem (lt_ii h' hkn) hk
      · obtain rfl : st = k := by omega
        exact hk
    exact h.ord.acyc h.nd hst (hs.cyc (by omega))
  · exact h.ins hs k
theorem Told.out_iff {ns : List Int} {R : List (List Int)} (h : Told ns R) {st : Nat} (hs : Stop ns st) (i : Nat) : 2 * (i : Int) + 1 ∈ R.flatten ↔ i < st ∧ ∀ l : Nat, st ≤ l → l < ns.length → ¬ ns.getD l 0 < ns.getD i 0 := by
  constructor
  · intro hi
    have hin : i < ns.length := by
      obtain ⟨k', h1, h2⟩ := h.keys _ hi
      omega
    have h1 : i < st := (h.in_iff hs i).mp (h.ord.mem (.single (ed_io hin)) hi)
    refine ⟨h1, fun l hl hln hlt => ?_⟩
    have h2 : 2 * (l : Int) ∈ R.flatten := h.ord.mem ((Relation.TransGen.single (ed_io hln)).tail (ed_oo hln (by omega) hlt)) hi
    have := (h.in_iff hs l).mp h2
    omega
  · rintro ⟨h1, h2⟩
    exact h.outs hs.le (h.ins hs) _ i (Nat.le_refl _) h1 h2
theorem path_lt {ns : List Int} {a b : Int} (h : Path (buildG ns) a b) : Lt ns a b := by
  induction h with
  | one h => exact .single ((build_succ ns _ _).mp h)
  | more _ h ih => exact .tail ih ((build_succ ns _ _).mp h)
theorem lt_first {ns : List Int} {a b : Int} (h : Lt ns a b) : ∃ c, Ed ns a c := by
  induction h with
  | single h => exact ⟨_, h⟩
  | tail _ _ ih => exact ih
theorem Told.cyc {ns : List Int} {R : List (List Int)} (h : Told ns R) {st : Nat} (hs : Stop ns st) (hc : Cyc (buildG ns)) : st < ns.length := by
  obtain ⟨a, ha⟩ := hc
  have hl := path_lt ha
  refine Decidable.byContradiction fun hst => ?_
  have hle := hs.le
  obtain ⟨c, hc⟩ := lt_first hl
  obtain ⟨k, hk, e⟩ := (build_keys ns a).mp (ed_keys hc)
  have haD : a ∈ R.flatten := by
    rcases e with rfl | rfl
    · exact (h.in_iff hs k).mpr (by omega)
    · exact (h.out_iff hs k).mpr ⟨by omega, fun l h1 h2 => by omega⟩
  exact h.ord.acyc h.nd haD hl
theorem clo_lt {ns ord : List Int} (h : Clo (buildG ns) ord) {a b : Int} (hl : Lt ns a b) : ∀ {pre post}, ord = pre ++ a :: post → b ∈ pre := by
  induction hl with
  | single he => intro pre post e; exact h pre _ post e _ ((build_succ ns _ _).mpr he)
  | tail _ he ih =>
    intro pre post e
    obtain ⟨as, bs, e1⟩ := List.append_of_mem (ih e)
    have := h as _ (bs ++ a :: post) (by rw [e, e1]; simp) _ ((build_succ ns _ _).mpr he)
    rw [e1]
    exact List.mem_append_left _ this
theorem Stop.acy {ns : List Int} {st : Nat} (hs : Stop ns st) (ha : Acy (buildG ns)) : ¬ st < ns.length := by
  intro hl
  obtain ⟨ord, hc, hm⟩ := ha
  have h1 := hm (2 * (st : Int)) ((build_keys ns _).mpr ⟨st, hl, .inl rfl⟩)
  obtain ⟨as, bs, e, hn⟩ := List.eq_append_cons_of_mem h1
  exact hn (clo_lt hc (hs.cyc hl) e)
theorem Told.refused {ns : List Int} {R : List (List Int)} (h : Told ns R) {st : Nat} (hs : Stop ns st) {rf : Bool} (h1 : rf = true → Cyc (buildG ns)) (h2 : rf = false → Acy (buildG ns)) : rf = decide (st < ns.length) := by
  cases rf with
  | true => exact (decide_eq_true (h.cyc hs (h1 rfl))).symm
  | false => exact (decide_eq_false (hs.acy (h2 rfl))).symm
-- plain
/-! the law's body, by its place in the row -/
noncomputable def lawDef : Stmt := PySem.Challenge.rw_oh0060_01.row.prog.main.body.getLastD (.Pass default)
noncomputable def lawBody : List Stmt := bodyOf lawDef
noncomputable def lawScope : Scope := scopeOf lawDef
noncomputable def ExecMark : Prop := True
noncomputable def runOf {α : Type} (row : List α) (bs : List Bool) : List α × List α × Nat := bs.foldl (stepRun row) ([], [], 0)
/-- no later number is less -/
noncomputable def low (ns : List Int) (st : Nat) (y : Int) : Bool := (ns.drop st).all fun x => !decide (x < y)
structure LawFacts (ns : List Int) (R : List (List Int)) (bs : List Bool) (rf : Bool) (st : Nat) : Prop where
  stop : Stop ns st
  refused : rf = decide (st < ns.length)
  ok : RunOk ns bs
  outS : (runOf ns bs).1.Pairwise (· ≤ ·)
  outP : (runOf ns bs).1.Perm ((ns.take st).filter (low ns st))
  held : (runOf ns bs).2.1 = (ns.take st).filter (fun y => !low ns st y)
  taken : (runOf ns bs).2.2 = st
  rounds : ns.Nodup → R.length = R.flatten.length
  chk : ∀ f, chkP 0 (bs ++ List.replicate f false) = decide (f = ((ns.take st).filter (fun y => !low ns st y)).length)
  len : bs.length ≤ 14
  tl : R.flatten.length ≤ 14
  rl : R.length ≤ 14
theorem Stop.uniq {ns : List Int} {a b : Nat} (h : Stop ns a) (h' : Stop ns b) : a = b := by
  rcases Nat.lt_trichotomy a b with q | q | q
  · have := h.at_ (Nat.lt_of_lt_of_le q h'.le)
    rw [h'.before a q] at this; cases this
  · exact q
  · have := h'.at_ (Nat.lt_of_lt_of_le q h.le)
    rw [h.before b q] at this; cases this
theorem Stop.of_min {ns : List Int} {st : Nat} (h : Stop ns st) {l : List Int} (hl : l = ((List.range ns.length).filter (patB ns)).map fun k : Nat => (k : Int)) {M : Int} (hM : M ∈ l ++ [(ns.length : Int)]) (hmin : ∀ a, a ∈ l ++ [(ns.length : Int)] → M ≤ a) : M = (st : Int) := by
  have hmem : ∀ k : Nat, (k : Int) ∈ l ↔ k < ns.length ∧ patB ns k = true := fun k => by
    rw [hl]
    simp only [List.mem_map, List.mem_filter, List.mem_range]
    constructor
    · rintro ⟨a, ha, e⟩
      obtain rfl : a = k := by omega
      exact ha
    · intro hk; exact ⟨k, hk, rfl⟩
  have hMn : ∃ k : Nat, M = (k : Int) := by
    rcases List.mem_append.mp hM with hM | hM
    · rw [hl] at hM
      obtain ⟨k, _, e⟩ := List.mem_map.mp hM
      exact ⟨k, e.symm⟩
    · exact ⟨ns.length, List.mem_singleton.mp hM⟩
  obtain ⟨k, rfl⟩ := hMn
  have hk : Stop ns k := by
    have h1 := hmin (ns.length : Int) (by simp)
    refine ⟨by omega, fun j hj => ?_, fun hlt => ?_⟩
    · cases q : patB ns j with
      | false => rfl
      | true =>
        have := hmin (j : Int) (List.mem_append_left _ ((hmem j).mpr ⟨by omega, q⟩))
        omega
    · rcases List.mem_append.mp hM with hM | hM
      · exact ((hmem k).mp hM).2
      · have := List.mem_singleton.mp hM
        omega
  rw [hk.uniq h]
theorem pick_from (rv : List (Int × Tok)) (k : Nat) : kms_pick (vals rv) (some (k : Int)) none = vals (rv.drop k) := by
  unfold kms_pick kms_lo kms_hi
  have e : ¬ ((k : Int) < 0) := by omega
  have e2 : ((k : Int)).toNat = k := by omega
  simp only [if_neg e, e2]
  have e3 : vals (rv.drop k) = (vals rv).drop k := by simp [vals, List.map_drop]
  rw [e3]
  rcases Nat.le_total k (vals rv).length with hle | hle
  · rw [Nat.min_eq_left hle]
    exact List.take_of_length_le (by rw [List.length_drop]; exact Nat.le_refl _)
  · rw [Nat.min_eq_right hle, List.drop_eq_nil_of_le (Nat.le_refl _), List.drop_eq_nil_of_le hle]
    simp
theorem pick_to (rv : List (Int × Tok)) (k : Nat) : kms_pick (vals rv) none (some (k : Int)) = vals (rv.take k) := by
  unfold kms_pick kms_lo kms_hi
  have e : ¬ ((k : Int) < 0) := by omega
  have e2 : ((k : Int)).toNat = k := by omega
  simp only [if_neg e, e2]
  have e3 : vals (rv.take k) = (vals rv).take k := by simp [vals, List.map_take]
  rw [e3]
  rcases Nat.le_total k (vals rv).length with hle | hle
  · rw [Nat.min_eq_left hle]; simp
  · rw [Nat.min_eq_right hle, List.take_of_length_le hle]; simp
theorem one_more (xv : List (Int × Tok)) (x : Int × Tok) {n : Nat} (h : xv.length ≤ n) (h7 : n < 7) (P : Prop) (hP : ¬ P) : ∃ xv', vals xv ++ [Value.int x.1 x.2] = vals xv' ∧ (xv'.length ≤ n + 1 ∧ n + 1 ≤ 7) ∧ (xv' = [] ↔ P) := ⟨xv ++ [x], (vals_snoc xv x).symm, ⟨by simp; omega, by omega⟩, by simp [hP]⟩
theorem sorted_eq : ∀ {l l' : List Int}, l.Pairwise (· ≤ ·) → l'.Pairwise (· ≤ ·) → l.Perm l' → l = l'
  | [], l', _, _, h => by rw [List.Perm.nil_eq h]
  | a :: l, [], _, _, h => by have := h.length_eq; simp at this
  | a :: l, b :: l', h1, h2, h => by
    obtain ⟨h3, h4⟩ := List.pairwise_cons.mp h1
    obtain ⟨h5, h6⟩ := List.pairwise_cons.mp h2
    have e : a = b := by
      have ha : a ∈ b :: l' := h.mem_iff.mp (.head _)
      have hb : b ∈ a :: l := h.mem_iff.mpr (.head _)
      have x1 : b ≤ a := by
        rcases List.mem_cons.mp ha with e | ha
        · exact Int.le_of_eq e.symm
        · exact h5 a ha
      have x2 : a ≤ b := by
        rcases List.mem_cons.mp hb with e | hb
        · exact Int.le_of_eq e.symm
        · exact h3 b hb
      exact Int.le_antisymm x2 x1
    subst e
    rw [sorted_eq h4 h6 (List.Perm.cons_inv h)]
noncomputable def CmpMark : Prop := True
section
open PySem.SeqAt
noncomputable def tri (a b : List Int) (k : Int) : PyData := .tuple [.list (a.map PyData.int), .list (b.map PyData.int), .int k]
theorem shaped_tri (a b : List Int) (k : Int) : shaped (tri a b k) = true := by
  simp [tri, shaped, PyData.canLay0, PyData.canLayAll0, PyData.depth, PyData.depthAll, ke_canLayAll0, ke_depthAll]
theorem eqv_tri (a b : List Int) (k : Int) : PyData.eqv (tri a b k) (tri a b k) = true := by
  simp [tri, PyData.eqv, PyData.eqvAll, ked_eqvAll]
variable {prog : Program} {w : World} {A : Around} {E : Value → Shared → Prop} {s : Shared} {h₀ : Heap} {L : Addr} {news : List (Addr × Obj)} {T P R : Addr} {av bv : List (Int × Tok)} {e1 e2 : Nat} {k : Int} {t : Tok}
theorem reads_tri (N : News h₀ L s.heap news) (hT : (T, tupO [.ref P, .ref R, .int k t]) ∈ news) (hP : (P, W.listOf (vals av).toArray e1) ∈ news) (hR : (R, W.listOf (vals bv).toArray e2) ∈ news) :
    Reads s.heap (.ref T) (tri (av.map (·.1)) (bv.map (·.1)) k) ([P] ++ ([R] ++ ([] ++ []))) :=
  reads_tuple_at (N _ hT).1 rfl rfl (.cons (reads_of_ints (News.isList N hP) (vals_ints av)) (.cons (reads_of_ints (News.isList N hR) (vals_ints bv)) (.cons (.int k t) .nil)))
theorem ne_tri {T' P' R' : Addr} {av' bv' : List (Int × Tok)} {e1' e2' : Nat} {k' : Int} {t' : Tok} {Q : Value → Shared → Prop} (N : News h₀ L s.heap news) (hT : (T, tupO [.ref P, .ref R, .int k t]) ∈ news) (hP : (P, W.listOf (vals av).toArray e1) ∈ news) (hR : (R, W.listOf (vals bv).toArray e2) ∈ news)
    (hT' : (T', tupO [.ref P', .ref R', .int k' t']) ∈ news) (hP' : (P', W.listOf (vals av').toArray e1') ∈ news) (hR' : (R', W.listOf (vals bv').toArray e2') ∈ news)
    (ha : av.map (·.1) = av'.map (·.1)) (hb : bv.map (·.1) = bv'.map (·.1)) (hk : k = k') (hu : A.units + 64 < cLine) (h : Q (.bool false) s) : wpAny (model prog w) A (compareOp .NotEq (.ref T) (.ref T')) Q E s := by
  have r1 := reads_tri N hT hP hR
  have r2 := reads_tri N hT' hP' hR'
  rw [← ha, ← hb, ← hk] at r2
  refine ne_dataH r1 r2 (shaped_tri _ _ _) (shaped_tri _ _ _) hu ?_
  rw [eqv_tri]
  exact h
end
theorem stepRun_map {α β : Type} (f : α → β) (row : List α) (st : List α × List α × Nat) (b : Bool) : stepRun (row.map f) (st.1.map f, st.2.1.map f, st.2.2) b = ((stepRun row st b).1.map f, (stepRun row st b).2.1.map f, (stepRun row st b).2.2) := by
  unfold stepRun
  cases b with
  | true =>
    simp only [if_true, List.map_append, Prod.mk.injEq, true_and, and_true]
    rw [List.getElem?_map]
    cases row[st.2.2]? <;> rfl
  | false =>
    simp only [Bool.false_eq_true, if_false, List.map_append, Prod.mk.injEq, and_true]
    refine ⟨?_, List.map_dropLast.symm⟩
    rw [List.getLast?_map]
    cases st.2.1.getLast? <;> rfl
theorem run_map {α β : Type} (f : α → β) (row : List α) (bs : List Bool) : runOf (row.map f) bs = ((runOf row bs).1.map f, (runOf row bs).2.1.map f, (runOf row bs).2.2) := by
  have key : ∀ (bs : List Bool) (st : List α × List α × Nat), bs.foldl (stepRun (row.map f)) (st.1.map f, st.2.1.map f, st.2.2) = ((bs.foldl (stepRun row) st).1.map f, (bs.foldl (stepRun row) st).2.1.map f, (bs.foldl (stepRun row) st).2.2) := by
    intro bs
    induction bs with
    | nil => intro st; rfl
    | cons b bs ih =>
      intro st
      rw [List.foldl_cons, List.foldl_cons, stepRun_map, ih]
  exact key bs ([], [], 0)
theorem runOk_map {α β : Type} (f : α → β) {row : List α} {bs : List Bool} (h : RunOk (row.map f) bs) : RunOk row bs := fun i b hb => by
  obtain ⟨h1, h2⟩ := h i b hb
  have e := run_map f row (bs.take i)
  unfold runOf at e
  rw [e] at h1 h2
  refine ⟨fun hb => by simpa using h1 hb, fun hb => ?_⟩
  have := h2 hb
  intro e2
  rw [e2] at this
  exact this rfl
theorem run_lens (ns : List Int) {bs : List Bool} (h : bs.length ≤ 14) : (runOf ns bs).1.length ≤ 14 ∧ (runOf ns bs).2.1.length ≤ 14 := by
  have h1 := runs_len ns bs
  exact ⟨Nat.le_trans h1.1 h, Nat.le_trans h1.2 h⟩
theorem pick_all (rv : List (Int × Tok)) : kms_pick (vals rv) none none = vals rv := by
  unfold kms_pick kms_lo kms_hi
  simp
theorem cnt1 {A c s L B : Nat} (h1 : A + (c-1) = s + L + B) (h2 : B = c-1-L) (h3 : 0 < c) : A + c = s + (L+1) + B ∧ B = c-(L+1) := by
  obtain ⟨d, rfl⟩ := Nat.exists_eq_succ_of_ne_zero (Nat.ne_of_gt h3)
  rw [Nat.succ_sub_one] at h1 h2
  refine ⟨?_, ?_⟩
  · rw [Nat.add_succ, h1, Nat.add_right_comm s (L+1) B, Nat.add_right_comm s L B]; rfl
  · rw [Nat.succ_sub_succ, h2]
theorem cnt2 {A s L B : Nat} (h1 : A + 0 = (s + 1) + L + B) (h2 : B = 0 - L) : A + 0 = s + (L+1) + B ∧ B = 0 - (L + 1) := by
  rw [Nat.zero_sub] at h2 ⊢
  exact ⟨h1.trans (by rw [Nat.add_assoc s 1 L, Nat.add_comm 1 L]), h2⟩
theorem cnt_dstep (v : Int) : ∀ (l : List (Int × Tok)) (st : List (Int × Tok) × List (Int × Tok)), ((l.foldl dstep st).1.map (·.1)).count v + (st.2.map (·.1)).count v = (st.1.map (·.1)).count v + (l.map (·.1)).count v + ((l.foldl dstep st).2.map (·.1)).count v ∧ ((l.foldl dstep st).2.map (·.1)).count v = (st.2.map (·.1)).count v - (l.map (·.1)).count v := by
  intro l
  induction l with
  | nil => intro st; simp
  | cons q l ih =>
    intro st
    rw [List.foldl_cons]
    obtain ⟨h1, h2⟩ := ih (dstep st q)
    rw [List.map_cons, List.count_cons]
    by_cases hin : q.1 ∈ st.2.map (·.1)
    · have e : dstep st q = (st.1, st.2.eraseP fun p => p.1 == q.1) := if_pos hin
      have e2 : (st.2.eraseP fun p => p.1 == q.1).map (·.1) = (st.2.map (·.1)).erase q.1 := by
        have key : ∀ l : List (Int × Tok), (l.eraseP fun p => p.1 == q.1).map (·.1) = (l.map (·.1)).erase q.1 := by
          intro l
          induction l with
          | nil => rfl
          | cons a l ih =>
            by_cases h : a.1 = q.1
            · simp [h]
            · have h' : (a.1 == q.1) = false := by simpa using h
              rw [List.eraseP_cons_of_neg (by simpa using h), List.map_cons, List.map_cons, ih, List.erase_cons_tail (by simpa using h)]
        exact key st.2
      rw [e] at h1 h2 ⊢
      simp only [e2] at h1 h2 ⊢
      rw [List.count_erase] at h1 h2
      have h3 := List.count_pos_iff.mpr hin
      by_cases hv : q.1 = v
      · subst hv
        simp only [beq_self_eq_true, if_true] at h1 h2 ⊢
        exact cnt1 h1 h2 h3
      · have h' : (q.1 == v) = false := by simpa using hv
        have h'' : (v == q.1) = false := by simpa using Ne.symm hv
        simp only [h', h'', Bool.false_eq_true, if_false] at h1 h2 ⊢
        exact ⟨h1, h2⟩
    · have e : dstep st q = (st.1 ++ [q], st.2) := if_neg hin
      rw [e] at h1 h2 ⊢
      simp only [List.map_append, List.map_cons, List.map_nil, List.count_append, List.count_singleton] at h1 h2 ⊢
      have h3 := List.count_eq_zero.mpr hin
      by_cases hv : q.1 = v
      · subst hv
        simp only [beq_self_eq_true, if_true] at h1 h2 ⊢
        rw [h3] at h1 h2 ⊢
        exact cnt2 h1 h2
      · have h' : (q.1 == v) = false := by simpa using hv
        simp only [h', Bool.false_eq_true, if_false] at h1 h2 ⊢
        exact ⟨h1, h2⟩
/-- what unorderable_list_difference tells of the row and of what came out -/
theorem diff_spec {rv sv hv ms av : List (Int × Tok)} {st : Nat} {p : Int → Bool} (hs : (sv.map (·.1)).Perm (((rv.map (·.1)).take st).filter p)) (hh : hv.map (·.1) = ((rv.map (·.1)).take st).filter (fun y => !p y))
    (h : (ms, av) = rv.reverse.foldl dstep ([], sv)) : av = [] ∧ (ms.map (·.1)).Perm (hv.map (·.1) ++ (rv.map (·.1)).drop st) := by
  have hrow : ∀ v, (rv.map (·.1)).count v = (sv.map (·.1)).count v + (hv.map (·.1)).count v + ((rv.map (·.1)).drop st).count v := fun v => by
    have e1 : (rv.map (·.1)).count v = ((rv.map (·.1)).take st).count v + ((rv.map (·.1)).drop st).count v := by rw [← List.count_append, List.take_append_drop]
    have key : ∀ l : List Int, l.count v = (l.filter p).count v + (l.filter fun y => !p y).count v := by
      intro l
      induction l with
      | nil => rfl
      | cons a l ih =>
        rw [List.filter_cons, List.filter_cons, List.count_cons, ih]
        cases p a <;> simp [List.count_cons] <;> omega
    rw [e1, key, hs.count_eq, hh]
  have hc := fun v => cnt_dstep v rv.reverse ([], sv)
  rw [← h] at hc
  simp only [List.map_reverse, List.count_reverse, List.map_nil, List.count_nil] at hc
  have hav : av = [] := by
    cases av with
    | nil => rfl
    | cons a av =>
      have h1 := (hc a.1).2
      have h2 := hrow a.1
      rw [List.map_cons, List.count_cons_self] at h1
      omega
  refine ⟨hav, List.perm_iff_count.mpr fun v => ?_⟩
  have h1 := hc v
  have h2 := hrow v
  rw [List.count_append]
  subst hav
  simp only [List.map_nil, List.count_nil] at h1
  omega
theorem dedup_len : ∀ (l acc : List Int), (l.foldl step_dedup acc).length ≤ acc.length + l.length ∧ ((l.foldl step_dedup acc).length = acc.length + l.length → l.Nodup ∧ ∀ v ∈ l, v ∉ acc) := by
  intro l
  induction l with
  | nil => intro acc; exact ⟨by simp, fun _ => ⟨List.nodup_nil, fun v hv => by cases hv⟩⟩
  | cons a l ih =>
    intro acc
    rw [List.foldl_cons, List.length_cons]
    by_cases ha : a ∈ acc
    · have e : step_dedup acc a = acc := by unfold step_dedup; simp [ha]
      rw [e]
      have := (ih acc).1
      exact ⟨by omega, fun h => by omega⟩
    · have e : step_dedup acc a = acc ++ [a] := by unfold step_dedup; simp [ha]
      rw [e]
      obtain ⟨h1, h2⟩ := ih (acc ++ [a])
      rw [List.length_append, List.length_singleton] at h1 h2
      refine ⟨by omega, fun h => ?_⟩
      obtain ⟨h3, h4⟩ := h2 (by omega)
      refine ⟨List.nodup_cons.mpr ⟨fun hm => h4 a hm (by simp), h3⟩, fun v hv => ?_⟩
      rcases List.mem_cons.mp hv with rfl | hv
      · exact ha
      · exact fun hm => h4 v hv (List.mem_append_left _ hm)
theorem firstMet_nodup {ns : List Int} (h : (firstMet (fun i => ns.getD i 0) ns.length).length = ns.length) : ns.Nodup := by
  have e : (List.range ns.length).map (fun i => ns.getD i 0) = ns := by
    apply List.ext_getElem
    · simp
    · intro i h1 h2
      simp [h2]
  unfold firstMet at h
  rw [e] at h
  exact ((dedup_len ns []).2 (by simpa using h)).1
section
variable {prog : Program} {w : World} {A : Around} {E : Value → Shared → Prop} {s : Shared} {h₀ : Heap} {L l : Addr} {m : Str → Option Value} {news : List (Addr × Obj)} {rv : List (Int × Tok)} {n : Nat} {Q : Value → Shared → Prop}
theorem set_L (hh : A.handled = none) (F : Fr h₀ L s.heap m) (N : News h₀ L s.heap news) (hl : (l, W.listOf (vals rv).toArray n) ∈ news) (hb : rv.length ≤ 7)
    (h : ∀ D h' tk o S k, Fr h₀ L h' m → News h₀ L h' ((D, o) :: news) → (∀ p ∈ news, p.1 ≠ D) → o.SetObjOf (intKind prog w) S k → k ≤ 7 → (k = rv.length → (rv.map (·.1)).Nodup) → Q (.ref D) { s with heap := h', toks := tk }) :
    wpAny (model prog w) A (call (.type "set") [.ref l]) Q E s := by
  have hsz : (vals rv).toArray.size = (rv.map (·.1)).length := by simp [vals]
  have hl7 : (rv.map (·.1)).length ≤ 7 := by rw [List.length_map]; exact hb
  refine call_set_list (items := (vals rv).toArray) (ns := rv.map (·.1)) hh (News.isList N hl) (vals_ints rv) (by rw [hsz]; unfold scanBound; omega) fun h' tk hS hk => ?_
  rw [hsz] at hS
  obtain ⟨o, ho, hso⟩ := hS.objOf
  have hle := firstMet_length_le (fun i => (rv.map (·.1)).getD i 0) (rv.map (·.1)).length
  have hL : L < s.heap.objs.size := F.ns.lt
  refine h _ h' tk o _ _ ⟨F.ns.at' fun o' e => hk L o' hL e, fun b o' e => hk b o' (Heap.lt_size (F.keep b o' e)) (F.keep b o' e), F.above⟩ (fun p hp => ?_) (fun p hp => Nat.ne_of_lt (Heap.lt_size (N p hp).1)) hso (by omega) (fun e => firstMet_nodup (by rw [e, List.length_map]))
  rcases List.mem_cons.mp hp with rfl | hp
  · exact ⟨ho, Ne.symm (Nat.ne_of_lt hL), next_is_new F⟩
  · exact ⟨hk _ _ (Heap.lt_size (N p hp).1) (N p hp).1, (N p hp).2⟩
end
local macro_rules | `(tactic| walk_at "execs cons") => `(tactic| (k_here; (with_reducible rename ExecMark => hEM'); refine Halt.out ?_))
local macro_rules | `(tactic| walk_at "compareOp NotEq ref ref") => `(tactic| (k_here; (with_reducible rename CmpMark => hKM'); refine Halt.out ?_))
local macro_rules | `(tactic| walk_at "exec For Name Call cons nil") => `(tactic| (k_here; (with_reducible rename ForMark => hFM'); refine Halt.out ?_))
-- plain
section
open LCg
variable {prog : Program} {w : World} {A : Around} {E : Value → Shared → Prop} {s : Shared} {env : Env} {h₀ : Heap} {x : Str} {px : Pos} {body : List Stmt} {Q : Flow → Shared → Prop} {m : Str → Option Value} {news : List (Addr × Obj)}
/-- a for loop whose turns may leave generators behind -/
theorem for_srcG {I : Addr} {n : Nat} {P : Nat → Value → Prop} {S : List (Addr × Obj) → Prop} (W : Src prog w A h₀ env.locals I n P S s.heap) (hE : PassesOwn (model prog w) A env E) (hx : env.kindOf x = some .local)
    (hp : (env.scope.kind == .class || (env.scope.kind == .module && env.locals != env.globals)) = false) (F : Fr h₀ env.locals s.heap m) (N : News h₀ env.locals s.heap news) (hS : S news) (hnw : ∀ p ∈ news, p.1 ≠ I) (hG : AllBare s.gens)
    (J : Nat → (Str → Option Value) → Prop) (hj : J 0 m)
    (turn : ∀ i v m₁ s₁ oI, i < n → P i v → J i m₁ → Fr h₀ env.locals s₁.heap (fun y => if y = x then some v else m₁ y) → News h₀ env.locals s₁.heap ((I, oI) :: news) → s₁.os = s.os → AllBare s₁.gens →
      wpAny (model prog w) A (execs body env) (fun f s₃ => match f with
        | .ret v => Q (.ret v) s₃
        | .brk => Q .next s₃
        | _ => Halt (∃ m', Fr h₀ env.locals s₃.heap m' ∧ News h₀ env.locals s₃.heap ((I, oI) :: news) ∧ s₃.os = s.os ∧ AllBare s₃.gens ∧ J (i + 1) m')) E s₁)
    (done : ∀ m₁ s₁, J n m₁ → Fr h₀ env.locals s₁.heap m₁ → News h₀ env.locals s₁.heap news → s₁.os = s.os → AllBare s₁.gens → Q .next s₁) :
    codeAny (model prog w) A (.forLoop (.Name x px) (.ref I) body [] env) (fun r s' => match r with | .ok f => Q f s' | .error e => cameBackBy (model prog w) A env E e s') s := by
  obtain ⟨fp, St, W, hIo, hSt, st0, hLI, hI₀⟩ := W
  refine codeAny_forLoop (fun k' s' => ∃ i m₁, k' = n - i ∧ i ≤ n ∧ St i s'.heap ∧ Fr h₀ env.locals s'.heap m₁ ∧ News h₀ env.locals s'.heap news ∧ s'.os = s.os ∧ AllBare s'.gens ∧ J i m₁) ?_ (n - 0) ⟨0, m, rfl, Nat.zero_le _, st0, F, N, rfl, hG, hj⟩
  rintro k' s' ⟨i, m₁, rfl, hi, st, F₁, N₁, hos, hB, hJ⟩
  rcases Nat.lt_or_ge i n with hlt | hge
  · refine W.item i _ _ _ hlt st fun v h₂ tk₂ hP st₂ hk₂ => ?_
    have F₂ : Fr h₀ env.locals h₂ m₁ := fr_but F₁ hk₂ hLI hI₀
    have N₂ : News h₀ env.locals h₂ news := news_but N₁ hk₂ hnw
    obtain ⟨oI, heI⟩ := hIo _ _ st₂
    refine wpAny_assign_Name (wpAny_storeName_local hx F₂.ns (fun h₃ hn₃ hs₃ => ?_) hp)
    replace hs₃ : Heap.SameBut env.locals h₂ h₃ := hs₃
    have F₃ := F₂.set hn₃ hs₃
    have heI₃ : h₃.get? I = some oI := hs₃.extBut _ _ (Ne.symm hLI) heI
    have N₃ : News h₀ env.locals h₃ ((I, oI) :: news) := fun p hp => by
      rcases List.mem_cons.mp hp with rfl | hp
      · exact ⟨heI₃, Ne.symm hLI, hI₀⟩
      · exact ⟨hs₃.extBut _ _ (N₂ p hp).2.1 (N₂ p hp).1, (N₂ p hp).2⟩
    refine wpAny_mono (turn i v m₁ _ oI hlt hP hJ F₃ N₃ hos hB) (fun f s₃ h₃' => ?_) hE
    have fin : (∃ m', Fr h₀ env.locals s₃.heap m' ∧ News h₀ env.locals s₃.heap ((I, oI) :: news) ∧ s₃.os = s.os ∧ AllBare s₃.gens ∧ J (i + 1) m') → ∃ n', n' < n - i ∧ ∃ i m₁, n' = n - i ∧ i ≤ n ∧ St i s₃.heap ∧ Fr h₀ env.locals s₃.heap m₁ ∧ News h₀ env.locals s₃.heap news ∧ s₃.os = s.os ∧ AllBare s₃.gens ∧ J i m₁ := by
      rintro ⟨m', F', N', o', b', hJ'⟩
      exact ⟨n - (i + 1), by omega, i + 1, m', rfl, hlt, hSt _ _ _ _ _ st₂ heI (N' _ (.head _)).1 F'.keep (fun p hp => N' p (.tail _ hp)) hS, F', fun p hp => N' p (.tail _ hp), o', b', hJ'⟩
    cases f with
    | next => exact fin h₃'
    | cont => exact fin h₃'
    | brk => exact h₃'
    | ret v => exact h₃'
  · obtain rfl : i = n := Nat.le_antisymm hi hge
    refine W.done _ _ _ st fun h₂ tk₂ hk₂ => ?_
    exact wpAny_execs_nil (done m₁ _ hJ (fr_but F₁ hk₂ hLI hI₀) (news_but N₁ hk₂ hnw) hos hB)
end
theorem mul_word (i : Nat) : Txt.mul (Str.ofString ")") (i : Int) = wordS (List.replicate i false) := by
  rw [e41]
  apply Str.ext'
  refine Array.toList_inj.mp ?_
  rw [mul_one_list]
  simp [wordS]
theorem add_word (a b : List Bool) : wordS a ++ wordS b = wordS (a ++ b) := by
  apply Str.ext'
  rw [Str.cps_append]
  simp [wordS]
theorem len_word (a : List Bool) : (wordS a).length = a.length := by
  show (wordS a).cps.size = _
  simp [wordS]
section
variable {w : World} {mean : ExcName → Option Value} {mg mb : Str → Option Value} {dp un : Nat} {gd : Option (List Code)} {cn : Str} {a : Addr} {ccd : Value} {outer : List Env} {A₀ : Around} {base h₀ : Heap} {L : Addr} {s : Shared}
  {D3 Rl Dr cr cst Ol Hl : Addr} {e3 e2 er eo eh st : Nat} {tv rv sv hv : List (Int × Tok)} {rs : List Rnd} {bs : List Bool} {tw tst : Tok} {rf : Bool} {orow ost : Obj} {m₀ : Str → Option Value} {Qf : Flow → Shared → Prop}
theorem tailE {Ml Da : Addr} (H : AtT w mean mg mb 40 dp un lawScope A₀ base h₀ outer L (fun y => if y = Str.ofString "over" then some (Value.ref Da) else if y = Str.ofString "lacking" then some (Value.ref Ml) else if y = Str.ofString "held" then some (Value.ref Hl) else if y = Str.ofString "out" then some (Value.ref Ol) else if y = Str.ofString "refused" then some (Value.bool rf) else if y = Str.ofString "rounds" then some (Value.ref Rl) else if y = Str.ofString "told" then some (Value.ref D3) else if y = Str.ofString "word" then some (Value.str (wordS bs) tw) else m₀ y) s.heap)
    (N : News h₀ L s.heap [(Hl, W.listOf (vals hv).toArray eh), (D3, W.listOf (vals tv).toArray e3), (Rl, W.listOf (refsOf rs).toArray e2), (Dr, W.listOf (vals rv).toArray er), (cst, ost), (cr, orow)])
    (hcr : orow.data = .cell (some (.ref Dr))) (hcs : ost.data = .cell (some (.int (st : Int) tst))) (hn7 : rv.length ≤ 7) (LF : LawFacts (rv.map (·.1)) (rkeys rs) bs rf st) (htv : tv.map (·.1) = (rkeys rs).flatten) (hG : AllBare s.gens) (hne : (D3 ≠ Dr ∧ Rl ≠ Dr) ∧ cst ≠ Dr ∧ cr ≠ Dr) (hHl : Hl ≠ Dr) (hheld : (runOf (rv.map (·.1)) bs).2.1 = hv.map (·.1))
    (hQ : ∀ s' h₀' m', KtsTurn (outer.filterMap (·.frame)) h₀ h₀' → Fr h₀' L s'.heap m' → s'.os = s.os → AllBare s'.gens → Qf (.ret (.bool true)) s') :
    wpAny (model PySem.Challenge.rw_oh0060_01.row.prog w) (ktrTop dp un gd cn lawScope L a ccd [(Str.ofString "stop", cst), (Str.ofString "row", cr)] outer) (execs (lawBody.drop 13) (envX cn lawScope L a ccd [(Str.ofString "stop", cst), (Str.ofString "row", cr)])) Qf (fun _ _ => False) s := by
  obtain ⟨⟨B, F, X, T, hk, hdp, hu⟩, XB, TB, Dc⟩ := H
  have hrl : (vals rv).length = rv.length := vals_length rv
  have hst : st ≤ rv.length := by simpa using LF.stop.le
  show wpAny _ _ (execs (_ :: _) _) _ _ _
  refine wpAny_execs_cons ?_
  have hEM : ExecMark := trivial
  have hhv14 : hv.length ≤ 14 := by
    have h9 := (run_lens (rv.map (·.1)) LF.len).2
    rw [hheld] at h9
    simpa using h9
  clear hEM
  have hFM : ForMark := trivial
  have hCM : CompMark := trivial
  have hvl : (vals hv).length = hv.length := vals_length hv
  k_steps
  show Halt _
  refine wpAny_For ?_ (by intro _; rfl)
  k_steps
  show Halt _
  have hrg := ‹IsRange _ _ 0 _ _ _ _ _›
  k_dflt (refine src_rng (n := hv.length + 2) rfl ‹Fr h₀ L _ _› ‹News h₀ L _ _› hrg (by omega) (by omega) ?_)
  intro I h1 F1 N1 lI W
  (try clear F); (try clear N); clear hrg
  obtain ⟨u0, F2⟩ := fr_form (stored := [Str.ofString "further"]) F1 (fun y _ => rfl)
  k_dflt (refine for_srcG W ?hE rfl rfl F2 N1 trivial (fun p hp => Nat.ne_of_lt (lI p hp)) hG (fun i m₁ => ∃ u : Str → Option Value, m₁ = fun y => if [Str.ofString "further"].contains y then u y else (if y = Str.ofString "over" then some (Value.ref Da) else if y = Str.ofString "lacking" then some (Value.ref Ml) else if y = Str.ofString "held" then some (Value.ref Hl) else if y = Str.ofString "out" then some (Value.ref Ol) else if y = Str.ofString "refused" then some (Value.bool rf) else if y = Str.ofString "rounds" then some (Value.ref Rl) else if y = Str.ofString "told" then some (Value.ref D3) else if y = Str.ofString "word" then some (Value.str (wordS bs) tw) else m₀ y)) ⟨u0, rfl⟩ ?turn ?done)
  case hE => passes_own
  case turn =>
    rintro i v m₁ s₃ oI hi ⟨ti, rfl⟩ ⟨u, rfl⟩ F3 N3 os3 B3
    clear F1 N1 F2 W lI
    have F4 : Fr h₀ L s₃.heap (fun y => if y = Str.ofString "further" then some (.int (i : Int) ti) else (if y = Str.ofString "over" then some (Value.ref Da) else if y = Str.ofString "lacking" then some (Value.ref Ml) else if y = Str.ofString "held" then some (Value.ref Hl) else if y = Str.ofString "out" then some (Value.ref Ol) else if y = Str.ofString "refused" then some (Value.bool rf) else if y = Str.ofString "rounds" then some (Value.ref Rl) else if y = Str.ofString "told" then some (Value.ref D3) else if y = Str.ofString "word" then some (Value.str (wordS bs) tw) else m₀ y)) := fr_eq F3 fun y => by
      by_cases q : y = Str.ofString "further"
      · simp [q]
      · simp [q]
    clear F3
    k_steps
    show wpAny _ _ (binaryOp _ (Value.str _ _) (Value.str _ _)) _ _ _
    have hi16 : i ≤ 16 := by omega
    have hbs14 := LF.len
    rw [mul_word]
    refine PyProof.Rows.add_str (fun t9 tk9 => ?_) (by rw [len_word, len_word, List.length_replicate, sizeLine_eq]; omega)
    rw [add_word]
    k_steps
    show wpAny _ _ (call (Value.ref 42) _) _ _ _
    k_dflt (refine check_K ⟨B, F4, X, T, hk, by omega, by omega⟩ N3 (by rw [List.length_append, List.length_replicate]; omega) B3 ?_)
    intro s₄ F5 N5 os5 B5
    have hfl : (((rv.map (·.1)).take st).filter (fun y => !low (rv.map (·.1)) st y)).length = hv.length := by rw [← LF.held, hheld, List.length_map]
    rw [LF.chk]
    clear F4 N3
    k_steps
    · exfalso
      have h9 := ‹(decide _ != _) = true›
      rw [hfl, hvl] at h9
      by_cases q : i = hv.length
      · simp [q] at h9
      · simp [q] at h9
        omega
    · show Halt _
      obtain ⟨u9, F9⟩ := fr_form (stored := [Str.ofString "further"]) (m₀ := fun y => (if y = Str.ofString "over" then some (Value.ref Da) else if y = Str.ofString "lacking" then some (Value.ref Ml) else if y = Str.ofString "held" then some (Value.ref Hl) else if y = Str.ofString "out" then some (Value.ref Ol) else if y = Str.ofString "refused" then some (Value.bool rf) else if y = Str.ofString "rounds" then some (Value.ref Rl) else if y = Str.ofString "told" then some (Value.ref D3) else if y = Str.ofString "word" then some (Value.str (wordS bs) tw) else m₀ y)) ‹Fr h₀ L _ _› (by ((intro y hy; (have hy' := hy); (simp only [List.contains_cons, List.contains_nil, Bool.or_false, Bool.or_eq_false_iff, beq_eq_false_iff_ne, ne_eq] at hy'); first | (simp only [hy, hy', if_false, Bool.false_eq_true, reduceIte]; done) | simp [hy'])))
      exact ⟨_, F9, ‹News h₀ L _ _›, os5.trans os3, B5, u9, rfl⟩
  case done =>
    rintro m₁ s₃ ⟨u, rfl⟩ F3 N3 os3 B3
    clear F1 N1 F2 W lI
    k_steps
    exact hQ s₃ h₀ _ KtsTurn.refl F3 os3 B3
end
section
variable {w : World} {mean : ExcName → Option Value} {mg mb : Str → Option Value} {dp un : Nat} {gd : Option (List Code)} {cn : Str} {a : Addr} {ccd : Value} {outer : List Env} {A₀ : Around} {base h₀ : Heap} {L : Addr} {s : Shared}
  {D3 Rl Dr cr cst Ol Hl : Addr} {e3 e2 er eo eh st : Nat} {tv rv sv hv : List (Int × Tok)} {rs : List Rnd} {bs : List Bool} {tw tst : Tok} {rf : Bool} {orow ost : Obj} {m₀ : Str → Option Value} {Qf : Flow → Shared → Prop}
theorem tailD {Ml Da : Addr} (H : AtT w mean mg mb 40 dp un lawScope A₀ base h₀ outer L (fun y => if y = Str.ofString "over" then some (Value.ref Da) else if y = Str.ofString "lacking" then some (Value.ref Ml) else if y = Str.ofString "held" then some (Value.ref Hl) else if y = Str.ofString "out" then some (Value.ref Ol) else if y = Str.ofString "refused" then some (Value.bool rf) else if y = Str.ofString "rounds" then some (Value.ref Rl) else if y = Str.ofString "told" then some (Value.ref D3) else if y = Str.ofString "word" then some (Value.str (wordS bs) tw) else m₀ y) s.heap)
    (N : News h₀ L s.heap [(Hl, W.listOf (vals hv).toArray eh), (D3, W.listOf (vals tv).toArray e3), (Rl, W.listOf (refsOf rs).toArray e2), (Dr, W.listOf (vals rv).toArray er), (cst, ost), (cr, orow)])
    (hcr : orow.data = .cell (some (.ref Dr))) (hcs : ost.data = .cell (some (.int (st : Int) tst))) (hn7 : rv.length ≤ 7) (LF : LawFacts (rv.map (·.1)) (rkeys rs) bs rf st) (htv : tv.map (·.1) = (rkeys rs).flatten) (hG : AllBare s.gens) (hne : (D3 ≠ Dr ∧ Rl ≠ Dr) ∧ cst ≠ Dr ∧ cr ≠ Dr) (hHl : Hl ≠ Dr) (hheld : (runOf (rv.map (·.1)) bs).2.1 = hv.map (·.1))
    (hQ : ∀ s' h₀' m', KtsTurn (outer.filterMap (·.frame)) h₀ h₀' → Fr h₀' L s'.heap m' → s'.os = s.os → AllBare s'.gens → Qf (.ret (.bool true)) s') :
    wpAny (model PySem.Challenge.rw_oh0060_01.row.prog w) (ktrTop dp un gd cn lawScope L a ccd [(Str.ofString "stop", cst), (Str.ofString "row", cr)] outer) (execs (lawBody.drop 12) (envX cn lawScope L a ccd [(Str.ofString "stop", cst), (Str.ofString "row", cr)])) Qf (fun _ _ => False) s := by
  obtain ⟨⟨B, F, X, T, hk, hdp, hu⟩, XB, TB, Dc⟩ := H
  have hrl : (vals rv).length = rv.length := vals_length rv
  have hst : st ≤ rv.length := by simpa using LF.stop.le
  show wpAny _ _ (execs (_ :: _) _) _ _ _
  refine wpAny_execs_cons ?_
  have hEM : ExecMark := trivial
  k_steps
  show wpAny _ _ (call (Value.type "set") [Value.ref Dr]) _ _ _
  k_dflt (refine set_L rfl ‹Fr h₀ L _ _› ‹News h₀ L _ _› (by walk_at "MY in") hn7 ?_)
  intro Sa h1 tk1 so Sf k F1 N1 hSa hso hk7 hknd
  have hSa' : ∀ p ∈ [(Hl, W.listOf (vals hv).toArray eh), (D3, W.listOf (vals tv).toArray e3), (Rl, W.listOf (refsOf rs).toArray e2), (Dr, W.listOf (vals rv).toArray er), (cst, ost), (cr, orow)], p.1 ≠ Sa := hSa
  have hrs : rs.length ≤ 14 := by
    have h9 := LF.rl
    simpa [rkeys] using h9
  have htl : tv.length ≤ 14 := by
    have h9 := LF.tl
    rw [← htv] at h9
    simpa using h9
  have hrl2 : (refsOf rs).length = rs.length := by simp [refsOf]
  have htl2 : (vals tv).length = tv.length := vals_length tv
  clear F N
  have hrt : k = rv.length → rs.length = tv.length := fun hkr => by
    have h9 := LF.rounds (hknd hkr)
    rw [← htv] at h9
    simpa [rkeys] using h9
  k_steps
  · exfalso
    have h9 : (k : Int) = ((vals rv).length : Int) := by assumption
    have h8 := hrt (by omega)
    omega
  all_goals (show Halt _; exact tailE ⟨⟨B, ‹Fr h₀ L _ _›, X, T, hk, hdp, hu⟩, XB, TB, Dc⟩ (News.sub ‹News h₀ L _ _› (by walk_at "MY sub2")) hcr hcs hn7 LF htv hG hne hHl hheld hQ)
end
section
variable {w : World} {mean : ExcName → Option Value} {mg mb : Str → Option Value} {dp un : Nat} {gd : Option (List Code)} {cn : Str} {a : Addr} {ccd : Value} {outer : List Env} {A₀ : Around} {base h₀ : Heap} {L : Addr} {s : Shared}
  {D3 Rl Dr cr cst Ol Hl : Addr} {Ml Da : Addr} {f1 f2 : Nat} {ms av : List (Int × Tok)}
  {e3 e2 er eo eh st : Nat} {tv rv sv hv : List (Int × Tok)} {rs : List Rnd} {bs : List Bool} {tw tst : Tok} {rf : Bool} {orow ost : Obj} {m₀ : Str → Option Value} {Qf : Flow → Shared → Prop}
theorem tailS (H : AtT w mean mg mb 40 dp un lawScope A₀ base h₀ outer L (fun y => if y = Str.ofString "over" then some (Value.ref Da) else if y = Str.ofString "lacking" then some (Value.ref Ml) else if y = Str.ofString "held" then some (Value.ref Hl) else if y = Str.ofString "out" then some (Value.ref Ol) else if y = Str.ofString "refused" then some (Value.bool rf) else if y = Str.ofString "rounds" then some (Value.ref Rl) else if y = Str.ofString "told" then some (Value.ref D3) else if y = Str.ofString "word" then some (Value.str (wordS bs) tw) else m₀ y) s.heap)
    (N : News h₀ L s.heap [(Ml, W.listOf (vals ms).toArray f1), (Da, W.listOf (vals av).toArray f2), (Hl, W.listOf (vals hv).toArray eh), (Ol, W.listOf (vals sv).toArray eo), (D3, W.listOf (vals tv).toArray e3), (Rl, W.listOf (refsOf rs).toArray e2), (Dr, W.listOf (vals rv).toArray er), (cst, ost), (cr, orow)])
    (hcr : orow.data = .cell (some (.ref Dr))) (hcs : ost.data = .cell (some (.int (st : Int) tst))) (hn7 : rv.length ≤ 7) (LF : LawFacts (rv.map (·.1)) (rkeys rs) bs rf st) (htv : tv.map (·.1) = (rkeys rs).flatten) (hG : AllBare s.gens) (hne : (D3 ≠ Dr ∧ Rl ≠ Dr) ∧ cst ≠ Dr ∧ cr ≠ Dr) (hOl : Ol ≠ Dr) (hout : (runOf (rv.map (·.1)) bs).1 = sv.map (·.1)) (hHl : Hl ≠ Dr) (hheld : (runOf (rv.map (·.1)) bs).2.1 = hv.map (·.1)) (hav : av = []) (hms : (ms.map (·.1)).Perm (hv.map (·.1) ++ (rv.map (·.1)).drop st))
    (hQ : ∀ s' h₀' m', KtsTurn (outer.filterMap (·.frame)) h₀ h₀' → Fr h₀' L s'.heap m' → s'.os = s.os → AllBare s'.gens → Qf (.ret (.bool true)) s') :
    wpAny (model PySem.Challenge.rw_oh0060_01.row.prog w) (ktrTop dp un gd cn lawScope L a ccd [(Str.ofString "stop", cst), (Str.ofString "row", cr)] outer) (execs (lawBody.drop 11) (envX cn lawScope L a ccd [(Str.ofString "stop", cst), (Str.ofString "row", cr)])) Qf (fun _ _ => False) s := by
  obtain ⟨⟨B, F, X, T, hk, hdp, hu⟩, XB, TB, Dc⟩ := H
  have hrl : (vals rv).length = rv.length := vals_length rv
  have hst : st ≤ rv.length := by simpa using LF.stop.le
  show wpAny _ _ (execs (_ :: _) _) _ _ _
  refine wpAny_execs_cons ?_
  have hEM : ExecMark := trivial
  have hCM : CompMark := trivial
  have hsv14 : sv.length ≤ 14 := by
    have h9 := (run_lens (rv.map (·.1)) LF.len).1
    rw [hout] at h9
    simpa using h9
  have hhv14 : hv.length ≤ 14 := by
    have h9 := (run_lens (rv.map (·.1)) LF.len).2
    rw [hheld] at h9
    simpa using h9
  have hCm : CmpMark := trivial
  have hdl : (rv.drop st).length ≤ 7 := by rw [List.length_drop]; omega
  have hml : ms.length ≤ 21 := by
    have h9 := hms.length_eq
    simp only [List.length_map, List.length_append, List.length_drop] at h9
    rw [List.length_drop] at hdl
    omega
  k_steps
  show wpAny _ _ (call (Value.builtin "sorted") [Value.ref Ml]) _ _ _
  k_dflt (refine kso_sorted ‹Fr h₀ L _ _› ‹News h₀ L _ _› (News.isList ‹News h₀ L _ _› (.head _)) (vals_ints ms) (by rw [List.length_map]; omega) ?_)
  intro M1 us1 ns1 c1 h1 F1 N1 lM1 hu1 _ hp1 ho1 _
  obtain ⟨s1, rfl, rfl⟩ := ints_vals hu1
  (try clear F)
  (try clear N)
  k_steps
  show wpAny _ _ (binaryOp _ _ _) _ _ _
  rename_i Ds _ F2 hN lDs
  have N2 : News h₀ L _ ((Ds, W.listOf (vals (rv.drop st)).toArray 0) :: (M1, W.listOf (vals s1).toArray c1) :: [(Ml, W.listOf (vals ms).toArray f1), (Da, W.listOf (vals av).toArray f2), (Hl, W.listOf (vals hv).toArray eh), (Ol, W.listOf (vals sv).toArray eo), (D3, W.listOf (vals tv).toArray e3), (Rl, W.listOf (refsOf rs).toArray e2), (Dr, W.listOf (vals rv).toArray er), (cst, ost), (cr, orow)]) := News.sub hN (by rw [List.toList_toArray, pick_from]; walk_at "MY sub2")
  clear hN lDs
  (try clear N1)
  (try clear F1)
  k_steps
  show wpAny _ _ (call (Value.builtin "sorted") [Value.ref _]) _ _ _
  rename_i M2 _ F4 hN lM2
  have N4 : News h₀ L _ ((M2, W.listOf (vals (hv ++ rv.drop st)).toArray 0) :: (M1, W.listOf (vals s1).toArray c1) :: [(Ml, W.listOf (vals ms).toArray f1), (Da, W.listOf (vals av).toArray f2), (Hl, W.listOf (vals hv).toArray eh), (Ol, W.listOf (vals sv).toArray eo), (D3, W.listOf (vals tv).toArray e3), (Rl, W.listOf (refsOf rs).toArray e2), (Dr, W.listOf (vals rv).toArray er), (cst, ost), (cr, orow)]) := News.sub hN (by rw [vals_append]; walk_at "MY sub2")
  (try clear N2)
  (try clear F2)
  k_dflt (refine kso_sorted F4 N4 (News.isList N4 (.head _)) (vals_ints _) (by rw [List.length_map, List.length_append]; omega) ?_)
  intro M3 us3 ns3 c3 h3 F3 N3 lM3 hu3 _ hp3 ho3 _
  obtain ⟨s3, rfl, rfl⟩ := ints_vals hu3
  have heq : s1.map (·.1) = s3.map (·.1) := sorted_eq ho1 ho3 ((hp1.trans hms).trans (by rw [← List.map_drop, ← List.map_append]; exact hp3.symm))
  clear hN
  (try clear N4)
  (try clear F4)
  k_steps
  show Halt _
  have hb : (!decide (s1.map (·.1) = s3.map (·.1))) = false := by simp [heq]
  k_dflt (refine ne_intsK (News.isList N3 (.tail _ (.tail _ (.head _)))) (vals_ints s1) (News.isList N3 (.head _)) (vals_ints s3) (by units_room) ?_)
  rw [hb]
  k_steps
  show Halt _
  have hb2 : (!decide (av.map (·.1) = ([] : List Int))) = false := by simp [hav]
  have N7 := ‹News h₀ L _ _›
  k_dflt (refine ne_intsK (vs := vals av) (us := []) (ms := []) (News.isList N7 (by walk_at "MY in")) (vals_ints av) (News.isList N7 (.head _)) .nil (by units_room) ?_)
  rw [hb2]
  k_steps
  show Halt _
  exact tailD ⟨⟨B, ‹Fr h₀ L _ _›, X, T, hk, hdp, hu⟩, XB, TB, Dc⟩ (News.sub ‹News h₀ L _ _› (by walk_at "MY sub2")) hcr hcs hn7 LF htv hG hne hHl hheld hQ
end
section
variable {w : World} {mean : ExcName → Option Value} {mg mb : Str → Option Value} {dp un : Nat} {gd : Option (List Code)} {cn : Str} {a : Addr} {ccd : Value} {outer : List Env} {A₀ : Around} {base h₀ : Heap} {L : Addr} {s : Shared}
  {D3 Rl Dr cr cst Ol Hl : Addr} {e3 e2 er eo eh st : Nat} {tv rv sv hv : List (Int × Tok)} {rs : List Rnd} {bs : List Bool} {tw tst : Tok} {rf : Bool} {orow ost : Obj} {m₀ : Str → Option Value} {Qf : Flow → Shared → Prop}
theorem tailC (H : AtT w mean mg mb 40 dp un lawScope A₀ base h₀ outer L (fun y => if y = Str.ofString "held" then some (Value.ref Hl) else if y = Str.ofString "out" then some (Value.ref Ol) else if y = Str.ofString "refused" then some (Value.bool rf) else if y = Str.ofString "rounds" then some (Value.ref Rl) else if y = Str.ofString "told" then some (Value.ref D3) else if y = Str.ofString "word" then some (Value.str (wordS bs) tw) else m₀ y) s.heap)
    (N : News h₀ L s.heap [(Hl, W.listOf (vals hv).toArray eh), (Ol, W.listOf (vals sv).toArray eo), (D3, W.listOf (vals tv).toArray e3), (Rl, W.listOf (refsOf rs).toArray e2), (Dr, W.listOf (vals rv).toArray er), (cst, ost), (cr, orow)])
    (hcr : orow.data = .cell (some (.ref Dr))) (hcs : ost.data = .cell (some (.int (st : Int) tst))) (hn7 : rv.length ≤ 7) (LF : LawFacts (rv.map (·.1)) (rkeys rs) bs rf st) (htv : tv.map (·.1) = (rkeys rs).flatten) (hG : AllBare s.gens) (hne : (D3 ≠ Dr ∧ Rl ≠ Dr) ∧ cst ≠ Dr ∧ cr ≠ Dr) (hOl : Ol ≠ Dr) (hout : (runOf (rv.map (·.1)) bs).1 = sv.map (·.1)) (hHl : Hl ≠ Dr) (hheld : (runOf (rv.map (·.1)) bs).2.1 = hv.map (·.1))
    (hQ : ∀ s' h₀' m', KtsTurn (outer.filterMap (·.frame)) h₀ h₀' → Fr h₀' L s'.heap m' → s'.os = s.os → AllBare s'.gens → Qf (.ret (.bool true)) s') :
    wpAny (model PySem.Challenge.rw_oh0060_01.row.prog w) (ktrTop dp un gd cn lawScope L a ccd [(Str.ofString "stop", cst), (Str.ofString "row", cr)] outer) (execs (lawBody.drop 10) (envX cn lawScope L a ccd [(Str.ofString "stop", cst), (Str.ofString "row", cr)])) Qf (fun _ _ => False) s := by
  obtain ⟨⟨B, F, X, T, hk, hdp, hu⟩, XB, TB, Dc⟩ := H
  have hrl : (vals rv).length = rv.length := vals_length rv
  have hst : st ≤ rv.length := by simpa using LF.stop.le
  show wpAny _ _ (execs (_ :: _) _) _ _ _
  refine wpAny_execs_cons ?_
  have hEM : ExecMark := trivial
  have hCM : CompMark := trivial
  have hsv14 : sv.length ≤ 14 := by
    have h9 := (run_lens (rv.map (·.1)) LF.len).1
    rw [hout] at h9
    simpa using h9
  have hhv14 : hv.length ≤ 14 := by
    have h9 := (run_lens (rv.map (·.1)) LF.len).2
    rw [hheld] at h9
    simpa using h9
  k_steps
  show wpAny _ _ (call _ [Value.ref _, Value.ref _]) _ _ _
  rename_i De _ l1 Da _ _ hN l2
  have N1 : News h₀ L _ ((De, W.listOf (vals rv).toArray 0) :: (Da, W.listOf (vals sv).toArray 0) :: [(Hl, W.listOf (vals hv).toArray eh), (Ol, W.listOf (vals sv).toArray eo), (D3, W.listOf (vals tv).toArray e3), (Rl, W.listOf (refsOf rs).toArray e2), (Dr, W.listOf (vals rv).toArray er), (cst, ost), (cr, orow)]) := News.sub hN (by rw [List.toList_toArray, List.toList_toArray, pick_all, pick_all]; walk_at "MY sub2")
  have hlo : ∀ b ∈ [Hl, Ol, D3, Rl, Dr, cst, cr], b < De ∧ b < Da := by
    intro b hb
    simp only [List.mem_cons, List.not_mem_nil, or_false] at hb
    obtain ⟨p1, p2, p3, p4, p5, p6, p7⟩ := l1
    obtain ⟨p0, q1, q2, q3, q4, q5, q6, q7⟩ := l2
    rcases hb with rfl | rfl | rfl | rfl | rfl | rfl | rfl
    · exact ⟨p1, q1⟩
    · exact ⟨p2, q2⟩
    · exact ⟨p3, q3⟩
    · exact ⟨p4, q4⟩
    · exact ⟨p5, q5⟩
    · exact ⟨p6, q6⟩
    · exact ⟨p7, q7⟩
  have hDD : @Ne Nat De Da := by omega
  k_dflt (refine diff_K (ev := rv) (av := sv) (rest := [(Hl, W.listOf (vals hv).toArray eh), (Ol, W.listOf (vals sv).toArray eo), (D3, W.listOf (vals tv).toArray e3), (Rl, W.listOf (refsOf rs).toArray e2), (Dr, W.listOf (vals rv).toArray er), (cst, ost), (cr, orow)]) ⟨⟨B, ‹Fr h₀ L _ _›, X, T, hk, by omega, by omega⟩, XB, TB, Dc⟩ N1 hDD ?har (by omega) (by omega) ?_)
  case har =>
    intro q hq hm
    have h9 : q.1 ∈ [Hl, Ol, D3, Rl, Dr, cst, cr] := List.mem_map_of_mem (f := fun q : Addr × Obj => q.1) hq
    have h8 := hlo q.1 h9
    simp only [List.mem_cons, List.not_mem_nil, or_false] at hm
    rcases hm with e | e
    · exact absurd h8.1 (by rw [e]; exact Nat.lt_irrefl _)
    · exact absurd h8.2 (by rw [e]; exact Nat.lt_irrefl _)
  intro h5 tk5 h₁ Tn Ml ms av f1 f2 hT2 hAt N5 hst5
  obtain ⟨⟨B5, F5, X5, T5, -, -, -⟩, -, -, D5⟩ := hAt
  obtain ⟨hav, hms⟩ := diff_spec (st := st) (p := low (rv.map (·.1)) st) (by rw [← hout]; exact LF.outP) (by rw [← hheld]; exact LF.held) hst5
  clear hN B X T Dc l1 l2 hst5
  (try clear N)
  (try clear N1)
  (try clear F)
  (try clear F)
  k_steps
  show Halt _
  exact tailS ⟨⟨B5, ‹Fr h₁ L _ _›, X5, T5, hk, hdp, hu⟩, XB, TB, D5⟩ (News.sub ‹News h₁ L _ _› (by walk_at "MY sub2")) hcr hcs hn7 LF htv hG hne hOl hout hHl hheld hav hms (fun s' h₀' m' a b c d => hQ s' h₀' m' (hT2.trans a) b c d)
end
section
variable {w : World} {mean : ExcName → Option Value} {mg mb : Str → Option Value} {dp un : Nat} {gd : Option (List Code)} {cn : Str} {a : Addr} {ccd : Value} {outer : List Env} {A₀ : Around} {base h₀ : Heap} {L : Addr} {s : Shared}
  {D3 Rl Dr cr cst Ol Hl : Addr} {e3 e2 er eo eh st : Nat} {tv rv sv hv : List (Int × Tok)} {rs : List Rnd} {bs : List Bool} {tw tst : Tok} {rf : Bool} {orow ost : Obj} {m₀ : Str → Option Value} {Qf : Flow → Shared → Prop}
theorem tailR (H : AtT w mean mg mb 40 dp un lawScope A₀ base h₀ outer L (fun y => if y = Str.ofString "held" then some (Value.ref Hl) else if y = Str.ofString "out" then some (Value.ref Ol) else if y = Str.ofString "refused" then some (Value.bool rf) else if y = Str.ofString "rounds" then some (Value.ref Rl) else if y = Str.ofString "told" then some (Value.ref D3) else if y = Str.ofString "word" then some (Value.str (wordS bs) tw) else m₀ y) s.heap)
    (N : News h₀ L s.heap [(Hl, W.listOf (vals hv).toArray eh), (Ol, W.listOf (vals sv).toArray eo), (D3, W.listOf (vals tv).toArray e3), (Rl, W.listOf (refsOf rs).toArray e2), (Dr, W.listOf (vals rv).toArray er), (cst, ost), (cr, orow)])
    (hcr : orow.data = .cell (some (.ref Dr))) (hcs : ost.data = .cell (some (.int (st : Int) tst))) (hn7 : rv.length ≤ 7) (LF : LawFacts (rv.map (·.1)) (rkeys rs) bs rf st) (htv : tv.map (·.1) = (rkeys rs).flatten) (hG : AllBare s.gens) (hne : (D3 ≠ Dr ∧ Rl ≠ Dr) ∧ cst ≠ Dr ∧ cr ≠ Dr) (hOl : Ol ≠ Dr) (hout : (runOf (rv.map (·.1)) bs).1 = sv.map (·.1)) (hHl : Hl ≠ Dr) (hheld : (runOf (rv.map (·.1)) bs).2.1 = hv.map (·.1))
    (hQ : ∀ s' h₀' m', KtsTurn (outer.filterMap (·.frame)) h₀ h₀' → Fr h₀' L s'.heap m' → s'.os = s.os → AllBare s'.gens → Qf (.ret (.bool true)) s') :
    wpAny (model PySem.Challenge.rw_oh0060_01.row.prog w) (ktrTop dp un gd cn lawScope L a ccd [(Str.ofString "stop", cst), (Str.ofString "row", cr)] outer) (execs (lawBody.drop 9) (envX cn lawScope L a ccd [(Str.ofString "stop", cst), (Str.ofString "row", cr)])) Qf (fun _ _ => False) s := by
  obtain ⟨⟨B, F, X, T, hk, hdp, hu⟩, XB, TB, Dc⟩ := H
  have hrl : (vals rv).length = rv.length := vals_length rv
  have hst : st ≤ rv.length := by simpa using LF.stop.le
  show wpAny _ _ (execs (_ :: _) _) _ _ _
  refine wpAny_execs_cons ?_
  have hEM : ExecMark := trivial
  have hCm : CmpMark := trivial
  k_steps
  show wpAny _ _ _ _ _ _
  obtain ⟨⟨n1, n2⟩, n3, n4⟩ := hne
  k_dflt (refine run_K (rest := [(Hl, W.listOf (vals hv).toArray eh), (Ol, W.listOf (vals sv).toArray eo), (D3, W.listOf (vals tv).toArray e3), (Rl, W.listOf (refsOf rs).toArray e2), (cst, ost), (cr, orow)]) ⟨B, F, X, T, hk, by omega, by omega⟩ (News.sub N (by walk_at "MY sub2")) ?har hn7 ?hb (runOk_map (·.1) LF.ok) ?_)
  case har =>
    intro q hq
    simp only [List.mem_cons, List.not_mem_nil, or_false] at hq
    rcases hq with rfl | rfl | rfl | rfl | rfl | rfl <;> assumption
  case hb => exact Nat.le_trans LF.len (by decide)
  intro h1 tk1 Tn Ol2 Hl2 ov2 hv2 f1 f2 tt F1 N1 ho2 hh2 _
  have hrun := run_map (·.1) rv bs
  have ho3 : ov2.map (·.1) = sv.map (·.1) := by rw [← hout, hrun, ho2]; rfl
  have hh3 : hv2.map (·.1) = hv.map (·.1) := by rw [← hheld, hrun, hh2]; rfl
  have ht3 : (((bs.foldl (stepRun rv) ([], [], 0)).2.2 : Nat) : Int) = (st : Int) := by
    have h9 := LF.taken
    rw [hrun] at h9
    exact congrArg Int.ofNat h9
  clear F N
  k_steps
  show Halt _
  show wpAny _ _ (compareOp CmpOp.NotEq (Value.ref Tn) (Value.ref _)) _ _ _
  k_dflt (refine ne_tri ‹News h₀ L _ _› (by walk_at "MY in") (by walk_at "MY in") (by walk_at "MY in") (by walk_at "MY in") (by walk_at "MY in") (by walk_at "MY in") ho3 hh3 ht3 (by units_room) ?_)
  k_steps
  show Halt _
  exact tailC ⟨⟨B, ‹Fr h₀ L _ _›, X, T, hk, hdp, hu⟩, XB, TB, Dc⟩ (News.sub ‹News h₀ L _ _› (by walk_at "MY sub2")) hcr hcs hn7 LF htv hG ⟨⟨n1, n2⟩, n3, n4⟩ hOl hout hHl hheld hQ
end
section
variable {w : World} {mean : ExcName → Option Value} {mg mb : Str → Option Value} {dp un : Nat} {gd : Option (List Code)} {cn : Str} {a : Addr} {ccd : Value} {outer : List Env} {A₀ : Around} {base h₀ : Heap} {L : Addr} {s : Shared}
  {D3 Rl Dr cr cst Ol Hl : Addr} {e3 e2 er eo eh st : Nat} {tv rv sv hv : List (Int × Tok)} {rs : List Rnd} {bs : List Bool} {tw tst : Tok} {rf : Bool} {orow ost : Obj} {m₀ : Str → Option Value} {Qf : Flow → Shared → Prop}
theorem tailB (H : AtT w mean mg mb 40 dp un lawScope A₀ base h₀ outer L (fun y => if y = Str.ofString "held" then some (Value.ref Hl) else if y = Str.ofString "out" then some (Value.ref Ol) else if y = Str.ofString "refused" then some (Value.bool rf) else if y = Str.ofString "rounds" then some (Value.ref Rl) else if y = Str.ofString "told" then some (Value.ref D3) else if y = Str.ofString "word" then some (Value.str (wordS bs) tw) else m₀ y) s.heap)
    (N : News h₀ L s.heap [(Hl, W.listOf (vals hv).toArray eh), (Ol, W.listOf (vals sv).toArray eo), (D3, W.listOf (vals tv).toArray e3), (Rl, W.listOf (refsOf rs).toArray e2), (Dr, W.listOf (vals rv).toArray er), (cst, ost), (cr, orow)])
    (hcr : orow.data = .cell (some (.ref Dr))) (hcs : ost.data = .cell (some (.int (st : Int) tst))) (hn7 : rv.length ≤ 7) (LF : LawFacts (rv.map (·.1)) (rkeys rs) bs rf st) (htv : tv.map (·.1) = (rkeys rs).flatten) (hG : AllBare s.gens) (hne : (D3 ≠ Dr ∧ Rl ≠ Dr) ∧ cst ≠ Dr ∧ cr ≠ Dr) (hOl : Ol ≠ Dr) (hout : (runOf (rv.map (·.1)) bs).1 = sv.map (·.1)) (hHl : Hl ≠ Dr) (hheld : (runOf (rv.map (·.1)) bs).2.1 = hv.map (·.1))
    (hQ : ∀ s' h₀' m', KtsTurn (outer.filterMap (·.frame)) h₀ h₀' → Fr h₀' L s'.heap m' → s'.os = s.os → AllBare s'.gens → Qf (.ret (.bool true)) s') :
    wpAny (model PySem.Challenge.rw_oh0060_01.row.prog w) (ktrTop dp un gd cn lawScope L a ccd [(Str.ofString "stop", cst), (Str.ofString "row", cr)] outer) (execs (lawBody.drop 8) (envX cn lawScope L a ccd [(Str.ofString "stop", cst), (Str.ofString "row", cr)])) Qf (fun _ _ => False) s := by
  obtain ⟨⟨B, F, X, T, hk, hdp, hu⟩, XB, TB, Dc⟩ := H
  have hrl : (vals rv).length = rv.length := vals_length rv
  have hst : st ≤ rv.length := by simpa using LF.stop.le
  show wpAny _ _ (execs (_ :: _) _) _ _ _
  refine wpAny_execs_cons ?_
  have hEM : ExecMark := trivial
  k_steps
  · exfalso
    have h9 := ‹(rf != _) = true›
    rw [LF.refused, hrl] at h9
    simp at h9
  · show Halt _
    exact tailR ⟨⟨B, F, X, T, hk, hdp, hu⟩, XB, TB, Dc⟩ N hcr hcs hn7 LF htv hG hne hOl hout hHl hheld hQ
end
section
variable {w : World} {mean : ExcName → Option Value} {mg mb : Str → Option Value} {dp un : Nat} {gd : Option (List Code)} {cn : Str} {a : Addr} {ccd : Value} {outer : List Env} {A₀ : Around} {base h₀ : Heap} {L : Addr} {s : Shared}
  {D3 Rl Dr cr cst Ol Hl : Addr} {e3 e2 er eo eh st : Nat} {tv rv sv hv : List (Int × Tok)} {rs : List Rnd} {bs : List Bool} {tw tst : Tok} {rf : Bool} {orow ost : Obj} {m₀ : Str → Option Value} {Qf : Flow → Shared → Prop}
theorem tailH (H : AtT w mean mg mb 40 dp un lawScope A₀ base h₀ outer L (fun y => if y = Str.ofString "out" then some (Value.ref Ol) else if y = Str.ofString "refused" then some (Value.bool rf) else if y = Str.ofString "rounds" then some (Value.ref Rl) else if y = Str.ofString "told" then some (Value.ref D3) else if y = Str.ofString "word" then some (Value.str (wordS bs) tw) else m₀ y) s.heap)
    (N : News h₀ L s.heap [(Ol, W.listOf (vals sv).toArray eo), (D3, W.listOf (vals tv).toArray e3), (Rl, W.listOf (refsOf rs).toArray e2), (Dr, W.listOf (vals rv).toArray er), (cst, ost), (cr, orow)])
    (hcr : orow.data = .cell (some (.ref Dr))) (hcs : ost.data = .cell (some (.int (st : Int) tst))) (hn7 : rv.length ≤ 7) (LF : LawFacts (rv.map (·.1)) (rkeys rs) bs rf st) (htv : tv.map (·.1) = (rkeys rs).flatten) (hG : AllBare s.gens) (hne : (D3 ≠ Dr ∧ Rl ≠ Dr) ∧ cst ≠ Dr ∧ cr ≠ Dr) (hOl : Ol ≠ Dr) (hout : (runOf (rv.map (·.1)) bs).1 = sv.map (·.1))
    (hQ : ∀ s' h₀' m', KtsTurn (outer.filterMap (·.frame)) h₀ h₀' → Fr h₀' L s'.heap m' → s'.os = s.os → AllBare s'.gens → Qf (.ret (.bool true)) s') :
    wpAny (model PySem.Challenge.rw_oh0060_01.row.prog w) (ktrTop dp un gd cn lawScope L a ccd [(Str.ofString "stop", cst), (Str.ofString "row", cr)] outer) (execs (lawBody.drop 7) (envX cn lawScope L a ccd [(Str.ofString "stop", cst), (Str.ofString "row", cr)])) Qf (fun _ _ => False) s := by
  obtain ⟨⟨B, F, X, T, hk, hdp, hu⟩, XB, TB, Dc⟩ := H
  have hrl : (vals rv).length = rv.length := vals_length rv
  have hst : st ≤ rv.length := by simpa using LF.stop.le
  show wpAny _ _ (execs (_ :: _) _) _ _ _
  refine wpAny_execs_cons ?_
  have hEM : ExecMark := trivial
  have hCM : CompMark := trivial
  k_dflt (refine assignComp (by with_unfolding_all rfl) (by with_unfolding_all rfl) rfl (by decide) (by intro _; rfl) rfl ?_)
  k_steps
  show wpAny _ _ _ _ _ _
  rename_i Dta _ _ hN hl
  have N1a : News h₀ L _ ((Dta, W.listOf (vals (rv.take st)).toArray 0) :: [(Ol, W.listOf (vals sv).toArray eo), (D3, W.listOf (vals tv).toArray e3), (Rl, W.listOf (refsOf rs).toArray e2), (Dr, W.listOf (vals rv).toArray er), (cst, ost), (cr, orow)]) := News.sub hN (by rw [← pick_to rv st]; walk_at "MY sub2")
  clear hN
  k_dflt (refine src_list (items := vals (rv.take st)) rfl ‹Fr h₀ L _ _› N1a (by walk_at "MY in") ?_)
  intro Ia h1a F1a N2a lIa Wa
  show wpAny _ _ _ _ _ _
  k_dflt (refine comp_open1 (y := Str.ofString "y") F1a N2a (fun _ => rfl) (fun _ => rfl) rfl ?_)
  intro Ca oCa ca Da h2a hoCa F2a N3a hDCa hCca hlta hkeepa halla
  obtain ⟨oI₀a, hoI₀a⟩ := Wa.there
  have hIDa : Ia < Da := halla _ _ hoI₀a
  have offa : LCg.Off3 Ia ca Da ((Ca, oCa) :: (Dta, W.listOf (vals (rv.take st)).toArray 0) :: [(Ol, W.listOf (vals sv).toArray eo), (D3, W.listOf (vals tv).toArray e3), (Rl, W.listOf (refsOf rs).toArray e2), (Dr, W.listOf (vals rv).toArray er), (cst, ost), (cr, orow)]) := LCg.Off3.of fun p hp => by
    rcases List.mem_cons.mp hp with rfl | hp
    · exact ⟨Nat.ne_of_gt (Nat.lt_trans hIDa hDCa), Nat.ne_of_lt hCca, Nat.ne_of_gt hDCa⟩
    · exact ⟨Nat.ne_of_lt (lIa p hp), Nat.ne_of_lt (Nat.lt_trans (hlta p hp) (Nat.lt_trans hDCa hCca)), Nat.ne_of_lt (hlta p hp)⟩
  have N4a : News h₀ L h2a ((ca, cellO none) :: (Da, LCg.lst []) :: (Ca, oCa) :: (Dta, W.listOf (vals (rv.take st)).toArray 0) :: [(Ol, W.listOf (vals sv).toArray eo), (D3, W.listOf (vals tv).toArray e3), (Rl, W.listOf (refsOf rs).toArray e2), (Dr, W.listOf (vals rv).toArray er), (cst, ost), (cr, orow)]) := News.sub N3a (by walk_at "MY sub2")
  (try clear F); (try clear N); clear N1a N2a N3a F1a
  k_dflt (refine one_cell (oC₀ := oCa) rfl rfl rfl (Wa.keeps hkeepa) (Nat.ne_of_lt (Nat.lt_trans hIDa (Nat.lt_trans hDCa hCca))) (Nat.ne_of_lt hIDa) (Nat.ne_of_gt (Nat.lt_trans hDCa hCca)) (fun i ys nw => nw = (Ca, oCa) :: (Dta, W.listOf (vals (rv.take st)).toArray 0) :: [(Ol, W.listOf (vals sv).toArray eo), (D3, W.listOf (vals tv).toArray e3), (Rl, W.listOf (refsOf rs).toArray e2), (Dr, W.listOf (vals rv).toArray er), (cst, ost), (cr, orow)] ∧ ∃ ov, ys = vals ov ∧ ov.map (·.1) = (((rv.map (·.1)).take st).take i).filter (fun y => !low (rv.map (·.1)) st y)) ?hlena ?turna ?donea F2a N4a offa (.tail _ (.head _)) ⟨rfl, [], rfl, by simp⟩)
  case hlena =>
    rintro i ys nw ⟨-, ov, rfl, hov⟩
    have h9 := congrArg List.length hov
    rw [List.length_map] at h9
    rw [vals_length, h9]
    exact Nat.le_trans (List.length_filter_le _ _) (by simp only [List.length_take, List.length_map]; omega)
  case turna =>
    rintro i v ys oI oc nw h3 tk3 E' hi hP hJJ
    refine exp1a2 hJJ fun hqE1 ov hqE2 hov => ?_
    clear hJJ
    subst hqE1
    subst hqE2
    rintro hS hoc F3 N5 off
    obtain ⟨q, hq, rfl⟩ := vals_get hP
    clear F2a N4a
    have hq1 : ((rv.map (·.1)).take st)[i]? = some q.1 := by rw [← List.map_take, List.getElem?_map, hq]; rfl
    have hf1 : ∀ p : Int → Bool, (((rv.map (·.1)).take st).take (i + 1)).filter p = (((rv.map (·.1)).take st).take i).filter p ++ if p q.1 = true then [q.1] else [] := fun p => by
      rw [List.take_add_one, hq1, List.filter_append]
      cases h9 : p q.1 <;> simp [h9]
    refine wpAny_tests_one ?_
    k_steps
    show wpAny _ _ _ _ _ _
    k_dflt (refine evalComp (by with_unfolding_all rfl) (by rfl) (by decide) (by intro _; rfl) rfl ?_)
    k_steps
    show wpAny _ _ _ _ _ _
    rename_i Ds _ _ hN hl
    have N6 : News h₀ L _ ((Ds, W.listOf (vals (rv.drop st)).toArray 0) :: (Ia, oI) :: (ca, oc) :: (Da, LCg.lst (vals ov)) :: (Ca, oCa) :: (Dta, W.listOf (vals (rv.take st)).toArray 0) :: [(Ol, W.listOf (vals sv).toArray eo), (D3, W.listOf (vals tv).toArray e3), (Rl, W.listOf (refsOf rs).toArray e2), (Dr, W.listOf (vals rv).toArray er), (cst, ost), (cr, orow)]) := News.sub hN (by rw [← pick_from rv st]; walk_at "MY sub2")
    clear hN
    k_dflt (refine src_list (items := vals (rv.drop st)) rfl ‹Fr h₀ L _ _› N6 (by walk_at "MY in") ?_)
    intro I2 h4 F4 N7 lI2 W2
    show wpAny _ _ _ _ _ _
    k_dflt (refine comp_open0 F4 N7 (by decide) rfl ?_)
    intro C2 oC2 D2 h5 hoC2 F5 N8 hDC2 hlt2 hkeep2 hall2
    obtain ⟨oI₂, hoI₂⟩ := W2.there
    have hID2 : I2 < D2 := hall2 _ _ hoI₂
    have off2 := comp_off (I := I2) lI2 hlt2 hDC2
    (try clear N5)
    (try clear N6)
    (try clear N7)
    (try clear F3)
    (try clear F4)
    k_dflt (refine one_local rfl rfl (W2.keeps hkeep2) (Nat.ne_of_lt (Nat.lt_trans hID2 hDC2)) (Nat.ne_of_lt hID2) (Nat.ne_of_gt hDC2) (fun b ys nw => nw = (Ds, W.listOf (vals (rv.drop st)).toArray 0) :: (Ia, oI) :: (ca, oc) :: (Da, LCg.lst (vals ov)) :: (Ca, oCa) :: (Dta, W.listOf (vals (rv.take st)).toArray 0) :: [(Ol, W.listOf (vals sv).toArray eo), (D3, W.listOf (vals tv).toArray e3), (Rl, W.listOf (refsOf rs).toArray e2), (Dr, W.listOf (vals rv).toArray er), (cst, ost), (cr, orow)] ∧ ∃ xv, ys = vals xv ∧ (xv.length ≤ b ∧ b ≤ 7) ∧ (xv = [] ↔ (((rv.map (·.1)).drop st).take b).all (fun x => !decide (x < q.1)) = true)) ?hlen2 ?turn2 ?done2 F5 N8 off2 (.head _) hoC2 ⟨rfl, [], rfl, ⟨Nat.zero_le _, Nat.zero_le _⟩, by simp⟩)
    case hlen2 =>
      rintro b ys nw ⟨-, xv, rfl, hxl, -⟩
      rw [vals_length]
      omega
    case turn2 =>
      rintro b v2 ys oI2 oC m₂ nw h6 tk6 E2 hb hP2 hJJ
      refine exp1a3 hJJ fun hqE1 xv hqE2 hxl hxv => ?_
      clear hJJ
      subst hqE1
      subst hqE2
      rintro hS2 hoC hmx F6 N9 off3
      obtain ⟨x, hx, rfl⟩ := vals_get hP2
      have hb7 : b < 7 := by
        rw [vals_length, List.length_drop] at hb
        omega
      (try clear F5)
      (try clear N8)
      have hst2 : (((rv.map (·.1)).drop st).take (b + 1)).all (fun x => !decide (x < q.1)) = ((((rv.map (·.1)).drop st).take b).all (fun x => !decide (x < q.1)) && !decide (x.1 < q.1)) := by
        have h9 : ((rv.map (·.1)).drop st)[b]? = some x.1 := by rw [← List.map_drop, List.getElem?_map, hx]; rfl
        rw [List.take_add_one, h9, List.all_append]
        simp
      refine wpAny_tests_one ?_
      k_steps
      rcases Decidable.em (x.1 < q.1) with c1 | c1
      · refine WhlIf.yes (decide_eq_true c1) ?_
        k_steps
        show Halt _
        refine ⟨_, _, (Ds, W.listOf (vals (rv.drop st)).toArray 0) :: (Ia, oI) :: (ca, oc) :: (Da, LCg.lst (vals ov)) :: (Ca, oCa) :: (Dta, W.listOf (vals (rv.take st)).toArray 0) :: [(Ol, W.listOf (vals sv).toArray eo), (D3, W.listOf (vals tv).toArray e3), (Rl, W.listOf (refsOf rs).toArray e2), (Dr, W.listOf (vals rv).toArray er), (cst, ost), (cr, orow)], rfl, ‹Fr h₀ L _ _›, News.sub ‹News h₀ L _ _› (by walk_at "MY sub2"), off3, .head _, rfl, ?_⟩
        exact one_more xv x hxl.1 hb7 _ (by rw [hst2]; simp [c1])
      · refine WhlIf.no (decide_eq_false c1) ?_
        show Halt _
        refine ⟨_, _, (Ds, W.listOf (vals (rv.drop st)).toArray 0) :: (Ia, oI) :: (ca, oc) :: (Da, LCg.lst (vals ov)) :: (Ca, oCa) :: (Dta, W.listOf (vals (rv.take st)).toArray 0) :: [(Ol, W.listOf (vals sv).toArray eo), (D3, W.listOf (vals tv).toArray e3), (Rl, W.listOf (refsOf rs).toArray e2), (Dr, W.listOf (vals rv).toArray er), (cst, ost), (cr, orow)], rfl, ‹Fr h₀ L _ _›, News.sub ‹News h₀ L _ _› (by walk_at "MY sub2"), off3, .head _, rfl, ?_⟩
        exact ⟨xv, rfl, ⟨by omega, by omega⟩, by rw [hst2]; simpa [c1] using hxv⟩
    case done2 =>
      rintro ys oC mC nw h6 tk6 hJJ
      refine exp1a3 hJJ fun hqE1 xv hqE2 hxl hxv => ?_
      clear hJJ
      subst hqE1
      subst hqE2
      rintro hC F6 N9 off3
      rw [vals_length, List.take_of_length_le (by simp)] at hxv
      k_dflt (refine post_none F6 N9 hC (Nat.ne_of_gt hDC2) (fun p hp => (off3.mem p hp).2.1) ?_)
      intro h7 F7 N10
      have N11 : News h₀ L h7 ((D2, W.listOf (vals xv).toArray (vals xv).length) :: (Ia, oI) :: (ca, oc) :: (Da, LCg.lst (vals ov)) :: (Ca, oCa) :: (Dta, W.listOf (vals (rv.take st)).toArray 0) :: [(Ol, W.listOf (vals sv).toArray eo), (D3, W.listOf (vals tv).toArray e3), (Rl, W.listOf (refsOf rs).toArray e2), (Dr, W.listOf (vals rv).toArray er), (cst, ost), (cr, orow)]) := News.sub N10 (by walk_at "MY sub2")
      have hIx := vals_ints xv
      (try clear F5)
      (try clear N8)
      (try clear N9)
      (try clear N10)
      (try clear F6)
      have hxv' : xv = [] ↔ low (rv.map (·.1)) st q.1 = true := hxv
      cases hp : low (rv.map (·.1)) st q.1 with
      | true =>
        have hx0 : xv = [] := hxv'.mpr hp
        have hb2 : (!decide (List.map (fun x => x.fst) xv = [])) = false := by simp [hx0]
        k_steps
        show Halt _
        refine ⟨_, _, (Ca, oCa) :: (Dta, W.listOf (vals (rv.take st)).toArray 0) :: [(Ol, W.listOf (vals sv).toArray eo), (D3, W.listOf (vals tv).toArray e3), (Rl, W.listOf (refsOf rs).toArray e2), (Dr, W.listOf (vals rv).toArray er), (cst, ost), (cr, orow)], rfl, ‹Fr h₀ L _ _›, News.sub ‹News h₀ L _ _› (by walk_at "MY sub2"), off, hS, rfl, ?_⟩
        exact ⟨ov, rfl, by rw [hf1, hov]; simp [hp]⟩
      | false =>
        have hx0 : xv ≠ [] := fun e => by rw [hxv'.mp e] at hp; cases hp
        have hb2 : (!decide (List.map (fun x => x.fst) xv = [])) = true := by simp [hx0]
        k_steps
        show Halt _
        refine ⟨_, _, (Ca, oCa) :: (Dta, W.listOf (vals (rv.take st)).toArray 0) :: [(Ol, W.listOf (vals sv).toArray eo), (D3, W.listOf (vals tv).toArray e3), (Rl, W.listOf (refsOf rs).toArray e2), (Dr, W.listOf (vals rv).toArray er), (cst, ost), (cr, orow)], rfl, ‹Fr h₀ L _ _›, News.sub ‹News h₀ L _ _› (by walk_at "MY sub2"), off, hS, rfl, ?_⟩
        exact gv_in ov q.1 q.2 _ (by rw [hf1, hov]; simp [hp])
  case donea =>
    rintro ys oc nw h3 tk3 hJJ
    refine exp1a2 hJJ fun hqE1 ov hqE2 hov => ?_
    clear hJJ
    subst hqE1
    subst hqE2
    rintro F3 N5 off
    rw [vals_length, List.take_of_length_le (by simp)] at hov
    have N6 : News h₀ L h3 ((Ca, oCa) :: (Da, LCg.lst (vals ov)) :: [(Ol, W.listOf (vals sv).toArray eo), (D3, W.listOf (vals tv).toArray e3), (Rl, W.listOf (refsOf rs).toArray e2), (Dr, W.listOf (vals rv).toArray er), (cst, ost), (cr, orow)]) := News.sub N5 (by walk_at "MY sub2")
    have hoff9 : ∀ p ∈ [(Ol, W.listOf (vals sv).toArray eo), (D3, W.listOf (vals tv).toArray e3), (Rl, W.listOf (refsOf rs).toArray e2), (Dr, W.listOf (vals rv).toArray er), (cst, ost), (cr, orow)], p.1 ≠ Ca := fun p hp => Nat.ne_of_lt (Nat.lt_trans (hlta p (.tail _ hp)) hDCa)
    clear F2a N4a
    (try clear N5)
    k_dflt (refine post_assign rfl rfl rfl F3 N6 hoCa (Nat.ne_of_gt hDCa) hoff9 ?_)
    intro h4 tk4 F4 N7
    have N8 : News h₀ L h4 ((Da, W.listOf (vals ov).toArray (vals ov).length) :: [(Ol, W.listOf (vals sv).toArray eo), (D3, W.listOf (vals tv).toArray e3), (Rl, W.listOf (refsOf rs).toArray e2), (Dr, W.listOf (vals rv).toArray er), (cst, ost), (cr, orow)]) := N7
    (try clear N6)
    (try clear N7)
    (try clear F3)
    k_steps
    show Halt _
    exact tailB ⟨⟨B, ‹Fr h₀ L _ _›, X, T, hk, hdp, hu⟩, XB, TB, Dc⟩ (News.sub ‹News h₀ L _ _› (by walk_at "MY sub2")) hcr hcs hn7 LF htv hG hne hOl hout (Nat.ne_of_gt (hlta _ (.tail _ (.tail _ (.tail _ (.tail _ (.head _))))))) (LF.held.trans hov.symm) hQ

end
section
variable {w : World} {mean : ExcName → Option Value} {mg mb : Str → Option Value} {dp un : Nat} {gd : Option (List Code)} {cn : Str} {a : Addr} {ccd : Value} {outer : List Env} {A₀ : Around} {base h₀ : Heap} {L : Addr} {s : Shared}
  {D3 Rl Dr cr cst Ol Hl : Addr} {e3 e2 er eo eh st : Nat} {tv rv sv hv : List (Int × Tok)} {rs : List Rnd} {bs : List Bool} {tw tst : Tok} {rf : Bool} {orow ost : Obj} {m₀ : Str → Option Value} {Qf : Flow → Shared → Prop}
theorem tailA (H : AtT w mean mg mb 40 dp un lawScope A₀ base h₀ outer L (fun y => if y = Str.ofString "refused" then some (Value.bool rf) else if y = Str.ofString "rounds" then some (Value.ref Rl) else if y = Str.ofString "told" then some (Value.ref D3) else if y = Str.ofString "word" then some (Value.str (wordS bs) tw) else m₀ y) s.heap)
    (N : News h₀ L s.heap [(D3, W.listOf (vals tv).toArray e3), (Rl, W.listOf (refsOf rs).toArray e2), (Dr, W.listOf (vals rv).toArray er), (cst, ost), (cr, orow)])
    (hcr : orow.data = .cell (some (.ref Dr))) (hcs : ost.data = .cell (some (.int (st : Int) tst))) (hn7 : rv.length ≤ 7) (LF : LawFacts (rv.map (·.1)) (rkeys rs) bs rf st) (htv : tv.map (·.1) = (rkeys rs).flatten) (hG : AllBare s.gens) (hne : (D3 ≠ Dr ∧ Rl ≠ Dr) ∧ cst ≠ Dr ∧ cr ≠ Dr)
    (hQ : ∀ s' h₀' m', KtsTurn (outer.filterMap (·.frame)) h₀ h₀' → Fr h₀' L s'.heap m' → s'.os = s.os → AllBare s'.gens → Qf (.ret (.bool true)) s') :
    wpAny (model PySem.Challenge.rw_oh0060_01.row.prog w) (ktrTop dp un gd cn lawScope L a ccd [(Str.ofString "stop", cst), (Str.ofString "row", cr)] outer) (execs (lawBody.drop 6) (envX cn lawScope L a ccd [(Str.ofString "stop", cst), (Str.ofString "row", cr)])) Qf (fun _ _ => False) s := by
  obtain ⟨⟨B, F, X, T, hk, hdp, hu⟩, XB, TB, Dc⟩ := H
  have hrl : (vals rv).length = rv.length := vals_length rv
  have hst : st ≤ rv.length := by simpa using LF.stop.le
  show wpAny _ _ (execs (_ :: _) _) _ _ _
  refine wpAny_execs_cons ?_
  have hEM : ExecMark := trivial
  have hCM : CompMark := trivial
  k_steps
  show wpAny _ _ _ _ _ _
  k_dflt (refine evalComp (by with_unfolding_all rfl) (by rfl) (by decide) (by intro _; rfl) rfl ?_)
  k_steps
  show wpAny _ _ _ _ _ _
  rename_i Dta _ _ hN hl
  have N1a : News h₀ L _ ((Dta, W.listOf (vals (rv.take st)).toArray 0) :: [(D3, W.listOf (vals tv).toArray e3), (Rl, W.listOf (refsOf rs).toArray e2), (Dr, W.listOf (vals rv).toArray er), (cst, ost), (cr, orow)]) := News.sub hN (by rw [← pick_to rv st]; walk_at "MY sub2")
  clear hN
  k_dflt (refine src_list (items := vals (rv.take st)) rfl ‹Fr h₀ L _ _› N1a (by walk_at "MY in") ?_)
  intro Ia h1a F1a N2a lIa Wa
  show wpAny _ _ _ _ _ _
  k_dflt (refine comp_open1 (y := Str.ofString "y") F1a N2a (fun _ => rfl) (fun _ => rfl) rfl ?_)
  intro Ca oCa ca Da h2a hoCa F2a N3a hDCa hCca hlta hkeepa halla
  obtain ⟨oI₀a, hoI₀a⟩ := Wa.there
  have hIDa : Ia < Da := halla _ _ hoI₀a
  have offa : LCg.Off3 Ia ca Da ((Ca, oCa) :: (Dta, W.listOf (vals (rv.take st)).toArray 0) :: [(D3, W.listOf (vals tv).toArray e3), (Rl, W.listOf (refsOf rs).toArray e2), (Dr, W.listOf (vals rv).toArray er), (cst, ost), (cr, orow)]) := LCg.Off3.of fun p hp => by
    rcases List.mem_cons.mp hp with rfl | hp
    · exact ⟨Nat.ne_of_gt (Nat.lt_trans hIDa hDCa), Nat.ne_of_lt hCca, Nat.ne_of_gt hDCa⟩
    · exact ⟨Nat.ne_of_lt (lIa p hp), Nat.ne_of_lt (Nat.lt_trans (hlta p hp) (Nat.lt_trans hDCa hCca)), Nat.ne_of_lt (hlta p hp)⟩
  have N4a : News h₀ L h2a ((ca, cellO none) :: (Da, LCg.lst []) :: (Ca, oCa) :: (Dta, W.listOf (vals (rv.take st)).toArray 0) :: [(D3, W.listOf (vals tv).toArray e3), (Rl, W.listOf (refsOf rs).toArray e2), (Dr, W.listOf (vals rv).toArray er), (cst, ost), (cr, orow)]) := News.sub N3a (by walk_at "MY sub2")
  (try clear F); (try clear N); clear N1a N2a N3a F1a
  k_dflt (refine one_cell (oC₀ := oCa) rfl rfl rfl (Wa.keeps hkeepa) (Nat.ne_of_lt (Nat.lt_trans hIDa (Nat.lt_trans hDCa hCca))) (Nat.ne_of_lt hIDa) (Nat.ne_of_gt (Nat.lt_trans hDCa hCca)) (fun i ys nw => nw = (Ca, oCa) :: (Dta, W.listOf (vals (rv.take st)).toArray 0) :: [(D3, W.listOf (vals tv).toArray e3), (Rl, W.listOf (refsOf rs).toArray e2), (Dr, W.listOf (vals rv).toArray er), (cst, ost), (cr, orow)] ∧ ∃ ov, ys = vals ov ∧ ov.map (·.1) = (((rv.map (·.1)).take st).take i).filter (low (rv.map (·.1)) st)) ?hlena ?turna ?donea F2a N4a offa (.tail _ (.head _)) ⟨rfl, [], rfl, by simp⟩)
  case hlena =>
    rintro i ys nw ⟨-, ov, rfl, hov⟩
    have h9 := congrArg List.length hov
    rw [List.length_map] at h9
    rw [vals_length, h9]
    exact Nat.le_trans (List.length_filter_le _ _) (by simp only [List.length_take, List.length_map]; omega)
  case turna =>
    rintro i v ys oI oc nw h3 tk3 E' hi hP hJJ
    refine exp1a2 hJJ fun hqE1 ov hqE2 hov => ?_
    clear hJJ
    subst hqE1
    subst hqE2
    rintro hS hoc F3 N5 off
    obtain ⟨q, hq, rfl⟩ := vals_get hP
    clear F2a N4a
    have hq1 : ((rv.map (·.1)).take st)[i]? = some q.1 := by rw [← List.map_take, List.getElem?_map, hq]; rfl
    have hf1 : ∀ p : Int → Bool, (((rv.map (·.1)).take st).take (i + 1)).filter p = (((rv.map (·.1)).take st).take i).filter p ++ if p q.1 = true then [q.1] else [] := fun p => by
      rw [List.take_add_one, hq1, List.filter_append]
      cases h9 : p q.1 <;> simp [h9]
    refine wpAny_tests_one ?_
    k_steps
    show wpAny _ _ _ _ _ _
    k_dflt (refine evalComp (by with_unfolding_all rfl) (by rfl) (by decide) (by intro _; rfl) rfl ?_)
    k_steps
    show wpAny _ _ _ _ _ _
    rename_i Ds _ _ hN hl
    have N6 : News h₀ L _ ((Ds, W.listOf (vals (rv.drop st)).toArray 0) :: (Ia, oI) :: (ca, oc) :: (Da, LCg.lst (vals ov)) :: (Ca, oCa) :: (Dta, W.listOf (vals (rv.take st)).toArray 0) :: [(D3, W.listOf (vals tv).toArray e3), (Rl, W.listOf (refsOf rs).toArray e2), (Dr, W.listOf (vals rv).toArray er), (cst, ost), (cr, orow)]) := News.sub hN (by rw [← pick_from rv st]; walk_at "MY sub2")
    clear hN
    k_dflt (refine src_list (items := vals (rv.drop st)) rfl ‹Fr h₀ L _ _› N6 (by walk_at "MY in") ?_)
    intro I2 h4 F4 N7 lI2 W2
    show wpAny _ _ _ _ _ _
    k_dflt (refine comp_open0 F4 N7 (by decide) rfl ?_)
    intro C2 oC2 D2 h5 hoC2 F5 N8 hDC2 hlt2 hkeep2 hall2
    obtain ⟨oI₂, hoI₂⟩ := W2.there
    have hID2 : I2 < D2 := hall2 _ _ hoI₂
    have off2 := comp_off (I := I2) lI2 hlt2 hDC2
    (try clear N5)
    (try clear N6)
    (try clear N7)
    (try clear F3)
    (try clear F4)
    k_dflt (refine one_local rfl rfl (W2.keeps hkeep2) (Nat.ne_of_lt (Nat.lt_trans hID2 hDC2)) (Nat.ne_of_lt hID2) (Nat.ne_of_gt hDC2) (fun b ys nw => nw = (Ds, W.listOf (vals (rv.drop st)).toArray 0) :: (Ia, oI) :: (ca, oc) :: (Da, LCg.lst (vals ov)) :: (Ca, oCa) :: (Dta, W.listOf (vals (rv.take st)).toArray 0) :: [(D3, W.listOf (vals tv).toArray e3), (Rl, W.listOf (refsOf rs).toArray e2), (Dr, W.listOf (vals rv).toArray er), (cst, ost), (cr, orow)] ∧ ∃ xv, ys = vals xv ∧ (xv.length ≤ b ∧ b ≤ 7) ∧ (xv = [] ↔ (((rv.map (·.1)).drop st).take b).all (fun x => !decide (x < q.1)) = true)) ?hlen2 ?turn2 ?done2 F5 N8 off2 (.head _) hoC2 ⟨rfl, [], rfl, ⟨Nat.zero_le _, Nat.zero_le _⟩, by simp⟩)
    case hlen2 =>
      rintro b ys nw ⟨-, xv, rfl, hxl, -⟩
      rw [vals_length]
      omega
    case turn2 =>
      rintro b v2 ys oI2 oC m₂ nw h6 tk6 E2 hb hP2 hJJ
      refine exp1a3 hJJ fun hqE1 xv hqE2 hxl hxv => ?_
      clear hJJ
      subst hqE1
      subst hqE2
      rintro hS2 hoC hmx F6 N9 off3
      obtain ⟨x, hx, rfl⟩ := vals_get hP2
      have hb7 : b < 7 := by
        rw [vals_length, List.length_drop] at hb
        omega
      (try clear F5)
      (try clear N8)
      have hst2 : (((rv.map (·.1)).drop st).take (b + 1)).all (fun x => !decide (x < q.1)) = ((((rv.map (·.1)).drop st).take b).all (fun x => !decide (x < q.1)) && !decide (x.1 < q.1)) := by
        have h9 : ((rv.map (·.1)).drop st)[b]? = some x.1 := by rw [← List.map_drop, List.getElem?_map, hx]; rfl
        rw [List.take_add_one, h9, List.all_append]
        simp
      refine wpAny_tests_one ?_
      k_steps
      rcases Decidable.em (x.1 < q.1) with c1 | c1
      · refine WhlIf.yes (decide_eq_true c1) ?_
        k_steps
        show Halt _
        refine ⟨_, _, (Ds, W.listOf (vals (rv.drop st)).toArray 0) :: (Ia, oI) :: (ca, oc) :: (Da, LCg.lst (vals ov)) :: (Ca, oCa) :: (Dta, W.listOf (vals (rv.take st)).toArray 0) :: [(D3, W.listOf (vals tv).toArray e3), (Rl, W.listOf (refsOf rs).toArray e2), (Dr, W.listOf (vals rv).toArray er), (cst, ost), (cr, orow)], rfl, ‹Fr h₀ L _ _›, News.sub ‹News h₀ L _ _› (by walk_at "MY sub2"), off3, .head _, rfl, ?_⟩
        exact one_more xv x hxl.1 hb7 _ (by rw [hst2]; simp [c1])
      · refine WhlIf.no (decide_eq_false c1) ?_
        show Halt _
        refine ⟨_, _, (Ds, W.listOf (vals (rv.drop st)).toArray 0) :: (Ia, oI) :: (ca, oc) :: (Da, LCg.lst (vals ov)) :: (Ca, oCa) :: (Dta, W.listOf (vals (rv.take st)).toArray 0) :: [(D3, W.listOf (vals tv).toArray e3), (Rl, W.listOf (refsOf rs).toArray e2), (Dr, W.listOf (vals rv).toArray er), (cst, ost), (cr, orow)], rfl, ‹Fr h₀ L _ _›, News.sub ‹News h₀ L _ _› (by walk_at "MY sub2"), off3, .head _, rfl, ?_⟩
        exact ⟨xv, rfl, ⟨by omega, by omega⟩, by rw [hst2]; simpa [c1] using hxv⟩
    case done2 =>
      rintro ys oC mC nw h6 tk6 hJJ
      refine exp1a3 hJJ fun hqE1 xv hqE2 hxl hxv => ?_
      clear hJJ
      subst hqE1
      subst hqE2
      rintro hC F6 N9 off3
      rw [vals_length, List.take_of_length_le (by simp)] at hxv
      k_dflt (refine post_none F6 N9 hC (Nat.ne_of_gt hDC2) (fun p hp => (off3.mem p hp).2.1) ?_)
      intro h7 F7 N10
      have N11 : News h₀ L h7 ((D2, W.listOf (vals xv).toArray (vals xv).length) :: (Ia, oI) :: (ca, oc) :: (Da, LCg.lst (vals ov)) :: (Ca, oCa) :: (Dta, W.listOf (vals (rv.take st)).toArray 0) :: [(D3, W.listOf (vals tv).toArray e3), (Rl, W.listOf (refsOf rs).toArray e2), (Dr, W.listOf (vals rv).toArray er), (cst, ost), (cr, orow)]) := News.sub N10 (by walk_at "MY sub2")
      have hIx := vals_ints xv
      (try clear F5)
      (try clear N8)
      (try clear N9)
      (try clear N10)
      (try clear F6)
      have hxv' : xv = [] ↔ low (rv.map (·.1)) st q.1 = true := hxv
      cases hp : low (rv.map (·.1)) st q.1 with
      | true =>
        have hx0 : xv = [] := hxv'.mpr hp
        have hb2 : (decide (List.map (fun x => x.fst) xv = [])) = true := by simp [hx0]
        k_steps
        show Halt _
        refine ⟨_, _, (Ca, oCa) :: (Dta, W.listOf (vals (rv.take st)).toArray 0) :: [(D3, W.listOf (vals tv).toArray e3), (Rl, W.listOf (refsOf rs).toArray e2), (Dr, W.listOf (vals rv).toArray er), (cst, ost), (cr, orow)], rfl, ‹Fr h₀ L _ _›, News.sub ‹News h₀ L _ _› (by walk_at "MY sub2"), off, hS, rfl, ?_⟩
        exact gv_in ov q.1 q.2 _ (by rw [hf1, hov]; simp [hp])
      | false =>
        have hx0 : xv ≠ [] := fun e => by rw [hxv'.mp e] at hp; cases hp
        have hb2 : (decide (List.map (fun x => x.fst) xv = [])) = false := by simp [hx0]
        k_steps
        show Halt _
        refine ⟨_, _, (Ca, oCa) :: (Dta, W.listOf (vals (rv.take st)).toArray 0) :: [(D3, W.listOf (vals tv).toArray e3), (Rl, W.listOf (refsOf rs).toArray e2), (Dr, W.listOf (vals rv).toArray er), (cst, ost), (cr, orow)], rfl, ‹Fr h₀ L _ _›, News.sub ‹News h₀ L _ _› (by walk_at "MY sub2"), off, hS, rfl, ?_⟩
        exact ⟨ov, rfl, by rw [hf1, hov]; simp [hp]⟩
  case donea =>
    rintro ys oc nw h3 tk3 hJJ
    refine exp1a2 hJJ fun hqE1 ov hqE2 hov => ?_
    clear hJJ
    subst hqE1
    subst hqE2
    rintro F3 N5 off
    rw [vals_length, List.take_of_length_le (by simp)] at hov
    have N6 : News h₀ L h3 ((Ca, oCa) :: (Da, LCg.lst (vals ov)) :: [(D3, W.listOf (vals tv).toArray e3), (Rl, W.listOf (refsOf rs).toArray e2), (Dr, W.listOf (vals rv).toArray er), (cst, ost), (cr, orow)]) := News.sub N5 (by walk_at "MY sub2")
    have hoff9 : ∀ p ∈ [(D3, W.listOf (vals tv).toArray e3), (Rl, W.listOf (refsOf rs).toArray e2), (Dr, W.listOf (vals rv).toArray er), (cst, ost), (cr, orow)], p.1 ≠ Ca := fun p hp => Nat.ne_of_lt (Nat.lt_trans (hlta p (.tail _ hp)) hDCa)
    clear F2a N4a
    (try clear N5)
    k_dflt (refine post_none F3 N6 hoCa (Nat.ne_of_gt hDCa) hoff9 ?_)
    intro h4 F4 N7
    have N8 : News h₀ L h4 ((Da, W.listOf (vals ov).toArray (vals ov).length) :: [(D3, W.listOf (vals tv).toArray e3), (Rl, W.listOf (refsOf rs).toArray e2), (Dr, W.listOf (vals rv).toArray er), (cst, ost), (cr, orow)]) := N7
    (try clear N6)
    (try clear N7)
    (try clear F3)
    k_steps
    show wpAny _ _ (call (Value.builtin "sorted") [Value.ref Da]) _ _ _
    k_dflt (refine kso_sorted ‹Fr h₀ L _ _› ‹News h₀ L _ _› (News.isList ‹News h₀ L _ _› (.head _)) (vals_ints ov) ?hol ?_)
    case hol =>
      rw [hov]
      exact Nat.lt_of_le_of_lt (List.length_filter_le _ _) (by simp only [List.length_take, List.length_map]; omega)
    intro Ol vs' ns' eo h5 F5 N9 lOl hns' _ hperm hsort _
    obtain ⟨sv, rfl, rfl⟩ := ints_vals hns'
    rw [hov] at hperm
    have N10 : News h₀ L h5 ((Ol, W.listOf (vals sv).toArray eo) :: [(D3, W.listOf (vals tv).toArray e3), (Rl, W.listOf (refsOf rs).toArray e2), (Dr, W.listOf (vals rv).toArray er), (cst, ost), (cr, orow)]) := News.sub N9 (by walk_at "MY sub2")
    (try clear N8)
    (try clear N9)
    (try clear F4)
    k_steps
    show Halt _
    exact tailH ⟨⟨B, ‹Fr h₀ L _ _›, X, T, hk, hdp, hu⟩, XB, TB, Dc⟩ (News.sub ‹News h₀ L _ _› (by walk_at "MY sub2")) hcr hcs hn7 LF htv hG hne (Nat.ne_of_gt (lOl _ (.tail _ (.tail _ (.tail _ (.head _)))))) (sorted_eq LF.outS hsort (LF.outP.trans hperm.symm)) hQ

end
section
variable {w : World} {mean : ExcName → Option Value} {mg mb : Str → Option Value} {dp un : Nat} {gd : Option (List Code)} {cn : Str} {a : Addr} {ccd : Value} {outer : List Env} {A₀ : Around} {base h₀ : Heap} {L : Addr} {s : Shared}
  {Dg D3 Rl Dr cr cst : Addr} {eg e3 e2 er st : Nat} {gv tv rv : List (Int × Tok)} {rs : List Rnd} {bs : List Bool} {tw : Tok} {rf : Bool} {orow ost : Obj} {m₀ : Str → Option Value} {Qf : Flow → Shared → Prop}
theorem tail0 (H : AtT w mean mg mb 40 dp un lawScope A₀ base h₀ outer L (fun y => if y = Str.ofString "greater" then some (Value.ref Dg) else if y = Str.ofString "refused" then some (Value.bool rf) else if y = Str.ofString "rounds" then some (Value.ref Rl) else if y = Str.ofString "told" then some (Value.ref D3) else if y = Str.ofString "word" then some (Value.str (wordS bs) tw) else m₀ y) s.heap)
    (N : News h₀ L s.heap [(Dg, W.listOf (vals gv).toArray eg), (D3, W.listOf (vals tv).toArray e3), (Rl, W.listOf (refsOf rs).toArray e2), (Dr, W.listOf (vals rv).toArray er), (cst, ost), (cr, orow)])
    (hcr : orow.data = .cell (some (.ref Dr))) (hcs : ost.data = .cell none) (hne : (D3 ≠ cst ∧ Rl ≠ cst) ∧ Dr ≠ cst ∧ cr ≠ cst) (hne2 : (D3 ≠ Dr ∧ Rl ≠ Dr) ∧ cst ≠ Dr ∧ cr ≠ Dr) (hn7 : rv.length ≤ 7) (hgv : gv.map (·.1) = ((List.range (rv.map (·.1)).length).filter (patB (rv.map (·.1)))).map fun k : Nat => (k : Int)) (LF : LawFacts (rv.map (·.1)) (rkeys rs) bs rf st) (htv : tv.map (·.1) = (rkeys rs).flatten) (hG : AllBare s.gens)
    (hQ : ∀ s' h₀' m', KtsTurn (outer.filterMap (·.frame)) h₀ h₀' → Fr h₀' L s'.heap m' → s'.os = s.os → AllBare s'.gens → Qf (.ret (.bool true)) s') :
    wpAny (model PySem.Challenge.rw_oh0060_01.row.prog w) (ktrTop dp un gd cn lawScope L a ccd [(Str.ofString "stop", cst), (Str.ofString "row", cr)] outer) (execs (lawBody.drop 5) (envX cn lawScope L a ccd [(Str.ofString "stop", cst), (Str.ofString "row", cr)])) Qf (fun _ _ => False) s := by
  obtain ⟨⟨B, F, X, T, hk, hdp, hu⟩, XB, TB, Dc⟩ := H
  have hCM : CompMark := trivial
  have hrl : (vals rv).length = rv.length := vals_length rv
  have hgl : gv.length ≤ 7 := by
    have h1 := congrArg List.length hgv
    simp only [List.length_map] at h1
    have h2 := List.length_filter_le (patB (rv.map (·.1))) (List.range (rv.map (·.1)).length)
    simp only [List.length_range, List.length_map] at h2
    omega
  show wpAny _ _ (execs (_ :: _) _) _ _ _
  refine wpAny_execs_cons ?_
  have hEM : ExecMark := trivial
  k_steps
  show wpAny _ _ (call _ [Value.ref _]) _ _ _
  rename_i D' h' F' N' l1
  obtain ⟨t0, N1⟩ : ∃ t0, News h₀ L h' ((D', W.listOf (vals (gv ++ [((rv.length : Int), t0)])).toArray 0) :: [(D3, W.listOf (vals tv).toArray e3), (Rl, W.listOf (refsOf rs).toArray e2), (Dr, W.listOf (vals rv).toArray er), (cst, ost), (cr, orow)]) := ⟨_, News.sub N' (by rw [vals_snoc, ← hrl]; simp only [List.toList_toArray]; walk_at "MY sub2")⟩
  k_dflt (refine kso_min F' N1 (News.isList N1 (.head _)) (vals_ints _) (by simp) rfl ?_)
  intro h1 M t tk F2 N2 hM hmin
  have hMst : M = (st : Int) := by
    rw [List.map_append] at hM hmin
    exact LF.stop.of_min hgv (by simpa using hM) (by simpa using hmin)
  subst hMst
  have N3 : News h₀ L h1 ((cst, ost) :: [(D3, W.listOf (vals tv).toArray e3), (Rl, W.listOf (refsOf rs).toArray e2), (Dr, W.listOf (vals rv).toArray er), (cr, orow)]) := News.sub N2 (by walk_at "MY sub2")
  obtain ⟨⟨n1, n2⟩, n3, n4⟩ := hne
  clear N' F' l1
  (try clear N1)
  (try clear N2)
  try clear N
  try clear F
  k_steps
  show Halt _
  have F5 := fr_over (Str.ofString "refused") (fr_over (Str.ofString "rounds") (fr_over (Str.ofString "told") (fr_over (Str.ofString "word") ‹Fr h₀ L _ _› (by with_unfolding_all rfl)) (by with_unfolding_all rfl)) (by with_unfolding_all rfl)) (by with_unfolding_all rfl)
  have hd5 := ‹_ = Data.cell (some (Value.int (st : Int) _))›
  exact tailA ⟨⟨B, F5, X, T, hk, hdp, hu⟩, XB, TB, Dc⟩ (News.sub ‹News h₀ L _ _› (by walk_at "MY sub2")) hcr hd5 hn7 LF htv hG hne2 hQ
end
-- plain
theorem flat_keys (rs : List Rnd) : (rkeys rs).flatten = (rs.flatMap (·.2)).map (·.1) := by
  induction rs with
  | nil => rfl
  | cons r rs ih => simp only [rkeys, List.map_cons, List.flatten_cons, List.flatMap_cons, List.map_append] at ih ⊢; rw [ih]
theorem flat_take (rs : List Rnd) (i : Nat) : ((rs.take i).flatMap (·.2)).length ≤ (rs.flatMap (·.2)).length := by
  have e : rs.flatMap (·.2) = (rs.take i).flatMap (·.2) ++ (rs.drop i).flatMap (·.2) := by rw [← List.flatMap_append, List.take_append_drop]
  rw [e, List.length_append]
  omega
theorem flat_next {rs : List Rnd} {i : Nat} {r : Rnd} (h : rs[i]? = some r) : ((rs.take i).flatMap (·.2)).length + r.2.length ≤ (rs.flatMap (·.2)).length := by
  have := flat_take rs (i + 1)
  rw [List.take_add_one, h, List.flatMap_append] at this
  simpa using this
theorem flat_len {ns : List Int} (hn : ns.length ≤ 7) {rs : List Rnd} {g' : Gr} (ri : RI (buildG ns) (rkeys rs).flatten (g', [])) : (rs.flatMap (·.2)).length ≤ 14 := by
  have h1 := ri.len
  have h2 := build_len ns hn
  rw [flat_keys] at h1
  simp only [List.length_map, List.length_nil] at h1
  omega
theorem isIn_even (k : Nat) : isIn (2 * (k : Int)) = true := by
  unfold isIn
  rw [Int.fmod_eq_emod_of_nonneg _ (by decide)]
  exact decide_eq_true (by omega)
theorem isIn_odd (k : Nat) : isIn (2 * (k : Int) + 1) = false := by
  unfold isIn
  rw [Int.fmod_eq_emod_of_nonneg _ (by decide)]
  exact decide_eq_false (by omega)
noncomputable def outIx (p : Int) : Option Nat := if isIn p = true then none else some (p / 2).toNat
theorem outIx_even (k : Nat) : outIx (2 * (k : Int)) = none := by unfold outIx; rw [isIn_even, if_pos rfl]
theorem outIx_odd (k : Nat) : outIx (2 * (k : Int) + 1) = some k := by
  unfold outIx
  rw [isIn_odd, if_neg Bool.false_ne_true]
  exact congrArg some (by omega)
noncomputable def outI (P : List Int) : List Nat := P.filterMap outIx
theorem mem_outI {n : Nat} {P : List Int} (hP : ∀ p ∈ P, ∃ k : Nat, k < n ∧ (p = 2 * (k : Int) ∨ p = 2 * (k : Int) + 1)) (j : Nat) : j ∈ outI P ↔ 2 * (j : Int) + 1 ∈ P := by
  unfold outI
  rw [List.mem_filterMap]
  constructor
  · rintro ⟨p, hp, e⟩
    obtain ⟨k, -, rfl | rfl⟩ := hP p hp
    · rw [outIx_even] at e; cases e
    · rw [outIx_odd] at e; cases e; exact hp
  · intro h; exact ⟨_, h, outIx_odd j⟩
/-- what the run has done when the steps P are through -/
structure Inv (ns P : List Int) (st : List Int × List Int × Nat) : Prop where
  le : st.2.2 ≤ ns.length
  ins : ∀ k : Nat, 2 * (k : Int) ∈ P ↔ k < st.2.2
  held : st.2.1 = ((List.range st.2.2).filter (fun k : Nat => decide (2 * (k : Int) + 1 ∉ P))).map (fun k => ns.getD k 0)
  out : st.1 = (outI P).map (fun k => ns.getD k 0)
  srt : st.1.Pairwise (· ≤ ·)
theorem Inv.nil (ns : List Int) : Inv ns [] ([], [], 0) := ⟨Nat.zero_le _, by simp, rfl, rfl, .nil⟩
theorem getD_get (ns : List Int) {k : Nat} (h : k < ns.length) : ns[k]? = some (ns.getD k 0) := by
  rw [List.getD_eq_getElem?_getD, List.getElem?_eq_getElem h]; rfl
theorem range_lt (t : Nat) : (List.range t).Pairwise (· < ·) := List.pairwise_lt_range
section
variable {ns P S : List Int} {st : List Int × List Int × Nat}
theorem Inv.stepIn {s : Int} (h : Inv ns P st) (ord : Ord ns (P ++ s :: S)) (nd : (P ++ s :: S).Nodup) {k : Nat} (hk : k < ns.length) (e : s = 2 * (k : Int)) : st.2.2 = k ∧ Inv ns (P ++ [s]) (stepRun ns st true) := by
  subst e
  have hsP : 2 * (k : Int) ∉ P := fun hm => (List.nodup_append.mp nd).2.2 _ hm _ (.head _) rfl
  have hkt : st.2.2 = k := by
    have h1 : ¬ k < st.2.2 := fun hlt => hsP ((h.ins k).mpr hlt)
    refine Nat.le_antisymm (Nat.not_lt.mp h1) (Nat.not_lt.mp fun hlt => ?_)
    have h2 := ord.lt (lt_ii hlt hk) rfl
    exact Nat.lt_irrefl _ ((h.ins _).mp h2)
  have hoP : 2 * (k : Int) + 1 ∉ P := fun hm => hsP (ord.pre.mem (.single (ed_io hk)) hm)
  refine ⟨hkt, ?_⟩
  subst hkt
  have hpar : ∀ j : Nat, 2 * (j : Int) + 1 ∈ P ++ [2 * (st.2.2 : Int)] ↔ 2 * (j : Int) + 1 ∈ P := fun j => by
    rw [List.mem_append, List.mem_singleton]
    constructor
    · rintro (h | h)
      · exact h
      · omega
    · exact .inl
  refine ⟨?_, ?_, ?_, ?_, ?_⟩
  · show st.2.2 + 1 ≤ _
    omega
  · intro j
    show _ ↔ j < st.2.2 + 1
    rw [List.mem_append, List.mem_singleton, h.ins]
    constructor
    · rintro (h | h) <;> omega
    · intro hj
      rcases Nat.lt_or_ge j st.2.2 with h' | h'
      · exact .inl h'
      · exact .inr (by omega)
  · show st.2.1 ++ (ns[st.2.2]?).toList = ((List.range (st.2.2 + 1)).filter _).map _
    rw [List.range_succ, List.filter_append, List.map_append, h.held, getD_get ns hk]
    have e1 : (List.range st.2.2).filter (fun j : Nat => decide (2 * (j : Int) + 1 ∉ P ++ [2 * (st.2.2 : Int)])) = (List.range st.2.2).filter (fun j : Nat => decide (2 * (j : Int) + 1 ∉ P)) :=
      List.filter_congr fun j _ => by rw [decide_eq_decide, hpar]
    have e2 : [st.2.2].filter (fun j : Nat => decide (2 * (j : Int) + 1 ∉ P ++ [2 * (st.2.2 : Int)])) = [st.2.2] := by
      have h9 : (decide (2 * (st.2.2 : Int) + 1 ∉ P ++ [2 * (st.2.2 : Int)])) = true := decide_eq_true fun hm => hoP ((hpar _).mp hm)
      rw [List.filter_cons, if_pos h9, List.filter_nil]
    rw [e1, e2]
    rfl
  · show st.1 = _
    rw [h.out]
    unfold outI
    rw [List.filterMap_append]
    simp [outIx_even]
  · exact h.srt
theorem Inv.stepOut {s : Int} (h : Inv ns P st) (ord : Ord ns (P ++ s :: S)) (nd : (P ++ s :: S).Nodup) (hP : ∀ p ∈ P, ∃ k : Nat, k < ns.length ∧ (p = 2 * (k : Int) ∨ p = 2 * (k : Int) + 1)) {i : Nat} (hi : i < ns.length) (e : s = 2 * (i : Int) + 1) : st.2.1 ≠ [] ∧ Inv ns (P ++ [s]) (stepRun ns st false) := by
  subst e
  have hsP : 2 * (i : Int) + 1 ∉ P := fun hm => (List.nodup_append.mp nd).2.2 _ hm _ (.head _) rfl
  have hit : i < st.2.2 := (h.ins i).mp (ord P _ S rfl _ (ed_io hi))
  have hle := h.le
  have hF : i ∈ (List.range st.2.2).filter (fun k : Nat => decide (2 * (k : Int) + 1 ∉ P)) := List.mem_filter.mpr ⟨List.mem_range.mpr hit, decide_eq_true hsP⟩
  obtain ⟨A, B, hAB⟩ := List.append_of_mem hF
  have hpw : (A ++ i :: B).Pairwise (· < ·) := hAB ▸ (range_lt st.2.2).sublist List.filter_sublist
  obtain ⟨-, hpB, hpAB⟩ := List.pairwise_append.mp hpw
  have hA : ∀ k ∈ A, k < i := fun k hk => hpAB k hk i (.head _)
  have hB : ∀ k ∈ B, i < k := (List.pairwise_cons.mp hpB).1
  have hBr : ∀ k ∈ B, ns.getD k 0 = ns.getD i 0 := fun k hk => by
    have hkF : k ∈ (List.range st.2.2).filter (fun k : Nat => decide (2 * (k : Int) + 1 ∉ P)) := hAB ▸ List.mem_append_right _ (.tail _ hk)
    obtain ⟨h1, h2⟩ := List.mem_filter.mp hkF
    have hkt := List.mem_range.mp h1
    have hkP := of_decide_eq_true h2
    have hik := hB k hk
    rcases Int.lt_trichotomy (ns.getD k 0) (ns.getD i 0) with q | q | q
    · exact absurd (ord P _ S rfl _ (ed_oo (by omega) hik q)) hkP
    · exact q
    · exact absurd (ord.pre.mem (.single (ed_oi (by omega) hik q)) ((h.ins k).mpr hkt)) hsP
  have hheld : st.2.1 = (A ++ B).map (fun k => ns.getD k 0) ++ [ns.getD i 0] := by
    rw [h.held, hAB]
    have key : ∀ B : List Nat, (∀ k ∈ B, ns.getD k 0 = ns.getD i 0) → (i :: B).map (fun k => ns.getD k 0) = B.map (fun k => ns.getD k 0) ++ [ns.getD i 0] := by
      intro B
      induction B with
      | nil => intro _; rfl
      | cons b B ih =>
        intro hb
        have h1 := ih fun k hk => hb k (.tail _ hk)
        have h2 := hb b (.head _)
        rw [List.map_cons] at h1
        rw [List.map_cons, List.map_cons, List.cons_append, ← h1, h2]
    rw [List.map_append, key B hBr, List.map_append, List.append_assoc]
  refine ⟨by rw [hheld]; simp, ?_⟩
  have hpar : ∀ j : Nat, 2 * (j : Int) + 1 ∈ P ++ [2 * (i : Int) + 1] ↔ 2 * (j : Int) + 1 ∈ P ∨ j = i := fun j => by
    rw [List.mem_append, List.mem_singleton]
    constructor
    · rintro (h | h)
      · exact .inl h
      · exact .inr (by omega)
    · rintro (h | h)
      · exact .inl h
      · exact .inr (by omega)
  refine ⟨h.le, ?_, ?_, ?_, ?_⟩
  · intro j
    show _ ↔ j < st.2.2
    rw [List.mem_append, List.mem_singleton, h.ins]
    constructor
    · rintro (h | h)
      · exact h
      · omega
    · exact .inl
  · show st.2.1.dropLast = ((List.range st.2.2).filter _).map _
    rw [hheld, List.dropLast_concat]
    refine congrArg _ ?_
    have e1 : (List.range st.2.2).filter (fun k : Nat => decide (2 * (k : Int) + 1 ∉ P ++ [2 * (i : Int) + 1])) = ((List.range st.2.2).filter (fun k : Nat => decide (2 * (k : Int) + 1 ∉ P))).filter (fun k => !decide (k = i)) := by
      rw [List.filter_filter]
      refine List.filter_congr fun k _ => ?_
      by_cases h1 : 2 * (k : Int) + 1 ∈ P <;> by_cases h2 : k = i <;> simp [hpar, h1, h2]
    rw [e1, hAB, List.filter_append, List.filter_cons]
    have fA : A.filter (fun k => !decide (k = i)) = A := List.filter_eq_self.mpr fun k hk => by have := hA k hk; simp; omega
    have fB : B.filter (fun k => !decide (k = i)) = B := List.filter_eq_self.mpr fun k hk => by have := hB k hk; simp; omega
    rw [fA, fB]
    simp
  · show st.1 ++ st.2.1.getLast?.toList = _
    rw [hheld, h.out]
    unfold outI
    rw [List.filterMap_append, List.map_append]
    simp [outIx_odd]
  · show (st.1 ++ st.2.1.getLast?.toList).Pairwise _
    rw [hheld]
    simp only [List.getLast?_append, List.getLast?_singleton, Option.some_or, Option.toList_some]
    refine List.pairwise_append.mpr ⟨h.srt, by simp, ?_⟩
    intro x hx y hy
    rw [List.mem_singleton] at hy
    subst hy
    rw [h.out] at hx
    obtain ⟨j, hj, rfl⟩ := List.mem_map.mp hx
    have hjP := (mem_outI hP j).mp hj
    refine Int.not_lt.mp fun hlt => ?_
    have hji : j ≠ i := by rintro rfl; exact hsP hjP
    have hjl : j < ns.length := by
      obtain ⟨k, hk, h9⟩ := hP _ hjP
      omega
    have hjn : 2 * (j : Int) ∈ P := ord.pre.mem (.single (ed_io hjl)) hjP
    have hjt := (h.ins j).mp hjn
    rcases Nat.lt_or_ge j i with q | q
    · exact hsP (ord.pre.mem (.single (ed_oo hi q hlt)) hjP)
    · exact hsP (ord.pre.mem (.single (ed_oi (by omega) (by omega) hlt)) hjn)
end

/-- the state when the first m steps are through, and that the next one can be done -/
theorem inv_take {ns D : List Int} (ord : Ord ns D) (nd : D.Nodup) (hD : ∀ p ∈ D, ∃ k : Nat, k < ns.length ∧ (p = 2 * (k : Int) ∨ p = 2 * (k : Int) + 1)) : ∀ m, m ≤ D.length → Inv ns (D.take m) (((D.map isIn).take m).foldl (stepRun ns) ([], [], 0)) ∧
    (∀ b, (D.map isIn)[m]? = some b → (b = true → (((D.map isIn).take m).foldl (stepRun ns) ([], [], 0)).2.2 < ns.length) ∧ (b = false → (((D.map isIn).take m).foldl (stepRun ns) ([], [], 0)).2.1 ≠ [])) := by
  have step : ∀ m, m < D.length → Inv ns (D.take m) (((D.map isIn).take m).foldl (stepRun ns) ([], [], 0)) → (∀ b, (D.map isIn)[m]? = some b → (b = true → (((D.map isIn).take m).foldl (stepRun ns) ([], [], 0)).2.2 < ns.length) ∧ (b = false → (((D.map isIn).take m).foldl (stepRun ns) ([], [], 0)).2.1 ≠ [])) ∧
      Inv ns (D.take (m + 1)) (((D.map isIn).take (m + 1)).foldl (stepRun ns) ([], [], 0)) := by
    intro m hm hI
    have hsp : D = D.take m ++ D[m] :: D.drop (m + 1) := by
      rw [← List.drop_eq_getElem_cons hm, List.take_append_drop]
    have ord' : Ord ns (D.take m ++ D[m] :: D.drop (m + 1)) := by rw [← hsp]; exact ord
    have nd' : (D.take m ++ D[m] :: D.drop (m + 1)).Nodup := by rw [← hsp]; exact nd
    have hP : ∀ p ∈ D.take m, ∃ k : Nat, k < ns.length ∧ (p = 2 * (k : Int) ∨ p = 2 * (k : Int) + 1) := fun p hp => hD p (List.mem_of_mem_take hp)
    have hb : (D.map isIn)[m]? = some (isIn D[m]) := by rw [List.getElem?_map, List.getElem?_eq_getElem hm]; rfl
    have ht : D.take (m + 1) = D.take m ++ [D[m]] := by rw [List.take_add_one, List.getElem?_eq_getElem hm]; rfl
    have hf : ((D.map isIn).take (m + 1)).foldl (stepRun ns) ([], [], 0) = stepRun ns (((D.map isIn).take m).foldl (stepRun ns) ([], [], 0)) (isIn D[m]) := by
      rw [List.take_add_one, hb, List.foldl_append]; rfl
    obtain ⟨k, hk, e⟩ := hD D[m] (List.getElem_mem hm)
    rw [ht, hf]
    rcases e with e | e
    · have hi : isIn D[m] = true := by rw [e]; exact isIn_even k
      obtain ⟨h1, h2⟩ := hI.stepIn ord' nd' hk e
      rw [hi]
      refine ⟨fun b hb' => ?_, h2⟩
      rw [hb, hi] at hb'
      cases hb'
      exact ⟨fun _ => (by omega), fun h => (by cases h)⟩
    · have hi : isIn D[m] = false := by rw [e]; exact isIn_odd k
      obtain ⟨h1, h2⟩ := hI.stepOut ord' nd' hP hk e
      rw [hi]
      refine ⟨fun b hb' => ?_, h2⟩
      rw [hb, hi] at hb'
      cases hb'
      exact ⟨fun h => (by cases h), fun _ => h1⟩
  intro m
  induction m with
  | zero =>
    intro _
    refine ⟨Inv.nil ns, fun b hb => ?_⟩
    have h0 : 0 < D.length := by
      cases D with
      | nil => simp at hb
      | cons a D => simp
    exact (step 0 h0 (Inv.nil ns)).1 b hb
  | succ m ih =>
    intro hm
    have h1 := (step m hm (ih (by omega)).1).2
    refine ⟨h1, fun b hb => ?_⟩
    have h0 : m + 1 < D.length := by
      have := (List.getElem?_eq_some_iff.mp hb).1
      simpa using this
    exact (step (m + 1) h0 h1).1 b hb
theorem low_iff {ns : List Int} {st : Nat} {y : Int} : low ns st y = true ↔ ∀ l : Nat, st ≤ l → l < ns.length → ¬ ns.getD l 0 < y := by
  unfold low
  rw [List.all_eq_true]
  constructor
  · intro h l h1 h2
    have hm : ns.getD l 0 ∈ ns.drop st := by
      refine List.mem_iff_getElem.mpr ⟨l - st, by rw [List.length_drop]; omega, ?_⟩
      rw [List.getElem_drop, List.getD_eq_getElem?_getD, List.getElem?_eq_getElem h2, Option.getD_some]
      congr 1
      omega
    have := h _ hm
    simpa using this
  · intro h x hx
    obtain ⟨m, hm, e⟩ := List.mem_iff_getElem.mp hx
    rw [List.length_drop] at hm
    rw [List.getElem_drop] at e
    have h1 := h (st + m) (by omega) (by omega)
    rw [List.getD_eq_getElem?_getD, List.getElem?_eq_getElem (by omega), Option.getD_some, e] at h1
    simpa using h1
theorem take_range (ns : List Int) {st : Nat} (h : st ≤ ns.length) : (List.range st).map (fun k => ns.getD k 0) = ns.take st := by
  apply List.ext_getElem
  · simp; omega
  · intro i h1 h2
    simp only [List.length_map, List.length_range] at h1
    have h3 : i < ns.length := by omega
    simp [h3]
/-- where the stack of brackets stands -/
theorem chk_run (ns : List Int) (bs rest : List Bool) (ok : RunOk ns bs) : ∀ m, m ≤ bs.length → chkP 0 (bs ++ rest) = chkP (((bs.take m).foldl (stepRun ns) ([], [], 0)).2.1).length (bs.drop m ++ rest) := by
  intro m
  induction m with
  | zero => intro _; rfl
  | succ m ih =>
    intro hm
    have hb : bs[m]? = some bs[m] := List.getElem?_eq_getElem hm
    have hf : (bs.take (m + 1)).foldl (stepRun ns) ([], [], 0) = stepRun ns ((bs.take m).foldl (stepRun ns) ([], [], 0)) bs[m] := by
      rw [List.take_add_one, hb, List.foldl_append]; rfl
    rw [ih (by omega), List.drop_eq_getElem_cons hm, hf]
    obtain ⟨h1, h2⟩ := ok m _ hb
    cases q : bs[m] with
    | true =>
      have h3 := h1 q
      show chkP (_ + 1) _ = chkP (((bs.take m).foldl (stepRun ns) ([], [], 0)).2.1 ++ (ns[((bs.take m).foldl (stepRun ns) ([], [], 0)).2.2]?).toList).length _
      rw [List.length_append, List.getElem?_eq_getElem h3]
      rfl
    | false =>
      have h3 := h2 q
      have h4 : ((bs.take m).foldl (stepRun ns) ([], [], 0)).2.1.length ≠ 0 := fun e => h3 (List.length_eq_zero_iff.mp e)
      show (if _ = 0 then false else chkP (_ - 1) _) = chkP (((bs.take m).foldl (stepRun ns) ([], [], 0)).2.1.dropLast).length _
      rw [if_neg h4, List.length_dropLast]
      rfl
theorem chk_rep : ∀ (f h : Nat), chkP h (List.replicate f false) = decide (f = h)
  | 0, h => by
    show decide (h = 0) = decide (0 = h)
    rw [decide_eq_decide]
    exact eq_comm
  | f + 1, 0 => by
    show (if (0 : Nat) = 0 then false else _) = _
    rw [if_pos rfl]
    exact (decide_eq_false (by omega)).symm
  | f + 1, h + 1 => by
    show (if h + 1 = 0 then false else chkP (h + 1 - 1) (List.replicate f false)) = _
    rw [if_neg (by omega), Nat.add_sub_cancel, chk_rep f h, decide_eq_decide]
    omega
theorem getD_inj {ns : List Int} (hn : ns.Nodup) {j k : Nat} (hj : j < ns.length) (hk : k < ns.length) (e : ns.getD j 0 = ns.getD k 0) : j = k := by
  rw [List.getD_eq_getElem?_getD, List.getD_eq_getElem?_getD, List.getElem?_eq_getElem hj, List.getElem?_eq_getElem hk, Option.getD_some, Option.getD_some] at e
  rcases Nat.lt_trichotomy j k with q | q | q
  · exact absurd e (List.pairwise_iff_getElem.mp hn j k hj hk q)
  · exact q
  · exact absurd e.symm (List.pairwise_iff_getElem.mp hn k j hk hj q)
/-- with distinct numbers any two steps wait one for the other -/
theorem total_lt {ns : List Int} (hn : ns.Nodup) {j k : Nat} (hj : j < ns.length) (hk : k < ns.length) : ∀ {a b : Int}, (a = 2 * (j : Int) ∨ a = 2 * (j : Int) + 1) → (b = 2 * (k : Int) ∨ b = 2 * (k : Int) + 1) → a ≠ b → Lt ns a b ∨ Lt ns b a := by
  have half : ∀ {j k : Nat}, j < ns.length → k < ns.length → j < k → ∀ {a b : Int}, (a = 2 * (j : Int) ∨ a = 2 * (j : Int) + 1) → (b = 2 * (k : Int) ∨ b = 2 * (k : Int) + 1) → Lt ns a b ∨ Lt ns b a := by
    intro j k hj hk hjk a b ha hb
    rcases Int.lt_trichotomy (ns.getD j 0) (ns.getD k 0) with q | q | q
    · left
      rcases ha with rfl | rfl <;> rcases hb with rfl | rfl
      · exact lt_ii hjk hk
      · exact (lt_ii hjk hk).tail (ed_io hk)
      · exact .single (ed_oi hk hjk q)
      · exact (Relation.TransGen.single (ed_oi hk hjk q)).tail (ed_io hk)
    · exact absurd (getD_inj hn hj hk q) (Nat.ne_of_lt hjk)
    · rcases ha with rfl | rfl <;> rcases hb with rfl | rfl
      · exact .inl (lt_ii hjk hk)
      · exact .inl ((lt_ii hjk hk).tail (ed_io hk))
      · exact .inr ((Relation.TransGen.single (ed_io hk)).tail (ed_oo hk hjk q))
      · exact .inr (.single (ed_oo hk hjk q))
  intro a b ha hb hab
  rcases Nat.lt_trichotomy j k with q | rfl | q
  · exact half hj hk q ha hb
  · rcases ha with rfl | rfl <;> rcases hb with rfl | rfl
    · exact absurd rfl hab
    · exact .inl (.single (ed_io hk))
    · exact .inr (.single (ed_io hk))
    · exact absurd rfl hab
  · exact (half hk hj q hb ha).symm
theorem Told.before {ns : List Int} {R : List (List Int)} (h : Told ns R) {pre post : List (List Int)} {rd : List Int} (e : R = pre ++ rd :: post) {a b : Int} (hl : Lt ns a b) (hb : b ∈ rd) : a ∈ pre.flatten := by
  have ordp : Ord ns pre.flatten := by
    have := h.ord
    rw [e, List.flatten_append] at this
    exact this.pre
  have step : ∀ {c}, Ed ns c b → c ∈ pre.flatten := fun hc => (h.ok pre rd post e).2 b hb _ hc
  cases hl with
  | single hc => exact step hc
  | tail hac hc => exact ordp.mem hac (step hc)
theorem Told.single {ns : List Int} {R : List (List Int)} (h : Told ns R) (hn : ns.Nodup) : R.length = R.flatten.length := by
  have one : ∀ rd ∈ R, rd.length = 1 := by
    intro rd hrd
    obtain ⟨pre, post, e⟩ := List.append_of_mem hrd
    have hne := (h.ok pre rd post e).1
    have nd := h.nd
    rw [e, List.flatten_append, List.flatten_cons] at nd
    obtain ⟨-, nd2, nd3⟩ := List.nodup_append.mp nd
    have ndr := (List.nodup_append.mp nd2).1
    have hin : ∀ x ∈ rd, x ∈ R.flatten := fun x hx => List.mem_flatten.mpr ⟨rd, hrd, hx⟩
    match rd, hne with
    | [a], _ => rfl
    | a :: b :: rd, _ =>
      exfalso
      have hab : a ≠ b := fun e => (List.nodup_cons.mp ndr).1 (e ▸ .head _)
      obtain ⟨j, hj, ea⟩ := h.keys a (hin a (.head _))
      obtain ⟨k, hk, eb⟩ := h.keys b (hin b (.tail _ (.head _)))
      rcases total_lt hn hj hk ea eb hab with q | q
      · exact nd3 a (h.before e q (.tail _ (.head _))) a (List.mem_append_left _ (.head _)) rfl
      · exact nd3 b (h.before e q (.head _)) b (List.mem_append_left _ (.tail _ (.head _))) rfl
  have key : ∀ R : List (List Int), (∀ rd ∈ R, rd.length = 1) → R.length = R.flatten.length := by
    intro R
    induction R with
    | nil => intro _; rfl
    | cons rd R ih =>
      intro h
      rw [List.length_cons, List.flatten_cons, List.length_append, ih fun r hr => h r (.tail _ hr), h rd (.head _)]
      omega
  exact key R one
theorem stop_ex (ns : List Int) : ∃ st, Stop ns st := by
  have key : ∀ m, m ≤ ns.length → (∀ k, k < m → patB ns k = false) ∨ ∃ st, Stop ns st := by
    intro m
    induction m with
    | zero => intro _; exact .inl fun k hk => absurd hk (Nat.not_lt_zero _)
    | succ m ih =>
      intro hm
      rcases ih (by omega) with h | h
      · cases q : patB ns m with
        | true => exact .inr ⟨m, by omega, h, fun _ => q⟩
        | false =>
          refine .inl fun k hk => ?_
          rcases Nat.lt_or_ge k m with hlt | hge
          · exact h k hlt
          · obtain rfl : k = m := by omega
            exact q
      · exact .inr h
  rcases key ns.length (Nat.le_refl _) with h | h
  · exact ⟨ns.length, Nat.le_refl _, h, fun hlt => absurd hlt (Nat.lt_irrefl _)⟩
  · exact h
theorem lawFacts {ns : List Int} {R : List (List Int)} {g' : Gr} {rf : Bool} (hn : ns.length ≤ 7) (ri : RI (buildG ns) R.flatten (g', [])) (rok : RoundsOk (buildG ns) R) (hc : rf = true → Cyc (buildG ns)) (ha : rf = false → Acy (buildG ns)) : ∃ st, LawFacts ns R (R.flatten.map isIn) rf st := by
  obtain ⟨st, hst⟩ := stop_ex ns
  have h := Told.of ri rok
  have hT := inv_take h.ord h.nd h.keys
  have hF := (hT R.flatten.length (Nat.le_refl _)).1
  have e1 : (R.flatten.map isIn).take R.flatten.length = R.flatten.map isIn := List.take_of_length_le (by rw [List.length_map]; exact Nat.le_refl _)
  rw [List.take_length, e1] at hF
  have hF' : Inv ns R.flatten (runOf ns (R.flatten.map isIn)) := hF
  have ok : RunOk ns (R.flatten.map isIn) := fun i b hb => by
    have hi : i ≤ R.flatten.length := by
      have := (List.getElem?_eq_some_iff.mp hb).1
      rw [List.length_map] at this
      omega
    exact (hT i hi).2 b hb
  have htk : (runOf ns (R.flatten.map isIn)).2.2 = st := by
    have h1 : ∀ k : Nat, k < (runOf ns (R.flatten.map isIn)).2.2 ↔ k < st := fun k => by rw [← hF'.ins, h.in_iff hst]
    refine Nat.le_antisymm (Nat.not_lt.mp fun hlt => ?_) (Nat.not_lt.mp fun hlt => ?_)
    · exact Nat.lt_irrefl _ ((h1 st).mp hlt)
    · exact Nat.lt_irrefl _ ((h1 _).mpr hlt)
  have hlow : ∀ k, k < st → (2 * (k : Int) + 1 ∈ R.flatten ↔ low ns st (ns.getD k 0) = true) := fun k hk => by
    rw [h.out_iff hst, low_iff]
    exact ⟨fun q => q.2, fun q => ⟨hk, q⟩⟩
  have hheld : (runOf ns (R.flatten.map isIn)).2.1 = (ns.take st).filter (fun y => !low ns st y) := by
    rw [hF'.held, htk, ← take_range ns hst.le, List.filter_map]
    refine congrArg _ (List.filter_congr fun k hk => ?_)
    have hk' := List.mem_range.mp hk
    show decide _ = !low ns st (ns.getD k 0)
    have h9 := hlow k hk'
    cases q : low ns st (ns.getD k 0) with
    | true => rw [q] at h9; exact decide_eq_false fun hn9 => hn9 (h9.mpr rfl)
    | false => rw [q] at h9; exact decide_eq_true fun hm => (by have h8 := h9.mp hm; cases h8)
  have hlen : R.flatten.length ≤ 14 := by
    have h1 := ri.len
    have h2 := build_len ns hn
    simp only [List.length_nil] at h1
    omega
  have hP : ∀ p ∈ R.flatten, ∃ k : Nat, k < ns.length ∧ (p = 2 * (k : Int) ∨ p = 2 * (k : Int) + 1) := h.keys
  refine ⟨st, hst, h.refused hst hc ha, ok, hF'.srt, ?_, hheld, htk, h.single, fun f => ?_, by rw [List.length_map]; exact hlen, hlen, Nat.le_trans (roundsOk_len rok) hlen⟩
  · rw [hF'.out, ← take_range ns hst.le, List.filter_map]
    refine List.Perm.map _ ?_
    have nd1 : (outI R.flatten).Nodup := by
      unfold outI
      have key : ∀ l : List Int, l.Nodup → (∀ p ∈ l, ∃ k : Nat, k < ns.length ∧ (p = 2 * (k : Int) ∨ p = 2 * (k : Int) + 1)) → (l.filterMap outIx).Nodup := by
        intro l
        induction l with
        | nil => intro _ _; exact .nil
        | cons a l ih =>
          intro hn hp
          obtain ⟨h1, h2⟩ := List.nodup_cons.mp hn
          have h3 := ih h2 fun p hp' => hp p (.tail _ hp')
          obtain ⟨k, _, rfl | rfl⟩ := hp a (.head _)
          · rw [List.filterMap_cons, outIx_even]; exact h3
          · rw [List.filterMap_cons, outIx_odd]
            refine List.nodup_cons.mpr ⟨fun hm => h1 ?_, h3⟩
            exact (mem_outI (fun p hp' => hp p (.tail _ hp')) k).mp hm
      exact key _ h.nd hP
    have nd2 : ((List.range st).filter (low ns st ∘ fun k => ns.getD k 0)).Nodup := List.nodup_range.sublist List.filter_sublist
    refine (List.perm_ext_iff_of_nodup nd1 nd2).mpr fun j => ?_
    rw [mem_outI hP, List.mem_filter, List.mem_range]
    constructor
    · intro hj
      have := ((h.out_iff hst j).mp hj).1
      exact ⟨this, (hlow j this).mp hj⟩
    · rintro ⟨h1, h2⟩
      exact (hlow j h1).mpr h2
  · have h1 := chk_run ns (R.flatten.map isIn) (List.replicate f false) ok _ (Nat.le_refl _)
    rw [List.take_length, List.drop_length, List.nil_append] at h1
    have h2 : (((R.flatten.map isIn)).foldl (stepRun ns) ([], [], 0)).2.1 = (ns.take st).filter (fun y => !low ns st y) := hheld
    rw [h1, h2, chk_rep]
-- plain
section
variable {w : World} {mean : ExcName → Option Value} {mg mb : Str → Option Value} {dp un : Nat} {gd : Option (List Code)} {cn : Str} {a : Addr} {ccd : Value} {outer : List Env} {A₀ : Around} {base h₀ : Heap} {L : Addr} {s : Shared} {cs : Scope} {cl : List (Str × Addr)} {stmts : List Stmt}
  {Dg D3 Rl Dr cr cst : Addr} {eg e3 e2 er st : Nat} {gv tv rv : List (Int × Tok)} {rs : List Rnd} {bs : List Bool} {tw : Tok} {rf : Bool} {orow ost : Obj} {m₀ : Str → Option Value} {Qf : Flow → Shared → Prop} {E : Value → Shared → Prop}
theorem tail0x (H : AtT w mean mg mb 40 dp un cs A₀ base h₀ outer L (fun y => if y = Str.ofString "greater" then some (Value.ref Dg) else if y = Str.ofString "refused" then some (Value.bool rf) else if y = Str.ofString "rounds" then some (Value.ref Rl) else if y = Str.ofString "told" then some (Value.ref D3) else if y = Str.ofString "word" then some (Value.str (wordS bs) tw) else m₀ y) s.heap)
    (N : News h₀ L s.heap [(Dg, W.listOf (vals gv).toArray eg), (D3, W.listOf (vals tv).toArray e3), (Rl, W.listOf (refsOf rs).toArray e2), (Dr, W.listOf (vals rv).toArray er), (cst, ost), (cr, orow)])
    (hcr : orow.data = .cell (some (.ref Dr))) (hcs : ost.data = .cell none) (hne : (D3 ≠ cst ∧ Rl ≠ cst) ∧ Dr ≠ cst ∧ cr ≠ cst) (hne2 : (D3 ≠ Dr ∧ Rl ≠ Dr) ∧ cst ≠ Dr ∧ cr ≠ Dr) (hn7 : rv.length ≤ 7) (hgv : gv.map (·.1) = ((List.range (rv.map (·.1)).length).filter (patB (rv.map (·.1)))).map fun k : Nat => (k : Int)) (LF : LawFacts (rv.map (·.1)) (rkeys rs) bs rf st) (htv : tv.map (·.1) = (rkeys rs).flatten) (hG : AllBare s.gens)
    (hsc : cs = lawScope) (hcl : cl = [(Str.ofString "stop", cst), (Str.ofString "row", cr)]) (hst : stmts = lawBody.drop 5)
    (hQ : ∀ s' h₀' m', KtsTurn (outer.filterMap (·.frame)) h₀ h₀' → Fr h₀' L s'.heap m' → s'.os = s.os → AllBare s'.gens → Qf (.ret (.bool true)) s') :
    wpAny (model PySem.Challenge.rw_oh0060_01.row.prog w) (ktrTop dp un gd cn cs L a ccd cl outer) (execs stmts (envX cn cs L a ccd cl)) Qf E s := by
  subst hsc hcl hst
  exact wpAny_noRaise (tail0 H N hcr hcs hne hne2 hn7 hgv LF htv hG hQ)
end
theorem om_b {b r i n : Nat} (hb : b < r - (i + 1)) (e : r = n) (h7 : n ≤ 7) : b + 1 ≤ 7 := by omega
theorem om_l {r i n : Nat} (e : r = n) (h7 : n ≤ 7) : r - (i + 1) ≤ 100 := by omega
theorem om_ov {x a b i : Nat} (h : x ≤ a * 100 + b) (hb : b ≤ 7) (ha : a < i) (hi : i ≤ 7) : x ≤ 100000 := by omega
theorem om_z {a : Nat} (h : a ≤ 7) : 0 ≤ (a : Int) ∧ (a : Int) < 100000 := by omega
theorem law_holds : PySem.Challenge.rw_oh0060_01.Holds := hd0 (by rfl) (by rfl) (by rfl) (by
  intro w s₀ s₁ mg mb G Y fa o pm cd doc dV kV ho hdt hcd hD hmg hg args vls as hpre hlay hrd hwl hlo
  have KX := hk_in Y
  have X := (Ground.X G).1
  have V := (Ground.X G).2
  try w_nolog (have GL := glob_more (Ground.glob G (by decide +kernel) (by decide +kernel)) V)
  refine Ground.open G ?_
  intro T B D TE TW
  try (refine guard_noD D (by decide +kernel) ?_; clear D)
  obtain ⟨_, _, M⟩ := bmod_of_top T
  clear hmg
  wrow_args hpre hlay hrd hwl hlo
  all_goals first | refine callC_kw (enter_call ?_) | refine enter_call ?_
  w_top on
  have K0 := below_caller (Top.heap T)
  w_call any ho hdt hcd hD T F
  clear hdt
  k_drop
  all_goals try k_fold
  refine wpAny_noRaise ?_
  generalize s₁.heap.objs.size = L2 at *
  k_steps
  show wpAny _ _ _ _ _ _
  obtain ⟨ns, hI, hn7⟩ : ∃ ns : List Int, IntsAre ys ns ∧ ns.length ≤ 7 := ⟨_, ‹IntsAre ys _›, by rw [List.length_map, List.length_take]; omega⟩
  obtain ⟨rv, rfl, hrv⟩ := ints_vals hI
  have N0 := ‹News _ _ _ _›
  have F0 := ‹Fr _ _ _ _›
  have B0 := ‹Below _ _ _ _›
  have X0 := ‹Frag.In _ _›
  have T0 := ‹Top _ _ _ _ _ _›
  k_dflt (refine sorter_K (vs := vals rv) ⟨B0, F0, X0, T0, rfl, by decide, by decide⟩ N0 ?har hI hn7 ?_)
  case har =>
    intro q hq
    simp only [List.mem_cons, List.not_mem_nil, or_false] at hq
    rcases hq with rfl | rfl | rfl <;> k_ne
  intro h1 tk1 x dx d t1 t2 t3 t4 u3 u4 od G F1 N1 nd1 har1 lo hod hab
  k_steps
  show wpAny _ _ _ _ _ _
  have hbd := Bd.to ns ns.length hn7
  have hbd' : Bd (9 * ns.length) (absG G) := by rw [hab]; exact hbd
  k_dflt (refine rounds_K ⟨⟨B0, ‹Fr _ _ _ _›, X0, T0, rfl, by decide, by decide⟩, X0, T0, fun b hb => by cases hb⟩ N1 nd1 har1 hod lo ?hgl ?hsc ?hcl ?hnp ?_)
  case hgl =>
    have := build_len ns hn7
    rw [← hab] at this
    simp only [absG, List.length_map] at this
    omega
  case hsc =>
    intro n hn
    have := bd_succ hbd' n hn
    omega
  case hcl =>
    intro n hn p hp
    have := build_cl ns
    rw [← hab] at this
    have h2 := this (absN n) (List.mem_map_of_mem hn) p.1 (List.mem_map_of_mem hp)
    rw [keys_absG] at h2
    exact h2
  case hnp =>
    rw [hab]
    exact build_np ns
  intro h2 tk2 g2 Tn Rl rs e2 rf g' hT2 hAt N2 ndT hrT ri rok hcyc hacy hrs
  obtain ⟨⟨B2, F2, X2, T2, -, -, -⟩, -, -, D2⟩ := hAt
  rw [hab] at ri rok hcyc hacy
  replace F2 : ∃ m0, Fr g2 L2 h2 m0 := ⟨_, F2⟩
  obtain ⟨m0, F2⟩ := F2
  dsimp only
  have hBase : (hd.heap_1 w.params).In s₁.heap ∧ Top hd.view_1 Names _ _ _ s₁.heap := ⟨X0, T0⟩
  have hfl14 := flat_len hn7 ri
  have hCM : CompMark := trivial
  clear B0 X0 T0 nd1 har1 hod hab hbd hbd'; (try clear N1); (try clear F1)
  have hq1 := hrT _ (.head _)
  have hq3 := hrT _ (.tail _ (.tail _ (.head _)))
  have hq4 := hrT _ (.tail _ (.tail _ (.tail _ (.head _))))
  dsimp only at hq1 hq3 hq4
  have o1 := ‹_ ≠ _ ∧ _ ≠ _ ∧ _ ≠ _›
  have hJx : ∃ ocs orow Dr er, News g2 (L2) h2 ((Tn, tupO [.bool rf, .ref Rl]) :: (Rl, W.listOf (refsOf rs).toArray e2) :: (Dr, W.listOf (vals rv).toArray er) :: (L2 + 1 + 1, ocs) :: (L2 + 1, orow) :: robjs rs) ∧ ocs.data = .cell none ∧ orow.data = .cell (some (.ref Dr)) ∧ Dr ≠ L2 + 1 + 1 ∧ Dr ≠ L2 + 1 ∧ Rl ≠ Dr ∧ Rl ≠ L2 + 1 + 1 ∧ Rl ≠ L2 + 1 := ⟨_, _, _, (vals rv).length, News.sub N2 (by walk_at "MY sub2"), by assumption, by assumption, Ne.symm o1.2.1, Ne.symm o1.2.2, fun e => hq1 (by rw [← e]; exact .tail _ (.head _)), fun e => hq3 (by rw [← e]; exact .tail _ (.head _)), fun e => hq4 (by rw [← e]; exact .tail _ (.head _))⟩
  refine ex4a8 hJx fun ocs orow Dr er N3 hocs horow hDc1 hDc2 hRD hRc1 hRc2 => ?_
  clear hJx
  clear hq1 hq3 hq4 o1
  (try clear N2)
  have hFM : FindMark := trivial
  k_steps
  show wpAny _ _ _ _ _ _
  rename FindMark => hFM
  clear hFM
  k_dflt (refine assignComp (by with_unfolding_all rfl) (by with_unfolding_all rfl) rfl (by decide) (by intro _; rfl) rfl ?_)
  k_steps
  show wpAny _ _ _ _ _ _
  have N4 : News g2 (L2) _ ((Rl, W.listOf (refsOf rs).toArray e2) :: (Dr, W.listOf (vals rv).toArray er) :: (L2 + 1 + 1, ocs) :: (L2 + 1, orow) :: robjs rs) := News.sub ‹News g2 _ _ _› (by walk_at "MY sub2")
  have hflen : ∀ i, ((rs.take i).flatMap (·.2)).length ≤ 1000 := fun i => Nat.le_trans (flat_take rs i) (by omega)
  k_dflt (refine src_list rfl ‹Fr g2 _ _ _› N4 (by walk_at "MY in") ?_)
  intro I3 h3 F3 N5 lI3 W3
  show wpAny _ _ _ _ _ _
  k_dflt (refine comp_open0 F3 N5 (by decide) rfl ?_)
  intro C3 oC3 D3 h4 hoC3 F4 N6 hDC3 hlt3 hkeep3 hall3
  obtain ⟨oI₀, hoI₀⟩ := W3.there
  have hID3 : I3 < D3 := hall3 _ _ hoI₀
  have off3 := comp_off (I := I3) lI3 hlt3 hDC3
  k_dflt (refine two_local rfl rfl rfl (by decide) (by intro _; rfl) (W3.keeps hkeep3) (Nat.ne_of_lt (Nat.lt_trans hID3 hDC3)) (Nat.ne_of_lt hID3) (Nat.ne_of_gt hDC3) (fun i ys nw => nw = (Rl, W.listOf (refsOf rs).toArray e2) :: (Dr, W.listOf (vals rv).toArray er) :: (L2 + 1 + 1, ocs) :: (L2 + 1, orow) :: robjs rs ∧ ys = vals ((rs.take i).flatMap (·.2))) ?turn ?done F4 N6 off3 (.head _) hoC3 ⟨rfl, rfl⟩)
  case turn =>
    rintro i v ys oI oC m₂ nw h5 tk5 E' hi hP hJJ
    refine ex0a2 hJJ fun hqE1 hqE2 => ?_
    clear hJJ
    subst hqE1
    subst hqE2
    rintro hS hoC hmx F5 N7 off
    obtain ⟨r, hr, rfl⟩ : ∃ r, rs[i]? = some r ∧ v = .ref r.1 := by
      simp only [refsOf, List.getElem?_map, Option.map_eq_some_iff] at hP
      obtain ⟨r, h1, h2⟩ := hP
      exact ⟨r, h1, h2.symm⟩
    (try clear N3); (try clear N4); (try clear N5); (try clear N6); (try clear F3); (try clear F4)
    k_steps
    show wpAny _ _ _ _ _ _
    have N8 := ‹News g2 _ _ _›
    k_dflt (refine src_tup (items := vals r.2) rfl ‹Fr g2 _ _ _› N8 (.tail _ (.tail _ (.tail _ (.tail _ (.tail _ (.tail _ (.tail _ (robjs_mem (List.mem_of_getElem? hr))))))))) ?_)
    intro I6 h6 F6 N9 lI6 W6
    have a1 := lI6 _ (.head _)
    have a2 := lI6 _ (.tail _ (.head _))
    have a3 := lI6 _ (.tail _ (.tail _ (.head _)))
    refine ⟨I6, _, _, _, (Rl, W.listOf (refsOf rs).toArray e2) :: (Dr, W.listOf (vals rv).toArray er) :: (L2 + 1 + 1, ocs) :: (L2 + 1, orow) :: robjs rs, h6, _, fun j ys nw => nw = (Rl, W.listOf (refsOf rs).toArray e2) :: (Dr, W.listOf (vals rv).toArray er) :: (L2 + 1 + 1, ocs) :: (L2 + 1, orow) :: robjs rs ∧ ys = vals ((rs.take i).flatMap (·.2) ++ r.2.take j), rfl, rfl, W6, F6, N9, off, ⟨Nat.ne_of_gt a1, Nat.ne_of_gt a2, Nat.ne_of_gt a3, fun p hp => Nat.ne_of_lt (lI6 p (.tail _ (.tail _ (.tail _ hp))))⟩, fun nw hs => hs _ (.tail _ (.tail _ (.tail _ (.tail _ (robjs_mem (List.mem_of_getElem? hr)))))), ⟨rfl, by simp⟩, ?pr, ?turn2, ?fin⟩
    case pr =>
      rintro j ys nw hJJ
      refine ex0a2 hJJ fun hqE1 hqE2 => ?_
      clear hJJ
      subst hqE1
      subst hqE2
      refine ⟨?_, .head _, fun p hp => hp, fun p hp => (off.mem p hp).1⟩
      rw [vals_length, List.length_append]
      have h9 := flat_next hr
      have h8 : (r.2.take j).length ≤ r.2.length := by rw [List.length_take]; exact Nat.min_le_right _ _
      omega
    case turn2 =>
      rintro j v2 ys oI2 oC m₂ nw h7 tk7 E7 hj hP2 hJJ
      refine ex0a2 hJJ fun hqE1 hqE2 => ?_
      clear hJJ
      subst hqE1
      subst hqE2
      rintro hoC hm1 hm2 F7 N10 off7
      obtain ⟨q, hq, rfl⟩ := vals_get hP2
      (try clear N8); (try clear N9); (try clear F6); (try clear N7); (try clear F5)
      refine wpAny_tests_nil ?_
      refine WhlIf.yes rfl ?_
      k_steps
      show Halt _
      refine ⟨_, _, _, rfl, ‹Fr g2 _ _ _›, ‹News g2 _ _ _›, off7, trivial, _, rfl, rfl, ?_⟩
      rw [List.take_add_one, hq]
      simp [vals]
    case fin =>
      rintro ys nw hJJ
      refine ex0a2 hJJ fun hqE1 hqE2 => ?_
      clear hJJ
      subst hqE1
      subst hqE2
      refine ⟨rfl, ?_⟩
      rw [vals_length, List.take_length, List.take_add_one, hr]
      simp
  case done =>
    rintro ys oC mC nw h5 tk5 hJJ
    refine ex0a2 hJJ fun hqE1 hqE2 => ?_
    clear hJJ
    subst hqE1
    subst hqE2
    rintro hC F5 N7 off
    have hl : (refsOf rs).length = rs.length := by simp [refsOf]
    rw [hl, List.take_length] at N7
    k_dflt (refine post_assign rfl rfl rfl F5 N7 hC (Nat.ne_of_gt hDC3) (fun p hp => (off.mem p hp).2.1) ?_)
    intro h6 tk6 F6 N8
    obtain ⟨tv, htv⟩ : ∃ tv, tv = rs.flatMap (·.2) := ⟨_, rfl⟩
    rw [← htv] at N8
    have N9 : News g2 (L2) h6 ((D3, W.listOf (vals tv).toArray (vals tv).length) :: (Rl, W.listOf (refsOf rs).toArray e2) :: (Dr, W.listOf (vals rv).toArray er) :: (L2 + 1 + 1, ocs) :: (L2 + 1, orow) :: robjs rs) := N8
    (try clear N3); (try clear N4); (try clear N5); (try clear N6); (try clear N7); (try clear N8); (try clear F3); (try clear F4); (try clear F5)
    k_steps
    show wpAny _ _ _ _ _ _
    k_dflt (refine evalComp (by with_unfolding_all rfl) (by rfl) (by decide) (by intro _; rfl) rfl ?_)
    k_steps
    show wpAny _ _ _ _ _ _
    have N10 : News g2 (L2) _ ((D3, W.listOf (vals tv).toArray (vals tv).length) :: (Rl, W.listOf (refsOf rs).toArray e2) :: (Dr, W.listOf (vals rv).toArray er) :: (L2 + 1 + 1, ocs) :: (L2 + 1, orow) :: robjs rs) := ‹News g2 _ _ _›
    k_dflt (refine src_list rfl ‹Fr g2 _ _ _› N10 (by walk_at "MY in") ?_)
    intro I7 h7 F7 N11 lI7 W7
    show wpAny _ _ _ _ _ _
    k_dflt (refine comp_open0 F7 N11 (by decide) rfl ?_)
    intro C7 oC7 D7 h8 hoC7 F8 N12 hDC7 hlt7 hkeep7 hall7
    obtain ⟨oI₁, hoI₁⟩ := W7.there
    have hID7 : I7 < D7 := hall7 _ _ hoI₁
    have off7 := comp_off (I := I7) lI7 hlt7 hDC7
    k_dflt (refine one_local rfl rfl (W7.keeps hkeep7) (Nat.ne_of_lt (Nat.lt_trans hID7 hDC7)) (Nat.ne_of_lt hID7) (Nat.ne_of_gt hDC7) (fun i ys nw => nw = (D3, W.listOf (vals tv).toArray (vals tv).length) :: (Rl, W.listOf (refsOf rs).toArray e2) :: (Dr, W.listOf (vals rv).toArray er) :: (L2 + 1 + 1, ocs) :: (L2 + 1, orow) :: robjs rs ∧ ∃ l, ys = sgnv l ∧ l.map (·.1) = (tv.take i).map (fun q => isIn q.1)) ?hlen7 ?turn7 ?done7 F8 N12 off7 (.head _) hoC7 ⟨rfl, [], rfl, rfl⟩)
    case hlen7 =>
      rintro i ys nw ⟨-, l, rfl, hl⟩
      have := congrArg List.length hl
      simp only [List.length_map] at this
      simp only [sgnv, List.length_map, this, List.length_take]
      rw [← htv] at hfl14
      omega
    case turn7 =>
      rintro i v ys oI oC m₂ nw h9 tk9 E' hi hP hJJ
      refine exp1a2 hJJ fun hqE1 l hqE2 hl => ?_
      clear hJJ
      subst hqE1
      subst hqE2
      rintro hS hoC hmx F9 N13 off
      obtain ⟨q, hq, rfl⟩ := vals_get hP
      (try clear N9); (try clear N10); (try clear N11); (try clear N12); (try clear F6); (try clear F7); (try clear F8)
      refine wpAny_tests_nil ?_
      refine WhlIf.yes rfl ?_
      have htk : (tv.take (i + 1)).map (fun q => isIn q.1) = l.map (·.1) ++ [isIn q.1] := by
        rw [List.take_add_one, hq, hl]
        simp
      k_steps
      · show Halt _
        have hm : Int.fmod q.1 2 = 0 := by assumption
        refine ⟨_, _, (D3, W.listOf (vals tv).toArray (vals tv).length) :: (Rl, W.listOf (refsOf rs).toArray e2) :: (Dr, W.listOf (vals rv).toArray er) :: (L2 + 1 + 1, ocs) :: (L2 + 1, orow) :: robjs rs, rfl, ‹Fr g2 _ _ _›, News.sub ‹News g2 _ _ _› (by walk_at "MY sub2"), off, hS, rfl, ?_⟩
        rw [htk, show isIn q.1 = true by simp [isIn, hm]]
        exact sgn_in l _
      · show Halt _
        have hm : Int.fmod q.1 2 ≠ 0 := by assumption
        refine ⟨_, _, (D3, W.listOf (vals tv).toArray (vals tv).length) :: (Rl, W.listOf (refsOf rs).toArray e2) :: (Dr, W.listOf (vals rv).toArray er) :: (L2 + 1 + 1, ocs) :: (L2 + 1, orow) :: robjs rs, rfl, ‹Fr g2 _ _ _›, News.sub ‹News g2 _ _ _› (by walk_at "MY sub2"), off, hS, rfl, ?_⟩
        rw [htk, show isIn q.1 = false by simp [isIn, hm]]
        exact sgn_out l _
    case done7 =>
      rintro ys oC mC nw h9 tk9 hJJ
      refine exp1a2 hJJ fun hqE1 l hqE2 hl => ?_
      clear hJJ
      subst hqE1
      subst hqE2
      rintro hC F9 N13 off
      rw [vals_length, List.take_length] at hl
      k_dflt (refine post_none F9 N13 hC (Nat.ne_of_gt hDC7) (fun p hp => (off.mem p hp).2.1) ?_)
      intro h10 F10 N14
      have N15 : News g2 (L2) h10 ((D7, W.listOf (sgnv l).toArray (sgnv l).length) :: (D3, W.listOf (vals tv).toArray (vals tv).length) :: (Rl, W.listOf (refsOf rs).toArray e2) :: (Dr, W.listOf (vals rv).toArray er) :: (L2 + 1 + 1, ocs) :: (L2 + 1, orow) :: robjs rs) := N14
      (try clear N9); (try clear N10); (try clear N11); (try clear N12); (try clear N13); (try clear N14); (try clear F6); (try clear F7); (try clear F8); (try clear F9)
      obtain ⟨bs, hbs⟩ : ∃ bs : List Bool, bs = tv.map fun q => isIn q.1 := ⟨_, rfl⟩
      rw [← hbs] at hl
      have htl : tv.length ≤ 100 := by rw [← htv] at hfl14; omega
      have hbl : bs.length ≤ 100 := by rw [hbs, List.length_map]; exact htl
      k_steps
      show wpAny _ _ _ _ _ _
      k_dflt (refine join_listC (News.isList ‹News g2 _ _ _› (.head _)) (sgn_are l) (by decide) ?_ ?_)
      · rw [hl, sum_word, List.length_map]
        omega
      intro tw kw
      rw [hl, join_word]
      have hFM : FindMark := trivial
      k_steps
      show wpAny _ _ _ _ _ _
      rename FindMark => hFM
      clear hFM
      have N16 : News g2 (L2) _ ((D3, W.listOf (vals tv).toArray (vals tv).length) :: (Rl, W.listOf (refsOf rs).toArray e2) :: (Dr, W.listOf (vals rv).toArray er) :: (L2 + 1 + 1, ocs) :: (L2 + 1, orow) :: robjs rs) := News.sub ‹News g2 _ _ _› (by walk_at "MY sub2")
      (try clear N15)
      obtain ⟨BB, hBB⟩ : ∃ BB, BB = (D3, W.listOf (vals tv).toArray (vals tv).length) :: (Rl, W.listOf (refsOf rs).toArray e2) :: (Dr, W.listOf (vals rv).toArray er) :: (L2 + 1 + 1, ocs) :: (L2 + 1, orow) :: robjs rs := ⟨_, rfl⟩
      k_dflt (refine assignComp (by with_unfolding_all rfl) (by with_unfolding_all rfl) rfl (by decide) (by intro _; rfl) rfl ?_)
      k_steps
      show wpAny _ _ _ _ _ _
      have hrg := ‹IsRange _ _ 0 _ _ _ _ _›
      have N17 : News g2 (L2) _ ((D3, W.listOf (vals tv).toArray (vals tv).length) :: (Rl, W.listOf (refsOf rs).toArray e2) :: (Dr, W.listOf (vals rv).toArray er) :: (L2 + 1 + 1, ocs) :: (L2 + 1, orow) :: robjs rs) := News.sub ‹News g2 _ _ _› (by walk_at "MY sub2")
      k_dflt (refine src_rng (n := ns.length) rfl ‹Fr g2 _ _ _› N17 hrg (by rfl) (by omega) ?_)
      intro I8 h11 F11 N18 lI8 W8
      show wpAny _ _ _ _ _ _
      k_dflt (refine comp_open1 (y := Str.ofString "j") F11 N18 (fun _ => rfl) (fun _ => rfl) rfl ?_)
      intro C8 oC8 c8 D8 h12 hoC8 F12 N19 hDC8 hCc8 hlt8 hkeep8 hall8
      obtain ⟨oI₂, hoI₂⟩ := W8.there
      have hID8 : I8 < D8 := hall8 _ _ hoI₂
      have off8 : LCg.Off3 I8 c8 D8 ((C8, oC8) :: (D3, W.listOf (vals tv).toArray (vals tv).length) :: (Rl, W.listOf (refsOf rs).toArray e2) :: (Dr, W.listOf (vals rv).toArray er) :: (L2 + 1 + 1, ocs) :: (L2 + 1, orow) :: robjs rs) := LCg.Off3.of fun p hp => by
        rcases List.mem_cons.mp hp with rfl | hp
        · exact ⟨Nat.ne_of_gt (Nat.lt_trans hID8 hDC8), Nat.ne_of_lt hCc8, Nat.ne_of_gt hDC8⟩
        · exact ⟨Nat.ne_of_lt (lI8 p hp), Nat.ne_of_lt (Nat.lt_trans (hlt8 p hp) (Nat.lt_trans hDC8 hCc8)), Nat.ne_of_lt (hlt8 p hp)⟩
      have N20 : News g2 (L2) h12 ((c8, cellO none) :: (D8, LCg.lst []) :: (C8, oC8) :: (D3, W.listOf (vals tv).toArray (vals tv).length) :: (Rl, W.listOf (refsOf rs).toArray e2) :: (Dr, W.listOf (vals rv).toArray er) :: (L2 + 1 + 1, ocs) :: (L2 + 1, orow) :: robjs rs) := News.sub N19 (by walk_at "MY sub2")
      k_dflt (refine one_cell (oC₀ := oC8) rfl rfl rfl (W8.keeps hkeep8) (Nat.ne_of_lt (Nat.lt_trans hID8 (Nat.lt_trans hDC8 hCc8))) (Nat.ne_of_lt hID8) (Nat.ne_of_gt (Nat.lt_trans hDC8 hCc8)) (fun i ys nw => nw = (C8, oC8) :: (D3, W.listOf (vals tv).toArray (vals tv).length) :: (Rl, W.listOf (refsOf rs).toArray e2) :: (Dr, W.listOf (vals rv).toArray er) :: (L2 + 1 + 1, ocs) :: (L2 + 1, orow) :: robjs rs ∧ i ≤ 7 ∧ ∃ gv, ys = vals gv ∧ gv.map (·.1) = ((List.range i).filter (patB ns)).map (fun k : Nat => (k : Int))) ?hlen8 ?turn8 ?done8 F12 N20 off8 trivial ⟨rfl, Nat.zero_le _, [], rfl, rfl⟩)
      case hlen8 =>
        rintro i ys nw ⟨-, hi7, gv, rfl, hgv⟩
        have h9 := congrArg List.length hgv
        rw [List.length_map, List.length_map] at h9
        have h8 := List.length_filter_le (patB ns) (List.range i)
        rw [List.length_range] at h8
        rw [vals_length]
        omega
      case turn8 =>
        rintro i v ys oI oc nw h13 tk13 E' hi ⟨t, rfl⟩ hJJ
        refine expp1a2 hJJ fun hqE1 _ gv hqE2 hgv => ?_
        clear hJJ
        subst hqE1
        subst hqE2
        rintro hS hoc F13 N21 off
        have hi8 : i + 1 ≤ 7 := by omega
        (try clear N16); (try clear N17); (try clear N18); (try clear N19); (try clear N20); (try clear F11); (try clear F12); (try clear F10); (try clear hrg)
        refine wpAny_tests_one ?_
        k_steps
        show wpAny _ _ _ _ _ _
        k_dflt (refine evalComp (by with_unfolding_all rfl) (by rfl) (by decide) (by intro _; rfl) rfl ?_)
        k_steps
        show wpAny _ _ _ _ _ _
        have hrg2 := ‹IsRange _ _ 0 (i : Int) _ _ _ _›
        have N22 : News g2 (L2) _ ((I8, oI) :: (c8, oc) :: (D8, LCg.lst (vals gv)) :: (C8, oC8) :: (D3, W.listOf (vals tv).toArray (vals tv).length) :: (Rl, W.listOf (refsOf rs).toArray e2) :: (Dr, W.listOf (vals rv).toArray er) :: (L2 + 1 + 1, ocs) :: (L2 + 1, orow) :: robjs rs) := News.sub ‹News g2 _ _ _› (by walk_at "MY sub2")
        k_dflt (refine src_rng (n := i) rfl ‹Fr g2 _ _ _› N22 hrg2 (by rfl) (by omega) ?_)
        intro I9 h14 F14 N23 lI9 W9
        show wpAny _ _ _ _ _ _
        k_dflt (refine comp_open0 F14 N23 (by decide) rfl ?_)
        intro C9 oC9 D9 h15 hoC9 F15 N24 hDC9 hlt9 hkeep9 hall9
        obtain ⟨oI₃, hoI₃⟩ := W9.there
        have hID9 : I9 < D9 := hall9 _ _ hoI₃
        have off9 := comp_off (I := I9) lI9 hlt9 hDC9
        k_dflt (refine two_local rfl rfl rfl (by decide) (by intro _; rfl) (W9.keeps hkeep9) (Nat.ne_of_lt (Nat.lt_trans hID9 hDC9)) (Nat.ne_of_lt hID9) (Nat.ne_of_gt hDC9) (fun a ys nw => (∀ p ∈ (I8, oI) :: (c8, oc) :: (D8, LCg.lst (vals gv)) :: (C8, oC8) :: (D3, W.listOf (vals tv).toArray (vals tv).length) :: (Rl, W.listOf (refsOf rs).toArray e2) :: (Dr, W.listOf (vals rv).toArray er) :: (L2 + 1 + 1, ocs) :: (L2 + 1, orow) :: robjs rs, p ∈ nw) ∧ ∃ ov, ys = vals ov ∧ ov.length ≤ a * 100 ∧ (ov = [] ↔ ((List.range a).any fun i' => (ns.drop (i + 1)).any fun x => decide (x < ns.getD i' 0) && decide (ns.getD i' 0 < ns.getD i 0)) = false)) ?turn9 ?done9 F15 N24 off9 trivial hoC9 ⟨fun p hp => hp, [], rfl, Nat.zero_le _, by simp⟩)
        case turn9 =>
          rintro a v ys oI9 oC m₂ nw h16 tk16 E9 ha ⟨t9, rfl⟩ hJJ
          refine exp1a3 hJJ fun hBI ov hqE1 hol hov => ?_
          clear hJJ
          subst hqE1
          rintro hS9 hoC hm1 F16 N25 off16
          have N26 : News g2 (L2) h16 ((I9, oI9) :: (C9, oC) :: (D9, LCg.lst (vals ov)) :: (I8, oI) :: (c8, oc) :: (D8, LCg.lst (vals gv)) :: (C8, oC8) :: (D3, W.listOf (vals tv).toArray (vals tv).length) :: (Rl, W.listOf (refsOf rs).toArray e2) :: (Dr, W.listOf (vals rv).toArray er) :: (L2 + 1 + 1, ocs) :: (L2 + 1, orow) :: robjs rs) := News.sub N25 (sub_cons (.head _) (sub_cons (.tail _ (.head _)) (sub_cons (.tail _ (.tail _ (.head _))) fun p hp => .tail _ (.tail _ (.tail _ (hBI p hp))))))
          (try clear N22); (try clear N23); (try clear N24); (try clear N25); (try clear F14); (try clear F15); (try clear F13); (try clear N21); (try clear hrg2)
          k_steps
          show wpAny _ _ _ _ _ _
          rename_i Ds _ _ hN hl
          have hpk : kms_pick (vals rv).toArray.toList (some ((i : Int) + 1)) none = vals (rv.drop (i + 1)) := pick_drop rv i (by omega)
          rw [hpk] at hN
          have N28 : News g2 (L2) _ ((I9, oI9) :: (C9, oC) :: (D9, LCg.lst (vals ov)) :: (Ds, W.listOf (vals (rv.drop (i + 1))).toArray 0) :: (I8, oI) :: (c8, oc) :: (D8, LCg.lst (vals gv)) :: (C8, oC8) :: (D3, W.listOf (vals tv).toArray (vals tv).length) :: (Rl, W.listOf (refsOf rs).toArray e2) :: (Dr, W.listOf (vals rv).toArray er) :: (L2 + 1 + 1, ocs) :: (L2 + 1, orow) :: robjs rs) := News.sub hN (by walk_at "MY sub2")
          k_dflt (refine src_list (items := vals (rv.drop (i + 1))) rfl ‹Fr g2 _ _ _› N28 (by walk_at "MY in") ?_)
          intro I10 h17 F17 N29 lI10 W10
          have a1 := lI10 _ (.head _)
          have a2 := lI10 _ (.tail _ (.head _))
          have a3 := lI10 _ (.tail _ (.tail _ (.head _)))
          have hDs : ∀ p ∈ (I8, oI) :: (c8, oc) :: (D8, LCg.lst (vals gv)) :: (C8, oC8) :: (D3, W.listOf (vals tv).toArray (vals tv).length) :: (Rl, W.listOf (refsOf rs).toArray e2) :: (Dr, W.listOf (vals rv).toArray er) :: (L2 + 1 + 1, ocs) :: (L2 + 1, orow) :: robjs rs, p.1 ≠ I9 := fun p hp => (off16.mem p (hBI p hp)).1
          have off17 : LCg.Off3 I9 C9 D9 ((Ds, W.listOf (vals (rv.drop (i + 1))).toArray 0) :: (I8, oI) :: (c8, oc) :: (D8, LCg.lst (vals gv)) :: (C8, oC8) :: (D3, W.listOf (vals tv).toArray (vals tv).length) :: (Rl, W.listOf (refsOf rs).toArray e2) :: (Dr, W.listOf (vals rv).toArray er) :: (L2 + 1 + 1, ocs) :: (L2 + 1, orow) :: robjs rs) := LCg.Off3.of fun p hp => by
            rcases List.mem_cons.mp hp with rfl | hp
            · exact ⟨Nat.ne_of_gt hl.1, Nat.ne_of_gt hl.2.1, Nat.ne_of_gt hl.2.2.1⟩
            · exact off16.mem p (hBI p hp)
          refine ⟨I10, _, _, _, (Ds, W.listOf (vals (rv.drop (i + 1))).toArray 0) :: (I8, oI) :: (c8, oc) :: (D8, LCg.lst (vals gv)) :: (C8, oC8) :: (D3, W.listOf (vals tv).toArray (vals tv).length) :: (Rl, W.listOf (refsOf rs).toArray e2) :: (Dr, W.listOf (vals rv).toArray er) :: (L2 + 1 + 1, ocs) :: (L2 + 1, orow) :: robjs rs, h17, _, fun b ys nw => nw = (Ds, W.listOf (vals (rv.drop (i + 1))).toArray 0) :: (I8, oI) :: (c8, oc) :: (D8, LCg.lst (vals gv)) :: (C8, oC8) :: (D3, W.listOf (vals tv).toArray (vals tv).length) :: (Rl, W.listOf (refsOf rs).toArray e2) :: (Dr, W.listOf (vals rv).toArray er) :: (L2 + 1 + 1, ocs) :: (L2 + 1, orow) :: robjs rs ∧ b ≤ 7 ∧ ∃ ov', ys = vals ov' ∧ ov'.length ≤ a * 100 + b ∧ (ov' = [] ↔ ov = [] ∧ ((ns.drop (i + 1)).take b).any (fun x => decide (x < ns.getD a 0) && decide (ns.getD a 0 < ns.getD i 0)) = false), rfl, rfl, W10, F17, N29, off17, ⟨Nat.ne_of_gt a1, Nat.ne_of_gt a2, Nat.ne_of_gt a3, fun p hp => Nat.ne_of_lt (lI10 p (.tail _ (.tail _ (.tail _ hp))))⟩, fun nw hs => hs _ (.head _), ⟨rfl, Nat.zero_le _, ov, rfl, by omega, by simp⟩, ?pr9, ?turn10, ?fin9⟩
          case pr9 =>
            rintro b ys nw hJJ
            refine expp1a3 hJJ fun hqE1 hb7 ov' hqE2 h1 h2 => ?_
            clear hJJ
            subst hqE1
            subst hqE2
            refine ⟨?_, trivial, fun p hp => hp, fun p hp => (off17.mem p hp).1⟩
            rw [vals_length]
            exact om_ov h1 hb7 ha (by assumption)
          case turn10 =>
            rintro b v2 ys oI10 oC' m₃ nw h18 tk18 E10 hb hP2 hJJ
            refine expp1a3 hJJ fun hqE1 _ ov' hqE2 h1 h2 => ?_
            clear hJJ
            subst hqE1
            subst hqE2
            rintro hoC' hmi hmx F18 N30 off18
            have hb8 : b + 1 ≤ 7 := by
              rw [vals_length, List.length_drop] at hb
              have h9 : rv.length = ns.length := by rw [← hrv, List.length_map]
              exact om_b hb h9 (by assumption)
            obtain ⟨q, hq, rfl⟩ := vals_get hP2
            obtain ⟨qa, hva, hqa⟩ := vals_at hrv (i := a) (by omega)
            obtain ⟨qi, hvi, hqi⟩ := vals_at hrv (i := i) (by omega)
            have hza : 0 ≤ (a : Int) ∧ (a : Int) < 100000 := om_z (Nat.le_of_lt (Nat.lt_of_lt_of_le ha (by assumption)))
            have hzi : 0 ≤ (i : Int) ∧ (i : Int) < 100000 := om_z (by assumption)
            have hst : ((ns.drop (i + 1)).take (b + 1)).any (fun x => decide (x < ns.getD a 0) && decide (ns.getD a 0 < ns.getD i 0)) = (((ns.drop (i + 1)).take b).any (fun x => decide (x < ns.getD a 0) && decide (ns.getD a 0 < ns.getD i 0)) || (decide (q.1 < qa.1) && decide (qa.1 < qi.1))) := by
              rw [List.take_add_one, ← hqa, ← hqi]
              have : (ns.drop (i + 1))[b]? = some q.1 := by
                rw [← hrv, ← List.map_drop, List.getElem?_map, hq]
                rfl
              rw [this, List.any_append]
              simp
            (try clear N28); (try clear N29); (try clear F17); (try clear hN); (try clear N26); (try clear F16)
            refine wpAny_tests_one ?_
            rcases Decidable.em (q.1 < qa.1) with c1 | c1
            · rcases Decidable.em (qa.1 < qi.1) with c2 | c2
              · have hc2 : decide (qa.1 < qi.1) = true := by simp [c2]
                k_steps
                show Halt _
                refine ⟨_, _, (I9, oI9) :: (Ds, W.listOf (vals (rv.drop (i + 1))).toArray 0) :: (I8, oI) :: (c8, oc) :: (D8, LCg.lst (vals gv)) :: (C8, oC8) :: (D3, W.listOf (vals tv).toArray (vals tv).length) :: (Rl, W.listOf (refsOf rs).toArray e2) :: (Dr, W.listOf (vals rv).toArray er) :: (L2 + 1 + 1, ocs) :: (L2 + 1, orow) :: robjs rs, rfl, ‹Fr g2 _ _ _›, News.sub ‹News g2 _ _ _› (by walk_at "MY sub2"), off18, trivial, _, rfl, rfl, hb8, ?_⟩
                exact one_end ov' _ _ h1 _ (by rw [hst]; simp [c1, c2])
              · have hc2 : decide (qa.1 < qi.1) = false := by simp [c2]
                k_steps
                show Halt _
                refine ⟨_, _, (I9, oI9) :: (Ds, W.listOf (vals (rv.drop (i + 1))).toArray 0) :: (I8, oI) :: (c8, oc) :: (D8, LCg.lst (vals gv)) :: (C8, oC8) :: (D3, W.listOf (vals tv).toArray (vals tv).length) :: (Rl, W.listOf (refsOf rs).toArray e2) :: (Dr, W.listOf (vals rv).toArray er) :: (L2 + 1 + 1, ocs) :: (L2 + 1, orow) :: robjs rs, rfl, ‹Fr g2 _ _ _›, News.sub ‹News g2 _ _ _› (by walk_at "MY sub2"), off18, trivial, _, rfl, rfl, hb8, ?_⟩
                exact ⟨ov', rfl, by omega, by rw [hst]; simpa [c1, c2] using h2⟩
            · k_steps
              show Halt _
              refine ⟨_, _, (I9, oI9) :: (Ds, W.listOf (vals (rv.drop (i + 1))).toArray 0) :: (I8, oI) :: (c8, oc) :: (D8, LCg.lst (vals gv)) :: (C8, oC8) :: (D3, W.listOf (vals tv).toArray (vals tv).length) :: (Rl, W.listOf (refsOf rs).toArray e2) :: (Dr, W.listOf (vals rv).toArray er) :: (L2 + 1 + 1, ocs) :: (L2 + 1, orow) :: robjs rs, rfl, ‹Fr g2 _ _ _›, News.sub ‹News g2 _ _ _› (by walk_at "MY sub2"), off18, trivial, _, rfl, rfl, hb8, ?_⟩
              exact ⟨ov', rfl, by omega, by rw [hst]; simpa [c1] using h2⟩
          case fin9 =>
            rintro ys nw hJJ
            refine expp1a3 hJJ fun hqE1 _ ov' hqE2 h1 h2 => ?_
            clear hJJ
            subst hqE1
            subst hqE2
            have hl7 : (vals (rv.drop (i + 1))).length ≤ 100 := by
              rw [vals_length, List.length_drop]
              have : rv.length = ns.length := by rw [← hrv, List.length_map]
              exact om_l this (by assumption)
            refine ⟨fun p hp => .tail _ hp, ov', rfl, by rw [Nat.add_mul]; omega, ?_⟩
            rw [h2, hov, List.range_succ, List.any_append]
            have e : (ns.drop (i + 1)).take (vals (rv.drop (i + 1))).length = ns.drop (i + 1) := by
              rw [List.take_of_length_le]
              rw [vals_length, ← hrv, ← List.map_drop, List.length_map]
              exact Nat.le_refl _
            rw [e]
            simp
        case done9 =>
          rintro ys oC mC nw h16 tk16 hJJ
          refine exp1a3 hJJ fun hBI ov hqE1 hol hov => ?_
          clear hJJ
          subst hqE1
          rintro hC F16 N25 off16
          k_dflt (refine post_none F16 N25 hC (Nat.ne_of_gt hDC9) (fun p hp => (off16.mem p hp).2.1) ?_)
          intro h17 F17 N26
          have N27 : News g2 (L2) h17 ((D9, W.listOf (vals ov).toArray (vals ov).length) :: (I8, oI) :: (c8, oc) :: (D8, LCg.lst (vals gv)) :: (C8, oC8) :: (D3, W.listOf (vals tv).toArray (vals tv).length) :: (Rl, W.listOf (refsOf rs).toArray e2) :: (Dr, W.listOf (vals rv).toArray er) :: (L2 + 1 + 1, ocs) :: (L2 + 1, orow) :: robjs rs) := News.sub N26 (sub_cons (.head _) fun p hp => .tail _ (hBI p hp))
          have hIo := vals_ints ov
          (try clear N22); (try clear N23); (try clear N24); (try clear N25); (try clear N26); (try clear F14); (try clear F15); (try clear F13); (try clear N21); (try clear F16)
          have hpat : ov = [] ↔ patB ns i = false := hov
          have hfs := filt_succ (patB ns) i
          rw [← hgv] at hfs
          cases hp : patB ns i with
          | true =>
            have hb2 : (!decide (List.map (fun x => x.fst) ov = [])) = true := by
              have : ov ≠ [] := fun e => by rw [hpat.mp e] at hp; cases hp
              simpa using this
            rw [hp, if_pos rfl] at hfs
            k_steps
            show Halt _
            refine ⟨_, _, (C8, oC8) :: (D3, W.listOf (vals tv).toArray (vals tv).length) :: (Rl, W.listOf (refsOf rs).toArray e2) :: (Dr, W.listOf (vals rv).toArray er) :: (L2 + 1 + 1, ocs) :: (L2 + 1, orow) :: robjs rs, rfl, ‹Fr g2 _ _ _›, News.sub ‹News g2 _ _ _› (by walk_at "MY sub2"), off, trivial, rfl, hi8, ?_⟩
            exact gv_in gv _ _ _ hfs.symm
          | false =>
            have hb2 : (!decide (List.map (fun x => x.fst) ov = [])) = false := by
              have : ov = [] := hpat.mpr hp
              simp [this]
            rw [hp, if_neg Bool.false_ne_true, List.append_nil] at hfs
            k_steps
            show Halt _
            refine ⟨_, _, (C8, oC8) :: (D3, W.listOf (vals tv).toArray (vals tv).length) :: (Rl, W.listOf (refsOf rs).toArray e2) :: (Dr, W.listOf (vals rv).toArray er) :: (L2 + 1 + 1, ocs) :: (L2 + 1, orow) :: robjs rs, rfl, ‹Fr g2 _ _ _›, News.sub ‹News g2 _ _ _› (by walk_at "MY sub2"), off, trivial, rfl, hi8, gv, rfl, hfs.symm⟩
      case done8 =>
        rintro ys oc nw h13 tk13 hJJ
        refine expp1a2 hJJ fun hqE1 _ gv hqE2 hgv => ?_
        clear hJJ
        subst hqE1
        subst hqE2
        rintro F13 N21 off
        have N22 : News g2 (L2) h13 ((C8, oC8) :: (D8, LCg.lst (vals gv)) :: (D3, W.listOf (vals tv).toArray (vals tv).length) :: (Rl, W.listOf (refsOf rs).toArray e2) :: (Dr, W.listOf (vals rv).toArray er) :: (L2 + 1 + 1, ocs) :: (L2 + 1, orow) :: robjs rs) := News.sub N21 (by walk_at "MY sub2")
        k_dflt (refine post_assign rfl rfl rfl F13 N22 hoC8 (Nat.ne_of_gt hDC8) (fun p hp => Nat.ne_of_lt (Nat.lt_trans (hlt8 p hp) hDC8)) ?_)
        intro h14 tk14 F14 N23
        obtain ⟨eg, N24⟩ : ∃ eg, News g2 (L2) h14 ((D8, W.listOf (vals gv).toArray eg) :: (D3, W.listOf (vals tv).toArray (vals tv).length) :: (Rl, W.listOf (refsOf rs).toArray e2) :: (Dr, W.listOf (vals rv).toArray er) :: (L2 + 1 + 1, ocs) :: (L2 + 1, orow) :: robjs rs) := ⟨_, N23⟩
        have hIg := vals_ints gv
        (try clear N16); (try clear N17); (try clear N18); (try clear N19); (try clear N20); (try clear N21); (try clear N22); (try clear N23); (try clear F11); (try clear F12); (try clear F13); (try clear F10); (try clear hrg)
        have hEM : ExecMark := trivial
        k_steps
        show Halt _
        have F15 := fr_over (Str.ofString "greater") (fr_over (Str.ofString "refused") (fr_over (Str.ofString "rounds") (fr_over (Str.ofString "told") (fr_over (Str.ofString "word") ‹Fr g2 _ _ _› (by with_unfolding_all rfl)) (by with_unfolding_all rfl)) (by with_unfolding_all rfl)) (by with_unfolding_all rfl)) (by with_unfolding_all rfl)
        obtain ⟨st, LF⟩ := lawFacts hn7 ri rok hcyc hacy
        have hflat : (rkeys rs).flatten = tv.map (·.1) := by rw [flat_keys, htv]
        have hbs2 : (rkeys rs).flatten.map isIn = bs := by rw [hflat, hbs, List.map_map]; rfl
        rw [hbs2, ← hrv] at LF
        have hrv7 : rv.length ≤ 7 := by
          have h9 := congrArg List.length hrv
          rw [List.length_map] at h9
          omega
        have hD1 : Rl ≠ D3 := Nat.ne_of_lt (hlt3 _ (.head _))
        have hD2 : Dr ≠ D3 := Nat.ne_of_lt (hlt3 _ (.tail _ (.head _)))
        have hD4 : L2 + 1 + 1 ≠ D3 := Nat.ne_of_lt (hlt3 _ (.tail _ (.tail _ (.head _))))
        have hcc : L2 + 1 ≠ L2 + 1 + 1 := Nat.ne_of_lt (Nat.lt_succ_self _)
        have N25 : News g2 (L2) h14 [(D8, W.listOf (vals gv).toArray eg), (D3, W.listOf (vals tv).toArray (vals tv).length), (Rl, W.listOf (refsOf rs).toArray e2), (Dr, W.listOf (vals rv).toArray er), (L2 + 1 + 1, ocs), (L2 + 1, orow)] := News.sub N24 (by walk_at "MY sub2")
        k_dflt (refine tail0x ⟨⟨B2, F15, X2, T2, rfl, by decide, by decide⟩, hBase.1, hBase.2, D2⟩ N25 horow hocs ⟨⟨Ne.symm hD4, hRc1⟩, hDc1, hcc⟩ ⟨⟨Ne.symm hD2, hRD⟩, Ne.symm hDc1, Ne.symm hDc2⟩ hrv7 (by rw [hrv]; exact hgv) LF hflat.symm ?hB ?hsc ?hcl ?hst ?hQ)
        case hB => exact AllBare.of_eq hg
        case hsc => exact rfl
        case hcl => exact rfl
        case hst => exact rfl
        case hQ =>
          intro s' h₀' m' hT F' hos hbare
          have hTT := hT2.trans hT
          show GoodWG _ _ _ _ _ (.ok (.ret (.bool true))) s'
          exact ⟨.inl ⟨.bool true, .bool true, [], rfl, fun _ => rfl, .bool true, (by wrow_post), fun _ => ⟨.nil, fun _ hm => by cases hm⟩⟩, .of_keep fun b o e => F'.keep b o (hTT.other b o e (by simp)), hos, hbare⟩)
end Mine
theorem PySem.Challenge.cw_oh0060_01_holds : PySem.Challenge.rw_oh0060_01.Holds := by
  exact Mine.law_holds

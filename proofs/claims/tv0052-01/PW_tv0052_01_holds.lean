import PyProof.Rows.All
import Wide.All
import OpenK.AllK
import Wide.FinOn
import PySem.Challenge.RW_tv0052_01
set_option Elab.async false
set_option maxRecDepth 100000
open PySem PySem.W PySem.Spec PySem.Calls PyProof.Rows
namespace Mine.PySem.W
/-- the premise of the head's theorem, not to be taken in pieces -/
noncomputable def LeftD (p q : Program) (loose : List Str) (Xt : Shared → Bool) {α : Type} (Yf : Shared → α) (Ya : World → α) (N : Nat) : Prop := LeftO p q loose Xt Yf Ya N
theorem holds_open {r : OpenRow} {q : Program} {loose : List Str} {Xt : Shared → Bool} {XP : (Str → Option Value) → Heap → Prop} {α : Type} {Yf : Shared → α} {Ya : World → α} {YP : World → Heap → Prop} {d : DefRec} {kwd : List (Str × Expr)} {N : Nat}
    (left : LeftD r.prog q loose Xt Yf Ya N) (hY : ∀ w s, Yf s = Ya w → YP w s.heap) (hYk : ∀ w h h', YP w h → (∀ b o, h.get? b = some o → h'.get? b = some o) → YP w h')
    (hX : ∀ s, Xt s = true → XP (s.heap.nsMap mainGlobals) s.heap) (hXk : ∀ mg h h', XP mg h → (∀ b o, h.get? b = some o → h'.get? b = some o) → XP mg h')
    (hdef : defOf q r.name = some (d, kwd)) (hp : r.prog.theDef r.name = some (d.params, d.body, d.scope)) (hk : kwWritten? d.params.kwonlyargs d.params.kw_defaults = some kwd) (hRf : ∀ s, Xt s = true → RecFacts r.records s.heap) (hwr : (!r.writes || r.records.isEmpty) = true)
    (k1 : r.wellSaid = true) (ok : (chainsOk q && opensWell r.prog && (frees r.toRowW && r.within.isEmpty)) = true) (hb : r.prog.bare) (hw : r.toRowW.promised)
    (call : WalkO q loose XP YP r.toRowW d kwd fun f vs => PySem.call f vs) : r.Holds :=
  _root_.PySem.W.holds_open left hY hYk hX hXk hdef hp hk hRf hwr k1 ok hb hw call
end Mine.PySem.W

namespace Mine
section
/- the looks at the law by one check of the kernel: no twins -/
local macro_rules | `(tactic| o_law) => `(tactic| k_extra "M law")
theorem rules_LawHd_0 : True := by
  k_with "M law" => refine holds_law (by decide +kernel) fun _ => ?_
  trivial
set_option maxRecDepth 100000 in
set_option maxHeartbeats 8000000 in
open_top hd for PySem.Challenge.rw_tv0052_01
end

local macro_rules | `(tactic| omega) => `(tactic| first | with_reducible assumption | lia | omega (config := {}))

section
theorem hush_M1 : True := by
  k_with_none
  w_top off
  trivial
theorem fcons {α : Type} {p : α → Prop} {a : α} {l : List α} (h : p a) (t : ∀ x ∈ l, p x) : ∀ x ∈ a :: l, p x := List.forall_mem_cons.mpr ⟨h, t⟩
theorem mem1 {α : Type} {a0 x : α} {l : List α} : x ∈ a0 :: x :: l := .tail _ (.head _)
theorem mem2 {α : Type} {a0 a1 x : α} {l : List α} : x ∈ a0 :: a1 :: x :: l := .tail _ (.tail _ (.head _))
theorem mem3 {α : Type} {a0 a1 a2 x : α} {l : List α} : x ∈ a0 :: a1 :: a2 :: x :: l := .tail _ (.tail _ (.tail _ (.head _)))
theorem mem4 {α : Type} {a0 a1 a2 a3 x : α} {l : List α} : x ∈ a0 :: a1 :: a2 :: a3 :: x :: l := .tail _ (.tail _ (.tail _ (.tail _ (.head _))))
theorem mem5 {α : Type} {a0 a1 a2 a3 a4 x : α} {l : List α} : x ∈ a0 :: a1 :: a2 :: a3 :: a4 :: x :: l := .tail _ (.tail _ (.tail _ (.tail _ (.tail _ (.head _)))))
theorem mem6 {α : Type} {a0 a1 a2 a3 a4 a5 x : α} {l : List α} : x ∈ a0 :: a1 :: a2 :: a3 :: a4 :: a5 :: x :: l := .tail _ (.tail _ (.tail _ (.tail _ (.tail _ (.tail _ (.head _))))))
theorem mem7 {α : Type} {a0 a1 a2 a3 a4 a5 a6 x : α} {l : List α} : x ∈ a0 :: a1 :: a2 :: a3 :: a4 :: a5 :: a6 :: x :: l := .tail _ (.tail _ (.tail _ (.tail _ (.tail _ (.tail _ (.tail _ (.head _)))))))
theorem mem8 {α : Type} {a0 a1 a2 a3 a4 a5 a6 a7 x : α} {l : List α} : x ∈ a0 :: a1 :: a2 :: a3 :: a4 :: a5 :: a6 :: a7 :: x :: l := .tail _ (.tail _ (.tail _ (.tail _ (.tail _ (.tail _ (.tail _ (.tail _ (.head _))))))))
theorem mem9 {α : Type} {a0 a1 a2 a3 a4 a5 a6 a7 a8 x : α} {l : List α} : x ∈ a0 :: a1 :: a2 :: a3 :: a4 :: a5 :: a6 :: a7 :: a8 :: x :: l := .tail _ (.tail _ (.tail _ (.tail _ (.tail _ (.tail _ (.tail _ (.tail _ (.tail _ (.head _)))))))))
theorem mem10 {α : Type} {a0 a1 a2 a3 a4 a5 a6 a7 a8 a9 x : α} {l : List α} : x ∈ a0 :: a1 :: a2 :: a3 :: a4 :: a5 :: a6 :: a7 :: a8 :: a9 :: x :: l := .tail _ (.tail _ (.tail _ (.tail _ (.tail _ (.tail _ (.tail _ (.tail _ (.tail _ (.tail _ (.head _))))))))))
theorem mem11 {α : Type} {a0 a1 a2 a3 a4 a5 a6 a7 a8 a9 a10 x : α} {l : List α} : x ∈ a0 :: a1 :: a2 :: a3 :: a4 :: a5 :: a6 :: a7 :: a8 :: a9 :: a10 :: x :: l := .tail _ (.tail _ (.tail _ (.tail _ (.tail _ (.tail _ (.tail _ (.tail _ (.tail _ (.tail _ (.tail _ (.head _)))))))))))
theorem mem12 {α : Type} {a0 a1 a2 a3 a4 a5 a6 a7 a8 a9 a10 a11 x : α} {l : List α} : x ∈ a0 :: a1 :: a2 :: a3 :: a4 :: a5 :: a6 :: a7 :: a8 :: a9 :: a10 :: a11 :: x :: l := .tail _ (.tail _ (.tail _ (.tail _ (.tail _ (.tail _ (.tail _ (.tail _ (.tail _ (.tail _ (.tail _ (.tail _ (.head _))))))))))))
theorem mem13 {α : Type} {a0 a1 a2 a3 a4 a5 a6 a7 a8 a9 a10 a11 a12 x : α} {l : List α} : x ∈ a0 :: a1 :: a2 :: a3 :: a4 :: a5 :: a6 :: a7 :: a8 :: a9 :: a10 :: a11 :: a12 :: x :: l := .tail _ (.tail _ (.tail _ (.tail _ (.tail _ (.tail _ (.tail _ (.tail _ (.tail _ (.tail _ (.tail _ (.tail _ (.tail _ (.head _)))))))))))))

theorem sp2 {α β : Type} {P : α × β → Prop} (h : ∀ a b, P (a, b)) : ∀ x, P x := fun ⟨a, b⟩ => h a b
theorem sp3 {α β γ : Type} {P : α × β × γ → Prop} (h : ∀ a b c, P (a, b, c)) : ∀ x, P x := fun ⟨a, b, c⟩ => h a b c
theorem sp4 {α β γ δ : Type} {P : α × β × γ × δ → Prop} (h : ∀ a b c d, P (a, b, c, d)) : ∀ x, P x := fun ⟨a, b, c, d⟩ => h a b c d
theorem sp7 {α β γ δ ε ζ η : Type} {P : α × β × γ × δ × ε × ζ × η → Prop} (h : ∀ a b c d e f g, P (a, b, c, d, e, f, g)) : ∀ x, P x := fun ⟨a, b, c, d, e, f, g⟩ => h a b c d e f g
section
variable {M : Model} {A : Around} {E : Value → Shared → Prop} {Q : Flow → Shared → Prop} {env : Env} {st : Stmt} {rest : List Stmt} {s : Shared}
/-- the rest of a block, as a word -/
noncomputable def Seq (M : Model) (A : Around) (rest : List Stmt) (env : Env) (Q : Flow → Shared → Prop) (E : Value → Shared → Prop) (f : Flow) (s : Shared) : Prop :=
  match f with | .next => wpAny M A (execs rest env) Q E s | f => Q f s
theorem seqC (h : wpAny M A (exec st env) (Seq M A rest env Q E) E s) : wpAny M A (execs (st :: rest) env) Q E s :=
  wpAny_execs_cons (wpAny_mono h (fun f s h => by cases f <;> exact h) fun _ _ h => h)
theorem seqL (h : wpAny M A (exec st env) Q E s) : wpAny M A (execs [st] env) Q E s :=
  wpAny_execs_cons (wpAny_mono h (fun f s h => by cases f <;> first | exact h | exact wpAny_execs_nil h) fun _ _ h => h)
theorem seqV (h : ∀ Q', Q' = Seq M A rest env Q E → wpAny M A (exec st env) Q' E s) : wpAny M A (execs (st :: rest) env) Q E s := seqC (h _ rfl)
theorem seqVN {Q' : Flow → Shared → Prop} {hp : Heap} {tk : Nat} (e : Q' = Seq M A rest env Q E) (h : ∀ t, wpAny M A (execs rest env) Q E ⟨hp, s.gens, s.drawn, t, s.os⟩) : Q' .next ⟨hp, s.gens, s.drawn, tk, s.os⟩ := by rw [e]; exact h tk
theorem seqVM {Q' : Flow → Shared → Prop} (e : Q' = Seq M A rest env Q E) (h : wpAny M A (execs rest env) Q E s) : Q' .next s := by rw [e]; exact h
theorem seqVR {Q' : Flow → Shared → Prop} {v : Value} (e : Q' = Seq M A rest env Q E) (h : Q (.ret v) s) : Q' (.ret v) s := by rw [e]; exact h
theorem seqVB {Q' : Flow → Shared → Prop} (e : Q' = Seq M A rest env Q E) (h : Q .brk s) : Q' .brk s := by rw [e]; exact h
theorem seqVC {Q' : Flow → Shared → Prop} (e : Q' = Seq M A rest env Q E) (h : Q .cont s) : Q' .cont s := by rw [e]; exact h
end
noncomputable abbrev PR : Program := RowW.prog (OpenRow.toRowW (OpenLaw.row PySem.Challenge.rw_tv0052_01))

/-- all objects stand, but those at the addresses of Ts -/
noncomputable def KeepBut (Ts : List Addr) (h h' : Heap) : Prop := ∀ b o, h.get? b = some o → b ∉ Ts → h'.get? b = some o

noncomputable def Done (R : Value → Shared → Prop) (v : Value) (s : Shared) : Prop := R v s

/-- the addresses of Ts are none of the ground's, nor the frame's -/
noncomputable def Off (Ts : List Addr) (h₀ : Heap) (L : Addr) : Prop := ∀ a ∈ Ts, h₀.get? a = none ∧ a ≠ L

section
variable (w : World) (K : Frag) (p : Program) (loose : List Str) (mean : ExcName → Option Value) (mg mb : Str → Option Value)
/-- the contract of a def: a call with vs from a heap that meets Pre gives back r and a heap that meets Post; all but Ts is kept -/
noncomputable def Ctr (f : Addr) (sz : Nat) (Ts : List Addr) (vs : List Value) (Pre : Heap → Prop) (Post : Value → Heap → Heap → Prop) : Prop :=
  ∀ (dp un : Nat) (gd : Option (List Code)) (cn : Str) (cs : Scope) (a : Addr) (ccd : Value) (cl : List (Str × Addr)) (outer : List Env) (A₀ : Around) (base h₀ : Heap) (L : Addr) (m : Str → Option Value) (s : Shared) (Q E : Value → Shared → Prop),
    Below A₀ base outer h₀ → Fr h₀ L s.heap m → K.In h₀ → Top p loose mean mg mb h₀ → cs.kind = .function → Off Ts h₀ L →
    dp + sz < recursionLimit → un + 8 * sz < cLine → Pre s.heap →
    (∀ r h' tk', Fr h₀ L h' m → KeepBut Ts s.heap h' → Post r s.heap h' → Q r { s with heap := h', toks := tk' }) →
    wpAny (model PR w) (ktrTop dp un gd cn cs L a ccd cl outer) (call (.ref f) vs) Q E s
end

theorem KeepBut.refl (Ts : List Addr) (h : Heap) : KeepBut Ts h h := fun _ _ e _ => e
theorem KeepBut.trans {Ts : List Addr} {h h' h'' : Heap} (x : KeepBut Ts h h') (y : KeepBut Ts h' h'') : KeepBut Ts h h'' := fun b o e n => y b o (x b o e n) n
theorem KeepBut.fr {Ts : List Addr} {h₀ h h' : Heap} {L : Addr} {m : Str → Option Value} (F : Fr h₀ L h m) (x : KeepBut Ts h h') (n : Off Ts h₀ L) : Fr h₀ L h' m := by
  obtain ⟨oL, es, ep, hL, hLd, hLk, hLf⟩ := F.ns
  refine ⟨⟨oL, es, ep, x _ _ hL fun q => (n _ q).2 rfl, hLd, hLk, hLf⟩, fun b o e => x _ _ (F.keep b o e) fun q => ?_, F.above⟩
  rw [(n b q).1] at e; cases e

section
variable {w : World} {K : Frag} {p : Program} {loose : List Str} {mean : ExcName → Option Value} {mg mb : Str → Option Value} {A₀ A : Around} {s : Shared} {base h₀ : Heap} {outer : List Env} {L : Addr} {m : Str → Option Value} {env : Env} {Ts : List Addr}

theorem ground (B : Below A₀ base outer h₀) (F : Fr h₀ L s.heap m) (X₀ : K.In h₀) (T : Top p loose mean mg mb h₀) (hA : A.frames = some (env :: outer)) (hf : env.frame = some L) (hke : env.scope.kind = .function)
    (n : Off Ts h₀ L) :
    Below A base (env :: outer) (hideAll s.heap Ts) ∧ K.In (hideAll s.heap Ts) ∧ Top p loose mean mg mb (hideAll s.heap Ts) ∧ h₀.StaysIn (hideAll s.heap Ts) := by
  have nm : ∀ b o, h₀.get? b = some o → b ∉ Ts := fun b o e q => by rw [(n b q).1] at e; cases e
  have st : h₀.StaysIn (hideAll s.heap Ts) := fun b o e => hideAll_get _ (F.keep b o e) (nm b o e)
  have nL : L ∉ Ts := fun q => (n _ q).2 rfl
  have B₁ := pushX B F hf hke
  refine ⟨⟨hA, fun b o e => st b o (B.stays b o e), funFrames_hideAll B₁.frames fun env' he b hb hf' => ?_⟩, X₀.keeps st, T.keeps st, st⟩
  cases he with
  | head => exact nL ((Option.some.inj (hf.symm.trans hf') : L = b) ▸ hb)
  | tail _ he =>
    obtain ⟨L₁, o₁, hf₁, ho₁⟩ := funFrames_in B.frames env' he
    rw [hf₁] at hf'
    exact nm L₁ o₁ ho₁ ((Option.some.inj hf' : L₁ = b) ▸ hb)

theorem keep_of {h h' : Heap} {L : Addr} {m : Str → Option Value} (F : Fr (hideAll h Ts) L h' m) : KeepBut Ts h h' := fun b o e n => F.keep b o (hideAll_get _ e n)

/-- entering a def of the text's own: the whole heap that stands, less Ts, is the ground -/
theorem enter {un dp : Nat} {gd : Option (List Code)} {cn : Str} {cs : Scope} {a : Addr} {ccd : Value} {cl : List (Str × Addr)} {f : Addr} {name qual : Str} {params : Arguments} {body : List Stmt} {scope : Scope} {cl' : List (Str × Addr)} {dV kV doc pm cdv ct oc : Value} {an od : Option Addr} {osl : Array (Option Value)} {binds : List (Str × Value)} {Q E : Value → Shared → Prop} {vs : List Value}
    (B : Below A₀ base outer h₀) (F : Fr h₀ L s.heap m) (X₀ : K.In h₀) (T : Top p loose mean mg mb h₀) (hke : cs.kind = .function)
    (n : Off Ts h₀ L) (hsz : ∀ a ∈ Ts, a < s.heap.objs.size)
    (ho : s.heap.get? f = some ⟨oc, od, .func (fnX name qual params body scope cl' dV kV doc pm an cdv ct), osl⟩) (hcd : s.heap.CodeRec cdv qual) (hroom : dp < recursionLimit)
    (hbind : BindsTo s (fnX name qual params body scope cl' dV kV doc pm an cdv ct) ⟨vs, []⟩ binds) (hloc : ∀ y ∈ binds, scope.names.lookup y.1 = some .local)
    (hcell : ∀ x ∈ scope.names, x.2 ≠ .cell) (hco : scope.isCoroutine = false) (hgen : scope.isGenerator = false) (hk : scope.kind = .function)
    (h : ∀ g h₁, Fr g s.heap.objs.size h₁ (fun y => binds.reverse.lookup y) → (∀ b o, s.heap.get? b = some o → h₁.get? b = some o) →
      (∀ h', KeepBut Ts s.heap h' → Fr h₀ L h' m) → (∀ L' h' m', Fr g L' h' m' → KeepBut Ts s.heap h') → (∀ b o, s.heap.get? b = some o → b ∉ Ts → g.get? b = some o) →
      Off Ts g s.heap.objs.size → Below (ktrTop dp un gd cn cs L a ccd cl outer) base (envX cn cs L a ccd cl :: outer) g → K.In g → Top p loose mean mg mb g →
      let e9 := envX qual scope s.heap.objs.size f cdv cl'
      let A9 := (ktrTop dp un gd cn cs L a ccd cl outer).deeper e9
      let Q9 : Flow → Shared → Prop := fun fl s' => Done Q (match fl with | .ret v => v | _ => .none) s'
      let E9 : Value → Shared → Prop := fun _ _ => False
      wpAny (model PR w) A9 (execs body e9) Q9 E9
        { s with heap := h₁, toks := s.toks + binds.length }) :
    wpAny (model PR w) (ktrTop dp un gd cn cs L a ccd cl outer) (call (.ref f) vs) Q E s := by
  obtain ⟨BG, XG, TG, st⟩ := ground (A := ktrTop dp un gd cn cs L a ccd cl outer) (env := envX cn cs L a ccd cl) B F X₀ T rfl rfl hke n
  refine wpAny_call (codeAny_call_def (fd := fnX name qual params body scope cl' dV kV doc pm an cdv ct) (body := body) (binds := binds) hroom ho rfl (T.nolimit.keeps F.keep) hcd rfl hbind hcell hloc (fun h₁ hns hk₁ => ?_) hco hgen hk)
  refine wpAny_mono (h _ h₁ ⟨hns, fun b o e => hk₁ b o (of_hideAll _ e), Nat.le_of_eq (hideAll_size _ _)⟩ hk₁ (fun h' x => x.fr F n) (fun L' h' m' F' => keep_of F') (fun b o e q => hideAll_get _ e q) (fun a ha => ⟨hideAll_none _ ha, Nat.ne_of_lt (hsz a ha)⟩) BG XG TG) (fun fl s' hl => ?_) fun _ _ x => x.elim
  exact hl

/-- the same for a def that has cells -/
theorem enterC {un dp : Nat} {gd : Option (List Code)} {cn : Str} {cs : Scope} {a : Addr} {ccd : Value} {cl : List (Str × Addr)} {f : Addr} {name qual : Str} {params : Arguments} {body : List Stmt} {scope : Scope} {dV kV doc pm cdv ct oc : Value} {an od : Option Addr} {osl : Array (Option Value)} {binds : List (Str × Value)} {Q E : Value → Shared → Prop} {vs : List Value}
    (B : Below A₀ base outer h₀) (F : Fr h₀ L s.heap m) (X₀ : K.In h₀) (T : Top p loose mean mg mb h₀) (hke : cs.kind = .function)
    (n : Off Ts h₀ L) (hsz : ∀ a ∈ Ts, a < s.heap.objs.size)
    (ho : s.heap.get? f = some ⟨oc, od, .func (fnX name qual params body scope [] dV kV doc pm an cdv ct), osl⟩) (hcd : s.heap.CodeRec cdv qual) (hroom : dp < recursionLimit)
    (hbind : BindsTo s (fnX name qual params body scope [] dV kV doc pm an cdv ct) ⟨vs, []⟩ binds)
    (hkind : (binds.all fun y => scope.names.lookup y.1 == some .local || scope.names.lookup y.1 == some .cell) = true)
    (hnd : ((cellsFrom 0 scope.names []).map (·.1)).Nodup)
    (hco : scope.isCoroutine = false) (hgen : scope.isGenerator = false) (hk : scope.kind = .function)
    (h : ∀ g h₁ tk cells, Fr g s.heap.objs.size h₁ (bindL (envOfC qual scope s.heap.objs.size f cdv).kindOf binds fun _ => none) →
      News g s.heap.objs.size h₁ cells → CellsAre (bindC (envOfC qual scope s.heap.objs.size f cdv).kindOf binds fun _ => none) (cellsFrom (s.heap.objs.size + 1) scope.names []) cells → (∀ b o, s.heap.get? b = some o → h₁.get? b = some o) →
      (∀ h', KeepBut Ts s.heap h' → Fr h₀ L h' m) → (∀ L' h' m', Fr g L' h' m' → KeepBut Ts s.heap h') → (∀ b o, s.heap.get? b = some o → b ∉ Ts → g.get? b = some o) →
      Off Ts g s.heap.objs.size → Below (ktrTop dp un gd cn cs L a ccd cl outer) base (envX cn cs L a ccd cl :: outer) g → K.In g → Top p loose mean mg mb g →
      let e9 := envOfC qual scope s.heap.objs.size f cdv
      let A9 := (ktrTop dp un gd cn cs L a ccd cl outer).deeper e9
      let Q9 : Flow → Shared → Prop := fun fl s' => Done Q (match fl with | .ret v => v | _ => .none) s'
      let E9 : Value → Shared → Prop := fun _ _ => False
      wpAny (model PR w) A9 (execs body e9) Q9 E9
        { s with heap := h₁, toks := tk }) :
    wpAny (model PR w) (ktrTop dp un gd cn cs L a ccd cl outer) (call (.ref f) vs) Q E s := by
  obtain ⟨BG, XG, TG, st⟩ := ground (A := ktrTop dp un gd cn cs L a ccd cl outer) (env := envX cn cs L a ccd cl) B F X₀ T rfl rfl hke n
  refine wpAny_call (codeAny_call_function hroom ho rfl hco hgen rfl hcd (hbind _ _ _ _ ?_))
  refine wpAny_newFunctionEnv_cells hk (kindsX hkind _) fun env' he s' x => ?_
  subst he
  refine ⟨(T.nolimit.keeps F.keep).keeps x.toInCall.keep, codeAny_func ?_⟩
  obtain ⟨h₁, tk, rfl, _⟩ := x.done
  have hk₁ := x.toInCall.keep
  obtain ⟨cells, NC, Y⟩ := Cl.news (h₀ := s.heap) (Nat.le_refl _) fun n c hm => ⟨x.cell n c (lookup_of_mem_nodup (cellsFrom_names scope.names 0 (s.heap.objs.size + 1) [] [] rfl ▸ hnd) hm), x.above n c hm⟩
  refine wpAny_mono (h _ h₁ tk cells ⟨x.toInCall.ns, fun b o e => hk₁ b o (of_hideAll _ e), Nat.le_of_eq (hideAll_size _ _)⟩ (fun p hp => ⟨(NC p hp).1, (NC p hp).2.1, ?_⟩) Y hk₁ (fun h' x => x.fr F n) (fun L' h' m' F' => keep_of F') (fun b o e q => hideAll_get _ e q) (fun a ha => ⟨hideAll_none _ ha, Nat.ne_of_lt (hsz a ha)⟩) BG XG TG) (fun fl s' hl => ?_) fun _ _ x => x.elim
  · cases q : (hideAll s.heap Ts).get? p.1 with
    | none => rfl
    | some o => have := of_hideAll _ q; rw [(NC p hp).2.2] at this; cases this
  · exact hl
end

/-- a made object: in the heap behind, where nothing stood ahead -/
noncomputable def MadeAt (h h' : Heap) (r : Addr) (o : Obj) : Prop := h'.get? r = some o ∧ h.get? r = none
theorem new_of {Ts : List Addr} {h g : Heap} (hg : ∀ b o, h.get? b = some o → b ∉ Ts → g.get? b = some o) : ∀ b, g.get? b = none → b ∉ Ts → h.get? b = none := fun b e n => by
  cases q : h.get? b with
  | none => rfl
  | some o => rw [hg b o q n] at e; cases e
theorem MadeAt.of {Ts : List Addr} {g h h' : Heap} {L r : Addr} {o : Obj} {news : List (Addr × Obj)} (hNew : ∀ b, g.get? b = none → b ∉ Ts → h.get? b = none) (N : News g L h' news) (hm : (r, o) ∈ news) (hr : r ∉ Ts) : MadeAt h h' r o :=
  ⟨(N _ hm).1, hNew _ (N _ hm).2.2 hr⟩
theorem MadeAt.news {h₀ h h' : Heap} {L r : Addr} {m : Str → Option Value} {o : Obj} {news : List (Addr × Obj)} (F : Fr h₀ L h m) (N : News h₀ L h' news) (x : MadeAt h h' r o) : News h₀ L h' ((r, o) :: news) := fun q hq => by
  rcases List.mem_cons.mp hq with rfl | hq
  · refine ⟨x.1, fun e => ?_, ?_⟩
    · obtain ⟨oL, _, _, hL, _⟩ := F.ns
      rw [← e, x.2] at hL; cases hL
    · cases e : h₀.get? r with
      | none => rfl
      | some o' => have := F.keep _ _ e; rw [x.2] at this; cases this
  · exact N q hq
noncomputable def AllNe (r : Addr) : List (Addr × Obj) → Prop
  | [] => True
  | p :: q => @Ne Nat p.1 r ∧ AllNe r q
theorem allNe_of {r : Addr} : ∀ {l : List (Addr × Obj)}, (∀ p ∈ l, p.1 ≠ r) → AllNe r l
  | [], _ => trivial
  | p :: _, h => ⟨h p (.head _), allNe_of fun q hq => h q (.tail _ hq)⟩
theorem MadeAt.ne {h₀ h h' : Heap} {L r : Addr} {o : Obj} {news : List (Addr × Obj)} (N : News h₀ L h news) (x : MadeAt h h' r o) : AllNe r news := allNe_of fun q hq e => by
  have := (N q hq).1
  rw [e, x.2] at this; cases this
theorem KeepBut.news {Ts : List Addr} {h₀ h h' : Heap} {L : Addr} {news : List (Addr × Obj)} (x : KeepBut Ts h h') (N : News h₀ L h news) (hn : ∀ q ∈ news, q.1 ∉ Ts) : News h₀ L h' news := fun q hq => ⟨x _ _ (N q hq).1 (hn q hq), (N q hq).2⟩
theorem News.sub {h₀ h : Heap} {L : Addr} {news news' : List (Addr × Obj)} (N : News h₀ L h news) (hs : ∀ q ∈ news', q ∈ news) : News h₀ L h news' := fun q hq => N q (hs q hq)
theorem News.one {h₀ h : Heap} {L a : Addr} {o : Obj} (e : h.get? a = some o) (n : h₀.get? a = none ∧ a ≠ L) : News h₀ L h [(a, o)] := fun q hq => by
  rw [List.mem_singleton.mp hq]; exact ⟨e, n.2, n.1⟩
theorem News.cons {h₀ h : Heap} {L a : Addr} {o : Obj} {news : List (Addr × Obj)} (N : News h₀ L h news) (e : h.get? a = some o) (n : h₀.get? a = none ∧ a ≠ L) : News h₀ L h ((a, o) :: news) := fun q hq => by
  rcases List.mem_cons.mp hq with rfl | hq
  · exact ⟨e, n.2, n.1⟩
  · exact N q hq
theorem int_post {i j : Int} {t : Tok} (h : i = j) : ∃ t', Value.int i t = Value.int j t' := ⟨t, by rw [h]⟩
theorem str_post {i j : Str} {t : Tok} (h : i = j) : ∃ t', Value.str i t = Value.str j t' := ⟨t, by rw [h]⟩
theorem done_of {Q : Value → Shared → Prop} {v : Value} {s : Shared} (h : Q v s) : Done Q v s := h

/-- a halt of the walk, to go on by hand -/
noncomputable def Hold (P : Prop) : Prop := P
theorem hold {P : Prop} (h : Hold P) : P := h
theorem unhold {P : Prop} (h : P) : Hold P := h

section
variable {w : World} {K : Frag} {p : Program} {loose : List Str} {mean : ExcName → Option Value} {mg mb : Str → Option Value} {A₀ : Around} {s : Shared} {base h₀ : Heap} {outer : List Env} {L : Addr} {m : Str → Option Value} {Ts : List Addr}
theorem Ctr.use {f : Addr} {sz : Nat} {vs : List Value} {Pre : Heap → Prop} {Post : Value → Heap → Heap → Prop} (C : Ctr w K p loose mean mg mb f sz Ts vs Pre Post)
    {un dp : Nat} {gd : Option (List Code)} {cn : Str} {cs : Scope} {a : Addr} {ccd : Value} {cl : List (Str × Addr)} {Q E : Value → Shared → Prop}
    (B : Below A₀ base outer h₀) (F : Fr h₀ L s.heap m) (X : K.In h₀) (T : Top p loose mean mg mb h₀) (hke : cs.kind = .function) (hO : Off Ts h₀ L) (hd : dp + sz < recursionLimit) (hu : un + 8 * sz < cLine) (hp : Pre s.heap)
    (h : ∀ r h' tk', Fr h₀ L h' m → KeepBut Ts s.heap h' → Post r s.heap h' → Q r { s with heap := h', toks := tk' }) :
    wpAny (model PR w) (ktrTop dp un gd cn cs L a ccd cl outer) (call (.ref f) vs) Q E s := C _ _ _ _ _ _ _ _ _ _ _ _ _ _ _ _ _ B F X T hke hO hd hu hp h
end
theorem Off.nil {h₀ : Heap} {L : Addr} : Off [] h₀ L := fun _ h => nomatch h
theorem KeepBut.news0 {h₀ h h' : Heap} {L : Addr} {news : List (Addr × Obj)} (x : KeepBut [] h h') (N : News h₀ L h news) : News h₀ L h' news := x.news N fun _ _ => List.not_mem_nil

theorem with_led {h₀ h : Heap} {L : Addr} {news : List (Addr × Obj)} (N : News h₀ L h news) {G : Prop} (k : ∀ lg, lg = news → News h₀ L h lg → G) : G := k news rfl N
section
variable {M : Model} {A : Around} {E : Value → Shared → Prop} {s : Shared} {h₀ : Heap} {L a : Addr} {m : Str → Option Value} {cn : Str} {cs : Scope} {ccd : Value} {cl : List (Str × Addr)} {x : Str} {pos : Pos} {v : Value} {Q : Value → Shared → Prop} {c : Addr} {o : Obj}
/-- a free name whose cell stands in the ground -/
theorem nameX_G (F : Fr h₀ L s.heap m) (hc : cl.lookup x = some c) (hv : h₀.get? c = some o) (hd : o.data = .cell (some v)) (h : Q v s)
    (hk : cs.kind = .function) (hx : (envX cn cs L a ccd cl).kindOf x = some .free) (hb : (x == ("__debug__" : Str)) = false) (hn : (x == ("__classdict__" : Str)) = false) :
    wpAny M A (eval (.Name x pos) (envX cn cs L a ccd cl)) Q E s := wpAny_Name (wpAny_loadName_free hk hx hc ⟨o, F.keep _ _ hv, hd⟩ h hn) hb
theorem FnAt.ofG {h : Heap} {q : Addr} {oc : Value} {od : Option Addr} {fd : FuncData} {sl : Array (Option Value)} (F : Fr h₀ L h m) (e : h₀.get? q = some ⟨oc, od, .func fd, sl⟩) : FnAt q h := ⟨oc, od, fd, sl, F.keep _ _ e⟩
end
theorem Ctr.mono {w : World} {K : Frag} {p : Program} {loose : List Str} {mean : ExcName → Option Value} {mg mb : Str → Option Value} {f : Addr} {sz sz' : Nat} {Ts : List Addr} {vs : List Value} {Pre Pre' : Heap → Prop} {Post Post' : Value → Heap → Heap → Prop}
    (C : Ctr w K p loose mean mg mb f sz Ts vs Pre Post) (hs : sz ≤ sz') (h1 : ∀ h, Pre' h → Pre h) (h2 : ∀ r h h', Pre' h → Post r h h' → Post' r h h') : Ctr w K p loose mean mg mb f sz' Ts vs Pre' Post' :=
  fun dp un gd cn cs a ccd cl outer A₀ base h₀ L m s Q E B F X T hk hO hd hu hp h => C dp un gd cn cs a ccd cl outer A₀ base h₀ L m s Q E B F X T hk hO (by omega) (by omega) (h1 _ hp) fun r h' tk' F' K' P' => h r h' tk' F' K' (h2 _ _ _ hp P')

theorem with_fn {h₀ h : Heap} {L f c : Addr} {name qual : Str} {params : Arguments} {body : List Stmt} {scope : Scope} {clos : List (Str × Addr)} {doc pm ctv : Value} {rest : List (Addr × Obj)}
    (_N : News h₀ L h ((f, fnMade name qual params body scope clos doc pm c ctv) :: rest)) {G : Prop} (k : ∀ f' c', f' = f → c' = c → G) : G := k f c rfl rfl
theorem Off.one {h₀ : Heap} {L a : Addr} (h : h₀.get? a = none) (n : a ≠ L) : Off [a] h₀ L := fun b hb => by rw [List.mem_singleton.mp hb]; exact ⟨h, n⟩
theorem codeRec_but1 {h g : Heap} {P c : Addr} {q : Str} {ps : Array Value} (x : h.CodeRec (.ref c) q) (hg : ∀ b o, h.get? b = some o → b ∉ [P] → g.get? b = some o) (hP : (h.get? P).map (·.cls) ≠ some (.type "code") ) (hc : ∀ o, h.get? c = some o → o.cls = .type "code") : g.CodeRec (.ref c) q := by
  obtain ⟨c', o, vs, t, e1, e2, e3, e4⟩ := x
  cases e1
  refine ⟨c, o, vs, t, rfl, hg _ _ e2 fun hm => ?_, e3, e4⟩
  rw [List.mem_singleton.mp hm] at e2 hc
  apply hP
  rw [e2]
  exact congrArg some (hc _ e2)
/-- a code object stays where a list is hidden -/
theorem codeRec_list {h g : Heap} {D c : Addr} {q : Str} {its : Array Value} {n : Nat} (x : h.CodeRec (.ref c) q) (hg : ∀ b o, h.get? b = some o → b ∉ [D] → g.get? b = some o) (hD : h.get? D = some (W.listOf its n)) : g.CodeRec (.ref c) q := by
  obtain ⟨c', o, vs, t, e1, e2, e3, e4⟩ := x
  cases e1
  refine ⟨c, o, vs, t, rfl, hg _ _ e2 fun hm => ?_, e3, e4⟩
  rw [List.mem_singleton.mp hm, hD] at e2
  cases e2
  cases e3

theorem nin1 {a b : Addr} (h : @Ne Nat a b) : a ∉ [b] := fun q => h (List.mem_singleton.mp q)
theorem nin2 {a b c : Addr} (h : @Ne Nat a b) (h2 : @Ne Nat a c) : a ∉ [b, c] := fun q => by
  rcases List.mem_cons.mp q with q | q
  · exact h q
  · exact h2 (List.mem_singleton.mp q)

theorem with_head {h₀ h : Heap} {L a : Addr} {o : Obj} {rest : List (Addr × Obj)} (_N : News h₀ L h ((a, o) :: rest)) {G : Prop} (k : ∀ a' o' rest', (a' = a ∧ o' = o ∧ rest' = rest) → G) : G := k a o rest ⟨rfl, rfl, rfl⟩
/-- a goal behind a letter, while facts are taken apart -/
theorem byG {P : Prop} (k : ∀ G : Prop, (P → G) → G) : P := k P id
end

section
theorem hush_M2 : True := by
  k_with_none
  w_top off
  trivial
noncomputable def End1 {σ : Type} (h₀ : Heap) (L : Addr) (Led : σ → List (Addr × Obj)) (ps : σ → List (Str × Value)) (x : Str) (stored : List Str) (m₀ : Str → Option Value) (P : σ → Prop) (I : Addr) (oI : Obj) (s₁ s₂ : Shared) : Prop :=
  ∃ (c : σ) (h' : Heap) (tk : Nat) (m' : Str → Option Value) (news' : List (Addr × Obj)), s₂ = { s₁ with heap := h', toks := tk } ∧ Fr h₀ L h' m' ∧ News h₀ L h' news' ∧ (I, oI) ∈ news' ∧ (∀ p ∈ Led c, p ∈ news' ∧ p.1 ≠ I) ∧
    (∀ p ∈ ps c, m' p.1 = some p.2) ∧ (∀ z, z ≠ x → (∀ p ∈ ps c, z ≠ p.1) → stored.contains z = false → m' z = m₀ z) ∧ P c
noncomputable def Post1 {σ : Type} (h₀ : Heap) (L : Addr) (Led : σ → List (Addr × Obj)) (ps : σ → List (Str × Value)) (x : Str) (stored : List Str) (m₀ : Str → Option Value) (P : σ → Prop) (I : Addr) (oI : Obj) (s₁ : Shared) (Q : Flow → Shared → Prop) (f : Flow) (s₂ : Shared) : Prop :=
  match f with
  | .ret v => Q (.ret v) s₂
  | .brk => Q .next s₂
  | _ => End1 h₀ L Led ps x stored m₀ P I oI s₁ s₂

section
variable {prog : Program} {w : World} {A : Around} {E : Value → Shared → Prop} {s : Shared} {env : Env} {h₀ : Heap} {x : Str} {body : List Stmt} {Q : Flow → Shared → Prop}

/-- a for loop over any walk, by a state of one's own; the ledger's addresses may change from turn to turn -/
theorem loop1 {σ : Type} {I : Addr} {fp : List Addr} {n : Nat} {Pv : Nat → Value → Prop} {St : Nat → Heap → Prop} {m₀ : Str → Option Value} (src : List (Addr × Obj))
    (Led : σ → List (Addr × Obj)) (ps : σ → List (Str × Value)) (stored : List Str) (P : Nat → σ → Prop) (c₀ : σ)
    (W : Walks prog w A I fp [I] n Pv St) (hIo : ∀ i h, St i h → ∃ o, h.get? I = some o) (hfp : ∀ b ∈ fp, b = I ∨ (∃ o, h₀.get? b = some o) ∨ ∃ o, (b, o) ∈ src) (hsrc : ∀ c : σ, ∀ p ∈ src, p ∈ Led c)
    (hI : h₀.get? I = none) (hLI : env.locals ≠ I) (hLs : ∀ p ∈ src, p.1 ≠ env.locals) (hst : St 0 s.heap)
    (F : Fr h₀ env.locals s.heap m₀) (N : News h₀ env.locals s.heap (Led c₀)) (hn : ∀ p ∈ Led c₀, p.1 ≠ I) (hk : ∀ p ∈ ps c₀, m₀ p.1 = some p.2) (hp : P 0 c₀)
    (turn : ∀ (c : σ) i v (u : Str → Option Value) h tk oI, i < n → Pv i v → P i c → (∀ p ∈ Led c, p.1 ≠ I) →
      Fr h₀ env.locals h (fun y => if y = x then some v else kstB (fun z => if stored.contains z then u z else m₀ z) (ps c) y) → News h₀ env.locals h ((I, oI) :: Led c) →
      wpAny (model prog w) A (execs body env) (Post1 h₀ env.locals Led ps x stored m₀ (P (i + 1)) I oI { s with heap := h, toks := tk } Q) E { s with heap := h, toks := tk })
    (done : ∀ (c : σ) (u : Str → Option Value) h tk, P n c → Fr h₀ env.locals h (fun y => if y = x then u y else kstB (fun z => if stored.contains z then u z else m₀ z) (ps c) y) → News h₀ env.locals h (Led c) → Q .next { s with heap := h, toks := tk }) :
    LoopAtV prog w A h₀ env x body Q E (.ref I) s := by
  have hLf : env.locals ∉ fp := fun q => by
    rcases hfp _ q with e | ⟨o, e⟩ | ⟨o, e⟩
    · exact hLI e
    · exact absurd (Nat.lt_of_lt_of_le (Heap.lt_size e) F.above) (Nat.lt_irrefl _)
    · exact hLs _ e rfl
  refine ⟨I, fp, [I], n, Pv, St, m₀, Led c₀, fun i m nx => ∃ c : σ, nx = Led c ∧ (∀ p ∈ ps c, m p.1 = some p.2) ∧ (∀ z, z ≠ x → (∀ p ∈ ps c, z ≠ p.1) → stored.contains z = false → m z = m₀ z) ∧ P i c,
    rfl, W, hLf, fun b hb => by rw [List.mem_singleton.mp hb]; exact hI, fun p hp q => hn p hp (List.mem_singleton.mp q), hst, F, N, ⟨c₀, rfl, hk, fun _ _ _ _ => rfl, hp⟩, ?_, ?_⟩
  · rintro i v m₁ nx s₁ own ⟨hh', tk', rfl⟩ hin hPv ⟨c, rfl, h1, h2, hp'⟩ hoff hown hget hin0 hst₁ F₁ N₁
    obtain ⟨oI, heI⟩ := hIo _ _ hst₁
    have hoI : (I, oI) ∈ own := hin0 I (W.sub I (List.mem_singleton.mpr rfl)) hI oI heI
    have N₂ : News h₀ env.locals hh' ((I, oI) :: Led c) := fun p hp => by
      rcases List.mem_cons.mp hp with rfl | hp
      · exact N₁ _ (List.mem_append_left _ hoI)
      · exact N₁ _ (List.mem_append_right _ hp)
    refine wpAny_mono (turn c i v m₁ hh' tk' oI hin hPv hp' (fun p hp q => hoff p hp (List.mem_singleton.mpr q)) (kst_fr h1 h2 F₁) N₂) (fun f s₂ q => ?_) fun _ _ e => e
    have fin : End1 h₀ env.locals Led ps x stored m₀ (P (i + 1)) I oI { s with heap := hh', toks := tk' } s₂ →
        LoopStepU h₀ env.locals [I] own (fun m nx => ∃ c : σ, nx = Led c ∧ (∀ p ∈ ps c, m p.1 = some p.2) ∧ (∀ z, z ≠ x → (∀ p ∈ ps c, z ≠ p.1) → stored.contains z = false → m z = m₀ z) ∧ P (i + 1) c) { s with heap := hh', toks := tk' } .next s₂ := by
      rintro ⟨c', h', tk, m', news', rfl, F', N', hI', hl', h1', h2', hp''⟩
      refine ⟨rfl, h', tk, m', Led c', rfl, F', fun p hp => ?_, fun p hp q => (hl' p hp).2 (List.mem_singleton.mp q), c', rfl, h1', h2', hp''⟩
      rcases List.mem_append.mp hp with hp | hp
      · have e1 := hget p hp
        rcases hfp _ (hown p hp) with e | ⟨o, e⟩ | ⟨o, e⟩
        · have e2 : some p.2 = some oI := by rw [← e1, e]; exact heI
          have e3 : p = (I, oI) := Prod.ext e (Option.some.inj e2)
          rw [e3]; exact N' _ hI'
        · have e5 := (N₁ p (List.mem_append_left _ hp)).2.2
          rw [e] at e5; cases e5
        · have e2 := (N₂ (p.1, o) (List.mem_cons_of_mem _ (hsrc c _ e))).1
          have e4 : some p.2 = some o := by rw [← e1]; exact e2
          have e3 : p = (p.1, o) := Prod.ext rfl (Option.some.inj e4)
          rw [e3]; exact N' _ (hl' _ (hsrc c' _ e)).1
      · exact N' p (hl' p hp).1
    cases f with
    | ret v => exact .ret q
    | brk => exact .brk q
    | next => exact .next (fin q)
    | cont => exact .cont (fin q)
  · rintro h' tk m' nx F' N' _ ⟨c, rfl, h1, h2, hp'⟩
    exact done c m' h' tk hp' (kst_frOut h1 h2 F') N'

theorem End1.intro {σ : Type} {L : Addr} {Led : σ → List (Addr × Obj)} {ps : σ → List (Str × Value)} {stored : List Str} {m₀ : Str → Option Value} {P : σ → Prop} {I : Addr} {oI : Obj} {s₁ : Shared} {h' : Heap} {tk : Nat} {m' : Str → Option Value} {news' : List (Addr × Obj)} (c : σ)
    (F : Fr h₀ L h' m') (N : News h₀ L h' news') (hI : (I, oI) ∈ news') (hl : ∀ p ∈ Led c, p ∈ news') (hne : ∀ p ∈ Led c, p.1 ≠ I) (hk : ∀ p ∈ ps c, m' p.1 = some p.2) (hr : ∀ z, z ≠ x → (∀ p ∈ ps c, z ≠ p.1) → stored.contains z = false → m' z = m₀ z) (hp : P c) :
    End1 h₀ L Led ps x stored m₀ P I oI s₁ { s₁ with heap := h', toks := tk } := ⟨c, h', tk, m', news', rfl, F, N, hI, fun p hp => ⟨hl p hp, hne p hp⟩, hk, hr, hp⟩

/-- over a range by ones -/
theorem loop_range {σ : Type} {r : Addr} {a₀ b₀ : Int} {t₀ u₀ v₀ : Tok} {n : Nat} {m₀ : Str → Option Value}
    (Led : σ → List (Addr × Obj)) (ps : σ → List (Str × Value)) (stored : List Str) (P : Nat → σ → Prop) (c₀ : σ)
    (hh : A.handled = none) (hr : IsRange s.heap r a₀ b₀ 1 t₀ u₀ v₀) (hsmall : Builtin.Range.small a₀ b₀ 1 = true) (hsz : Builtin.Range.rangeSize a₀ b₀ 1 = (n : Int))
    (F : Fr h₀ env.locals s.heap m₀) (N : News h₀ env.locals s.heap (Led c₀)) (hk : ∀ p ∈ ps c₀, m₀ p.1 = some p.2) (hp : P 0 c₀)
    (turn : ∀ (c : σ) i t (u : Str → Option Value) h tk I oI, i < n → P i c → (∀ p ∈ Led c, p.1 ≠ I) →
      Fr h₀ env.locals h (fun y => if y = x then some (.int (a₀ + (i : Int)) t) else kstB (fun z => if stored.contains z then u z else m₀ z) (ps c) y) → News h₀ env.locals h ((I, oI) :: Led c) →
      wpAny (model prog w) A (execs body env) (Post1 h₀ env.locals Led ps x stored m₀ (P (i + 1)) I oI { s with heap := h, toks := tk } Q) E { s with heap := h, toks := tk })
    (done : ∀ (c : σ) (u : Str → Option Value) h tk, P n c → Fr h₀ env.locals h (fun y => if y = x then u y else kstB (fun z => if stored.contains z then u z else m₀ z) (ps c) y) → News h₀ env.locals h (Led c) → Q .next { s with heap := h, toks := tk }) :
    wpAny (model prog w) A (pyIter (.ref r)) (fun it s₂ => LoopAtV prog w A h₀ env x body Q E it s₂) E s := by
  refine wpAny_pyIter_range hr hsmall ?_
  have keep : ∀ o, ∀ b o', s.heap.get? b = some o' → (s.heap.push o).get? b = some o' := fun o b o' e => Heap.get?_push_of_some _ e
  refine loop1 [] Led ps stored P c₀ (LCg.range_walks hh a₀ n) (fun i h st => ⟨_, st⟩) (fun b hb => .inl (List.mem_singleton.mp hb)) (fun _ _ h => nomatch h) (next_is_new F) (Nat.ne_of_lt F.ns.lt) (fun _ h => nomatch h)
    (by show IsRangeIter _ _ _ _ _; rw [hsz]; simpa using Heap.get?_push_size _ rfl) (F.push _) (fun p hp => ⟨keep _ _ _ (N p hp).1, (N p hp).2⟩) (fun p hp => Nat.ne_of_lt (Heap.lt_size (N p hp).1)) hk hp ?_ ?_
  · rintro c i v u h tk oI hi ⟨t, rfl⟩ hP hne F₁ N₁
    exact turn c i t u h tk _ oI hi hP hne F₁ N₁
  · exact done

/-- over a list of the ground -/
theorem loop_list {σ : Type} {l : Addr} {vs : List Value} {m₀ : Str → Option Value}
    (Led : σ → List (Addr × Obj)) (ps : σ → List (Str × Value)) (stored : List Str) (P : Nat → σ → Prop) (c₀ : σ)
    (hh : A.handled = none) (hl : h₀.IsList l vs.toArray)
    (F : Fr h₀ env.locals s.heap m₀) (N : News h₀ env.locals s.heap (Led c₀)) (hk : ∀ p ∈ ps c₀, m₀ p.1 = some p.2) (hp : P 0 c₀)
    (turn : ∀ (c : σ) i v (u : Str → Option Value) h tk I oI, i < vs.length → vs[i]? = some v → P i c → (∀ p ∈ Led c, p.1 ≠ I) →
      Fr h₀ env.locals h (fun y => if y = x then some v else kstB (fun z => if stored.contains z then u z else m₀ z) (ps c) y) → News h₀ env.locals h ((I, oI) :: Led c) →
      wpAny (model prog w) A (execs body env) (Post1 h₀ env.locals Led ps x stored m₀ (P (i + 1)) I oI { s with heap := h, toks := tk } Q) E { s with heap := h, toks := tk })
    (done : ∀ (c : σ) (u : Str → Option Value) h tk, P vs.length c → Fr h₀ env.locals h (fun y => if y = x then u y else kstB (fun z => if stored.contains z then u z else m₀ z) (ps c) y) → News h₀ env.locals h (Led c) → Q .next { s with heap := h, toks := tk }) :
    wpAny (model prog w) A (pyIter (.ref l)) (fun it s₂ => LoopAtV prog w A h₀ env x body Q E it s₂) E s := by
  have hls : s.heap.IsList l vs.toArray := hl.at fun o e => F.keep l o e
  obtain ⟨ol, hol, _⟩ := id hl
  have hlt : l < h₀.objs.size := Heap.lt_size hol
  have hne : l ≠ s.heap.objs.size := Nat.ne_of_lt (Nat.lt_trans (Nat.lt_of_lt_of_le hlt F.above) F.ns.lt)
  refine wpAny_pyIter_list hls ?_
  have keep : ∀ o, ∀ b o', s.heap.get? b = some o' → (s.heap.push o).get? b = some o' := fun o b o' e => Heap.get?_push_of_some _ e
  have W := Walks.list (prog := prog) (w := w) hh s.heap.objs.size l hne vs.toArray
  rw [List.size_toArray] at W
  refine loop1 [] Led ps stored P c₀ W (fun i h st => by obtain ⟨o, e, _⟩ := st.1; exact ⟨o, e⟩) (fun b hb => ?_) (fun _ _ h => nomatch h) (next_is_new F) (Nat.ne_of_lt F.ns.lt) (fun _ h => nomatch h)
    ⟨⟨_, Heap.get?_push_size _ rfl, rfl, rfl⟩, hls.at fun o e => keep _ _ _ e⟩ (F.push _) (fun p hp => ⟨keep _ _ _ (N p hp).1, (N p hp).2⟩) (fun p hp => Nat.ne_of_lt (Heap.lt_size (N p hp).1)) hk hp ?_ ?_
  · rcases List.mem_cons.mp hb with e | hb
    · exact .inl e
    · exact .inr (.inl ⟨ol, (List.mem_singleton.mp hb) ▸ hol⟩)
  · intro c i v u h tk oI hi hv hP hne F₁ N₁
    exact turn c i v u h tk _ oI hi (by simpa using hv) hP hne F₁ N₁
  · exact done

/-- over a list of the ledger that no turn changes -/
theorem loop_led {σ : Type} {l : Addr} {vs : List Value} {nn : Nat} {m₀ : Str → Option Value}
    (Led : σ → List (Addr × Obj)) (ps : σ → List (Str × Value)) (stored : List Str) (P : Nat → σ → Prop) (c₀ : σ)
    (hh : A.handled = none) (hl : ∀ c : σ, (l, ({ cls := .type "list", data := .seq vs.toArray nn } : Obj)) ∈ Led c)
    (F : Fr h₀ env.locals s.heap m₀) (N : News h₀ env.locals s.heap (Led c₀)) (hk : ∀ p ∈ ps c₀, m₀ p.1 = some p.2) (hp : P 0 c₀)
    (turn : ∀ (c : σ) i v (u : Str → Option Value) h tk I oI, i < vs.length → vs[i]? = some v → P i c → (∀ p ∈ Led c, p.1 ≠ I) →
      Fr h₀ env.locals h (fun y => if y = x then some v else kstB (fun z => if stored.contains z then u z else m₀ z) (ps c) y) → News h₀ env.locals h ((I, oI) :: Led c) →
      wpAny (model prog w) A (execs body env) (Post1 h₀ env.locals Led ps x stored m₀ (P (i + 1)) I oI { s with heap := h, toks := tk } Q) E { s with heap := h, toks := tk })
    (done : ∀ (c : σ) (u : Str → Option Value) h tk, P vs.length c → Fr h₀ env.locals h (fun y => if y = x then u y else kstB (fun z => if stored.contains z then u z else m₀ z) (ps c) y) → News h₀ env.locals h (Led c) → Q .next { s with heap := h, toks := tk }) :
    wpAny (model prog w) A (pyIter (.ref l)) (fun it s₂ => LoopAtV prog w A h₀ env x body Q E it s₂) E s := by
  have hol := N _ (hl c₀)
  have hls : s.heap.IsList l vs.toArray := ⟨_, hol.1, rfl, _, rfl⟩
  have hlt : l < s.heap.objs.size := Heap.lt_size hol.1
  refine wpAny_pyIter_list hls ?_
  have keep : ∀ o, ∀ b o', s.heap.get? b = some o' → (s.heap.push o).get? b = some o' := fun o b o' e => Heap.get?_push_of_some _ e
  have W := Walks.list (prog := prog) (w := w) hh s.heap.objs.size l (Nat.ne_of_lt hlt) vs.toArray
  rw [List.size_toArray] at W
  refine loop1 [(l, ({ cls := .type "list", data := .seq vs.toArray nn } : Obj))] Led ps stored P c₀ W (fun i h st => by obtain ⟨o, e, _⟩ := st.1; exact ⟨o, e⟩) (fun b hb => ?_) (fun c p h => by rw [List.mem_singleton.mp h]; exact hl c) (next_is_new F) (Nat.ne_of_lt F.ns.lt) (fun p h => by rw [List.mem_singleton.mp h]; exact hol.2.1)
    ⟨⟨_, Heap.get?_push_size _ rfl, rfl, rfl⟩, hls.at fun o e => keep _ _ _ e⟩ (F.push _) (fun p hp => ⟨keep _ _ _ (N p hp).1, (N p hp).2⟩) (fun p hp => Nat.ne_of_lt (Heap.lt_size (N p hp).1)) hk hp ?_ ?_
  · rcases List.mem_cons.mp hb with e | hb
    · exact .inl e
    · exact .inr (.inr ⟨_, by rw [List.mem_singleton.mp hb]; exact List.mem_singleton.mpr rfl⟩)
  · intro c i v u h tk oI hi hv hP hne F₁ N₁
    exact turn c i v u h tk _ oI hi (by simpa using hv) hP hne F₁ N₁
  · exact done

/-- over reversed(a list of the ledger), from the reverse iterator on -/
theorem loop_rev {σ : Type} {l I : Addr} {vs : List Value} {nn : Nat} {m₀ : Str → Option Value} {news : List (Addr × Obj)}
    (Led : σ → List (Addr × Obj)) (ps : σ → List (Str × Value)) (stored : List Str) (P : Nat → σ → Prop) (c₀ : σ)
    (hh : A.handled = none) (hD : (I, revObj l ((vs.length : Int) - 1)) ∈ news) (hl : ∀ c : σ, (l, ({ cls := .type "list", data := .seq vs.toArray nn } : Obj)) ∈ Led c) (hLed : ∀ p ∈ Led c₀, p ∈ news) (hne : ∀ p ∈ Led c₀, p.1 ≠ I)
    (F : Fr h₀ env.locals s.heap m₀) (N : News h₀ env.locals s.heap news) (hk : ∀ p ∈ ps c₀, m₀ p.1 = some p.2) (hp : P 0 c₀)
    (turn : ∀ (c : σ) i v (u : Str → Option Value) h tk oI, i < vs.length → vs[vs.length - 1 - i]? = some v → P i c → (∀ p ∈ Led c, p.1 ≠ I) →
      Fr h₀ env.locals h (fun y => if y = x then some v else kstB (fun z => if stored.contains z then u z else m₀ z) (ps c) y) → News h₀ env.locals h ((I, oI) :: Led c) →
      wpAny (model prog w) A (execs body env) (Post1 h₀ env.locals Led ps x stored m₀ (P (i + 1)) I oI { s with heap := h, toks := tk } Q) E { s with heap := h, toks := tk })
    (done : ∀ (c : σ) (u : Str → Option Value) h tk, P vs.length c → Fr h₀ env.locals h (fun y => if y = x then u y else kstB (fun z => if stored.contains z then u z else m₀ z) (ps c) y) → News h₀ env.locals h (Led c) → Q .next { s with heap := h, toks := tk }) :
    wpAny (model prog w) A (pyIter (.ref I)) (fun it s₂ => LoopAtV prog w A h₀ env x body Q E it s₂) E s := by
  have hI := N _ hD
  have hol := N _ (hLed _ (hl c₀))
  have hls : s.heap.IsList l vs.toArray := ⟨_, hol.1, rfl, _, rfl⟩
  have hlI : l ≠ I := hne _ (hl c₀)
  have hit : s.heap.IsRevIter I l ((vs.length : Int) - 1) := ⟨_, hI.1, rfl, rfl⟩
  refine wpAny_pyIter_revIter hit ?_
  have W := Walks.listRev (prog := prog) (w := w) hh I l hlI vs.toArray
  rw [List.size_toArray] at W
  refine loop1 [(l, ({ cls := .type "list", data := .seq vs.toArray nn } : Obj))] Led ps stored P c₀ W (fun i h st => by obtain ⟨o, e, _⟩ := st.2.1; exact ⟨o, e⟩) (fun b hb => ?_) (fun c p h => by rw [List.mem_singleton.mp h]; exact hl c) hI.2.2 (Ne.symm hI.2.1) (fun p h => by rw [List.mem_singleton.mp h]; exact hol.2.1)
    ⟨Nat.zero_le _, by simpa using hit, hls⟩ F (fun p hp => N p (hLed p hp)) hne hk hp ?_ ?_
  · rcases List.mem_cons.mp hb with e | hb
    · exact .inl e
    · exact .inr (.inr ⟨_, by rw [List.mem_singleton.mp hb]; exact List.mem_singleton.mpr rfl⟩)
  · intro c i v u h tk oI hi hv hP hne F₁ N₁
    exact turn c i v u h tk oI hi (by simpa using hv) hP hne F₁ N₁
  · exact done
end

section
open LCg
variable {prog : Program} {w : World} {A : Around} {h₀ : Heap} {L : Addr} {m : Str → Option Value} {env : Env} {elt : Expr} {x : Str} {scope : Scope} {cl : List (Str × Addr)} {s : Shared} {S : List (Addr × Obj) → Prop} {P : Nat → Value → Prop} {Fin : List Value → List (Addr × Obj) → Prop}
/-- a comprehension, by what each item's value is; Jn says what the ledger is ahead of turn i -/
theorem comp_of {n : Nat} (R : Nat → Value → Prop) (Jn : Nat → List (Addr × Obj) → Prop)
    (turn : ∀ i v I oI C oC D m₂ h tk (E' : Value → Shared → Prop) ys news, i < n → P i v → Jn i news → NsObj oC m₂ → m₂ x = some v → Fr h₀ L h m → News h₀ L h ((I, oI) :: (C, oC) :: (D, lst ys) :: news) → Off3 I C D news → ((@Ne Nat I C) ∧ (@Ne Nat I D) ∧ (@Ne Nat C D)) →
      wpAny (model prog w) A (eval elt (compEnvC scope cl C env)) (CompEnd h₀ L m { s with heap := h, toks := tk } I oI C oC D (lst ys) S (fun y news' => R i y ∧ Jn (i + 1) news')) E' { s with heap := h, toks := tk })
    (fin : ∀ ys news, ys.length = n → (∀ j, j < n → ∃ y, ys[j]? = some y ∧ R j y) → Jn n news → Fin ys news) {news : List (Addr × Obj)} (h0 : Jn 0 news) :
    CompRest prog w A h₀ L m env elt x scope cl s S P Fin n 0 [] news := by
  have key : ∀ k i ys news, i + k = n → ys.length = i → (∀ j, j < i → ∃ y, ys[j]? = some y ∧ R j y) → Jn i news → CompRest prog w A h₀ L m env elt x scope cl s S P Fin k i ys news := by
    intro k
    induction k with
    | zero => intro i ys news hi hl hR hJ; have : i = n := by omega
              subst this; exact fin ys news hl hR hJ
    | succ k ih =>
      intro i ys news hi hl hR hJ
      refine CompRest.succ fun v I oI C oC D m₂ h tk E' hP hC hx F N off ne => ?_
      refine wpAny_mono (turn i v I oI C oC D m₂ h tk E' ys news (by omega) hP hJ hC hx F N off ne) (fun y s' hq => ?_) fun _ _ e => e
      obtain ⟨h', tk', news', e, F', N', off', hS', hR', hJ'⟩ := hq
      refine ⟨h', tk', news', e, F', N', off', hS', ih (i + 1) (ys ++ [y]) news' (by omega) (by simp [hl]) (fun j hj => ?_) hJ'⟩
      by_cases hji : j < i
      · obtain ⟨z, hz, hr⟩ := hR j hji
        exact ⟨z, by rw [List.getElem?_append_left (by omega)]; exact hz, hr⟩
      · have : j = i := by omega
        subst this
        exact ⟨y, by rw [List.getElem?_append_right (by omega)]; simp [hl], hR'⟩
  exact key n 0 [] news (by omega) rfl (fun j hj => absurd hj (Nat.not_lt_zero _)) h0
end
end

section
theorem hush_M3 : True := by
  k_with_none
  w_top off
  trivial
/-! plain facts on ints and bits -/
theorem two_pow_posI (k : Nat) : (0 : Int) < 2 ^ k := Int.pow_pos (by decide)
theorem fdiv_pow (x : Int) (k : Nat) : Int.fdiv x (2 ^ k) = x / 2 ^ k := Int.fdiv_eq_ediv_of_nonneg _ (Int.le_of_lt (two_pow_posI k))
theorem cast_pow2 (k : Nat) : (((2 : Nat) ^ k : Nat) : Int) = 2 ^ k := by rw [Int.natCast_pow]; rfl
theorem bitAnd_nat (a b : Nat) : Builtin.bitAnd (a : Int) (b : Int) = ((a &&& b : Nat) : Int) := by
  unfold Builtin.bitAnd
  simp
theorem bitOr_nat (a b : Nat) : Builtin.bitOr (a : Int) (b : Int) = ((a ||| b : Nat) : Int) := by
  unfold Builtin.bitOr Builtin.bitAnd Builtin.bitNot
  have h1 : ¬ (0 ≤ -(a : Int) - 1) := by omega
  have h2 : ¬ (0 ≤ -(b : Int) - 1) := by omega
  have e1 : (-(-(a : Int) - 1) - 1) = (a : Int) := by omega
  have e2 : (-(-(b : Int) - 1) - 1) = (b : Int) := by omega
  simp only [h1, h2, decide_false, e1, e2, Int.toNat_natCast]
  omega
theorem bitOr_add {x y : Int} {k : Nat} (hx : 0 ≤ x) (hy : 0 ≤ y) (hy2 : y < 2 ^ k) : Builtin.bitOr (x * 2 ^ k) y = x * 2 ^ k + y := by
  obtain ⟨a, rfl⟩ := Int.eq_ofNat_of_zero_le hx
  obtain ⟨b, rfl⟩ := Int.eq_ofNat_of_zero_le hy
  have hb : b < 2 ^ k := by rw [← cast_pow2] at hy2; exact Int.ofNat_lt.mp hy2
  rw [← cast_pow2, ← Int.natCast_mul, bitOr_nat, ← Nat.shiftLeft_eq, ← Nat.shiftLeft_add_eq_or_of_lt hb, Int.natCast_add]
theorem bitAnd_mask {x : Int} {k : Nat} (hx : 0 ≤ x) : Builtin.bitAnd x (2 ^ k - 1) = x % 2 ^ k := by
  obtain ⟨a, rfl⟩ := Int.eq_ofNat_of_zero_le hx
  have hp : 1 ≤ 2 ^ k := Nat.one_le_two_pow
  have e : (2 : Int) ^ k - 1 = ((2 ^ k - 1 : Nat) : Int) := by rw [Int.ofNat_sub hp, cast_pow2]; rfl
  rw [e, bitAnd_nat, Nat.and_two_pow_sub_one_eq_mod, ← cast_pow2, Int.natCast_emod]
theorem bitAnd_mask1 {x : Int} {k : Nat} (hx : 0 ≤ x) : Builtin.bitAnd x (1 * 2 ^ k - 1) = x % 2 ^ k := by rw [Int.one_mul, bitAnd_mask hx]
theorem and_hi (a k : Nat) : a &&& ((a >>> k) <<< k) = (a >>> k) <<< k := by
  apply Nat.eq_of_testBit_eq
  intro i
  rw [Nat.testBit_and, Nat.testBit_shiftLeft, Nat.testBit_shiftRight]
  by_cases h : k ≤ i
  · rw [show k + (i - k) = i by omega]; simp [h]
  · simp [h]
/-- the lower figures of x, as the exclusive or takes them -/
theorem bitXor_lower {x : Int} {k : Nat} (hx : 0 ≤ x) : Builtin.bitXor x (x / 2 ^ k * 2 ^ k) = x % 2 ^ k := by
  obtain ⟨a, rfl⟩ := Int.eq_ofNat_of_zero_le hx
  have e : ((a : Int) / 2 ^ k * 2 ^ k) = (((a >>> k) <<< k : Nat) : Int) := by
    rw [Nat.shiftLeft_eq, Nat.shiftRight_eq_div_pow, Int.natCast_mul, Int.natCast_ediv, cast_pow2]
  rw [bitXor_and, e, bitAnd_nat, and_hi, ← e]
  have := Int.mul_ediv_add_emod (a : Int) (2 ^ k)
  rw [Int.mul_comm] at this
  omega
theorem bits_pow2 {j : Nat} (h : j ≤ 9999) : Builtin.Int.intBits ((2 : Int) ^ j) ≤ 10000 := by
  refine intBits_le_iff.mpr ?_
  rw [Int.natAbs_pow]
  exact Nat.lt_of_le_of_lt (Nat.pow_le_pow_right (by decide) h) (Nat.pow_lt_pow_right (by decide) (by decide))
theorem bits_lt {x : Int} {k : Nat} (h0 : 0 ≤ x) (h : x < 2 ^ k) : Builtin.Int.intBits x ≤ k := by
  refine intBits_le_iff.mpr ?_
  obtain ⟨a, rfl⟩ := Int.eq_ofNat_of_zero_le h0
  rw [← cast_pow2] at h
  exact Int.ofNat_lt.mp h
theorem lt_of_bits {x : Int} {k : Nat} (h : Builtin.Int.intBits x ≤ k) : x < 2 ^ k := by
  have := intBits_le_iff.mp h
  rw [← cast_pow2]
  omega
theorem bits_mono {x : Int} {k n : Nat} (h : Builtin.Int.intBits x ≤ k) (hn : k ≤ n) : Builtin.Int.intBits x ≤ n := Nat.le_trans h hn
theorem fdivmod_of {x y q r : Int} (hy : 0 < y) (h : q * y + r = x) (h0 : 0 ≤ r) (h1 : r < y) : q = Int.fdiv x y ∧ r = Int.fmod x y := by
  have e1 : Int.fdiv x y = x / y := Int.fdiv_eq_ediv_of_nonneg _ (Int.le_of_lt hy)
  have e2 : Int.fmod x y = x % y := Int.fmod_eq_emod_of_nonneg _ (Int.le_of_lt hy)
  have := (Int.ediv_emod_unique hy (a := x) (q := q) (r := r)).mpr ⟨by rw [Int.mul_comm] at h; omega, h0, h1⟩
  rw [e1, e2]
  exact ⟨this.1.symm, this.2.symm⟩

section
variable {prog : Program} {w : World} {A : Around} {E : Value → Shared → Prop} {s : Shared} {a n : Int} {t u : Tok} {Q : Value → Shared → Prop}
theorem lshift_bits {m : Nat} (hn : 0 ≤ n) (hn2 : n ≤ 10000000) (ha : Builtin.Int.intBits a ≤ m) (hm : m ≤ 100000000) (h : Q (.int (a * 2 ^ n.toNat) s.toks) { s with toks := s.toks + 1 }) :
    wpAny (model prog w) A (binaryOp .LShift (.int a t) (.int n u)) Q E s := lshift_int hn (by omega) h
theorem ilshift_bits {m : Nat} (hn : 0 ≤ n) (hn2 : n ≤ 10000000) (ha : Builtin.Int.intBits a ≤ m) (hm : m ≤ 100000000) (h : Q (.int (a * 2 ^ n.toNat) s.toks) { s with toks := s.toks + 1 }) :
    wpAny (model prog w) A (inplaceOp .LShift (.int a t) (.int n u)) Q E s := ilshift_int hn (by omega) h
end

theorem d3_turn {q r b A : Int} (h1 : q * b + r = A) (h2 : r < 0) : (q - 1) * b + (r + b) = A ∧ r + b < b := by
  refine ⟨?_, by omega⟩
  rw [Int.sub_mul, Int.one_mul]; omega
theorem d3_start1 {a12 a3 b b1 b2 P q0 r0 : Int} (hq : P - 1 = q0) (hr : (a12 - b1 * P + b1) * P + a3 - q0 * b2 = r0) (hb : b = b1 * P + b2) (hab : a12 * P + a3 < b * P) :
    q0 * b + r0 = a12 * P + a3 ∧ r0 < b := by
  have h1 : q0 * b + r0 = a12 * P + a3 := by subst hq hr hb; grind
  refine ⟨h1, ?_⟩
  have h2 : b * P = q0 * b + b := by subst hq; grind
  omega
theorem d3_start2 {a12 a3 b b1 b2 P q0 r r0 : Int} (hqr : q0 * b1 + r = a12) (h0 : 0 ≤ r) (h1 : r < b1) (hq : 0 ≤ q0) (hr : r * P + a3 - q0 * b2 = r0) (hb : b = b1 * P + b2) (ha3 : a3 < P) (hP : 0 < P) (hb2 : 0 ≤ b2) :
    q0 * b + r0 = a12 * P + a3 ∧ r0 < b := by
  refine ⟨by subst hqr hr hb; grind, ?_⟩
  have h2 : r * P ≤ (b1 - 1) * P := Int.mul_le_mul_of_nonneg_right (by omega) (Int.le_of_lt hP)
  have h3 : 0 ≤ q0 * b2 := Int.mul_nonneg hq hb2
  have h4 : (b1 - 1) * P = b1 * P - P := by rw [Int.sub_mul, Int.one_mul]
  omega

section
variable {prog : Program} {w : World} {A : Around} {E : Value → Shared → Prop} {s : Shared} {a n v : Int} {t u : Tok} {Q : Value → Shared → Prop}
/-- a shift or a mask whose value is known by another name -/
theorem rshift_eq (hn : 0 ≤ n) (e : a.fdiv (2 ^ n.toNat) = v) (h : Q (.int v s.toks) { s with toks := s.toks + 1 }) : wpAny (model prog w) A (binaryOp .RShift (.int a t) (.int n u)) Q E s := rshift_int hn (by rw [e]; exact h)
theorem irshift_eq (hn : 0 ≤ n) (e : a.fdiv (2 ^ n.toNat) = v) (h : Q (.int v s.toks) { s with toks := s.toks + 1 }) : wpAny (model prog w) A (inplaceOp .RShift (.int a t) (.int n u)) Q E s := irshift_int hn (by rw [e]; exact h)
theorem and_eq (e : Builtin.bitAnd a n = v) (h : Q (.int v s.toks) { s with toks := s.toks + 1 }) : wpAny (model prog w) A (binaryOp .BitAnd (.int a t) (.int n u)) Q E s := and_int (by rw [e]; exact h)
end
theorem d2_facts {a b : Int} {k h : Nat} (hk : k = 2 * h) (hh : 1 ≤ h) (ha : 0 ≤ a) (hab : a < b * 2 ^ k) (hb : 2 ^ (k - 1) ≤ b) :
    0 ≤ a / 2 ^ k ∧ b = b / 2 ^ h * 2 ^ h + b % 2 ^ h ∧ (0 ≤ b % 2 ^ h ∧ b % 2 ^ h < 2 ^ h) ∧ 0 < b / 2 ^ h ∧ (0 ≤ a / 2 ^ h % 2 ^ h ∧ a / 2 ^ h % 2 ^ h < 2 ^ h) ∧ a / 2 ^ k * 2 ^ h + a / 2 ^ h % 2 ^ h = a / 2 ^ h ∧
      a / 2 ^ h < b * 2 ^ h ∧ (0 ≤ a % 2 ^ h ∧ a % 2 ^ h < 2 ^ h) ∧ a = a / 2 ^ h * 2 ^ h + a % 2 ^ h ∧ 0 < b := by
  have hP := two_pow_posI h
  have hPn : (2 : Int) ^ h ≠ 0 := Int.ne_of_gt hP
  have hk2 : (2 : Int) ^ k = 2 ^ h * 2 ^ h := by rw [hk, Nat.two_mul, Int.pow_add]
  have hb0 : 0 < b := Int.lt_of_lt_of_le (two_pow_posI _) hb
  have hbb : (2 : Int) ^ h ≤ b := by
    refine Int.le_trans ?_ hb
    rw [← cast_pow2, ← cast_pow2]
    exact Int.ofNat_le.mpr (Nat.pow_le_pow_right (by decide) (by omega))
  refine ⟨Int.ediv_nonneg ha (Int.le_of_lt (two_pow_posI k)), (Int.ediv_mul_add_emod b _).symm, ⟨Int.emod_nonneg _ hPn, Int.emod_lt_of_pos _ hP⟩, ?_, ⟨Int.emod_nonneg _ hPn, Int.emod_lt_of_pos _ hP⟩, ?_, ?_, ⟨Int.emod_nonneg _ hPn, Int.emod_lt_of_pos _ hP⟩, (Int.ediv_mul_add_emod a _).symm, hb0⟩
  · exact Int.lt_of_lt_of_le (by decide : (0 : Int) < 1) ((Int.le_ediv_iff_mul_le hP).mpr (by rw [Int.one_mul]; exact hbb))
  · rw [hk2, ← Int.ediv_ediv_of_nonneg (Int.le_of_lt hP)]
    exact Int.ediv_mul_add_emod _ _
  · rw [Int.ediv_lt_iff_lt_mul hP, Int.mul_assoc, ← hk2]; exact hab
theorem d2_final {a b am alo P : Int} (hP : 0 < P) (ha : a = am * P + alo) (hlo : 0 ≤ alo ∧ alo < P) (hb : 0 < b) (ham : am < b * P) (ham0 : 0 ≤ am) :
    0 ≤ Int.fdiv am b ∧ Int.fdiv am b < P ∧ 0 ≤ Int.fmod am b ∧ Int.fmod am b < b ∧ Int.fmod am b * P + alo < b * P ∧ 0 ≤ Int.fdiv (Int.fmod am b * P + alo) b ∧ Int.fdiv (Int.fmod am b * P + alo) b < P ∧
      Int.fdiv am b * P + Int.fdiv (Int.fmod am b * P + alo) b = Int.fdiv a b ∧ Int.fmod (Int.fmod am b * P + alo) b = Int.fmod a b := by
  have f1 := fdiv_fmod_facts am b
  have g1 := f1.2.2.1 hb
  have e1 := f1.1
  have q0 := Int.fdiv_nonneg ham0 (Int.le_of_lt hb)
  have hb0 : 0 ≤ b := Int.le_of_lt hb
  have h1 : Int.fmod am b * P + alo < b * P := by
    have h2 : Int.fmod am b * P ≤ (b - 1) * P := Int.mul_le_mul_of_nonneg_right (by omega) (Int.le_of_lt hP)
    have h4 : (b - 1) * P = b * P - P := by rw [Int.sub_mul, Int.one_mul]
    omega
  have h0 : 0 ≤ Int.fmod am b * P + alo := by
    have := Int.mul_nonneg g1.1 (Int.le_of_lt hP)
    omega
  have lt : ∀ x : Int, x < b * P → Int.fdiv x b < P := fun x hx => by
    rw [Int.fdiv_eq_ediv_of_nonneg _ hb0, Int.ediv_lt_iff_lt_mul hb, Int.mul_comm]; exact hx
  have f2 := fdiv_fmod_facts (Int.fmod am b * P + alo) b
  have g2 := f2.2.2.1 hb
  have e2 := f2.1
  have q2 := Int.fdiv_nonneg h0 hb0
  refine ⟨q0, lt _ ham, g1.1, g1.2, h1, q2, lt _ h1, ?_⟩
  generalize Int.fdiv (Int.fmod am b * P + alo) b = Q2 at *
  generalize Int.fmod (Int.fmod am b * P + alo) b = R2 at *
  generalize Int.fdiv am b = Q1 at *
  generalize Int.fmod am b = R1 at *
  refine fdivmod_of hb ?_ g2.1 g2.2
  rw [ha]
  have h3 : am * P = Q1 * b * P + R1 * P := by rw [← Int.add_mul]; congr 1; omega
  have h5 : (Q1 * P + Q2) * b = Q1 * b * P + Q2 * b := by rw [Int.add_mul]; congr 1; rw [Int.mul_assoc, Int.mul_comm P b, ← Int.mul_assoc]
  omega

section
variable {prog : Program} {w : World} {A : Around} {E : Value → Shared → Prop} {s : Shared} {a n v : Int} {t u : Tok} {Q : Value → Shared → Prop}
theorem mul_eq (e : a * n = v) (hm : IntMulOk a n) (h : Q (.int v s.toks) { s with toks := s.toks + 1 }) : wpAny (model prog w) A (binaryOp .Mult (.int a t) (.int n u)) Q E s := mul_int (by rw [e]; exact h) hm
end
/-- the number of a row of digits, the lowest first -/
noncomputable def d2i (n : Nat) : List Int → Int
  | [] => 0
  | x :: xs => x + 2 ^ n * d2i n xs
theorem d2i_append (n : Nat) : ∀ xs ys : List Int, d2i n (xs ++ ys) = d2i n xs + 2 ^ (n * xs.length) * d2i n ys
  | [], ys => by simp [d2i]
  | x :: xs, ys => by
    rw [List.cons_append, d2i, d2i, d2i_append n xs ys, List.length_cons, Nat.mul_succ, Int.pow_add, Int.mul_add]
    have : (2 : Int) ^ n * (2 ^ (n * xs.length) * d2i n ys) = 2 ^ (n * xs.length) * 2 ^ n * d2i n ys := by rw [← Int.mul_assoc, Int.mul_comm (2 ^ n) (2 ^ (n * xs.length))]
    omega
theorem d2i_bound (n : Nat) : ∀ xs : List Int, (∀ x ∈ xs, 0 ≤ x ∧ x < 2 ^ n) → 0 ≤ d2i n xs ∧ d2i n xs < 2 ^ (n * xs.length)
  | [], _ => by simp [d2i]
  | x :: xs, h => by
    have h1 := h x (.head _)
    have h2 := d2i_bound n xs fun y hy => h y (.tail _ hy)
    have hP := two_pow_posI n
    rw [d2i, List.length_cons, Nat.mul_succ, Nat.add_comm, Int.pow_add]
    have h3 : 0 ≤ 2 ^ n * d2i n xs := Int.mul_nonneg (Int.le_of_lt hP) h2.1
    have h4 : (2 : Int) ^ n * d2i n xs ≤ 2 ^ n * (2 ^ (n * xs.length) - 1) := Int.mul_le_mul_of_nonneg_left (by omega) (Int.le_of_lt hP)
    rw [Int.mul_sub, Int.mul_one] at h4
    omega
/-- the number of the places from L up to R -/
noncomputable def d2iR (n : Nat) (ns : List Int) (L R : Nat) : Int := d2i n ((ns.drop L).take (R - L))
theorem d2iR_one (n : Nat) (ns : List Int) (L : Nat) (h : L < ns.length) : d2iR n ns L (L + 1) = ns.getD L 0 := by
  unfold d2iR
  rw [List.drop_eq_getElem_cons h, show L + 1 - L = 1 by omega, List.take_succ_cons, List.take_zero]
  simp [d2i, List.getD_eq_getElem?_getD, h]
theorem d2iR_split (n : Nat) (ns : List Int) (L M R : Nat) (h1 : L ≤ M) (h2 : M ≤ R) (h3 : R ≤ ns.length) : d2iR n ns L R = d2iR n ns M R * 2 ^ ((M - L) * n) + d2iR n ns L M := by
  unfold d2iR
  have e : (ns.drop L).take (R - L) = (ns.drop L).take (M - L) ++ (ns.drop M).take (R - M) := by
    rw [show R - L = (M - L) + (R - M) by omega, List.take_add, List.drop_drop, show L + (M - L) = M by omega]
  rw [e, d2i_append, List.length_take, List.length_drop, show min (M - L) (ns.length - L) = M - L by omega, Nat.mul_comm n, Int.mul_comm (d2i n ((ns.drop M).take (R - M)))]
  omega
theorem d2iR_all (n : Nat) (ns : List Int) : d2iR n ns 0 ns.length = d2i n ns := by
  unfold d2iR; simp
theorem d2iR_bound (n : Nat) (ns : List Int) (L R : Nat) (h3 : R ≤ ns.length) (h : ∀ x ∈ ns, 0 ≤ x ∧ x < 2 ^ n) : 0 ≤ d2iR n ns L R ∧ d2iR n ns L R < 2 ^ (n * (R - L)) := by
  have := d2i_bound n ((ns.drop L).take (R - L)) fun x hx => h x (List.mem_of_mem_drop (List.mem_of_mem_take hx))
  refine ⟨this.1, Int.lt_of_lt_of_le this.2 ?_⟩
  rw [← cast_pow2, ← cast_pow2]
  refine Int.ofNat_le.mpr (Nat.pow_le_pow_right (by decide) (Nat.mul_le_mul_left _ ?_))
  rw [List.length_take]; omega
theorem d2iR_bits (n : Nat) (ns : List Int) (L R : Nat) (h3 : R ≤ ns.length) (h : ∀ x ∈ ns, 0 ≤ x ∧ x < 2 ^ n) (hn : n * ns.length ≤ 100000) : Builtin.Int.intBits (d2iR n ns L R) ≤ 100000 := by
  have := d2iR_bound n ns L R h3 h
  refine bits_mono (bits_lt this.1 this.2) (Nat.le_trans (Nat.mul_le_mul_left _ ?_) hn)
  omega

section
variable {prog : Program} {w : World} {A : Around} {E : Value → Shared → Prop} {s : Shared} {a n v : Int} {t u : Tok} {h₀ : Heap} {L : Addr} {m : Str → Option Value} {news : List (Addr × Obj)}
theorem xor_eq {Q : Value → Shared → Prop} (e : Builtin.bitXor a n = v) (h : Q (.int v s.toks) { s with toks := s.toks + 1 }) : wpAny (model prog w) A (binaryOp .BitXor (.int a t) (.int n u)) Q E s := xor_int (by rw [e]; exact h)
theorem rep_flat (y : Value) : ∀ k : Nat, List.foldl (fun x1 x2 => x1 ++ x2) #[] (List.replicate k #[y]) = (List.replicate k y).toArray := fun k => by
  rw [listMul_foldl]; simp [lm_rep_flat_one]
/-- one int in a list, k times -/
theorem mul_one_list {l : Addr} {y x : Int} {k j : Nat} {Q : Value → Shared → Prop} (F : Fr h₀ L s.heap m) (N : News h₀ L s.heap news) (hm : (l, W.listOf #[.int y t] j) ∈ news) (hx : x = (k : Int)) (hk : k ≤ 1000000)
    (h : ∀ D vs h', Fr h₀ L h' m → News h₀ L h' ((D, W.listOf vs.toArray 0) :: news) → (∀ p ∈ news, p.1 < D) → IntsAre vs (List.replicate k y) → Q (.ref D) { s with heap := h' }) :
    wpAny (model prog w) A (binaryOp .Mult (.ref l) (.int x u)) Q E s := by
  subst hx
  refine mul_list F N (N _ hm).1 (by omega) (by omega) (by simp; omega) fun h' F' N' => ?_
  refine h _ (List.replicate k (.int y t)) h' F' ?_ (fun p hp => Heap.lt_size (N p hp).1) ?_
  · have e : (if (#[Value.int y t] : Array Value).isEmpty = true then 0 else ((k : Nat) : Int).toNat) = k := by simp
    rw [e, rep_flat] at N'
    exact N'
  · clear h N' F'
    induction k with
    | zero => exact .nil
    | succ k ih => exact .cons _ _ (ih (by omega))
end
/-- the digits of a number by n bits, the lowest first, k of them -/
noncomputable def i2d (n : Nat) : Nat → Int → List Int
  | 0, _ => []
  | k + 1, a => a % 2 ^ n :: i2d n k (a / 2 ^ n)
theorem i2d_length (n : Nat) : ∀ (k : Nat) (a : Int), (i2d n k a).length = k
  | 0, _ => rfl
  | k + 1, a => by rw [i2d, List.length_cons, i2d_length n k]
theorem i2d_append (n k : Nat) : ∀ (j : Nat) (x : Int), i2d n (j + k) x = i2d n j x ++ i2d n k (x / 2 ^ (n * j))
  | 0, x => by simp [i2d]
  | j + 1, x => by
    rw [show j + 1 + k = (j + k) + 1 by omega, i2d, i2d, i2d_append n k j, List.cons_append, Nat.mul_succ, Nat.add_comm (n * j), Int.pow_add, ← Int.ediv_ediv_of_nonneg (Int.le_of_lt (two_pow_posI n))]
theorem mod_div_pow (x : Nat) (a b : Nat) : x % (2 ^ (a + b)) / 2 ^ a = x / 2 ^ a % 2 ^ b := by rw [Nat.pow_add, Nat.mod_mul_right_div_self]
theorem i2d_mod (n : Nat) : ∀ (j : Nat) (x : Int), 0 ≤ x → i2d n j (x % 2 ^ (n * j)) = i2d n j x
  | 0, x, _ => rfl
  | j + 1, x, hx => by
    obtain ⟨a, rfl⟩ := Int.eq_ofNat_of_zero_le hx
    have hd : (2 : Int) ^ n ∣ 2 ^ (n * (j + 1)) := by rw [Nat.mul_succ, Int.pow_add]; exact Int.dvd_mul_left _ _
    have e : ((a : Int) % 2 ^ (n * (j + 1))) / 2 ^ n = ((a : Int) / 2 ^ n) % 2 ^ (n * j) := by
      have := mod_div_pow a n (n * j)
      rw [Nat.mul_succ, Nat.add_comm (n * j), ← cast_pow2, ← cast_pow2, ← cast_pow2, ← Int.natCast_emod, ← Int.natCast_ediv, ← Int.natCast_ediv, ← Int.natCast_emod, this]
    rw [i2d, i2d, Int.emod_emod_of_dvd _ hd, e, i2d_mod n j _ (Int.ediv_nonneg hx (Int.le_of_lt (two_pow_posI n)))]
theorem i2d_one (n : Nat) (x : Int) (h0 : 0 ≤ x) (h1 : x < 2 ^ n) : i2d n 1 x = [x] := by
  rw [i2d, i2d, Int.emod_eq_of_lt h0 h1]
/-- the places from L up to R set -/
noncomputable def setR (xs : List Int) (L R : Nat) (ds : List Int) : List Int := xs.take L ++ ds ++ xs.drop R
theorem setR_length (xs : List Int) (L R : Nat) (ds : List Int) (h1 : L ≤ R) (h2 : R ≤ xs.length) (h3 : ds.length = R - L) : (setR xs L R ds).length = xs.length := by
  unfold setR; simp; omega
theorem setR_one (xs : List Int) (L : Nat) (x : Int) (h : L < xs.length) : xs.set L x = setR xs L (L + 1) [x] := by
  unfold setR
  rw [List.set_eq_take_append_cons_drop, if_pos h]; simp
theorem setR_two (xs : List Int) (L M R : Nat) (d1 d2 : List Int) (h1 : L ≤ M) (h2 : M ≤ R) (h3 : R ≤ xs.length) (e1 : d1.length = M - L) :
    setR (setR xs L M d1) M R d2 = setR xs L R (d1 ++ d2) := by
  unfold setR
  have l1 : (xs.take L ++ d1).length = M := by simp; omega
  rw [List.take_append, l1, Nat.sub_self, List.take_zero, List.append_nil, List.take_of_length_le (Nat.le_of_eq l1), List.drop_append, l1, List.drop_of_length_le (by rw [l1]; exact h2), List.nil_append, List.drop_drop,
    show M + (R - M) = R by omega]
  simp
theorem setR_all (xs ds : List Int) : setR xs 0 xs.length ds = ds := by unfold setR; simp
theorem lt_pow_digits {a : Int} {n k : Nat} (hn : 1 ≤ n) (h0 : 0 ≤ a) (hk : k = (Builtin.Int.intBits a + n - 1) / n) : a < 2 ^ (n * k) := by
  refine Int.lt_of_lt_of_le (lt_of_bits (Nat.le_refl _)) ?_
  rw [← cast_pow2, ← cast_pow2]
  refine Int.ofNat_le.mpr (Nat.pow_le_pow_right (by decide) ?_)
  have := Nat.div_add_mod (Builtin.Int.intBits a + n - 1) n
  have h3 := Nat.mod_lt (Builtin.Int.intBits a + n - 1) (show 0 < n by omega)
  rw [hk]; omega

section
variable {prog : Program} {w : World} {A : Around} {E : Value → Shared → Prop} {s : Shared} {h₀ : Heap} {L : Addr} {m : Str → Option Value} {news : List (Addr × Obj)}
/-- the length of a list of the ledger, known by another name -/
theorem len_led {D : Addr} {vs : List Value} {j n : Nat} {Q : Value → Shared → Prop} (N : News h₀ L s.heap news) (hm : (D, W.listOf vs.toArray j) ∈ news) (e : vs.length = n) (hn : n ≤ 1000000)
    (h : ∀ t tk, Q (.int (n : Int) t) { s with toks := tk }) : wpAny (model prog w) A (call (.builtin "len") [.ref D]) Q E s := by
  refine len_list (items := vs.toArray) ⟨_, (N _ hm).1, rfl, _, rfl⟩ (by rw [List.size_toArray, e]; omega) ?_
  rw [List.size_toArray, e]
  exact h _ _
end

/-- one step of the long division: x the number so far, dg the next digit -/
theorem ld_step {n : Nat} {b x dg : Int} (hb : 0 < b) (hx : 0 ≤ x) (hd : 0 ≤ dg ∧ dg < 2 ^ n) :
    let q := Int.fdiv (Int.fmod x b * 2 ^ n + dg) b
    0 ≤ Int.fmod x b * 2 ^ n + dg ∧ Int.fmod x b * 2 ^ n + dg < b * 2 ^ n ∧ 0 ≤ q ∧ q < 2 ^ n ∧ Int.fmod (Int.fmod x b * 2 ^ n + dg) b = Int.fmod (x * 2 ^ n + dg) b ∧ Int.fdiv (x * 2 ^ n + dg) b = Int.fdiv x b * 2 ^ n + q := by
  have hP := two_pow_posI n
  have f := fdiv_fmod_facts x b
  have g := f.2.2.1 hb
  have e := f.1
  have h1 : Int.fmod x b * 2 ^ n + dg < b * 2 ^ n := by
    have h2 : Int.fmod x b * 2 ^ n ≤ (b - 1) * 2 ^ n := Int.mul_le_mul_of_nonneg_right (by omega) (Int.le_of_lt hP)
    have h4 : (b - 1) * 2 ^ n = b * 2 ^ n - 2 ^ n := by rw [Int.sub_mul, Int.one_mul]
    omega
  have h0 : 0 ≤ Int.fmod x b * 2 ^ n + dg := by have := Int.mul_nonneg g.1 (Int.le_of_lt hP); omega
  have q0 := Int.fdiv_nonneg h0 (Int.le_of_lt hb)
  have q1 : Int.fdiv (Int.fmod x b * 2 ^ n + dg) b < 2 ^ n := by
    rw [Int.fdiv_eq_ediv_of_nonneg _ (Int.le_of_lt hb), Int.ediv_lt_iff_lt_mul hb, Int.mul_comm (2 ^ n) b]; exact h1
  have f2 := fdiv_fmod_facts (Int.fmod x b * 2 ^ n + dg) b
  have g2 := f2.2.2.1 hb
  have e2 := f2.1
  refine ⟨h0, h1, q0, q1, ?_⟩
  generalize Int.fdiv (Int.fmod x b * 2 ^ n + dg) b = Q2 at *
  generalize Int.fmod (Int.fmod x b * 2 ^ n + dg) b = R2 at *
  generalize Int.fdiv x b = Q1 at *
  generalize Int.fmod x b = R1 at *
  have h3 : x * 2 ^ n = Q1 * b * 2 ^ n + R1 * 2 ^ n := by rw [← Int.add_mul]; congr 1; omega
  have h5 : (Q1 * 2 ^ n + Q2) * b = Q1 * b * 2 ^ n + Q2 * b := by rw [Int.add_mul]; congr 1; rw [Int.mul_assoc, Int.mul_comm (2 ^ n) b, ← Int.mul_assoc]
  have := fdivmod_of (x := x * 2 ^ n + dg) (q := Q1 * 2 ^ n + Q2) (r := R2) hb (by omega) g2.1 g2.2
  exact ⟨this.2, this.1.symm⟩
theorem i2d_cons {n i : Nat} {x q : Int} (hq : 0 ≤ q ∧ q < 2 ^ n) : i2d n (i + 1) (x * 2 ^ n + q) = q :: i2d n i x := by
  rw [i2d]
  congr 1
  · rw [Int.add_comm, Int.add_mul_emod_self_right, Int.emod_eq_of_lt hq.1 hq.2]
  · rw [Int.add_comm, Int.add_mul_ediv_right _ _ (Int.ne_of_gt (two_pow_posI n)), Int.ediv_eq_zero_of_lt hq.1 hq.2, Int.zero_add]
theorem i2d_get (n : Nat) : ∀ (k : Nat) (a : Int) (j : Nat), j < k → (i2d n k a)[j]? = some (a / 2 ^ (n * j) % 2 ^ n)
  | 0, a, j, h => absurd h (Nat.not_lt_zero _)
  | k + 1, a, 0, _ => by rw [i2d]; simp
  | k + 1, a, j + 1, h => by
    rw [i2d, List.getElem?_cons_succ, i2d_get n k _ j (by omega), Int.ediv_ediv_of_nonneg (Int.le_of_lt (two_pow_posI n)), ← Int.pow_add, Nat.mul_succ, Nat.add_comm n]
/-- the number that the upper i of k digits make -/
noncomputable def upper (n k : Nat) (a : Int) (i : Nat) : Int := a / 2 ^ (n * (k - i))
theorem upper_zero {n k : Nat} {a : Int} (h0 : 0 ≤ a) (h : a < 2 ^ (n * k)) : upper n k a 0 = 0 := by unfold upper; exact Int.ediv_eq_zero_of_lt h0 h
theorem upper_all {n k : Nat} {a : Int} : upper n k a k = a := by unfold upper; simp
theorem upper_nonneg {n k i : Nat} {a : Int} (h0 : 0 ≤ a) : 0 ≤ upper n k a i := Int.ediv_nonneg h0 (Int.le_of_lt (two_pow_posI _))
theorem upper_step {n k i : Nat} {a : Int} (hi : i < k) : upper n k a (i + 1) = upper n k a i * 2 ^ n + a / 2 ^ (n * (k - 1 - i)) % 2 ^ n := by
  unfold upper
  have e : k - i = (k - 1 - i) + 1 := by omega
  rw [e, Nat.mul_succ, Int.pow_add, ← Int.ediv_ediv_of_nonneg (Int.le_of_lt (two_pow_posI _)), show k - (i + 1) = k - 1 - i by omega]
  exact (Int.ediv_mul_add_emod _ _).symm
theorem d2i_i2d (n : Nat) : ∀ (k : Nat) (x : Int), 0 ≤ x → x < 2 ^ (n * k) → d2i n (i2d n k x) = x
  | 0, x, h0, h1 => by simp at h1; rw [i2d, d2i]; omega
  | k + 1, x, h0, h1 => by
    rw [i2d, d2i, d2i_i2d n k _ (Int.ediv_nonneg h0 (Int.le_of_lt (two_pow_posI n)))]
    · have := Int.mul_ediv_add_emod x (2 ^ n); omega
    · rw [Int.ediv_lt_iff_lt_mul (two_pow_posI n), ← Int.pow_add, ← Nat.mul_succ]; exact h1
theorem i2d_bnd (n : Nat) : ∀ (k : Nat) (x : Int), ∀ y ∈ i2d n k x, 0 ≤ y ∧ y < 2 ^ n
  | 0, x, y, h => nomatch h
  | k + 1, x, y, h => by
    rw [i2d] at h
    rcases List.mem_cons.mp h with rfl | h
    · exact ⟨Int.emod_nonneg _ (Int.ne_of_gt (two_pow_posI n)), Int.emod_lt_of_pos _ (two_pow_posI n)⟩
    · exact i2d_bnd n k _ y h
end

section
theorem hush_M4 : True := by
  k_with_none
  w_top off
  trivial
section
variable {prog : Program} {w : World} {A : Around} {E : Value → Shared → Prop} {s : Shared} {h₀ : Heap} {L : Addr} {m : Str → Option Value} {news news' : List (Addr × Obj)}
theorem append_led {D : Addr} {vs : List Value} {n : Nat} {x : Value} {Q : Value → Shared → Prop} (F : Fr h₀ L s.heap m) (N : News h₀ L s.heap news) (U : Upd D (W.listOf vs.toArray n) (W.listOf (vs ++ [x]).toArray (n + 1)) news news') (hz : vs.length ≤ 100000)
    (h : ∀ h', Fr h₀ L h' m → News h₀ L h' news' → Q .none { s with heap := h' }) : wpAny (model prog w) A (call (.builtin "list.append") [.ref D, x]) Q E s :=
  append_K (its := vs.toArray) F N (by rw [List.push_toArray]; exact U) h (by simp only [PySem.sizeLine_eq, List.size_toArray]; omega)
theorem reverse_led {D : Addr} {vs : List Value} {n : Nat} {Q : Value → Shared → Prop} (F : Fr h₀ L s.heap m) (N : News h₀ L s.heap news) (U : Upd D (W.listOf vs.toArray n) (W.listOf vs.reverse.toArray n) news news') (hz : vs.length ≤ 100000)
    (h : ∀ h', Fr h₀ L h' m → News h₀ L h' news' → Q .none { s with heap := h' }) : wpAny (model prog w) A (call (.builtin "list.reverse") [.ref D]) Q E s :=
  kl_reverse (l := vs.reverse) F N (by simp) U (by simp only [PySem.sizeLine_eq]; omega) h
end
/-- a code object by its written name -/
noncomputable def CodeObj (q : Str) (o : Obj) : Prop := ∃ vs t, o.data = .fields vs ∧ vs[1]? = some (.str q t)
theorem CodeObj.at {q : Str} {o : Obj} {h : Heap} {c : Addr} (x : CodeObj q o) (e : h.get? c = some o) : h.CodeRec (.ref c) q := by
  obtain ⟨vs, t, e1, e2⟩ := x
  exact ⟨c, o, vs, t, rfl, e, e1, e2⟩
theorem kstB_nil {rest : Str → Option Value} {z : Str} : kstB rest [] z = rest z := rfl
theorem kstB_cons {rest : Str → Option Value} {z : Str} {p : Str × Value} {r : List (Str × Value)} : kstB rest (p :: r) z = if z = p.1 then some p.2 else kstB rest r z := rfl
theorem same_if {z a : Str} {v r t : Option Value} (h : z ≠ a) (k : r = t) : (if z = a then v else r) = t := by rw [if_neg h]; exact k
theorem ne_ps {z a : Str} {l : List (Str × Value)} (h : ∀ p ∈ l, z ≠ p.1) (c : (l.map Prod.fst).contains a = true) : z ≠ a := by
  have h1 := List.contains_iff_mem.mp c
  obtain ⟨p, h2, h3⟩ := List.mem_map.mp h1
  rw [← h3]; exact h p h2
theorem ne_st {z a : Str} {l : List Str} (h : l.contains z = false) (c : l.contains a = true) : z ≠ a := fun e => by rw [e, c] at h; cases h
theorem same_st {z : Str} {l : List Str} {u t : Option Value} (h : l.contains z = false) : (if l.contains z = true then u else t) = t := by rw [h]; rfl
theorem same_k {z : Str} {u : Str → Option Value} {t : Option Value} {ps : List (Str × Value)} (h : ∀ p ∈ ps, z ≠ p.1) (k : u z = t) : kstB u ps z = t := by
  induction ps with
  | nil => exact k
  | cons p ps ih => rw [kstB_cons, if_neg (h p (.head _))]; exact ih fun q hq => h q (.tail _ hq)
theorem same_kst {z : Str} {l : List Str} {u m : Str → Option Value} {ps : List (Str × Value)} (h2 : ∀ p ∈ ps, z ≠ p.1) (h : l.contains z = false) : kstB (fun z => if l.contains z then u z else m z) ps z = m z := same_k h2 (same_st h)
theorem same_c {z : Str} {l : List Str} {u r t : Option Value} (h : l.contains z = false) (k : r = t) : (if l.contains z = true then u else r) = t := by rw [h]; exact k
theorem nc_nil {z : Str} : ([] : List Str).contains z = false := rfl
theorem nc_cons {z a : Str} {l : List Str} (h : z ≠ a) (k : l.contains z = false) : (a :: l).contains z = false := by
  simp only [List.contains_cons, k, Bool.or_false]; exact beq_eq_false_iff_ne.mpr h
end

section
theorem hush_M7 : True := by
  k_with_none
  w_top off
  trivial
/-- apart, hidden from omega (which splits upon every plain one) -/
noncomputable def NeW (a b : Nat) : Prop := a ≠ b
theorem NeW.l {a b : Addr} (h : NeW a b) : a ≠ b := h
theorem NeW.r {a b : Addr} (h : NeW b a) : a ≠ b := Ne.symm h
theorem NeW.of {a b : Addr} (h : a ≠ b) : NeW a b := h
noncomputable def AllNw (r : Addr) : List (Addr × Obj) → Prop
  | [] => True
  | p :: q => NeW p.1 r ∧ AllNw r q
theorem allNw_of {r : Addr} : ∀ {l : List (Addr × Obj)}, (∀ p ∈ l, p.1 ≠ r) → AllNw r l
  | [], _ => trivial
  | p :: q, h => ⟨h p (.head _), allNw_of fun x hx => h x (.tail _ hx)⟩
theorem AllNw.mem {r : Addr} : ∀ {l : List (Addr × Obj)}, AllNw r l → ∀ p ∈ l, p.1 ≠ r
  | [], _, _, h => nomatch h
  | p :: l, x, q, h => by
    rcases List.mem_cons.mp h with rfl | h
    · exact x.1
    · exact AllNw.mem x.2 q h
section
variable {prog : Program} {w : World} {A : Around} {E : Value → Shared → Prop} {s : Shared} {h₀ : Heap} {L l : Addr} {m : Str → Option Value} {news : List (Addr × Obj)} {value slice : PySem.Expr} {vs : List Value} {nn : Nat} {vl vu : Value} {Q : Value → Shared → Prop}
theorem slice_all_led (F : Fr h₀ L s.heap m) (N : News h₀ L s.heap news) (hm : (l, W.listOf vs.toArray nn) ∈ news) (hz : vs.length ≤ 100000) (pl : IsPart vl none) (pu : IsPart vu none)
    (h : ∀ D h', Fr h₀ L h' m → News h₀ L h' ((D, W.listOf vs.toArray 0) :: news) → (∀ p ∈ news, p.1 < D) → Q (.ref D) { s with heap := h' })
    (hs : subscripted slice false (.ref l) (.ref s.heap.objs.size) = operate [.ref s.heap.objs.size, .ref l] (getItem (.ref l) (.ref s.heap.objs.size))) (ht : ∀ r, letTemporaryGo value (.ref l) r = pure ()) :
    wpAny (model prog w) A (subscriptTail value slice (.ref l) (.ref s.heap.objs.size)) Q E { s with heap := s.heap.push { cls := .type "slice", data := .fields #[vl, vu, .none] } } :=
  kms_slice_lit (its := vs.toArray) (zs := vs) F N ⟨_, (N _ hm).1, rfl, _, rfl⟩ pl pu (by show kms_pick vs none none = vs; unfold kms_pick kms_lo kms_hi; simp) h hs ht (by simp only [PySem.sizeLine_eq, List.size_toArray]; omega)
theorem slice_upto_led {t : Tok} {n : Nat} (F : Fr h₀ L s.heap m) (N : News h₀ L s.heap news) (hm : (l, W.listOf vs.toArray nn) ∈ news) (hz : vs.length ≤ 100000) (pl : IsPart vl none) (pu : IsPart vu (some (n : Int)))
    (h : ∀ D h', Fr h₀ L h' m → News h₀ L h' ((D, W.listOf (vs.take n).toArray 0) :: news) → (∀ p ∈ news, p.1 < D) → Q (.ref D) { s with heap := h' })
    (hs : subscripted slice false (.ref l) (.ref s.heap.objs.size) = operate [.ref s.heap.objs.size, .ref l] (getItem (.ref l) (.ref s.heap.objs.size))) (ht : ∀ r, letTemporaryGo value (.ref l) r = pure ()) :
    wpAny (model prog w) A (subscriptTail value slice (.ref l) (.ref s.heap.objs.size)) Q E { s with heap := s.heap.push { cls := .type "slice", data := .fields #[vl, vu, .none] } } :=
  kms_slice_lit (its := vs.toArray) (zs := vs.take n) F N ⟨_, (N _ hm).1, rfl, _, rfl⟩ pl pu (by
    show kms_pick vs none (some (n : Int)) = _
    unfold kms_pick kms_lo kms_hi
    have h1 : ¬ (n : Int) < 0 := by omega
    simp only [if_neg h1, Int.toNat_natCast, List.drop_zero, Nat.sub_zero]
    by_cases h2 : n ≤ vs.length
    · rw [Nat.min_eq_left h2]
    · rw [Nat.min_eq_right (by omega), List.take_of_length_le (Nat.le_refl _), List.take_of_length_le (by omega)]) h hs ht (by simp only [PySem.sizeLine_eq, List.size_toArray]; omega)
end
end

local macro_rules | `(tactic| k_ne) => `(tactic| k_extra "M ne")
local macro_rules | `(tactic| walk_at $s:str) => `(tactic| k_extra $s)
local macro_rules | `(tactic| bits_by_make) => `(tactic| k_extra "M bits")
local macro_rules | `(tactic| k_unfold) => `(tactic| k_extra "M un")
local macro_rules | `(tactic| k_mem) => `(tactic| k_extra "M mem")
local macro_rules | `(tactic| walk_at "pyIter ref") => `(tactic| k_extra "M pyIter")
local macro_rules | `(tactic| walk_at "pyIter str") => `(tactic| k_extra "M pyIter")

section
theorem hush_C_leaf : True := by
  k_with_none
  w_top off
  trivial
theorem rules_C_leaf_0 : True := by
  k_with "M ne" => first | exact NeW.l (by with_reducible assumption) | exact NeW.r (by with_reducible assumption) | (refine neN ?_; (try dsimp only); omega)
  k_with "M bits" => first | with_reducible assumption | exact bits_pow2 (by omega)
  k_with "M mem" => first | exact List.Mem.head _ | exact mem1 | exact mem2 | exact mem3 | exact mem4 | exact mem5 | exact mem6 | exact mem7 | exact mem8 | exact mem9 | exact mem10 | exact mem11 | exact mem12 | exact mem13
  trivial

noncomputable abbrev tup2 (x y : Int) (t1 t2 : Tok) : Obj := { cls := .type "tuple", data := .seq #[.int x t1, .int y t2] }
/-- a made pair of ints -/
noncomputable def Pair (x y : Int) (r : Value) (h h' : Heap) : Prop := ∃ t1 t2 a, r = .ref a ∧ MadeAt h h' a (tup2 x y t1 t2)
theorem enterR_C_leaf_0 : True := by
  k_with_none
  k_with "M ne" => first | exact NeW.l (by with_reducible assumption) | exact NeW.r (by with_reducible assumption) | (refine neN ?_; (try dsimp only); omega)
  k_with "M bits" => first | with_reducible assumption | exact bits_pow2 (by omega)
  k_with "M mem" => first | exact List.Mem.head _ | exact mem1 | exact mem2 | exact mem3 | exact mem4 | exact mem5 | exact mem6 | exact mem7 | exact mem8 | exact mem9 | exact mem10 | exact mem11 | exact mem12 | exact mem13
  k_with "M nw" => (try simp only [AllNw, and_true]); (try dsimp only); (repeat' constructor) <;> first | with_reducible assumption | (refine NeW.of ?_; k_ne)
  k_with "M sub2" => repeat (first | exact List.forall_mem_nil _ | refine fcons ⟨_, by k_mem⟩ ?_)
  k_with "M off" => repeat (first | exact List.forall_mem_nil _ | refine fcons (nin1 (by (try dsimp only); k_ne)) ?_)
  k_with "M sub" => repeat (first | exact List.forall_mem_nil _ | (refine fcons ?k9w ?_; (case k9w => k_mem)))
  k_with "M same" => intro z h1 h2 h3; (try dsimp only); (repeat (first | refine same_if (by first | exact h1 | exact ne_ps h2 rfl | exact ne_st h3 rfl) ?_ | exact rfl | exact same_st h3 | exact same_kst h2 h3 | refine same_k (by repeat (first | exact List.forall_mem_nil _ | refine fcons (by first | exact h1 | exact ne_ps h2 rfl | exact ne_st h3 rfl) ?_)) ?_ | refine same_c (by repeat (first | exact nc_nil | refine nc_cons (by first | exact h1 | exact ne_ps h2 rfl | exact ne_st h3 rfl) ?_)) ?_))
  k_with "M ROOM" => first | omega | ktr_room | ((try dsimp only [Around.deeper, ktrTop]); omega)
  k_with "M UNITS" => first | omega | ((try dsimp only [Around.deeper, ktrTop]); omega) | ktr_units
  k_with "execs cons" => (try k_fold); with_reducible first | refine seqL ?_ | (refine seqV ?_; intro Q8 q8)
  k_with "M un" => with_reducible first | (refine seqVN (s := s1) (by assumption) ?_; intro tk8; try clear q8 Q8) | (refine seqVN (s := s) (by assumption) ?_; intro tk8; try clear q8 Q8) | refine seqVR (by assumption) ?_ | refine seqVM (by assumption) ?_ | refine seqVB (by assumption) ?_ | refine seqVC (by assumption) ?_
  k_with "eval Name" => k_here; k_dflt (refine' nameX_L ?k9F ?k9v ?_ ?k9a ?k9b; (case k9F => k_asm); (case k9a => exact Eq.refl _); (case k9b => exact Eq.refl (some NameKind.local)); (case k9v => exact Eq.refl (some _)); k_whole)
  k_with "M ENTER" => (
    unfold Ctr PR
    k_fill
    intro dp un gd cn cs aF ccd clF outer A₀ base h₀ L mF s Q E B F X T hke hOff hdp hun hPre hret
    first
    | (refine' enter B F X T hke hOff ?hz ?k6 ?k7 ?k8 ?k9 ?kB ?c5 ?c2 ?c3 ?c4 ?_
       (case k6 => exact (X.keeps F.keep) _ _ (by k_is))
       (case k7 => exact codeRec_of (X.keeps F.keep) (by k_is))
       (case hz => first | exact (fun _ h => absurd h List.not_mem_nil) | k_extra "M HZ")
       (case k8 => omega)
       (case k9 => first | exact BindsTo.of_eq rfl | exact binds_K (by k_in) rfl (by k_is) rfl rfl rfl | exact (fun M A E Q hq Γ p _ => wp_of_peek (X.keeps F.keep) hq _ (by rfl)) | fail "k_enter: no rule for these arguments")
       (case kB => exact locs rfl)
       (case c5 => decide)
       (case c2 => exact rfl)
       (case c3 => exact rfl)
       (case c4 => exact rfl)
       intro g h₁ F' hk1 hFr hKeep hg hOff' B' X' T' en7 Ar7 Qf7 Ef7
       have N' : News g s.heap.objs.size h₁ [] := News.nil
       have hNew := new_of hg
       try dsimp only
       clear B F X T hke hOff)
    | (refine' enterC B F X T hke hOff ?hz ?k6 ?k7 ?k8 ?k9 ?kB ?kD ?c2 ?c3 ?c4 ?_
       (case k6 => exact (X.keeps F.keep) _ _ (by k_is))
       (case k7 => exact codeRec_of (X.keeps F.keep) (by k_is))
       (case hz => first | exact (fun _ h => absurd h List.not_mem_nil) | k_extra "M HZ")
       (case k8 => omega)
       (case k9 => first | exact BindsTo.of_eq rfl | exact binds_K (by k_in) rfl (by k_is) rfl rfl rfl | exact (fun M A E Q hq Γ p _ => wp_of_peek (X.keeps F.keep) hq _ (by rfl)) | fail "k_enter: no rule for these arguments")
       (case kB => exact rfl)
       (case kD => decide +kernel)
       (case c2 => exact rfl)
       (case c3 => exact rfl)
       (case c4 => exact rfl)
       intro g h₁ tk' cells' F' N' Y' hk1 hFr hKeep hg hOff' B' X' T' en7 Ar7 Qf7 Ef7
       first
       | (obtain ⟨oc1, hE', dc1⟩ := CellsAre.one Y'; subst hE')
       | (obtain ⟨oc1, oc2, hE', dc1, dc2⟩ := CellsAre.two Y'; subst hE')
       | (obtain ⟨oc1, oc2, oc3, hE', dc1, dc2, dc3⟩ := CellsAre.three Y'; subst hE')
       | (obtain ⟨oc1, oc2, oc3, oc4, hE', dc1, dc2, dc3, dc4⟩ := CellsAre.four Y'; subst hE')
       clear Y'
       (try simp only [List.cons_append, List.nil_append] at N')
       have hNew := new_of hg
       try dsimp only
       clear B F X T hke hOff)
    )
  trivial
set_option maxHeartbeats 8000000 in
theorem ctr_leaf {w : World} {p : Program} {loose : List Str} {mean : ExcName → Option Value} {mg mb : Str → Option Value} (x y n : Int) (tx ty tn : Tok) (hy : y ≠ 0) (hy2 : Builtin.Int.intBits y ≤ 9000) :
    Ctr w (hd.heap_1 w.params) p loose mean mg mb 28 1 [] [.int x tx, .int y ty, .int n tn]
      (fun _ => (Builtin.Int.intBits x : Int) - n ≤ 4000)
      (Pair (Int.fdiv x y) (Int.fmod x y)) := by
  k_extra "M ENTER"
  clear hg
  k_steps
  all_goals (try dsimp only)
  refine divmod_N F' N' hy (fun h2 F2 N2 => ?_) (Or.inl (PyProof.noPylong_of_log2 ?_))
  · (repeat k_extra "M un")
    exact done_of (hret _ _ _ (hFr _ (hKeep _ _ _ F2)) (hKeep _ _ _ F2) ⟨_, _, _, rfl, .of hNew N2 (.head _) List.not_mem_nil⟩)
  · unfold Builtin.Int.intBits at hy2
    rw [if_neg (by simpa using hy)] at hy2
    omega
end

section
theorem hush_C_bis : True := by
  k_with_none
  w_top off
  trivial
theorem rules_C_bis_0 : True := by
  k_with "M ne" => first | exact NeW.l (by with_reducible assumption) | exact NeW.r (by with_reducible assumption) | (refine neN ?_; (try dsimp only); omega)
  k_with "M bits" => first | with_reducible assumption | exact bits_pow2 (by omega)
  k_with "M mem" => first | exact List.Mem.head _ | exact mem1 | exact mem2 | exact mem3 | exact mem4 | exact mem5 | exact mem6 | exact mem7 | exact mem8 | exact mem9 | exact mem10 | exact mem11 | exact mem12 | exact mem13
  trivial

/-- strictly rising -/
noncomputable def Rising (ns : List Int) : Prop := ∀ i j : Nat, i < j → j < ns.length → ns.getD i 0 < ns.getD j 0
/-- all before lo are below x, all from hi on are not -/
noncomputable def BI (ns : List Int) (x : Int) (lo hi : Int) : Prop := (∀ j : Nat, (j : Int) < lo → ns.getD j 0 < x) ∧ (∀ j : Nat, hi ≤ (j : Int) → j < ns.length → x ≤ ns.getD j 0)
/-- all before lo are not above x, all from hi on are above -/
noncomputable def BR (ns : List Int) (x : Int) (lo hi : Int) : Prop := (∀ j : Nat, (j : Int) < lo → ns.getD j 0 ≤ x) ∧ (∀ j : Nat, hi ≤ (j : Int) → j < ns.length → x < ns.getD j 0)

theorem mid_facts {lo hi : Int} (h : lo < hi) : lo ≤ Int.fdiv (lo + hi) 2 ∧ Int.fdiv (lo + hi) 2 < hi := by
  rw [Int.fdiv_eq_ediv_of_nonneg _ (by decide)]
  omega
theorem bm_lo {lo hi : Int} (h : lo < hi) : (hi - (Int.fdiv (lo + hi) 2 + 1)).toNat < (hi - lo).toNat := by have := mid_facts h; omega
theorem bm_hi {lo hi : Int} (h : lo < hi) : (Int.fdiv (lo + hi) 2 - lo).toNat < (hi - lo).toNat := by have := mid_facts h; omega
theorem rising_le {ns : List Int} (hr : Rising ns) {i j : Nat} (h : i ≤ j) (hj : j < ns.length) : ns.getD i 0 ≤ ns.getD j 0 := by
  rcases Nat.lt_or_eq_of_le h with h | h
  · exact Int.le_of_lt (hr i j h hj)
  · rw [h]; exact Int.le_refl _
theorem bl_lo {ns : List Int} {x lo hi : Int} (hr : Rising ns) (h0 : 0 ≤ lo) (h2 : hi ≤ (ns.length : Int)) (hb : BI ns x lo hi) (hlt : lo < hi) (hm : ns.getD (Int.toNat (Int.fdiv (lo + hi) 2)) 0 < x) :
    0 ≤ Int.fdiv (lo + hi) 2 + 1 ∧ Int.fdiv (lo + hi) 2 + 1 ≤ hi ∧ hi ≤ (ns.length : Int) ∧ BI ns x (Int.fdiv (lo + hi) 2 + 1) hi := by
  have hf := mid_facts hlt
  generalize Int.fdiv (lo + hi) 2 = mid at *
  refine ⟨by omega, by omega, h2, fun j hj => ?_, hb.2⟩
  exact Int.lt_of_le_of_lt (rising_le hr (j := mid.toNat) (by omega) (by omega)) hm
theorem bl_hi {ns : List Int} {x lo hi : Int} (hr : Rising ns) (h0 : 0 ≤ lo) (h2 : hi ≤ (ns.length : Int)) (hb : BI ns x lo hi) (hlt : lo < hi) (hm : ¬ ns.getD (Int.toNat (Int.fdiv (lo + hi) 2)) 0 < x) :
    0 ≤ lo ∧ lo ≤ Int.fdiv (lo + hi) 2 ∧ Int.fdiv (lo + hi) 2 ≤ (ns.length : Int) ∧ BI ns x lo (Int.fdiv (lo + hi) 2) := by
  have hf := mid_facts hlt
  generalize Int.fdiv (lo + hi) 2 = mid at *
  refine ⟨h0, hf.1, by omega, hb.1, fun j hj hj2 => ?_⟩
  exact Int.le_trans (Int.not_lt.mp hm) (rising_le hr (i := mid.toNat) (by omega) hj2)
theorem bl_end {ns : List Int} {x lo hi : Int} {t : Tok} (h0 : 0 ≤ lo) (h1 : lo ≤ hi) (h2 : hi ≤ (ns.length : Int)) (hB : BI ns x lo hi) (hn : ¬ lo < hi) : ∃ (k : Int) (t' : Tok), Value.int lo t = .int k t' ∧ 0 ≤ k ∧ k ≤ ns.length ∧ BI ns x k k := by
  have e : hi = lo := by omega
  subst e
  exact ⟨_, _, rfl, h0, h2, hB⟩
theorem br_end {ns : List Int} {x lo hi : Int} {t : Tok} (h0 : 0 ≤ lo) (h1 : lo ≤ hi) (h2 : hi ≤ (ns.length : Int)) (hB : BR ns x lo hi) (hn : ¬ lo < hi) : ∃ (k : Int) (t' : Tok), Value.int lo t = .int k t' ∧ 0 ≤ k ∧ k ≤ ns.length ∧ BR ns x k k := by
  have e : hi = lo := by omega
  subst e
  exact ⟨_, _, rfl, h0, h2, hB⟩
theorem br_hi {ns : List Int} {x lo hi : Int} (hr : Rising ns) (h0 : 0 ≤ lo) (h2 : hi ≤ (ns.length : Int)) (hb : BR ns x lo hi) (hlt : lo < hi) (hm : x < ns.getD (Int.toNat (Int.fdiv (lo + hi) 2)) 0) :
    0 ≤ lo ∧ lo ≤ Int.fdiv (lo + hi) 2 ∧ Int.fdiv (lo + hi) 2 ≤ (ns.length : Int) ∧ BR ns x lo (Int.fdiv (lo + hi) 2) := by
  have hf := mid_facts hlt
  generalize Int.fdiv (lo + hi) 2 = mid at *
  refine ⟨h0, hf.1, by omega, hb.1, fun j hj hj2 => ?_⟩
  exact Int.lt_of_lt_of_le hm (rising_le hr (i := mid.toNat) (by omega) hj2)
theorem br_lo {ns : List Int} {x lo hi : Int} (hr : Rising ns) (h0 : 0 ≤ lo) (h2 : hi ≤ (ns.length : Int)) (hb : BR ns x lo hi) (hlt : lo < hi) (hm : ¬ x < ns.getD (Int.toNat (Int.fdiv (lo + hi) 2)) 0) :
    0 ≤ Int.fdiv (lo + hi) 2 + 1 ∧ Int.fdiv (lo + hi) 2 + 1 ≤ hi ∧ hi ≤ (ns.length : Int) ∧ BR ns x (Int.fdiv (lo + hi) 2 + 1) hi := by
  have hf := mid_facts hlt
  generalize Int.fdiv (lo + hi) 2 = mid at *
  refine ⟨by omega, by omega, h2, fun j hj => ?_, hb.2⟩
  exact Int.le_trans (rising_le hr (j := mid.toNat) (by omega) (by omega)) (Int.not_lt.mp hm)

theorem enterR_C_bis_0 : True := by
  k_with_none
  k_with "M ne" => first | exact NeW.l (by with_reducible assumption) | exact NeW.r (by with_reducible assumption) | (refine neN ?_; (try dsimp only); omega)
  k_with "M bits" => first | with_reducible assumption | exact bits_pow2 (by omega)
  k_with "M mem" => first | exact List.Mem.head _ | exact mem1 | exact mem2 | exact mem3 | exact mem4 | exact mem5 | exact mem6 | exact mem7 | exact mem8 | exact mem9 | exact mem10 | exact mem11 | exact mem12 | exact mem13
  k_with "M nw" => (try simp only [AllNw, and_true]); (try dsimp only); (repeat' constructor) <;> first | with_reducible assumption | (refine NeW.of ?_; k_ne)
  k_with "M sub2" => repeat (first | exact List.forall_mem_nil _ | refine fcons ⟨_, by k_mem⟩ ?_)
  k_with "M off" => repeat (first | exact List.forall_mem_nil _ | refine fcons (nin1 (by (try dsimp only); k_ne)) ?_)
  k_with "M sub" => repeat (first | exact List.forall_mem_nil _ | (refine fcons ?k9w ?_; (case k9w => k_mem)))
  k_with "M same" => intro z h1 h2 h3; (try dsimp only); (repeat (first | refine same_if (by first | exact h1 | exact ne_ps h2 rfl | exact ne_st h3 rfl) ?_ | exact rfl | exact same_st h3 | exact same_kst h2 h3 | refine same_k (by repeat (first | exact List.forall_mem_nil _ | refine fcons (by first | exact h1 | exact ne_ps h2 rfl | exact ne_st h3 rfl) ?_)) ?_ | refine same_c (by repeat (first | exact nc_nil | refine nc_cons (by first | exact h1 | exact ne_ps h2 rfl | exact ne_st h3 rfl) ?_)) ?_))
  k_with "M ROOM" => first | omega | ktr_room | ((try dsimp only [Around.deeper, ktrTop]); omega)
  k_with "M UNITS" => first | omega | ((try dsimp only [Around.deeper, ktrTop]); omega) | ktr_units
  k_with "execs cons" => (try k_fold); with_reducible first | refine seqL ?_ | (refine seqV ?_; intro Q8 q8)
  k_with "M un" => with_reducible first | (refine seqVN (s := s1) (by assumption) ?_; intro tk8; try clear q8 Q8) | (refine seqVN (s := s) (by assumption) ?_; intro tk8; try clear q8 Q8) | refine seqVR (by assumption) ?_ | refine seqVM (by assumption) ?_ | refine seqVB (by assumption) ?_ | refine seqVC (by assumption) ?_
  k_with "eval Name" => k_here; k_dflt (refine' nameX_L ?k9F ?k9v ?_ ?k9a ?k9b; (case k9F => k_asm); (case k9a => exact Eq.refl _); (case k9b => exact Eq.refl (some NameKind.local)); (case k9v => exact Eq.refl (some _)); k_whole)
  k_with "M ENTER" => (
    unfold Ctr PR
    k_fill
    intro dp un gd cn cs aF ccd clF outer A₀ base h₀ L mF s Q E B F X T hke hOff hdp hun hPre hret
    first
    | (refine' enter B F X T hke hOff ?hz ?k6 ?k7 ?k8 ?k9 ?kB ?c5 ?c2 ?c3 ?c4 ?_
       (case k6 => exact (X.keeps F.keep) _ _ (by k_is))
       (case k7 => exact codeRec_of (X.keeps F.keep) (by k_is))
       (case hz => first | exact (fun _ h => absurd h List.not_mem_nil) | k_extra "M HZ")
       (case k8 => omega)
       (case k9 => first | exact BindsTo.of_eq rfl | exact binds_K (by k_in) rfl (by k_is) rfl rfl rfl | exact (fun M A E Q hq Γ p _ => wp_of_peek (X.keeps F.keep) hq _ (by rfl)) | fail "k_enter: no rule for these arguments")
       (case kB => exact locs rfl)
       (case c5 => decide)
       (case c2 => exact rfl)
       (case c3 => exact rfl)
       (case c4 => exact rfl)
       intro g h₁ F' hk1 hFr hKeep hg hOff' B' X' T' en7 Ar7 Qf7 Ef7
       have N' : News g s.heap.objs.size h₁ [] := News.nil
       have hNew := new_of hg
       try dsimp only
       clear B F X T hke hOff)
    | (refine' enterC B F X T hke hOff ?hz ?k6 ?k7 ?k8 ?k9 ?kB ?kD ?c2 ?c3 ?c4 ?_
       (case k6 => exact (X.keeps F.keep) _ _ (by k_is))
       (case k7 => exact codeRec_of (X.keeps F.keep) (by k_is))
       (case hz => first | exact (fun _ h => absurd h List.not_mem_nil) | k_extra "M HZ")
       (case k8 => omega)
       (case k9 => first | exact BindsTo.of_eq rfl | exact binds_K (by k_in) rfl (by k_is) rfl rfl rfl | exact (fun M A E Q hq Γ p _ => wp_of_peek (X.keeps F.keep) hq _ (by rfl)) | fail "k_enter: no rule for these arguments")
       (case kB => exact rfl)
       (case kD => decide +kernel)
       (case c2 => exact rfl)
       (case c3 => exact rfl)
       (case c4 => exact rfl)
       intro g h₁ tk' cells' F' N' Y' hk1 hFr hKeep hg hOff' B' X' T' en7 Ar7 Qf7 Ef7
       first
       | (obtain ⟨oc1, hE', dc1⟩ := CellsAre.one Y'; subst hE')
       | (obtain ⟨oc1, oc2, hE', dc1, dc2⟩ := CellsAre.two Y'; subst hE')
       | (obtain ⟨oc1, oc2, oc3, hE', dc1, dc2, dc3⟩ := CellsAre.three Y'; subst hE')
       | (obtain ⟨oc1, oc2, oc3, oc4, hE', dc1, dc2, dc3, dc4⟩ := CellsAre.four Y'; subst hE')
       clear Y'
       (try simp only [List.cons_append, List.nil_append] at N')
       have hNew := new_of hg
       try dsimp only
       clear B F X T hke hOff)
    )
  trivial
set_option maxHeartbeats 8000000 in
theorem ctr_bl {w : World} {p : Program} {loose : List Str} {mean : ExcName → Option Value} {mg mb : Str → Option Value} (l : Addr) (vs : List Value) (ns : List Int) (x : Int) (tx : Tok) (hlen : ns.length ≤ 100) (hr : Rising ns) :
    Ctr w (hd.heap_1 w.params) p loose mean mg mb 90 10 [] [.ref l, .int x tx]
      (fun h => h.IsList l vs.toArray ∧ IntsAre vs ns)
      (fun r h h' => ∃ (k : Int) (t : Tok), r = .int k t ∧ 0 ≤ k ∧ k ≤ ns.length ∧ BI ns x k k) := by
  have hs0 : (0 : Int) ≤ 0 ∧ (0 : Int) ≤ (ns.length : Int) ∧ (ns.length : Int) ≤ (ns.length : Int) ∧ BI ns x 0 (ns.length : Int) := ⟨by omega, by omega, by omega, fun j hj => by omega, fun j h1 h2 => by omega⟩
  k_extra "M ENTER"
  obtain ⟨hl1, hi1⟩ := hPre
  have hl1' := hl1.at fun o e => hg _ o e List.not_mem_nil
  clear hg hl1
  k_with "exec While Compare cons nil" => (refine hold ?_)
  k_with "exec While BoolOp cons nil" => (refine hold ?_)
  k_steps
  all_goals (try dsimp only)
  refine unhold ?_
  k_with "state" => first | exact hs0 | exact bl_lo hr (by assumption) (by assumption) (by assumption) (by assumption) (by assumption) | exact bl_hi hr (by assumption) (by assumption) (by assumption) (by assumption) (by assumption)
  k_with "measure" => first | exact bm_lo (by assumption) | exact bm_hi (by assumption)
  k_while (fun _ lo hi => 0 ≤ lo ∧ lo ≤ hi ∧ hi ≤ (ns.length : Int) ∧ BI ns x lo hi) (fun _ lo hi => (hi - lo).toNat) "lo" "hi"
  k_steps
  all_goals (try dsimp only)
  (repeat k_extra "M un")
  refine done_of (hret _ _ _ (hFr _ (hKeep _ _ _ (by assumption))) (hKeep _ _ _ (by assumption)) (bl_end (by assumption) (by assumption) (by assumption) (by assumption) (by assumption)))

theorem enterR_C_bis_1 : True := by
  k_with_none
  k_with "M ne" => first | exact NeW.l (by with_reducible assumption) | exact NeW.r (by with_reducible assumption) | (refine neN ?_; (try dsimp only); omega)
  k_with "M bits" => first | with_reducible assumption | exact bits_pow2 (by omega)
  k_with "M mem" => first | exact List.Mem.head _ | exact mem1 | exact mem2 | exact mem3 | exact mem4 | exact mem5 | exact mem6 | exact mem7 | exact mem8 | exact mem9 | exact mem10 | exact mem11 | exact mem12 | exact mem13
  k_with "M nw" => (try simp only [AllNw, and_true]); (try dsimp only); (repeat' constructor) <;> first | with_reducible assumption | (refine NeW.of ?_; k_ne)
  k_with "M sub2" => repeat (first | exact List.forall_mem_nil _ | refine fcons ⟨_, by k_mem⟩ ?_)
  k_with "M off" => repeat (first | exact List.forall_mem_nil _ | refine fcons (nin1 (by (try dsimp only); k_ne)) ?_)
  k_with "M sub" => repeat (first | exact List.forall_mem_nil _ | (refine fcons ?k9w ?_; (case k9w => k_mem)))
  k_with "M same" => intro z h1 h2 h3; (try dsimp only); (repeat (first | refine same_if (by first | exact h1 | exact ne_ps h2 rfl | exact ne_st h3 rfl) ?_ | exact rfl | exact same_st h3 | exact same_kst h2 h3 | refine same_k (by repeat (first | exact List.forall_mem_nil _ | refine fcons (by first | exact h1 | exact ne_ps h2 rfl | exact ne_st h3 rfl) ?_)) ?_ | refine same_c (by repeat (first | exact nc_nil | refine nc_cons (by first | exact h1 | exact ne_ps h2 rfl | exact ne_st h3 rfl) ?_)) ?_))
  k_with "M ROOM" => first | omega | ktr_room | ((try dsimp only [Around.deeper, ktrTop]); omega)
  k_with "M UNITS" => first | omega | ((try dsimp only [Around.deeper, ktrTop]); omega) | ktr_units
  k_with "execs cons" => (try k_fold); with_reducible first | refine seqL ?_ | (refine seqV ?_; intro Q8 q8)
  k_with "M un" => with_reducible first | (refine seqVN (s := s1) (by assumption) ?_; intro tk8; try clear q8 Q8) | (refine seqVN (s := s) (by assumption) ?_; intro tk8; try clear q8 Q8) | refine seqVR (by assumption) ?_ | refine seqVM (by assumption) ?_ | refine seqVB (by assumption) ?_ | refine seqVC (by assumption) ?_
  k_with "eval Name" => k_here; k_dflt (refine' nameX_L ?k9F ?k9v ?_ ?k9a ?k9b; (case k9F => k_asm); (case k9a => exact Eq.refl _); (case k9b => exact Eq.refl (some NameKind.local)); (case k9v => exact Eq.refl (some _)); k_whole)
  k_with "M ENTER" => (
    unfold Ctr PR
    k_fill
    intro dp un gd cn cs aF ccd clF outer A₀ base h₀ L mF s Q E B F X T hke hOff hdp hun hPre hret
    first
    | (refine' enter B F X T hke hOff ?hz ?k6 ?k7 ?k8 ?k9 ?kB ?c5 ?c2 ?c3 ?c4 ?_
       (case k6 => exact (X.keeps F.keep) _ _ (by k_is))
       (case k7 => exact codeRec_of (X.keeps F.keep) (by k_is))
       (case hz => first | exact (fun _ h => absurd h List.not_mem_nil) | k_extra "M HZ")
       (case k8 => omega)
       (case k9 => first | exact BindsTo.of_eq rfl | exact binds_K (by k_in) rfl (by k_is) rfl rfl rfl | exact (fun M A E Q hq Γ p _ => wp_of_peek (X.keeps F.keep) hq _ (by rfl)) | fail "k_enter: no rule for these arguments")
       (case kB => exact locs rfl)
       (case c5 => decide)
       (case c2 => exact rfl)
       (case c3 => exact rfl)
       (case c4 => exact rfl)
       intro g h₁ F' hk1 hFr hKeep hg hOff' B' X' T' en7 Ar7 Qf7 Ef7
       have N' : News g s.heap.objs.size h₁ [] := News.nil
       have hNew := new_of hg
       try dsimp only
       clear B F X T hke hOff)
    | (refine' enterC B F X T hke hOff ?hz ?k6 ?k7 ?k8 ?k9 ?kB ?kD ?c2 ?c3 ?c4 ?_
       (case k6 => exact (X.keeps F.keep) _ _ (by k_is))
       (case k7 => exact codeRec_of (X.keeps F.keep) (by k_is))
       (case hz => first | exact (fun _ h => absurd h List.not_mem_nil) | k_extra "M HZ")
       (case k8 => omega)
       (case k9 => first | exact BindsTo.of_eq rfl | exact binds_K (by k_in) rfl (by k_is) rfl rfl rfl | exact (fun M A E Q hq Γ p _ => wp_of_peek (X.keeps F.keep) hq _ (by rfl)) | fail "k_enter: no rule for these arguments")
       (case kB => exact rfl)
       (case kD => decide +kernel)
       (case c2 => exact rfl)
       (case c3 => exact rfl)
       (case c4 => exact rfl)
       intro g h₁ tk' cells' F' N' Y' hk1 hFr hKeep hg hOff' B' X' T' en7 Ar7 Qf7 Ef7
       first
       | (obtain ⟨oc1, hE', dc1⟩ := CellsAre.one Y'; subst hE')
       | (obtain ⟨oc1, oc2, hE', dc1, dc2⟩ := CellsAre.two Y'; subst hE')
       | (obtain ⟨oc1, oc2, oc3, hE', dc1, dc2, dc3⟩ := CellsAre.three Y'; subst hE')
       | (obtain ⟨oc1, oc2, oc3, oc4, hE', dc1, dc2, dc3, dc4⟩ := CellsAre.four Y'; subst hE')
       clear Y'
       (try simp only [List.cons_append, List.nil_append] at N')
       have hNew := new_of hg
       try dsimp only
       clear B F X T hke hOff)
    )
  trivial
set_option maxHeartbeats 8000000 in
theorem ctr_br {w : World} {p : Program} {loose : List Str} {mean : ExcName → Option Value} {mg mb : Str → Option Value} (l : Addr) (vs : List Value) (ns : List Int) (x : Int) (tx : Tok) (u1 : Tok) (hlen : ns.length ≤ 100) (hr : Rising ns) :
    Ctr w (hd.heap_1 w.params) p loose mean mg mb 81 10 [] [.ref l, .int x tx, .int 0 u1, .none]
      (fun h => h.IsList l vs.toArray ∧ IntsAre vs ns)
      (fun r h h' => ∃ (k : Int) (t : Tok), r = .int k t ∧ 0 ≤ k ∧ k ≤ ns.length ∧ BR ns x k k) := by
  have hs0 : (0 : Int) ≤ 0 ∧ (0 : Int) ≤ (ns.length : Int) ∧ (ns.length : Int) ≤ (ns.length : Int) ∧ BR ns x 0 (ns.length : Int) := ⟨by omega, by omega, by omega, fun j hj => by omega, fun j h1 h2 => by omega⟩
  k_extra "M ENTER"
  obtain ⟨hl1, hi1⟩ := hPre
  have hl1' := hl1.at fun o e => hg _ o e List.not_mem_nil
  clear hg hl1
  k_with "exec While Compare cons nil" => (refine hold ?_)
  k_with "exec While BoolOp cons nil" => (refine hold ?_)
  k_steps
  all_goals (try dsimp only)
  refine unhold ?_
  k_with "state" => first | exact hs0 | exact br_lo hr (by assumption) (by assumption) (by assumption) (by assumption) (by assumption) | exact br_hi hr (by assumption) (by assumption) (by assumption) (by assumption) (by assumption)
  k_with "measure" => first | exact bm_lo (by assumption) | exact bm_hi (by assumption)
  k_while (fun _ lo hi => 0 ≤ lo ∧ lo ≤ hi ∧ hi ≤ (ns.length : Int) ∧ BR ns x lo hi) (fun _ lo hi => (hi - lo).toNat) "lo" "hi"
  k_steps
  all_goals (try dsimp only)
  (repeat k_extra "M un")
  refine done_of (hret _ _ _ (hFr _ (hKeep _ _ _ (by assumption))) (hKeep _ _ _ (by assumption)) (br_end (by assumption) (by assumption) (by assumption) (by assumption) (by assumption)))
end

section
theorem hush_M5 : True := by
  k_with_none
  w_top off
  trivial
theorem pow2_mono {i j : Nat} (h : i ≤ j) : (2 : Int) ^ i ≤ 2 ^ j := by
  rw [← cast_pow2, ← cast_pow2]
  exact Int.ofNat_le.mpr (Nat.pow_le_pow_right (by decide) h)
/-- how many are below x -/
noncomputable def pos (ns : List Int) (x : Int) : Nat := ns.countP (· < x)
noncomputable def insU (ns : List Int) (x : Int) : List Int := if x ∈ ns then ns else ns.take (pos ns x) ++ x :: ns.drop (pos ns x)
noncomputable def newOf (q : Int) (w : List Int) (number t : Int) : Int := d2i 2 ((List.range w.length).map fun i => Int.fmod (number / 2 ^ (2 * i) % 2 ^ 2 + t * w.getD i 0) q)
noncomputable def loopT (q : Int) (w : List Int) (number : Int) (ns : List Int) (k : Nat) : List Int := (List.range k).foldl (fun c (t : Nat) => insU c (newOf q w number (1 + (t : Int)))) ns
noncomputable def loopN (q : Int) (w : List Int) (nums ns : List Int) : List Int := nums.foldl (fun c number => loopT q w number c (q.toNat - 1)) ns
noncomputable def codeL (q : Int) (w0 w1 : List Int) : List Int := let c := loopN q w0 [0] [0]; loopN q w1 c c
theorem pos_of {ns : List Int} {x : Int} {k : Nat} (hk : k ≤ ns.length) (h : BI ns x k k) : pos ns x = k := by
  unfold pos
  have e : ns.countP (· < x) = (ns.take k).countP (· < x) + (ns.drop k).countP (· < x) := by
    rw [← List.countP_append, List.take_append_drop]
  have e1 : (ns.take k).countP (· < x) = (ns.take k).length := by
    rw [List.countP_eq_length]
    intro a ha
    obtain ⟨j, hj, rfl⟩ := List.getElem_of_mem ha
    rw [List.length_take] at hj
    have := h.1 j (by omega)
    rw [List.getElem_take]
    rw [List.getD_eq_getElem?_getD, List.getElem?_eq_getElem (by omega)] at this
    simpa using this
  have e2 : (ns.drop k).countP (· < x) = 0 := by
    rw [List.countP_eq_zero]
    intro a ha
    obtain ⟨j, hj, rfl⟩ := List.getElem_of_mem ha
    rw [List.length_drop] at hj
    have := h.2 (k + j) (by omega) (by omega)
    rw [List.getElem_drop]
    rw [List.getD_eq_getElem?_getD, List.getElem?_eq_getElem (by omega)] at this
    simpa using this
  rw [e, e1, e2, List.length_take]
  omega
theorem mem_getD {ns : List Int} {x : Int} : x ∈ ns ↔ ∃ j, j < ns.length ∧ ns.getD j 0 = x := by
  constructor
  · intro h
    obtain ⟨j, hj, rfl⟩ := List.getElem_of_mem h
    exact ⟨j, hj, by rw [List.getD_eq_getElem?_getD, List.getElem?_eq_getElem hj]; rfl⟩
  · rintro ⟨j, hj, rfl⟩
    rw [List.getD_eq_getElem?_getD, List.getElem?_eq_getElem hj]
    exact List.getElem_mem hj
/-- what the place says -/
theorem at_place {ns : List Int} {x : Int} {k : Nat} (hr : Rising ns) (h : BI ns x k k) : x ∈ ns ↔ k < ns.length ∧ ns.getD k 0 = x := by
  rw [mem_getD]
  constructor
  · rintro ⟨j, hj, e⟩
    have hkj : k ≤ j := by
      rcases Nat.lt_or_ge j k with h1 | h1
      · have := h.1 j (by omega); omega
      · exact h1
    have h2 := h.2 k (Int.le_refl _) (by omega)
    rcases Nat.lt_or_eq_of_le hkj with h3 | h3
    · have := hr k j h3 hj; omega
    · subst h3; exact ⟨hj, e⟩
  · rintro ⟨h1, h2⟩
    exact ⟨k, h1, h2⟩
theorem bi_of_br {ns : List Int} {x : Int} {k : Nat} (hx : x ∉ ns) (hk : k ≤ ns.length) (h : BR ns x k k) : BI ns x k k := by
  refine ⟨fun j hj => ?_, fun j h1 h2 => Int.le_of_lt (h.2 j h1 h2)⟩
  have h1 := h.1 j hj
  have h2 : ns.getD j 0 ≠ x := fun e => hx (mem_getD.mpr ⟨j, by omega, e⟩)
  omega
theorem rising_ins {ns : List Int} {x : Int} {k : Nat} (hr : Rising ns) (hx : x ∉ ns) (hk : k ≤ ns.length) (h : BI ns x k k) : Rising (ns.take k ++ x :: ns.drop k) := by
  have hb : ∀ j : Nat, (ns.take k ++ x :: ns.drop k).getD j 0 = if j < k then ns.getD j 0 else if j = k then x else ns.getD (j - 1) 0 := by
    intro j
    simp only [List.getD_eq_getElem?_getD]
    by_cases h1 : j < k
    · rw [if_pos h1, List.getElem?_append_left (by rw [List.length_take]; omega), List.getElem?_take_of_lt h1]
    · rw [if_neg h1, List.getElem?_append_right (by rw [List.length_take]; omega), List.length_take, Nat.min_eq_left hk]
      by_cases h2 : j = k
      · rw [if_pos h2, h2, Nat.sub_self]; rfl
      · rw [if_neg h2, show j - k = (j - k - 1) + 1 by omega, List.getElem?_cons_succ, List.getElem?_drop, show k + (j - k - 1) = j - 1 by omega]
  intro i j hij hj
  have hl : (ns.take k ++ x :: ns.drop k).length = ns.length + 1 := by simp; omega
  rw [hl] at hj
  rw [hb, hb]
  have hne : ∀ m : Nat, m < ns.length → ns.getD m 0 ≠ x := fun m hm e => hx (mem_getD.mpr ⟨m, hm, e⟩)
  have hlo := h.1
  have hhi := h.2
  by_cases c1 : j < k
  · rw [if_pos c1, if_pos (by omega)]; exact hr i j hij (by omega)
  · rw [if_neg c1]
    by_cases c2 : j = k
    · rw [if_pos c2, if_pos (by omega)]; exact hlo i (by omega)
    · rw [if_neg c2]
      by_cases c3 : i < k
      · rw [if_pos c3]; exact hr i (j - 1) (by omega) (by omega)
      · rw [if_neg c3]
        by_cases c4 : i = k
        · rw [if_pos c4]
          have := hhi (j - 1) (by omega) (by omega)
          have := hne (j - 1) (by omega)
          omega
        · rw [if_neg c4]; exact hr (i - 1) (j - 1) (by omega) (by omega)
theorem ins_mem {ns : List Int} {x y : Int} {k : Nat} (h : y ∈ ns.take k ++ x :: ns.drop k) : y = x ∨ y ∈ ns := by
  rcases List.mem_append.mp h with h | h
  · exact .inr (List.mem_of_mem_take h)
  · rcases List.mem_cons.mp h with h | h
    · exact .inl h
    · exact .inr (List.mem_of_mem_drop h)
/-- a code as the loops keep it -/
noncomputable def Keep (m : Nat) (ns : List Int) : Prop := Rising ns ∧ (∀ x ∈ ns, 0 ≤ x ∧ x < 256) ∧ ns.length ≤ m
theorem Keep.same {m : Nat} {ns : List Int} {x : Int} (h : Keep m ns) (hx : x ∈ ns) : insU ns x = ns ∧ Keep (m + 1) ns := ⟨if_pos hx, h.1, h.2.1, by have := h.2.2; omega⟩
theorem Keep.ins {m : Nat} {ns : List Int} {x : Int} {k : Nat} (h : Keep m ns) (hx : x ∉ ns) (h0 : 0 ≤ x ∧ x < 256) (hk : k ≤ ns.length) (hB : BR ns x k k) : insU ns x = ns.take k ++ x :: ns.drop k ∧ Keep (m + 1) (ns.take k ++ x :: ns.drop k) := by
  have hb := bi_of_br hx hk hB
  refine ⟨by unfold insU; rw [if_neg hx, pos_of hk hb], rising_ins h.1 hx hk hb, fun y hy => ?_, ?_⟩
  · rcases ins_mem hy with rfl | hy
    · exact h0
    · exact h.2.1 y hy
  · have := h.2.2; simp; omega
theorem loopT_succ (q : Int) (w : List Int) (number : Int) (ns : List Int) (k : Nat) : loopT q w number ns (k + 1) = insU (loopT q w number ns k) (newOf q w number (1 + (k : Int))) := by
  unfold loopT
  rw [List.range_succ, List.foldl_append]
  rfl
theorem loopN_succ (q : Int) (w : List Int) (nums ns : List Int) (i : Nat) (x : Int) (h : nums[i]? = some x) : loopN q w (nums.take (i + 1)) ns = loopT q w x (loopN q w (nums.take i) ns) (q.toNat - 1) := by
  unfold loopN
  rw [List.take_add_one, h, List.foldl_append]
  rfl
theorem newOf_bnd {q : Int} {w : List Int} {number t : Int} (hq : 2 ≤ q ∧ q ≤ 3) (hw : w.length ≤ 4) : 0 ≤ newOf q w number t ∧ newOf q w number t < 256 := by
  have hb : ∀ x ∈ ((List.range w.length).map fun i => Int.fmod (number / 2 ^ (2 * i) % 2 ^ 2 + t * w.getD i 0) q), 0 ≤ x ∧ x < 2 ^ 2 := by
    intro x hx
    obtain ⟨i, _, rfl⟩ := List.mem_map.mp hx
    have := (fdiv_fmod_facts (number / 2 ^ (2 * i) % 2 ^ 2 + t * w.getD i 0) q).2.2.1 (by omega)
    have e : (2 : Int) ^ 2 = 4 := rfl
    omega
  have := d2i_bound 2 _ hb
  refine ⟨this.1, Int.lt_of_lt_of_le this.2 ?_⟩
  rw [List.length_map, List.length_range]
  have h2 : (2 : Int) ^ (2 * w.length) ≤ 2 ^ 8 := pow2_mono (by omega)
  exact h2
/-- the digits of a number, filled up by naughts -/
theorem old_get {n k : Nat} {a : Int} (h0 : 0 ≤ a) (h : a < 2 ^ (n * k)) {i : Nat} (hi : i < 4) : (i2d n k a ++ [0, 0, 0, 0])[i]? = some (a / 2 ^ (n * i) % 2 ^ n) := by
  by_cases hk : i < k
  · rw [List.getElem?_append_left (by rw [i2d_length]; exact hk), i2d_get n k a i hk]
  · rw [List.getElem?_append_right (by rw [i2d_length]; omega), i2d_length]
    have e : a / 2 ^ (n * i) = 0 := Int.ediv_eq_zero_of_lt h0 (Int.lt_of_lt_of_le h (pow2_mono (Nat.mul_le_mul_left _ (by omega))))
    rw [e]
    have : ∀ j : Nat, j < 4 → ([0, 0, 0, 0] : List Int)[j]? = some 0 := by decide
    rw [this _ (by omega)]
    simp
end

section
theorem hush_M6 : True := by
  k_with_none
  w_top off
  trivial
section
variable {prog : Program} {w : World} {A : Around} {E : Value → Shared → Prop} {s : Shared} {env : Env} {h₀ : Heap} {x : Str} {px : Pos} {body : List Stmt} {Q : Flow → Shared → Prop}
/-- the same where the loop's name is a cell -/
theorem loop1T {σ : Type} {I : Addr} {fp : List Addr} {n : Nat} {Pv : Nat → Value → Prop} {St : Nat → Heap → Prop} {m₀ : Str → Option Value} (src : List (Addr × Obj))
    (Led : σ → List (Addr × Obj)) (ps : σ → List (Str × Value)) (stored : List Str) (P : Nat → σ → Prop) (c₀ : σ)
    (W : Walks prog w A I fp [I] n Pv St) (hIo : ∀ i h, St i h → ∃ o, h.get? I = some o) (hfp : ∀ b ∈ fp, b = I ∨ (∃ o, h₀.get? b = some o) ∨ ∃ o, (b, o) ∈ src) (hsrc : ∀ c : σ, ∀ p ∈ src, p ∈ Led c)
    (hI : h₀.get? I = none) (hLI : env.locals ≠ I) (hLs : ∀ p ∈ src, p.1 ≠ env.locals) (hst : St 0 s.heap)
    (F : Fr h₀ env.locals s.heap m₀) (N : News h₀ env.locals s.heap (Led c₀)) (hn : ∀ p ∈ Led c₀, p.1 ≠ I) (hk : ∀ p ∈ ps c₀, m₀ p.1 = some p.2) (hp : P 0 c₀)
    (turn : ∀ (c : σ) i v (u : Str → Option Value) h tk oI, i < n → Pv i v → P i c → (∀ p ∈ Led c, p.1 ≠ I) →
      Fr h₀ env.locals h (fun y => if y = x then u y else kstB (fun z => if stored.contains z then u z else m₀ z) (ps c) y) → News h₀ env.locals h ((I, oI) :: Led c) →
      wpAny (model prog w) A (assign (.Name x px) env v) (fun _ s₃ => wpAny (model prog w) A (execs body env) (Post1 h₀ env.locals Led ps x stored m₀ (P (i + 1)) I oI { s with heap := h, toks := tk } Q) E s₃) E { s with heap := h, toks := tk })
    (done : ∀ (c : σ) (u : Str → Option Value) h tk, P n c → Fr h₀ env.locals h (fun y => if y = x then u y else kstB (fun z => if stored.contains z then u z else m₀ z) (ps c) y) → News h₀ env.locals h (Led c) → Q .next { s with heap := h, toks := tk }) :
    TurnsAt prog w A h₀ env (.Name x px) body Q E (.ref I) s := by
  have hLf : env.locals ∉ fp := fun q => by
    rcases hfp _ q with e | ⟨o, e⟩ | ⟨o, e⟩
    · exact hLI e
    · exact absurd (Nat.lt_of_lt_of_le (Heap.lt_size e) F.above) (Nat.lt_irrefl _)
    · exact hLs _ e rfl
  refine ⟨I, fp, [I], n, (fun i v _ => Pv i v), (fun i v h => Pv i v ∧ St (i + 1) h), St, m₀, Led c₀, fun i m nx => ∃ c : σ, nx = Led c ∧ (∀ p ∈ ps c, m p.1 = some p.2) ∧ (∀ z, z ≠ x → (∀ p ∈ ps c, z ≠ p.1) → stored.contains z = false → m z = m₀ z) ∧ P i c,
    rfl, KTurns.ofWalks W (fun i v s Q E st q => by unfold letOwnedTupleGo; exact wpAny_pure q), hLf, fun b hb => by rw [List.mem_singleton.mp hb]; exact hI, fun p hp q => hn p hp (List.mem_singleton.mp q), hst, F, N, ⟨c₀, rfl, hk, fun _ _ _ _ => rfl, hp⟩, ?_, ?_⟩
  · rintro i v m₁ nx hh' tk' own hin hPv ⟨c, rfl, h1, h2, hp'⟩ hoff hown hget hin0 hst₁ F₁ N₁
    obtain ⟨oI, heI⟩ := hIo _ _ hst₁
    have hoI : (I, oI) ∈ own := hin0 I (W.sub I (List.mem_singleton.mpr rfl)) hI oI heI
    have N₂ : News h₀ env.locals hh' ((I, oI) :: Led c) := fun p hp => by
      rcases List.mem_cons.mp hp with rfl | hp
      · exact N₁ _ (List.mem_append_left _ hoI)
      · exact N₁ _ (List.mem_append_right _ hp)
    refine wpAny_mono (turn c i v m₁ hh' tk' oI hin hPv hp' (fun p hp q => hoff p hp (List.mem_singleton.mpr q)) (kst_frOut h1 h2 F₁) N₂) (fun _ s₃ q₃ => wpAny_mono q₃ (fun f s₂ q => ?_) fun _ _ e => e) fun _ _ e => e
    have fin : End1 h₀ env.locals Led ps x stored m₀ (P (i + 1)) I oI { s with heap := hh', toks := tk' } s₂ →
        LoopStepU h₀ env.locals [I] own (fun m nx => ∃ c : σ, nx = Led c ∧ (∀ p ∈ ps c, m p.1 = some p.2) ∧ (∀ z, z ≠ x → (∀ p ∈ ps c, z ≠ p.1) → stored.contains z = false → m z = m₀ z) ∧ P (i + 1) c) { s with heap := hh', toks := tk' } .next s₂ := by
      rintro ⟨c', h', tk, m', news', rfl, F', N', hI', hl', h1', h2', hp''⟩
      refine ⟨rfl, h', tk, m', Led c', rfl, F', fun p hp => ?_, fun p hp q => (hl' p hp).2 (List.mem_singleton.mp q), c', rfl, h1', h2', hp''⟩
      rcases List.mem_append.mp hp with hp | hp
      · have e1 := hget p hp
        rcases hfp _ (hown p hp) with e | ⟨o, e⟩ | ⟨o, e⟩
        · have e2 : some p.2 = some oI := by rw [← e1, e]; exact heI
          have e3 : p = (I, oI) := Prod.ext e (Option.some.inj e2)
          rw [e3]; exact N' _ hI'
        · have e5 := (N₁ p (List.mem_append_left _ hp)).2.2
          rw [e] at e5; cases e5
        · have e2 := (N₂ (p.1, o) (List.mem_cons_of_mem _ (hsrc c _ e))).1
          have e4 : some p.2 = some o := by rw [← e1]; exact e2
          have e3 : p = (p.1, o) := Prod.ext rfl (Option.some.inj e4)
          rw [e3]; exact N' _ (hl' _ (hsrc c' _ e)).1
      · exact N' p (hl' p hp).1
    cases f with
    | ret v => exact .ret q
    | brk => exact .brk q
    | next => exact .next (fin q)
    | cont => exact .cont (fin q)
  · rintro h' tk m' nx F' N' _ ⟨c, rfl, h1, h2, hp'⟩
    exact done c m' h' tk hp' (kst_frOut h1 h2 F') N'

/-- over a range by ones -/
theorem loop_rangeT {σ : Type} {r : Addr} {a₀ b₀ : Int} {t₀ u₀ v₀ : Tok} {n : Nat} {m₀ : Str → Option Value}
    (Led : σ → List (Addr × Obj)) (ps : σ → List (Str × Value)) (stored : List Str) (P : Nat → σ → Prop) (c₀ : σ)
    (hh : A.handled = none) (hr : IsRange s.heap r a₀ b₀ 1 t₀ u₀ v₀) (hsmall : Builtin.Range.small a₀ b₀ 1 = true) (hsz : Builtin.Range.rangeSize a₀ b₀ 1 = (n : Int))
    (F : Fr h₀ env.locals s.heap m₀) (N : News h₀ env.locals s.heap (Led c₀)) (hk : ∀ p ∈ ps c₀, m₀ p.1 = some p.2) (hp : P 0 c₀)
    (turn : ∀ (c : σ) i t (u : Str → Option Value) h tk I oI, i < n → P i c → (∀ p ∈ Led c, p.1 ≠ I) →
      Fr h₀ env.locals h (fun y => if y = x then u y else kstB (fun z => if stored.contains z then u z else m₀ z) (ps c) y) → News h₀ env.locals h ((I, oI) :: Led c) →
      wpAny (model prog w) A (assign (.Name x px) env (.int (a₀ + (i : Int)) t)) (fun _ s₃ => wpAny (model prog w) A (execs body env) (Post1 h₀ env.locals Led ps x stored m₀ (P (i + 1)) I oI { s with heap := h, toks := tk } Q) E s₃) E { s with heap := h, toks := tk })
    (done : ∀ (c : σ) (u : Str → Option Value) h tk, P n c → Fr h₀ env.locals h (fun y => if y = x then u y else kstB (fun z => if stored.contains z then u z else m₀ z) (ps c) y) → News h₀ env.locals h (Led c) → Q .next { s with heap := h, toks := tk }) :
    wpAny (model prog w) A (pyIter (.ref r)) (fun it s₂ => TurnsAt prog w A h₀ env (.Name x px) body Q E it s₂) E s := by
  refine wpAny_pyIter_range hr hsmall ?_
  have keep : ∀ o, ∀ b o', s.heap.get? b = some o' → (s.heap.push o).get? b = some o' := fun o b o' e => Heap.get?_push_of_some _ e
  refine loop1T (px := px) [] Led ps stored P c₀ (LCg.range_walks hh a₀ n) (fun i h st => ⟨_, st⟩) (fun b hb => .inl (List.mem_singleton.mp hb)) (fun _ _ h => nomatch h) (next_is_new F) (Nat.ne_of_lt F.ns.lt) (fun _ h => nomatch h)
    (by show IsRangeIter _ _ _ _ _; rw [hsz]; simpa using Heap.get?_push_size _ rfl) (F.push _) (fun p hp => ⟨keep _ _ _ (N p hp).1, (N p hp).2⟩) (fun p hp => Nat.ne_of_lt (Heap.lt_size (N p hp).1)) hk hp ?_ ?_
  · rintro c i v u h tk oI hi ⟨t, rfl⟩ hP hne F₁ N₁
    exact turn c i t u h tk _ oI hi hP hne F₁ N₁
  · exact done

/-- over a list of the ground -/
theorem loop_listT {σ : Type} {l : Addr} {vs : List Value} {m₀ : Str → Option Value}
    (Led : σ → List (Addr × Obj)) (ps : σ → List (Str × Value)) (stored : List Str) (P : Nat → σ → Prop) (c₀ : σ)
    (hh : A.handled = none) (hl : h₀.IsList l vs.toArray)
    (F : Fr h₀ env.locals s.heap m₀) (N : News h₀ env.locals s.heap (Led c₀)) (hk : ∀ p ∈ ps c₀, m₀ p.1 = some p.2) (hp : P 0 c₀)
    (turn : ∀ (c : σ) i v (u : Str → Option Value) h tk I oI, i < vs.length → vs[i]? = some v → P i c → (∀ p ∈ Led c, p.1 ≠ I) →
      Fr h₀ env.locals h (fun y => if y = x then u y else kstB (fun z => if stored.contains z then u z else m₀ z) (ps c) y) → News h₀ env.locals h ((I, oI) :: Led c) →
      wpAny (model prog w) A (assign (.Name x px) env v) (fun _ s₃ => wpAny (model prog w) A (execs body env) (Post1 h₀ env.locals Led ps x stored m₀ (P (i + 1)) I oI { s with heap := h, toks := tk } Q) E s₃) E { s with heap := h, toks := tk })
    (done : ∀ (c : σ) (u : Str → Option Value) h tk, P vs.length c → Fr h₀ env.locals h (fun y => if y = x then u y else kstB (fun z => if stored.contains z then u z else m₀ z) (ps c) y) → News h₀ env.locals h (Led c) → Q .next { s with heap := h, toks := tk }) :
    wpAny (model prog w) A (pyIter (.ref l)) (fun it s₂ => TurnsAt prog w A h₀ env (.Name x px) body Q E it s₂) E s := by
  have hls : s.heap.IsList l vs.toArray := hl.at fun o e => F.keep l o e
  obtain ⟨ol, hol, _⟩ := id hl
  have hlt : l < h₀.objs.size := Heap.lt_size hol
  have hne : l ≠ s.heap.objs.size := Nat.ne_of_lt (Nat.lt_trans (Nat.lt_of_lt_of_le hlt F.above) F.ns.lt)
  refine wpAny_pyIter_list hls ?_
  have keep : ∀ o, ∀ b o', s.heap.get? b = some o' → (s.heap.push o).get? b = some o' := fun o b o' e => Heap.get?_push_of_some _ e
  have W := Walks.list (prog := prog) (w := w) hh s.heap.objs.size l hne vs.toArray
  rw [List.size_toArray] at W
  refine loop1T (px := px) [] Led ps stored P c₀ W (fun i h st => by obtain ⟨o, e, _⟩ := st.1; exact ⟨o, e⟩) (fun b hb => ?_) (fun _ _ h => nomatch h) (next_is_new F) (Nat.ne_of_lt F.ns.lt) (fun _ h => nomatch h)
    ⟨⟨_, Heap.get?_push_size _ rfl, rfl, rfl⟩, hls.at fun o e => keep _ _ _ e⟩ (F.push _) (fun p hp => ⟨keep _ _ _ (N p hp).1, (N p hp).2⟩) (fun p hp => Nat.ne_of_lt (Heap.lt_size (N p hp).1)) hk hp ?_ ?_
  · rcases List.mem_cons.mp hb with e | hb
    · exact .inl e
    · exact .inr (.inl ⟨ol, (List.mem_singleton.mp hb) ▸ hol⟩)
  · intro c i v u h tk oI hi hv hP hne F₁ N₁
    exact turn c i v u h tk _ oI hi (by simpa using hv) hP hne F₁ N₁
  · exact done

/-- over a list of the ledger that no turn changes -/
theorem loop_ledT {σ : Type} {l : Addr} {vs : List Value} {nn : Nat} {m₀ : Str → Option Value}
    (Led : σ → List (Addr × Obj)) (ps : σ → List (Str × Value)) (stored : List Str) (P : Nat → σ → Prop) (c₀ : σ)
    (hh : A.handled = none) (hl : ∀ c : σ, (l, ({ cls := .type "list", data := .seq vs.toArray nn } : Obj)) ∈ Led c)
    (F : Fr h₀ env.locals s.heap m₀) (N : News h₀ env.locals s.heap (Led c₀)) (hk : ∀ p ∈ ps c₀, m₀ p.1 = some p.2) (hp : P 0 c₀)
    (turn : ∀ (c : σ) i v (u : Str → Option Value) h tk I oI, i < vs.length → vs[i]? = some v → P i c → (∀ p ∈ Led c, p.1 ≠ I) →
      Fr h₀ env.locals h (fun y => if y = x then u y else kstB (fun z => if stored.contains z then u z else m₀ z) (ps c) y) → News h₀ env.locals h ((I, oI) :: Led c) →
      wpAny (model prog w) A (assign (.Name x px) env v) (fun _ s₃ => wpAny (model prog w) A (execs body env) (Post1 h₀ env.locals Led ps x stored m₀ (P (i + 1)) I oI { s with heap := h, toks := tk } Q) E s₃) E { s with heap := h, toks := tk })
    (done : ∀ (c : σ) (u : Str → Option Value) h tk, P vs.length c → Fr h₀ env.locals h (fun y => if y = x then u y else kstB (fun z => if stored.contains z then u z else m₀ z) (ps c) y) → News h₀ env.locals h (Led c) → Q .next { s with heap := h, toks := tk }) :
    wpAny (model prog w) A (pyIter (.ref l)) (fun it s₂ => TurnsAt prog w A h₀ env (.Name x px) body Q E it s₂) E s := by
  have hol := N _ (hl c₀)
  have hls : s.heap.IsList l vs.toArray := ⟨_, hol.1, rfl, _, rfl⟩
  have hlt : l < s.heap.objs.size := Heap.lt_size hol.1
  refine wpAny_pyIter_list hls ?_
  have keep : ∀ o, ∀ b o', s.heap.get? b = some o' → (s.heap.push o).get? b = some o' := fun o b o' e => Heap.get?_push_of_some _ e
  have W := Walks.list (prog := prog) (w := w) hh s.heap.objs.size l (Nat.ne_of_lt hlt) vs.toArray
  rw [List.size_toArray] at W
  refine loop1T (px := px) [(l, ({ cls := .type "list", data := .seq vs.toArray nn } : Obj))] Led ps stored P c₀ W (fun i h st => by obtain ⟨o, e, _⟩ := st.1; exact ⟨o, e⟩) (fun b hb => ?_) (fun c p h => by rw [List.mem_singleton.mp h]; exact hl c) (next_is_new F) (Nat.ne_of_lt F.ns.lt) (fun p h => by rw [List.mem_singleton.mp h]; exact hol.2.1)
    ⟨⟨_, Heap.get?_push_size _ rfl, rfl, rfl⟩, hls.at fun o e => keep _ _ _ e⟩ (F.push _) (fun p hp => ⟨keep _ _ _ (N p hp).1, (N p hp).2⟩) (fun p hp => Nat.ne_of_lt (Heap.lt_size (N p hp).1)) hk hp ?_ ?_
  · rcases List.mem_cons.mp hb with e | hb
    · exact .inl e
    · exact .inr (.inr ⟨_, by rw [List.mem_singleton.mp hb]; exact List.mem_singleton.mpr rfl⟩)
  · intro c i v u h tk oI hi hv hP hne F₁ N₁
    exact turn c i v u h tk _ oI hi (by simpa using hv) hP hne F₁ N₁
  · exact done

end
end

section
theorem hush_C_3n2n : True := by
  k_with_none
  w_top off
  trivial
theorem rules_C_3n2n_0 : True := by
  k_with "M ne" => first | exact NeW.l (by with_reducible assumption) | exact NeW.r (by with_reducible assumption) | (refine neN ?_; (try dsimp only); omega)
  k_with "M bits" => first | with_reducible assumption | exact bits_pow2 (by omega)
  k_with "M mem" => first | exact List.Mem.head _ | exact mem1 | exact mem2 | exact mem3 | exact mem4 | exact mem5 | exact mem6 | exact mem7 | exact mem8 | exact mem9 | exact mem10 | exact mem11 | exact mem12 | exact mem13
  trivial

theorem enterR_C_3n2n_0 : True := by
  k_with_none
  k_with "M ne" => first | exact NeW.l (by with_reducible assumption) | exact NeW.r (by with_reducible assumption) | (refine neN ?_; (try dsimp only); omega)
  k_with "M bits" => first | with_reducible assumption | exact bits_pow2 (by omega)
  k_with "M mem" => first | exact List.Mem.head _ | exact mem1 | exact mem2 | exact mem3 | exact mem4 | exact mem5 | exact mem6 | exact mem7 | exact mem8 | exact mem9 | exact mem10 | exact mem11 | exact mem12 | exact mem13
  k_with "M nw" => (try simp only [AllNw, and_true]); (try dsimp only); (repeat' constructor) <;> first | with_reducible assumption | (refine NeW.of ?_; k_ne)
  k_with "M sub2" => repeat (first | exact List.forall_mem_nil _ | refine fcons ⟨_, by k_mem⟩ ?_)
  k_with "M off" => repeat (first | exact List.forall_mem_nil _ | refine fcons (nin1 (by (try dsimp only); k_ne)) ?_)
  k_with "M sub" => repeat (first | exact List.forall_mem_nil _ | (refine fcons ?k9w ?_; (case k9w => k_mem)))
  k_with "M same" => intro z h1 h2 h3; (try dsimp only); (repeat (first | refine same_if (by first | exact h1 | exact ne_ps h2 rfl | exact ne_st h3 rfl) ?_ | exact rfl | exact same_st h3 | exact same_kst h2 h3 | refine same_k (by repeat (first | exact List.forall_mem_nil _ | refine fcons (by first | exact h1 | exact ne_ps h2 rfl | exact ne_st h3 rfl) ?_)) ?_ | refine same_c (by repeat (first | exact nc_nil | refine nc_cons (by first | exact h1 | exact ne_ps h2 rfl | exact ne_st h3 rfl) ?_)) ?_))
  k_with "binaryOp LShift int int" => refine' lshift_bits ?k9la ?k9lb ?k9lc ?k9ld ?_; (case k9la => omega); (case k9lb => omega); (case k9lc => bits_by_make); (case k9ld => decide)
  k_with "M ROOM" => first | omega | ktr_room | ((try dsimp only [Around.deeper, ktrTop]); omega)
  k_with "M UNITS" => first | omega | ((try dsimp only [Around.deeper, ktrTop]); omega) | ktr_units
  k_with "execs cons" => (try k_fold); with_reducible first | refine seqL ?_ | (refine seqV ?_; intro Q8 q8)
  k_with "M un" => with_reducible first | (refine seqVN (s := s1) (by assumption) ?_; intro tk8; try clear q8 Q8) | (refine seqVN (s := s) (by assumption) ?_; intro tk8; try clear q8 Q8) | refine seqVR (by assumption) ?_ | refine seqVM (by assumption) ?_ | refine seqVB (by assumption) ?_ | refine seqVC (by assumption) ?_
  k_with "eval Name" => k_here; k_dflt (refine' nameX_L ?k9F ?k9v ?_ ?k9a ?k9b; (case k9F => k_asm); (case k9a => exact Eq.refl _); (case k9b => exact Eq.refl (some NameKind.local)); (case k9v => exact Eq.refl (some _)); k_whole)
  k_with "M ENTER" => (
    unfold Ctr PR
    k_fill
    intro dp un gd cn cs aF ccd clF outer A₀ base h₀ L mF s Q E B F X T hke hOff hdp hun hPre hret
    first
    | (refine' enter B F X T hke hOff ?hz ?k6 ?k7 ?k8 ?k9 ?kB ?c5 ?c2 ?c3 ?c4 ?_
       (case k6 => exact (X.keeps F.keep) _ _ (by k_is))
       (case k7 => exact codeRec_of (X.keeps F.keep) (by k_is))
       (case hz => first | exact (fun _ h => absurd h List.not_mem_nil) | k_extra "M HZ")
       (case k8 => omega)
       (case k9 => first | exact BindsTo.of_eq rfl | exact binds_K (by k_in) rfl (by k_is) rfl rfl rfl | exact (fun M A E Q hq Γ p _ => wp_of_peek (X.keeps F.keep) hq _ (by rfl)) | fail "k_enter: no rule for these arguments")
       (case kB => exact locs rfl)
       (case c5 => decide)
       (case c2 => exact rfl)
       (case c3 => exact rfl)
       (case c4 => exact rfl)
       intro g h₁ F' hk1 hFr hKeep hg hOff' B' X' T' en7 Ar7 Qf7 Ef7
       have N' : News g s.heap.objs.size h₁ [] := News.nil
       have hNew := new_of hg
       try dsimp only
       clear B F X T hke hOff)
    | (refine' enterC B F X T hke hOff ?hz ?k6 ?k7 ?k8 ?k9 ?kB ?kD ?c2 ?c3 ?c4 ?_
       (case k6 => exact (X.keeps F.keep) _ _ (by k_is))
       (case k7 => exact codeRec_of (X.keeps F.keep) (by k_is))
       (case hz => first | exact (fun _ h => absurd h List.not_mem_nil) | k_extra "M HZ")
       (case k8 => omega)
       (case k9 => first | exact BindsTo.of_eq rfl | exact binds_K (by k_in) rfl (by k_is) rfl rfl rfl | exact (fun M A E Q hq Γ p _ => wp_of_peek (X.keeps F.keep) hq _ (by rfl)) | fail "k_enter: no rule for these arguments")
       (case kB => exact rfl)
       (case kD => decide +kernel)
       (case c2 => exact rfl)
       (case c3 => exact rfl)
       (case c4 => exact rfl)
       intro g h₁ tk' cells' F' N' Y' hk1 hFr hKeep hg hOff' B' X' T' en7 Ar7 Qf7 Ef7
       first
       | (obtain ⟨oc1, hE', dc1⟩ := CellsAre.one Y'; subst hE')
       | (obtain ⟨oc1, oc2, hE', dc1, dc2⟩ := CellsAre.two Y'; subst hE')
       | (obtain ⟨oc1, oc2, oc3, hE', dc1, dc2, dc3⟩ := CellsAre.three Y'; subst hE')
       | (obtain ⟨oc1, oc2, oc3, oc4, hE', dc1, dc2, dc3, dc4⟩ := CellsAre.four Y'; subst hE')
       clear Y'
       (try simp only [List.cons_append, List.nil_append] at N')
       have hNew := new_of hg
       try dsimp only
       clear B F X T hke hOff)
    )
  trivial
set_option maxHeartbeats 8000000 in
theorem ctr_3n2n {w : World} {p : Program} {loose : List Str} {mean : ExcName → Option Value} {mg mb : Str → Option Value} (a12 a3 b b1 b2 : Int) (k : Nat) (t1 t2 t3 t4 t5 t6 : Tok)
    (hk : k ≤ 3000) (hb : b = b1 * 2 ^ k + b2) (hb2 : 0 ≤ b2 ∧ b2 < 2 ^ k) (hb1 : 0 < b1) (ha3 : 0 ≤ a3 ∧ a3 < 2 ^ k) (ha : 0 ≤ a12) (hab : a12 * 2 ^ k + a3 < b * 2 ^ k) (hbb : Builtin.Int.intBits b ≤ 6000)
    (hbb1 : Builtin.Int.intBits b1 ≤ 6000) (hbb2 : Builtin.Int.intBits b2 ≤ 6000) (hba : Builtin.Int.intBits a12 ≤ 20000) :
    Ctr w (hd.heap_1 w.params) p loose mean mg mb 35 2 [] [.int a12 t1, .int a3 t2, .int b t3, .int b1 t4, .int b2 t5, .int (k : Int) t6]
      (fun _ => (Builtin.Int.intBits a12 : Int) - k ≤ 4000)
      (Pair (Int.fdiv (a12 * 2 ^ k + a3) b) (Int.fmod (a12 * 2 ^ k + a3) b)) := by
  have htk : Int.toNat (k : Int) = k := Int.toNat_natCast k
  have hP : (0 : Int) < 2 ^ k := two_pow_posI k
  have hb0 : 0 < b := by have := Int.mul_pos hb1 hP; omega
  k_extra "M ENTER"
  clear hg
  have hL1 : s.heap.objs.size < h₁.objs.size := F'.ns.lt
  k_with "call ref" => (refine hold ?_)
  k_with "exec While Compare cons nil" => (refine hold ?_)
  k_with "exec While BoolOp cons nil" => (refine hold ?_)
  k_steps
  all_goals (try dsimp only)
  · refine unhold ?_
    rw [htk] at *
    have hor : 0 ≤ a12 - b1 * 2 ^ k + b1 := by
      rw [fdiv_pow] at *
      have h5 : a12 / 2 ^ k = b1 := by assumption
      have := Int.ediv_mul_le a12 (Int.ne_of_gt hP)
      rw [h5] at this; omega
    rw [bitOr_add hor ha3.1 ha3.2] at *
    rw [Int.one_mul] at *
    generalize hr0 : (a12 - b1 * 2 ^ k + b1) * 2 ^ k + a3 - (2 ^ k - 1) * b2 = r0 at *
    generalize hq0 : (2 : Int) ^ k - 1 = q0 at *
    have hs : q0 * b + r0 = a12 * 2 ^ k + a3 ∧ r0 < b := d3_start1 hq0 hr0 hb hab
    k_with "state" => first | exact hs | exact d3_turn (by assumption) (by simp only [decide_eq_true_eq] at *; assumption)
    k_while (fun _ q r => q * b + r = a12 * 2 ^ k + a3 ∧ r < b) (fun _ q r => (-r).toNat) "q" "r"
    k_steps
    all_goals (try dsimp only)
    all_goals (try simp only [decide_eq_true_eq, decide_eq_false_iff_not, Int.not_lt] at *)
    all_goals (
      obtain ⟨e1, e2⟩ := fdivmod_of hb0 (by assumption) (by assumption) (by assumption)
      (repeat k_extra "M un")
      refine done_of (hret _ _ _ (hFr _ (hKeep _ _ _ (by assumption))) (hKeep _ _ _ (by assumption)) ?_)
      rw [← e1, ← e2]
      exact ⟨_, _, _, rfl, .of hNew (by assumption) (.head _) List.not_mem_nil⟩)
  · refine unhold ?_
    refine (ctr_leaf (w := w) a12 b1 k _ _ _ (Int.ne_of_gt hb1) (by omega)).use B' (by assumption) X' T' rfl Off.nil (by k_extra "M ROOM") (by k_extra "M UNITS") hPre ?_
    rintro r h2 tk2 F2 K2 hp95
    refine byG fun G9 hG9 => ?_
    obtain ⟨u1, u2, a9, rfl, hm⟩ := hp95
    refine hG9 ?_
    clear hG9 G9
    have N2 := hm.news (by assumption) (K2.news0 N')
    have l2 := hm.ne N'
    have hqb : Builtin.Int.intBits (Int.fdiv a12 b1) ≤ 20000 := intBits_fdiv_le hba
    have hrb : Builtin.Int.intBits (Int.fmod a12 b1) ≤ 20000 := bits_mono (intBits_fmod_le hba hbb1) (by decide)
    have f9 := fdiv_fmod_facts a12 b1
    have hr9 := f9.2.2.1 hb1
    have hq9 : 0 ≤ Int.fdiv a12 b1 := Int.fdiv_nonneg ha (Int.le_of_lt hb1)
    generalize hq0 : Int.fdiv a12 b1 = q0 at *
    generalize hr9' : Int.fmod a12 b1 = r9 at *
    k_steps
    refine unhold ?_
    rw [htk] at *
    rw [bitOr_add hr9.1 ha3.1 ha3.2] at *
    generalize hr0 : r9 * 2 ^ k + a3 - q0 * b2 = r0 at *
    have hs : q0 * b + r0 = a12 * 2 ^ k + a3 ∧ r0 < b := d3_start2 (by have := f9.1; omega) hr9.1 hr9.2 hq9 hr0 hb ha3.2 hP hb2.1
    k_with "state" => first | exact hs | exact d3_turn (by assumption) (by simp only [decide_eq_true_eq] at *; assumption)
    k_while (fun _ q r => q * b + r = a12 * 2 ^ k + a3 ∧ r < b) (fun _ q r => (-r).toNat) "q" "r"
    k_steps
    all_goals (try dsimp only)
    all_goals (try simp only [decide_eq_true_eq, decide_eq_false_iff_not, Int.not_lt] at *)
    all_goals (
      obtain ⟨e1, e2⟩ := fdivmod_of hb0 (by assumption) (by assumption) (by assumption)
      (repeat k_extra "M un")
      refine done_of (hret _ _ _ (hFr _ (hKeep _ _ _ (by assumption))) (hKeep _ _ _ (by assumption)) ?_)
      rw [← e1, ← e2]
      exact ⟨_, _, _, rfl, .of hNew (by assumption) (.head _) List.not_mem_nil⟩)
end

section
theorem hush_C_2n1n : True := by
  k_with_none
  w_top off
  trivial
theorem rules_C_2n1n_0 : True := by
  k_with "M ne" => first | exact NeW.l (by with_reducible assumption) | exact NeW.r (by with_reducible assumption) | (refine neN ?_; (try dsimp only); omega)
  k_with "M bits" => first | with_reducible assumption | exact bits_pow2 (by omega)
  k_with "M mem" => first | exact List.Mem.head _ | exact mem1 | exact mem2 | exact mem3 | exact mem4 | exact mem5 | exact mem6 | exact mem7 | exact mem8 | exact mem9 | exact mem10 | exact mem11 | exact mem12 | exact mem13
  trivial

theorem enterR_C_2n1n_0 : True := by
  k_with_none
  k_with "M ne" => first | exact NeW.l (by with_reducible assumption) | exact NeW.r (by with_reducible assumption) | (refine neN ?_; (try dsimp only); omega)
  k_with "M bits" => first | with_reducible assumption | exact bits_pow2 (by omega)
  k_with "M mem" => first | exact List.Mem.head _ | exact mem1 | exact mem2 | exact mem3 | exact mem4 | exact mem5 | exact mem6 | exact mem7 | exact mem8 | exact mem9 | exact mem10 | exact mem11 | exact mem12 | exact mem13
  k_with "M nw" => (try simp only [AllNw, and_true]); (try dsimp only); (repeat' constructor) <;> first | with_reducible assumption | (refine NeW.of ?_; k_ne)
  k_with "M sub2" => repeat (first | exact List.forall_mem_nil _ | refine fcons ⟨_, by k_mem⟩ ?_)
  k_with "M off" => repeat (first | exact List.forall_mem_nil _ | refine fcons (nin1 (by (try dsimp only); k_ne)) ?_)
  k_with "M sub" => repeat (first | exact List.forall_mem_nil _ | (refine fcons ?k9w ?_; (case k9w => k_mem)))
  k_with "M same" => intro z h1 h2 h3; (try dsimp only); (repeat (first | refine same_if (by first | exact h1 | exact ne_ps h2 rfl | exact ne_st h3 rfl) ?_ | exact rfl | exact same_st h3 | exact same_kst h2 h3 | refine same_k (by repeat (first | exact List.forall_mem_nil _ | refine fcons (by first | exact h1 | exact ne_ps h2 rfl | exact ne_st h3 rfl) ?_)) ?_ | refine same_c (by repeat (first | exact nc_nil | refine nc_cons (by first | exact h1 | exact ne_ps h2 rfl | exact ne_st h3 rfl) ?_)) ?_))
  k_with "binaryOp LShift int int" => refine' lshift_bits ?k9la ?k9lb ?k9lc ?k9ld ?_; (case k9la => omega); (case k9lb => omega); (case k9lc => bits_by_make); (case k9ld => decide)
  k_with "inplaceOp LShift int int" => refine' ilshift_bits ?k9la ?k9lb ?k9lc ?k9ld ?_; (case k9la => omega); (case k9lb => omega); (case k9lc => bits_by_make); (case k9ld => decide)
  k_with "M ROOM" => first | omega | ktr_room | ((try dsimp only [Around.deeper, ktrTop]); omega)
  k_with "M UNITS" => first | omega | ((try dsimp only [Around.deeper, ktrTop]); omega) | ktr_units
  k_with "execs cons" => (try k_fold); with_reducible first | refine seqL ?_ | (refine seqV ?_; intro Q8 q8)
  k_with "M un" => with_reducible first | (refine seqVN (s := s1) (by assumption) ?_; intro tk8; try clear q8 Q8) | (refine seqVN (s := s) (by assumption) ?_; intro tk8; try clear q8 Q8) | refine seqVR (by assumption) ?_ | refine seqVM (by assumption) ?_ | refine seqVB (by assumption) ?_ | refine seqVC (by assumption) ?_
  k_with "eval Name" => k_here; k_dflt (refine' nameX_L ?k9F ?k9v ?_ ?k9a ?k9b; (case k9F => k_asm); (case k9a => exact Eq.refl _); (case k9b => exact Eq.refl (some NameKind.local)); (case k9v => exact Eq.refl (some _)); k_whole)
  k_with "binaryOp RShift int int" => refine' rshift_eq ?k9ra ?k9rb ?_; (case k9ra => omega); (case k9rb => assumption)
  k_with "inplaceOp RShift int int" => refine' irshift_eq ?k9ra ?k9rb ?_; (case k9ra => omega); (case k9rb => assumption)
  k_with "binaryOp BitAnd int int" => refine' and_eq ?k9rb ?_; (case k9rb => assumption)
  k_with "M ENTER" => (
    unfold Ctr PR
    k_fill
    intro dp un gd cn cs aF ccd clF outer A₀ base h₀ L mF s Q E B F X T hke hOff hdp hun hPre hret
    first
    | (refine' enter B F X T hke hOff ?hz ?k6 ?k7 ?k8 ?k9 ?kB ?c5 ?c2 ?c3 ?c4 ?_
       (case k6 => exact (X.keeps F.keep) _ _ (by k_is))
       (case k7 => exact codeRec_of (X.keeps F.keep) (by k_is))
       (case hz => first | exact (fun _ h => absurd h List.not_mem_nil) | k_extra "M HZ")
       (case k8 => omega)
       (case k9 => first | exact BindsTo.of_eq rfl | exact binds_K (by k_in) rfl (by k_is) rfl rfl rfl | exact (fun M A E Q hq Γ p _ => wp_of_peek (X.keeps F.keep) hq _ (by rfl)) | fail "k_enter: no rule for these arguments")
       (case kB => exact locs rfl)
       (case c5 => decide)
       (case c2 => exact rfl)
       (case c3 => exact rfl)
       (case c4 => exact rfl)
       intro g h₁ F' hk1 hFr hKeep hg hOff' B' X' T' en7 Ar7 Qf7 Ef7
       have N' : News g s.heap.objs.size h₁ [] := News.nil
       have hNew := new_of hg
       try dsimp only
       clear B F X T hke hOff)
    | (refine' enterC B F X T hke hOff ?hz ?k6 ?k7 ?k8 ?k9 ?kB ?kD ?c2 ?c3 ?c4 ?_
       (case k6 => exact (X.keeps F.keep) _ _ (by k_is))
       (case k7 => exact codeRec_of (X.keeps F.keep) (by k_is))
       (case hz => first | exact (fun _ h => absurd h List.not_mem_nil) | k_extra "M HZ")
       (case k8 => omega)
       (case k9 => first | exact BindsTo.of_eq rfl | exact binds_K (by k_in) rfl (by k_is) rfl rfl rfl | exact (fun M A E Q hq Γ p _ => wp_of_peek (X.keeps F.keep) hq _ (by rfl)) | fail "k_enter: no rule for these arguments")
       (case kB => exact rfl)
       (case kD => decide +kernel)
       (case c2 => exact rfl)
       (case c3 => exact rfl)
       (case c4 => exact rfl)
       intro g h₁ tk' cells' F' N' Y' hk1 hFr hKeep hg hOff' B' X' T' en7 Ar7 Qf7 Ef7
       first
       | (obtain ⟨oc1, hE', dc1⟩ := CellsAre.one Y'; subst hE')
       | (obtain ⟨oc1, oc2, hE', dc1, dc2⟩ := CellsAre.two Y'; subst hE')
       | (obtain ⟨oc1, oc2, oc3, hE', dc1, dc2, dc3⟩ := CellsAre.three Y'; subst hE')
       | (obtain ⟨oc1, oc2, oc3, oc4, hE', dc1, dc2, dc3, dc4⟩ := CellsAre.four Y'; subst hE')
       clear Y'
       (try simp only [List.cons_append, List.nil_append] at N')
       have hNew := new_of hg
       try dsimp only
       clear B F X T hke hOff)
    )
  trivial
set_option maxHeartbeats 8000000 in
theorem ctr_2n1n_e {w : World} {p : Program} {loose : List Str} {mean : ExcName → Option Value} {mg mb : Str → Option Value} (a b : Int) (k h : Nat) (t1 t2 t3 : Tok) (hk : k = 2 * h) (hh : 1 ≤ h ∧ h ≤ 2950) (hk1 : 1 ≤ k) (ha : 0 ≤ a) (hab : a < b * 2 ^ k) (hb : 2 ^ (k - 1) ≤ b ∧ b < 2 ^ k)
    (hbig : (4000 : Int) < Builtin.Int.intBits a - k) :
    Ctr w (hd.heap_1 w.params) p loose mean mg mb 28 4 [] [.int a t1, .int b t2, .int (k : Int) t3]
      (fun _ => True)
      (Pair (Int.fdiv a b) (Int.fmod a b)) := by
  have htk : Int.toNat (h : Int) = h := Int.toNat_natCast h
  have hP : (0 : Int) < 2 ^ h := two_pow_posI h
  have hpad : Builtin.bitAnd (k : Int) 1 = 0 := by rw [bitAnd_m1]; omega
  have hsh : Int.fdiv (k : Int) (2 ^ Int.toNat 1) = (h : Int) := by rw [Int.fdiv_eq_ediv_of_nonneg _ (by decide)]; show _ / 2 = _; omega
  have hkk : Int.toNat (k : Int) = k := by omega
  have hA2 : 0 ≤ a := by exact ha
  have hAB2 : a < b * 2 ^ k := by exact hab
  have hB2 : 2 ^ (k - 1) ≤ b := by exact hb.1
  have hB3 : b < 2 ^ k := by exact hb.2
  have hfin : ∀ x y : Int, x = Int.fdiv a b → y = Int.fmod a b → x = Int.fdiv a b ∧ y = Int.fmod a b := by
    exact fun x y hx hy => ⟨hx, hy⟩
  have hba : Builtin.Int.intBits a ≤ 12000 := bits_mono (bits_lt ha (Int.lt_trans hab (by have := two_pow_posI k; have h2 := Int.mul_lt_mul_of_pos_right hb.2 this; rw [← Int.pow_add] at h2; exact h2))) (by omega)
  have hbb : Builtin.Int.intBits b ≤ 6000 := bits_mono (bits_lt (by have := two_pow_posI (k - 1); omega) hb.2) (by omega)
  refine byG fun G9 hG9 => ?_
  obtain ⟨f1, f2, f3, f4, f5, f6, f7, f8, f9, f10⟩ := d2_facts (k := k) (h := h) (by omega) hh.1 hA2 hAB2 hB2
  refine hG9 ?_
  clear hG9 G9
  have hbB : Builtin.Int.intBits b ≤ 6000 := bits_mono (bits_lt (Int.le_of_lt f10) hB3) (by omega)
  have hahl : a / 2 ^ k < 2 ^ k := by rw [Int.ediv_lt_iff_lt_mul (two_pow_posI _)]; exact Int.lt_trans hAB2 (Int.mul_lt_mul_of_pos_right hB3 (two_pow_posI _))
  have hbah : Builtin.Int.intBits (a / 2 ^ k) ≤ k := bits_lt f1 hahl
  have hbb1 : Builtin.Int.intBits (b / 2 ^ h) ≤ 6000 := by rw [← fdiv_pow]; exact intBits_fdiv_le hbB
  have hbb2 : Builtin.Int.intBits (b % 2 ^ h) ≤ 6000 := bits_mono (bits_lt f3.1 f3.2) (by omega)
  refine byG fun G9 hG9 => ?_
  obtain ⟨g1, g2, g3, g4, g5, g6, g7, g8, g9⟩ := d2_final hP f9 f8 f10 f7 (Int.ediv_nonneg hA2 (Int.le_of_lt hP))
  refine hG9 ?_
  clear hG9 G9
  have h1 : Int.fdiv a (2 ^ Int.toNat (k : Int)) = a / 2 ^ k := by rw [hkk, fdiv_pow]
  have h2 : Int.fdiv a (2 ^ Int.toNat (h : Int)) = a / 2 ^ h := by rw [htk, fdiv_pow]
  have h3 : Builtin.bitAnd (a / 2 ^ h) (1 * 2 ^ Int.toNat (h : Int) - 1) = a / 2 ^ h % 2 ^ h := by rw [htk, bitAnd_mask1 (Int.ediv_nonneg hA2 (Int.le_of_lt hP))]
  have h4 : Int.fdiv b (2 ^ Int.toNat (h : Int)) = b / 2 ^ h := by rw [htk, fdiv_pow]
  have h5 : Builtin.bitAnd b (1 * 2 ^ Int.toNat (h : Int) - 1) = b % 2 ^ h := by rw [htk, bitAnd_mask1 (Int.le_of_lt f10)]
  have h6 : Builtin.bitAnd a (1 * 2 ^ Int.toNat (h : Int) - 1) = a % 2 ^ h := by rw [htk, bitAnd_mask1 hA2]
  have C1 := fun u1 u2 u3 u4 u5 u6 => @ctr_3n2n w p loose mean mg mb _ _ _ _ _ h u1 u2 u3 u4 u5 u6 (by omega) f2 f3 f4 f5 f1 (by rw [f6]; exact f7) hbB hbb1 hbb2 (bits_mono hbah (by omega))
  rw [f6] at C1
  have C2 := fun u1 u2 u3 u4 u5 u6 => @ctr_3n2n w p loose mean mg mb (Int.fmod (a / 2 ^ h) b) (a % 2 ^ h) _ _ _ h u1 u2 u3 u4 u5 u6 (by omega) f2 f3 f4 f8 g3 g5 hbB hbb1 hbb2 (bits_mono (bits_lt g3 (Int.lt_trans g4 hB3)) (by omega))
  have hbr : Builtin.Int.intBits (Int.fmod (a / 2 ^ h) b) ≤ k := bits_lt g3 (Int.lt_trans g4 hB3)
  have hbq : Builtin.Int.intBits (Int.fdiv (a / 2 ^ h) b) ≤ 3000 := bits_mono (bits_lt g1 g2) (by omega)
  generalize hq1 : Int.fdiv (a / 2 ^ h) b = q1 at *
  generalize hr1 : Int.fmod (a / 2 ^ h) b = r1 at *
  generalize hq2 : Int.fdiv (r1 * 2 ^ h + a % 2 ^ h) b = q2 at *
  generalize hr2 : Int.fmod (r1 * 2 ^ h + a % 2 ^ h) b = r2 at *
  obtain ⟨e8, e9⟩ := hfin _ _ g8 g9
  generalize hah : a / 2 ^ k = ah at *
  generalize ha3 : a / 2 ^ h % 2 ^ h = a3 at *
  generalize ham : a / 2 ^ h = am at *
  generalize hb1 : b / 2 ^ h = b1 at *
  generalize hb2 : b % 2 ^ h = b2 at *
  generalize halo : a % 2 ^ h = alo at *
  clear f1 f2 f3 f4 f5 f6 f7 f8 f9 hfin
  k_extra "M ENTER"
  clear hg
  k_with "call ref" => (refine hold ?_)
  k_steps
  all_goals (try dsimp only)
  refine unhold ?_


  refine (C1 _ _ _ _ _ _).use B' (by assumption) X' T' rfl Off.nil (by k_extra "M ROOM") (by k_extra "M UNITS") (by omega) ?_
  rintro r h9 tk9 F9 K9 hp95
  refine byG fun G9 hG9 => ?_
  obtain ⟨u1, u2, a9, rfl, hm⟩ := hp95
  refine hG9 ?_
  clear hG9 G9
  have N9 := hm.news (by assumption) (K9.news0 (by assumption))
  k_steps
  all_goals (try dsimp only)
  refine unhold ?_
  refine (C2 _ _ _ _ _ _).use B' (by assumption) X' T' rfl Off.nil (by k_extra "M ROOM") (by k_extra "M UNITS") (by omega) ?_
  rintro r h8 tk8 F8 K8 hp95
  refine byG fun G9 hG9 => ?_
  obtain ⟨u1, u2, a8, rfl, hm8⟩ := hp95
  refine hG9 ?_
  clear hG9 G9
  have N8 := hm8.news (by assumption) (K8.news0 (by assumption))
  k_steps
  all_goals (try dsimp only)
  have e10 : Builtin.bitOr (q1 * 2 ^ Int.toNat (h : Int)) q2 = Int.fdiv a b := by rw [htk, bitOr_add g1 g6 g7, e8]
  rename News _ _ _ _ => nE
  rw [e10] at nE
  subst e9
  (repeat k_extra "M un")
  refine done_of (hret _ _ _ (hFr _ (hKeep _ _ _ (by assumption))) (hKeep _ _ _ (by assumption)) ?_)
  exact ⟨_, _, _, rfl, .of hNew (by assumption) (.head _) List.not_mem_nil⟩

theorem enterR_C_2n1n_1 : True := by
  k_with_none
  k_with "M ne" => first | exact NeW.l (by with_reducible assumption) | exact NeW.r (by with_reducible assumption) | (refine neN ?_; (try dsimp only); omega)
  k_with "M bits" => first | with_reducible assumption | exact bits_pow2 (by omega)
  k_with "M mem" => first | exact List.Mem.head _ | exact mem1 | exact mem2 | exact mem3 | exact mem4 | exact mem5 | exact mem6 | exact mem7 | exact mem8 | exact mem9 | exact mem10 | exact mem11 | exact mem12 | exact mem13
  k_with "M nw" => (try simp only [AllNw, and_true]); (try dsimp only); (repeat' constructor) <;> first | with_reducible assumption | (refine NeW.of ?_; k_ne)
  k_with "M sub2" => repeat (first | exact List.forall_mem_nil _ | refine fcons ⟨_, by k_mem⟩ ?_)
  k_with "M off" => repeat (first | exact List.forall_mem_nil _ | refine fcons (nin1 (by (try dsimp only); k_ne)) ?_)
  k_with "M sub" => repeat (first | exact List.forall_mem_nil _ | (refine fcons ?k9w ?_; (case k9w => k_mem)))
  k_with "M same" => intro z h1 h2 h3; (try dsimp only); (repeat (first | refine same_if (by first | exact h1 | exact ne_ps h2 rfl | exact ne_st h3 rfl) ?_ | exact rfl | exact same_st h3 | exact same_kst h2 h3 | refine same_k (by repeat (first | exact List.forall_mem_nil _ | refine fcons (by first | exact h1 | exact ne_ps h2 rfl | exact ne_st h3 rfl) ?_)) ?_ | refine same_c (by repeat (first | exact nc_nil | refine nc_cons (by first | exact h1 | exact ne_ps h2 rfl | exact ne_st h3 rfl) ?_)) ?_))
  k_with "binaryOp LShift int int" => refine' lshift_bits ?k9la ?k9lb ?k9lc ?k9ld ?_; (case k9la => omega); (case k9lb => omega); (case k9lc => bits_by_make); (case k9ld => decide)
  k_with "inplaceOp LShift int int" => refine' ilshift_bits ?k9la ?k9lb ?k9lc ?k9ld ?_; (case k9la => omega); (case k9lb => omega); (case k9lc => bits_by_make); (case k9ld => decide)
  k_with "M ROOM" => first | omega | ktr_room | ((try dsimp only [Around.deeper, ktrTop]); omega)
  k_with "M UNITS" => first | omega | ((try dsimp only [Around.deeper, ktrTop]); omega) | ktr_units
  k_with "execs cons" => (try k_fold); with_reducible first | refine seqL ?_ | (refine seqV ?_; intro Q8 q8)
  k_with "M un" => with_reducible first | (refine seqVN (s := s1) (by assumption) ?_; intro tk8; try clear q8 Q8) | (refine seqVN (s := s) (by assumption) ?_; intro tk8; try clear q8 Q8) | refine seqVR (by assumption) ?_ | refine seqVM (by assumption) ?_ | refine seqVB (by assumption) ?_ | refine seqVC (by assumption) ?_
  k_with "eval Name" => k_here; k_dflt (refine' nameX_L ?k9F ?k9v ?_ ?k9a ?k9b; (case k9F => k_asm); (case k9a => exact Eq.refl _); (case k9b => exact Eq.refl (some NameKind.local)); (case k9v => exact Eq.refl (some _)); k_whole)
  k_with "binaryOp RShift int int" => refine' rshift_eq ?k9ra ?k9rb ?_; (case k9ra => omega); (case k9rb => assumption)
  k_with "inplaceOp RShift int int" => refine' irshift_eq ?k9ra ?k9rb ?_; (case k9ra => omega); (case k9rb => assumption)
  k_with "binaryOp BitAnd int int" => refine' and_eq ?k9rb ?_; (case k9rb => assumption)
  k_with "M ENTER" => (
    unfold Ctr PR
    k_fill
    intro dp un gd cn cs aF ccd clF outer A₀ base h₀ L mF s Q E B F X T hke hOff hdp hun hPre hret
    first
    | (refine' enter B F X T hke hOff ?hz ?k6 ?k7 ?k8 ?k9 ?kB ?c5 ?c2 ?c3 ?c4 ?_
       (case k6 => exact (X.keeps F.keep) _ _ (by k_is))
       (case k7 => exact codeRec_of (X.keeps F.keep) (by k_is))
       (case hz => first | exact (fun _ h => absurd h List.not_mem_nil) | k_extra "M HZ")
       (case k8 => omega)
       (case k9 => first | exact BindsTo.of_eq rfl | exact binds_K (by k_in) rfl (by k_is) rfl rfl rfl | exact (fun M A E Q hq Γ p _ => wp_of_peek (X.keeps F.keep) hq _ (by rfl)) | fail "k_enter: no rule for these arguments")
       (case kB => exact locs rfl)
       (case c5 => decide)
       (case c2 => exact rfl)
       (case c3 => exact rfl)
       (case c4 => exact rfl)
       intro g h₁ F' hk1 hFr hKeep hg hOff' B' X' T' en7 Ar7 Qf7 Ef7
       have N' : News g s.heap.objs.size h₁ [] := News.nil
       have hNew := new_of hg
       try dsimp only
       clear B F X T hke hOff)
    | (refine' enterC B F X T hke hOff ?hz ?k6 ?k7 ?k8 ?k9 ?kB ?kD ?c2 ?c3 ?c4 ?_
       (case k6 => exact (X.keeps F.keep) _ _ (by k_is))
       (case k7 => exact codeRec_of (X.keeps F.keep) (by k_is))
       (case hz => first | exact (fun _ h => absurd h List.not_mem_nil) | k_extra "M HZ")
       (case k8 => omega)
       (case k9 => first | exact BindsTo.of_eq rfl | exact binds_K (by k_in) rfl (by k_is) rfl rfl rfl | exact (fun M A E Q hq Γ p _ => wp_of_peek (X.keeps F.keep) hq _ (by rfl)) | fail "k_enter: no rule for these arguments")
       (case kB => exact rfl)
       (case kD => decide +kernel)
       (case c2 => exact rfl)
       (case c3 => exact rfl)
       (case c4 => exact rfl)
       intro g h₁ tk' cells' F' N' Y' hk1 hFr hKeep hg hOff' B' X' T' en7 Ar7 Qf7 Ef7
       first
       | (obtain ⟨oc1, hE', dc1⟩ := CellsAre.one Y'; subst hE')
       | (obtain ⟨oc1, oc2, hE', dc1, dc2⟩ := CellsAre.two Y'; subst hE')
       | (obtain ⟨oc1, oc2, oc3, hE', dc1, dc2, dc3⟩ := CellsAre.three Y'; subst hE')
       | (obtain ⟨oc1, oc2, oc3, oc4, hE', dc1, dc2, dc3, dc4⟩ := CellsAre.four Y'; subst hE')
       clear Y'
       (try simp only [List.cons_append, List.nil_append] at N')
       have hNew := new_of hg
       try dsimp only
       clear B F X T hke hOff)
    )
  trivial
set_option maxHeartbeats 8000000 in
theorem ctr_2n1n_o {w : World} {p : Program} {loose : List Str} {mean : ExcName → Option Value} {mg mb : Str → Option Value} (a b : Int) (k h : Nat) (t1 t2 t3 : Tok) (hk : k + 1 = 2 * h) (hh : 1 ≤ h ∧ h ≤ 2950) (hk1 : 1 ≤ k) (ha : 0 ≤ a) (hab : a < b * 2 ^ k) (hb : 2 ^ (k - 1) ≤ b ∧ b < 2 ^ k)
    (hbig : (4000 : Int) < Builtin.Int.intBits a - k) :
    Ctr w (hd.heap_1 w.params) p loose mean mg mb 28 4 [] [.int a t1, .int b t2, .int (k : Int) t3]
      (fun _ => True)
      (Pair (Int.fdiv a b) (Int.fmod a b)) := by
  have htk : Int.toNat (h : Int) = h := Int.toNat_natCast h
  have hP : (0 : Int) < 2 ^ h := two_pow_posI h
  have hpad : Builtin.bitAnd (k : Int) 1 = 1 := by rw [bitAnd_m1]; omega
  have hsh : Int.fdiv ((k : Int) + 1) (2 ^ Int.toNat 1) = (h : Int) := by rw [Int.fdiv_eq_ediv_of_nonneg _ (by decide)]; show _ / 2 = _; omega
  have hkk : Int.toNat ((k : Int) + 1) = (k + 1) := by omega
  have hA2 : 0 ≤ (a * 2 ^ Int.toNat 1) := by have e : (2:Int) ^ Int.toNat 1 = 2 := rfl; rw [e]; omega
  have hAB2 : (a * 2 ^ Int.toNat 1) < (b * 2 ^ Int.toNat 1) * 2 ^ (k + 1) := by have e : (2:Int) ^ Int.toNat 1 = 2 := rfl; rw [e, Int.pow_succ]; have e2 : b * 2 * (2 ^ k * 2) = b * 2 ^ k * 4 := (by grind); omega
  have hB2 : 2 ^ ((k + 1) - 1) ≤ (b * 2 ^ Int.toNat 1) := by have e : (2:Int) ^ Int.toNat 1 = 2 := rfl; rw [e, Nat.add_sub_cancel]; have e3 : (2:Int) ^ k = 2 ^ (k - 1) * 2 := (by rw [← Int.pow_succ]; congr 1; omega); omega
  have hB3 : (b * 2 ^ Int.toNat 1) < 2 ^ (k + 1) := by have e : (2:Int) ^ Int.toNat 1 = 2 := rfl; rw [e, Int.pow_succ]; omega
  have hfin : ∀ x y : Int, x = Int.fdiv (a * 2 ^ Int.toNat 1) (b * 2 ^ Int.toNat 1) → y = Int.fmod (a * 2 ^ Int.toNat 1) (b * 2 ^ Int.toNat 1) → x = Int.fdiv a b ∧ Int.fdiv y (2 ^ Int.toNat 1) = Int.fmod a b := by
    intro x y hx hy
    have e : (2:Int) ^ Int.toNat 1 = 2 := rfl
    rw [e] at hx hy ⊢
    have hb0 : 0 < b := by have := two_pow_posI (k - 1); omega
    have f1 := fdiv_fmod_facts a b
    have g1 := f1.2.2.1 hb0
    have e1 := f1.1
    have := fdivmod_of (x := a * 2) (y := b * 2) (q := Int.fdiv a b) (r := Int.fmod a b * 2) (by omega) (by rw [← Int.mul_assoc]; omega) (by omega) (by omega)
    refine ⟨by rw [hx, this.1], ?_⟩
    rw [hy, ← this.2, Int.fdiv_eq_ediv_of_nonneg _ (by decide)]
    omega
  have hba : Builtin.Int.intBits a ≤ 12000 := bits_mono (bits_lt ha (Int.lt_trans hab (by have := two_pow_posI k; have h2 := Int.mul_lt_mul_of_pos_right hb.2 this; rw [← Int.pow_add] at h2; exact h2))) (by omega)
  have hbb : Builtin.Int.intBits b ≤ 6000 := bits_mono (bits_lt (by have := two_pow_posI (k - 1); omega) hb.2) (by omega)
  refine byG fun G9 hG9 => ?_
  obtain ⟨f1, f2, f3, f4, f5, f6, f7, f8, f9, f10⟩ := d2_facts (k := (k + 1)) (h := h) (by omega) hh.1 hA2 hAB2 hB2
  refine hG9 ?_
  clear hG9 G9
  have hbB : Builtin.Int.intBits (b * 2 ^ Int.toNat 1) ≤ 6000 := bits_mono (bits_lt (Int.le_of_lt f10) hB3) (by omega)
  have hahl : (a * 2 ^ Int.toNat 1) / 2 ^ (k + 1) < 2 ^ (k + 1) := by rw [Int.ediv_lt_iff_lt_mul (two_pow_posI _)]; exact Int.lt_trans hAB2 (Int.mul_lt_mul_of_pos_right hB3 (two_pow_posI _))
  have hbah : Builtin.Int.intBits ((a * 2 ^ Int.toNat 1) / 2 ^ (k + 1)) ≤ (k + 1) := bits_lt f1 hahl
  have hbb1 : Builtin.Int.intBits ((b * 2 ^ Int.toNat 1) / 2 ^ h) ≤ 6000 := by rw [← fdiv_pow]; exact intBits_fdiv_le hbB
  have hbb2 : Builtin.Int.intBits ((b * 2 ^ Int.toNat 1) % 2 ^ h) ≤ 6000 := bits_mono (bits_lt f3.1 f3.2) (by omega)
  refine byG fun G9 hG9 => ?_
  obtain ⟨g1, g2, g3, g4, g5, g6, g7, g8, g9⟩ := d2_final hP f9 f8 f10 f7 (Int.ediv_nonneg hA2 (Int.le_of_lt hP))
  refine hG9 ?_
  clear hG9 G9
  have h1 : Int.fdiv (a * 2 ^ Int.toNat 1) (2 ^ Int.toNat ((k : Int) + 1)) = (a * 2 ^ Int.toNat 1) / 2 ^ (k + 1) := by rw [hkk, fdiv_pow]
  have h2 : Int.fdiv (a * 2 ^ Int.toNat 1) (2 ^ Int.toNat (h : Int)) = (a * 2 ^ Int.toNat 1) / 2 ^ h := by rw [htk, fdiv_pow]
  have h3 : Builtin.bitAnd ((a * 2 ^ Int.toNat 1) / 2 ^ h) (1 * 2 ^ Int.toNat (h : Int) - 1) = (a * 2 ^ Int.toNat 1) / 2 ^ h % 2 ^ h := by rw [htk, bitAnd_mask1 (Int.ediv_nonneg hA2 (Int.le_of_lt hP))]
  have h4 : Int.fdiv (b * 2 ^ Int.toNat 1) (2 ^ Int.toNat (h : Int)) = (b * 2 ^ Int.toNat 1) / 2 ^ h := by rw [htk, fdiv_pow]
  have h5 : Builtin.bitAnd (b * 2 ^ Int.toNat 1) (1 * 2 ^ Int.toNat (h : Int) - 1) = (b * 2 ^ Int.toNat 1) % 2 ^ h := by rw [htk, bitAnd_mask1 (Int.le_of_lt f10)]
  have h6 : Builtin.bitAnd (a * 2 ^ Int.toNat 1) (1 * 2 ^ Int.toNat (h : Int) - 1) = (a * 2 ^ Int.toNat 1) % 2 ^ h := by rw [htk, bitAnd_mask1 hA2]
  have C1 := fun u1 u2 u3 u4 u5 u6 => @ctr_3n2n w p loose mean mg mb _ _ _ _ _ h u1 u2 u3 u4 u5 u6 (by omega) f2 f3 f4 f5 f1 (by rw [f6]; exact f7) hbB hbb1 hbb2 (bits_mono hbah (by omega))
  rw [f6] at C1
  have C2 := fun u1 u2 u3 u4 u5 u6 => @ctr_3n2n w p loose mean mg mb (Int.fmod ((a * 2 ^ Int.toNat 1) / 2 ^ h) (b * 2 ^ Int.toNat 1)) ((a * 2 ^ Int.toNat 1) % 2 ^ h) _ _ _ h u1 u2 u3 u4 u5 u6 (by omega) f2 f3 f4 f8 g3 g5 hbB hbb1 hbb2 (bits_mono (bits_lt g3 (Int.lt_trans g4 hB3)) (by omega))
  have hbr : Builtin.Int.intBits (Int.fmod ((a * 2 ^ Int.toNat 1) / 2 ^ h) (b * 2 ^ Int.toNat 1)) ≤ (k + 1) := bits_lt g3 (Int.lt_trans g4 hB3)
  have hbq : Builtin.Int.intBits (Int.fdiv ((a * 2 ^ Int.toNat 1) / 2 ^ h) (b * 2 ^ Int.toNat 1)) ≤ 3000 := bits_mono (bits_lt g1 g2) (by omega)
  generalize hq1 : Int.fdiv ((a * 2 ^ Int.toNat 1) / 2 ^ h) (b * 2 ^ Int.toNat 1) = q1 at *
  generalize hr1 : Int.fmod ((a * 2 ^ Int.toNat 1) / 2 ^ h) (b * 2 ^ Int.toNat 1) = r1 at *
  generalize hq2 : Int.fdiv (r1 * 2 ^ h + (a * 2 ^ Int.toNat 1) % 2 ^ h) (b * 2 ^ Int.toNat 1) = q2 at *
  generalize hr2 : Int.fmod (r1 * 2 ^ h + (a * 2 ^ Int.toNat 1) % 2 ^ h) (b * 2 ^ Int.toNat 1) = r2 at *
  obtain ⟨e8, e9⟩ := hfin _ _ g8 g9
  generalize hah : (a * 2 ^ Int.toNat 1) / 2 ^ (k + 1) = ah at *
  generalize ha3 : (a * 2 ^ Int.toNat 1) / 2 ^ h % 2 ^ h = a3 at *
  generalize ham : (a * 2 ^ Int.toNat 1) / 2 ^ h = am at *
  generalize hb1 : (b * 2 ^ Int.toNat 1) / 2 ^ h = b1 at *
  generalize hb2 : (b * 2 ^ Int.toNat 1) % 2 ^ h = b2 at *
  generalize halo : (a * 2 ^ Int.toNat 1) % 2 ^ h = alo at *
  clear f1 f2 f3 f4 f5 f6 f7 f8 f9 hfin
  k_extra "M ENTER"
  clear hg
  k_with "call ref" => (refine hold ?_)
  k_steps
  all_goals (try dsimp only)
  refine unhold ?_


  refine (C1 _ _ _ _ _ _).use B' (by assumption) X' T' rfl Off.nil (by k_extra "M ROOM") (by k_extra "M UNITS") (by omega) ?_
  rintro r h9 tk9 F9 K9 hp95
  refine byG fun G9 hG9 => ?_
  obtain ⟨u1, u2, a9, rfl, hm⟩ := hp95
  refine hG9 ?_
  clear hG9 G9
  have N9 := hm.news (by assumption) (K9.news0 (by assumption))
  k_steps
  all_goals (try dsimp only)
  refine unhold ?_
  refine (C2 _ _ _ _ _ _).use B' (by assumption) X' T' rfl Off.nil (by k_extra "M ROOM") (by k_extra "M UNITS") (by omega) ?_
  rintro r h8 tk8 F8 K8 hp95
  refine byG fun G9 hG9 => ?_
  obtain ⟨u1, u2, a8, rfl, hm8⟩ := hp95
  refine hG9 ?_
  clear hG9 G9
  have N8 := hm8.news (by assumption) (K8.news0 (by assumption))
  k_steps
  all_goals (try dsimp only)
  have e10 : Builtin.bitOr (q1 * 2 ^ Int.toNat (h : Int)) q2 = Int.fdiv a b := by rw [htk, bitOr_add g1 g6 g7, e8]
  rename News _ _ _ _ => nE
  rw [e10] at nE
  skip
  (repeat k_extra "M un")
  refine done_of (hret _ _ _ (hFr _ (hKeep _ _ _ (by assumption))) (hKeep _ _ _ (by assumption)) ?_)
  exact ⟨_, _, _, rfl, .of hNew (by assumption) (.head _) List.not_mem_nil⟩

/-- _div2n1n, whole -/
theorem ctr_2n1n {w : World} {p : Program} {loose : List Str} {mean : ExcName → Option Value} {mg mb : Str → Option Value} (a b : Int) (k : Nat) (t1 t2 t3 : Tok) (hk1 : 1 ≤ k) (hk2 : k ≤ 5890) (ha : 0 ≤ a) (hab : a < b * 2 ^ k) (hb : 2 ^ (k - 1) ≤ b ∧ b < 2 ^ k) :
    Ctr w (hd.heap_1 w.params) p loose mean mg mb 28 4 [] [.int a t1, .int b t2, .int (k : Int) t3] (fun _ => True) (Pair (Int.fdiv a b) (Int.fmod a b)) := by
  have hb0 : 0 < b := Int.lt_of_lt_of_le (two_pow_posI _) hb.1
  by_cases hbig : (4000 : Int) < Builtin.Int.intBits a - k
  · rcases Nat.mod_two_eq_zero_or_one k with h | h
    · exact ctr_2n1n_e a b k (k / 2) t1 t2 t3 (by omega) (by omega) hk1 ha hab hb hbig
    · exact ctr_2n1n_o a b k ((k + 1) / 2) t1 t2 t3 (by omega) (by omega) hk1 ha hab hb hbig
  · exact (ctr_leaf a b k t1 t2 t3 (Int.ne_of_gt hb0) (bits_mono (bits_lt (Int.le_of_lt hb0) hb.2) (by omega))).mono (by decide) (fun _ _ => by omega) (fun _ _ _ _ h => h)
end

section
theorem hush_C_subst : True := by
  k_with_none
  w_top off
  trivial
theorem rules_C_subst_0 : True := by
  k_with "M ne" => first | exact NeW.l (by with_reducible assumption) | exact NeW.r (by with_reducible assumption) | (refine neN ?_; (try dsimp only); omega)
  k_with "M bits" => first | with_reducible assumption | exact bits_pow2 (by omega)
  k_with "M mem" => first | exact List.Mem.head _ | exact mem1 | exact mem2 | exact mem3 | exact mem4 | exact mem5 | exact mem6 | exact mem7 | exact mem8 | exact mem9 | exact mem10 | exact mem11 | exact mem12 | exact mem13
  trivial

noncomputable def costS (x y : Str) : Int := if x = y then 0 else if Txt.lower x = Txt.lower y then 1 else 2
theorem enterR_C_subst_0 : True := by
  k_with_none
  k_with "M ne" => first | exact NeW.l (by with_reducible assumption) | exact NeW.r (by with_reducible assumption) | (refine neN ?_; (try dsimp only); omega)
  k_with "M bits" => first | with_reducible assumption | exact bits_pow2 (by omega)
  k_with "M mem" => first | exact List.Mem.head _ | exact mem1 | exact mem2 | exact mem3 | exact mem4 | exact mem5 | exact mem6 | exact mem7 | exact mem8 | exact mem9 | exact mem10 | exact mem11 | exact mem12 | exact mem13
  k_with "M nw" => (try simp only [AllNw, and_true]); (try dsimp only); (repeat' constructor) <;> first | with_reducible assumption | (refine NeW.of ?_; k_ne)
  k_with "M sub2" => repeat (first | exact List.forall_mem_nil _ | refine fcons ⟨_, by k_mem⟩ ?_)
  k_with "M off" => repeat (first | exact List.forall_mem_nil _ | refine fcons (nin1 (by (try dsimp only); k_ne)) ?_)
  k_with "M sub" => repeat (first | exact List.forall_mem_nil _ | (refine fcons ?k9w ?_; (case k9w => k_mem)))
  k_with "M same" => intro z h1 h2 h3; (try dsimp only); (repeat (first | refine same_if (by first | exact h1 | exact ne_ps h2 rfl | exact ne_st h3 rfl) ?_ | exact rfl | exact same_st h3 | exact same_kst h2 h3 | refine same_k (by repeat (first | exact List.forall_mem_nil _ | refine fcons (by first | exact h1 | exact ne_ps h2 rfl | exact ne_st h3 rfl) ?_)) ?_ | refine same_c (by repeat (first | exact nc_nil | refine nc_cons (by first | exact h1 | exact ne_ps h2 rfl | exact ne_st h3 rfl) ?_)) ?_))
  k_with "M ROOM" => first | omega | ktr_room | ((try dsimp only [Around.deeper, ktrTop]); omega)
  k_with "M UNITS" => first | omega | ((try dsimp only [Around.deeper, ktrTop]); omega) | ktr_units
  k_with "execs cons" => (try k_fold); with_reducible first | refine seqL ?_ | (refine seqV ?_; intro Q8 q8)
  k_with "M un" => with_reducible first | (refine seqVN (s := s1) (by assumption) ?_; intro tk8; try clear q8 Q8) | (refine seqVN (s := s) (by assumption) ?_; intro tk8; try clear q8 Q8) | refine seqVR (by assumption) ?_ | refine seqVM (by assumption) ?_ | refine seqVB (by assumption) ?_ | refine seqVC (by assumption) ?_
  k_with "eval Name" => k_here; k_dflt (refine' nameX_L ?k9F ?k9v ?_ ?k9a ?k9b; (case k9F => k_asm); (case k9a => exact Eq.refl _); (case k9b => exact Eq.refl (some NameKind.local)); (case k9v => exact Eq.refl (some _)); k_whole)
  k_with "M ENTER" => (
    unfold Ctr PR
    k_fill
    intro dp un gd cn cs aF ccd clF outer A₀ base h₀ L mF s Q E B F X T hke hOff hdp hun hPre hret
    first
    | (refine' enter B F X T hke hOff ?hz ?k6 ?k7 ?k8 ?k9 ?kB ?c5 ?c2 ?c3 ?c4 ?_
       (case k6 => exact (X.keeps F.keep) _ _ (by k_is))
       (case k7 => exact codeRec_of (X.keeps F.keep) (by k_is))
       (case hz => first | exact (fun _ h => absurd h List.not_mem_nil) | k_extra "M HZ")
       (case k8 => omega)
       (case k9 => first | exact BindsTo.of_eq rfl | exact binds_K (by k_in) rfl (by k_is) rfl rfl rfl | exact (fun M A E Q hq Γ p _ => wp_of_peek (X.keeps F.keep) hq _ (by rfl)) | fail "k_enter: no rule for these arguments")
       (case kB => exact locs rfl)
       (case c5 => decide)
       (case c2 => exact rfl)
       (case c3 => exact rfl)
       (case c4 => exact rfl)
       intro g h₁ F' hk1 hFr hKeep hg hOff' B' X' T' en7 Ar7 Qf7 Ef7
       have N' : News g s.heap.objs.size h₁ [] := News.nil
       have hNew := new_of hg
       try dsimp only
       clear B F X T hke hOff)
    | (refine' enterC B F X T hke hOff ?hz ?k6 ?k7 ?k8 ?k9 ?kB ?kD ?c2 ?c3 ?c4 ?_
       (case k6 => exact (X.keeps F.keep) _ _ (by k_is))
       (case k7 => exact codeRec_of (X.keeps F.keep) (by k_is))
       (case hz => first | exact (fun _ h => absurd h List.not_mem_nil) | k_extra "M HZ")
       (case k8 => omega)
       (case k9 => first | exact BindsTo.of_eq rfl | exact binds_K (by k_in) rfl (by k_is) rfl rfl rfl | exact (fun M A E Q hq Γ p _ => wp_of_peek (X.keeps F.keep) hq _ (by rfl)) | fail "k_enter: no rule for these arguments")
       (case kB => exact rfl)
       (case kD => decide +kernel)
       (case c2 => exact rfl)
       (case c3 => exact rfl)
       (case c4 => exact rfl)
       intro g h₁ tk' cells' F' N' Y' hk1 hFr hKeep hg hOff' B' X' T' en7 Ar7 Qf7 Ef7
       first
       | (obtain ⟨oc1, hE', dc1⟩ := CellsAre.one Y'; subst hE')
       | (obtain ⟨oc1, oc2, hE', dc1, dc2⟩ := CellsAre.two Y'; subst hE')
       | (obtain ⟨oc1, oc2, oc3, hE', dc1, dc2, dc3⟩ := CellsAre.three Y'; subst hE')
       | (obtain ⟨oc1, oc2, oc3, oc4, hE', dc1, dc2, dc3, dc4⟩ := CellsAre.four Y'; subst hE')
       clear Y'
       (try simp only [List.cons_append, List.nil_append] at N')
       have hNew := new_of hg
       try dsimp only
       clear B F X T hke hOff)
    )
  trivial
set_option maxHeartbeats 8000000 in
theorem ctr_subst {w : World} {p : Program} {loose : List Str} {mean : ExcName → Option Value} {mg mb : Str → Option Value} (x y : Str) (tx ty : Tok) (hx : x.length ≤ 1) (hy : y.length ≤ 1) :
    Ctr w (hd.heap_1 w.params) p loose mean mg mb 163 1 [] [.str x tx, .str y ty]
      (fun h => True)
      (fun r h h' => ∃ t, r = .int (costS x y) t) := by
  k_extra "M ENTER"
  clear hg
  k_steps
  all_goals (try dsimp only)
  all_goals ((repeat k_extra "M un"); refine done_of (hret _ _ _ (hFr _ (hKeep _ _ _ (by assumption))) (hKeep _ _ _ (by assumption)) (int_post ?_)); simp_all [costS])
end

section
theorem hush_C_text : True := by
  k_with_none
  w_top off
  trivial
theorem rules_C_text_0 : True := by
  k_with "M ne" => first | exact NeW.l (by with_reducible assumption) | exact NeW.r (by with_reducible assumption) | (refine neN ?_; (try dsimp only); omega)
  k_with "M bits" => first | with_reducible assumption | exact bits_pow2 (by omega)
  k_with "M mem" => first | exact List.Mem.head _ | exact mem1 | exact mem2 | exact mem3 | exact mem4 | exact mem5 | exact mem6 | exact mem7 | exact mem8 | exact mem9 | exact mem10 | exact mem11 | exact mem12 | exact mem13
  trivial

noncomputable def signsOf (q : Int) : List Nat := if q = 3 then [97,98,99,100,101,102,103,104,105] else [97,65,98,66,99,67,100,68]
/-- the text of a word -/
noncomputable def textL (q : Int) (a : List Int) : List Nat := (List.range a.length).map fun i : Nat => (signsOf q).getD (q * (i : Int) + a.getD i 0).toNat 0
noncomputable def textOf (q : Int) (a : List Int) : Str := ⟨(textL q a).toArray⟩
theorem strsAre_of : ∀ (n : Nat) (f : Nat → Str) (ys : List Value), ys.length = n → (∀ j, j < n → ∃ y, ys[j]? = some y ∧ ∃ t, y = .str (f j) t) → StrsAre ys ((List.range n).map f)
  | 0, f, ys, hl, _ => by rw [List.length_eq_zero_iff.mp hl]; exact .nil
  | n + 1, f, [], hl, _ => by simp at hl
  | n + 1, f, y :: ys, hl, h => by
    obtain ⟨y', h1, t, h2⟩ := h 0 (Nat.succ_pos _)
    have e : y = .str (f 0) t := by simpa [h2] using h1
    subst e
    rw [List.range_succ_eq_map, List.map_cons, List.map_map]
    refine .cons _ _ (strsAre_of n (f ∘ Nat.succ) ys (by simpa using hl) fun j hj => ?_)
    obtain ⟨z, h3, h4⟩ := h (j + 1) (Nat.succ_lt_succ hj)
    exact ⟨z, by simpa using h3, h4⟩
theorem glue_singles : ∀ (xs : List Nat) (acc : Array Nat), (xs.map fun c => (⟨#[c]⟩ : Str)).foldl (fun acc p => acc ++ (Str.ofString "").cps ++ p.cps) acc = acc ++ xs.toArray
  | [], acc => by simp
  | c :: xs, acc => by
    rw [List.map_cons, List.foldl_cons, glue_singles xs]
    have e : (Str.ofString "").cps = #[] := by decide +kernel
    rw [e]
    apply Array.ext'
    simp
theorem join_singles (xs : List Nat) : Txt.join (Str.ofString "") (xs.map fun c => (⟨#[c]⟩ : Str)) = ⟨xs.toArray⟩ := by
  cases xs with
  | nil => decide +kernel
  | cons c xs =>
    show (⟨_⟩ : Str) = _
    simp only [List.map_cons, List.drop_one, List.tail_cons, List.headD_cons]
    rw [glue_singles]
    congr 1
    apply Array.ext'
    simp
theorem sum_singles : ∀ xs : List Nat, ((xs.map fun c => (⟨#[c]⟩ : Str)).map (·.length)).sum = xs.length
  | [] => rfl
  | c :: xs => by rw [List.map_cons, List.map_cons, List.sum_cons, sum_singles xs, List.length_cons]; show 1 + _ = _; omega
theorem signs3 : (Str.ofString "abcdefghi").cps = (signsOf 3).toArray := by decide +kernel
theorem signs2 : (Str.ofString "aAbBcCdD").cps = (signsOf 2).toArray := by decide +kernel
theorem textL_len (q : Int) (a : List Int) : (textL q a).length = a.length := by unfold textL; rw [List.length_map, List.length_range]
theorem sign_item {x : Str} {L : List Nat} {k : Int} (hx : x.cps = L.toArray) (h0 : 0 ≤ k) (h1 : k < L.length) : Txt.item x k = ⟨#[L.getD k.toNat 0]⟩ := by
  refine item_meets h0 ?_
  rw [hx, List.getElem?_toArray, List.getD_eq_getElem?_getD, List.getElem?_eq_getElem (by omega)]
  rfl

theorem enterR_C_text_0 : True := by
  k_with_none
  k_with "M ne" => first | exact NeW.l (by with_reducible assumption) | exact NeW.r (by with_reducible assumption) | (refine neN ?_; (try dsimp only); omega)
  k_with "M bits" => first | with_reducible assumption | exact bits_pow2 (by omega)
  k_with "M mem" => first | exact List.Mem.head _ | exact mem1 | exact mem2 | exact mem3 | exact mem4 | exact mem5 | exact mem6 | exact mem7 | exact mem8 | exact mem9 | exact mem10 | exact mem11 | exact mem12 | exact mem13
  k_with "M nw" => (try simp only [AllNw, and_true]); (try dsimp only); (repeat' constructor) <;> first | with_reducible assumption | (refine NeW.of ?_; k_ne)
  k_with "M sub2" => repeat (first | exact List.forall_mem_nil _ | refine fcons ⟨_, by k_mem⟩ ?_)
  k_with "M off" => repeat (first | exact List.forall_mem_nil _ | refine fcons (nin1 (by (try dsimp only); k_ne)) ?_)
  k_with "M sub" => repeat (first | exact List.forall_mem_nil _ | (refine fcons ?k9w ?_; (case k9w => k_mem)))
  k_with "M same" => intro z h1 h2 h3; (try dsimp only); (repeat (first | refine same_if (by first | exact h1 | exact ne_ps h2 rfl | exact ne_st h3 rfl) ?_ | exact rfl | exact same_st h3 | exact same_kst h2 h3 | refine same_k (by repeat (first | exact List.forall_mem_nil _ | refine fcons (by first | exact h1 | exact ne_ps h2 rfl | exact ne_st h3 rfl) ?_)) ?_ | refine same_c (by repeat (first | exact nc_nil | refine nc_cons (by first | exact h1 | exact ne_ps h2 rfl | exact ne_st h3 rfl) ?_)) ?_))
  k_with "M ROOM" => first | omega | ktr_room | ((try dsimp only [Around.deeper, ktrTop]); omega)
  k_with "M UNITS" => first | omega | ((try dsimp only [Around.deeper, ktrTop]); omega) | ktr_units
  k_with "execs cons" => (try k_fold); with_reducible first | refine seqL ?_ | (refine seqV ?_; intro Q8 q8)
  k_with "M un" => with_reducible first | (refine seqVN (s := s1) (by assumption) ?_; intro tk8; try clear q8 Q8) | (refine seqVN (s := s) (by assumption) ?_; intro tk8; try clear q8 Q8) | refine seqVR (by assumption) ?_ | refine seqVM (by assumption) ?_ | refine seqVB (by assumption) ?_ | refine seqVC (by assumption) ?_
  k_with "eval Name" => k_here; k_dflt (refine' nameX_L ?k9F ?k9v ?_ ?k9a ?k9b; (case k9F => k_asm); (case k9a => exact Eq.refl _); (case k9b => exact Eq.refl (some NameKind.local)); (case k9v => exact Eq.refl (some _)); k_whole)
  k_with "M ENTER" => (
    unfold Ctr PR
    k_fill
    intro dp un gd cn cs aF ccd clF outer A₀ base h₀ L mF s Q E B F X T hke hOff hdp hun hPre hret
    first
    | (refine' enter B F X T hke hOff ?hz ?k6 ?k7 ?k8 ?k9 ?kB ?c5 ?c2 ?c3 ?c4 ?_
       (case k6 => exact (X.keeps F.keep) _ _ (by k_is))
       (case k7 => exact codeRec_of (X.keeps F.keep) (by k_is))
       (case hz => first | exact (fun _ h => absurd h List.not_mem_nil) | k_extra "M HZ")
       (case k8 => omega)
       (case k9 => first | exact BindsTo.of_eq rfl | exact binds_K (by k_in) rfl (by k_is) rfl rfl rfl | exact (fun M A E Q hq Γ p _ => wp_of_peek (X.keeps F.keep) hq _ (by rfl)) | fail "k_enter: no rule for these arguments")
       (case kB => exact locs rfl)
       (case c5 => decide)
       (case c2 => exact rfl)
       (case c3 => exact rfl)
       (case c4 => exact rfl)
       intro g h₁ F' hk1 hFr hKeep hg hOff' B' X' T' en7 Ar7 Qf7 Ef7
       have N' : News g s.heap.objs.size h₁ [] := News.nil
       have hNew := new_of hg
       try dsimp only
       clear B F X T hke hOff)
    | (refine' enterC B F X T hke hOff ?hz ?k6 ?k7 ?k8 ?k9 ?kB ?kD ?c2 ?c3 ?c4 ?_
       (case k6 => exact (X.keeps F.keep) _ _ (by k_is))
       (case k7 => exact codeRec_of (X.keeps F.keep) (by k_is))
       (case hz => first | exact (fun _ h => absurd h List.not_mem_nil) | k_extra "M HZ")
       (case k8 => omega)
       (case k9 => first | exact BindsTo.of_eq rfl | exact binds_K (by k_in) rfl (by k_is) rfl rfl rfl | exact (fun M A E Q hq Γ p _ => wp_of_peek (X.keeps F.keep) hq _ (by rfl)) | fail "k_enter: no rule for these arguments")
       (case kB => exact rfl)
       (case kD => decide +kernel)
       (case c2 => exact rfl)
       (case c3 => exact rfl)
       (case c4 => exact rfl)
       intro g h₁ tk' cells' F' N' Y' hk1 hFr hKeep hg hOff' B' X' T' en7 Ar7 Qf7 Ef7
       first
       | (obtain ⟨oc1, hE', dc1⟩ := CellsAre.one Y'; subst hE')
       | (obtain ⟨oc1, oc2, hE', dc1, dc2⟩ := CellsAre.two Y'; subst hE')
       | (obtain ⟨oc1, oc2, oc3, hE', dc1, dc2, dc3⟩ := CellsAre.three Y'; subst hE')
       | (obtain ⟨oc1, oc2, oc3, oc4, hE', dc1, dc2, dc3, dc4⟩ := CellsAre.four Y'; subst hE')
       clear Y'
       (try simp only [List.cons_append, List.nil_append] at N')
       have hNew := new_of hg
       try dsimp only
       clear B F X T hke hOff)
    )
  trivial
set_option maxHeartbeats 8000000 in
theorem ctr_text2 {w : World} {p : Program} {loose : List Str} {mean : ExcName → Option Value} {mg mb : Str → Option Value} (l : Addr) (v : List Value) (aa : List Int) (tx : Tok) (hlen : aa.length = 4) (hb : ∀ i, 0 ≤ aa.getD i 0 ∧ aa.getD i 0 < 2)  :
    Ctr w (hd.heap_1 w.params) p loose mean mg mb 175 1 [] [.ref l, .int 2 tx]
      (fun h => h.IsList l v.toArray ∧ IntsAre v aa)
      (fun r _ _ => ∃ t, r = .str (textOf 2 aa) t) := by
  k_extra "M ENTER"
  obtain ⟨hl1, hi1⟩ := hPre
  have hl1' := hl1.at fun o e => hg _ o e List.not_mem_nil
  clear hg hl1
  k_with "CompSrc" => (refine hold ?_)
  k_steps
  refine unhold ?_
  refine LCg.CompSrc.range (n := 4) rfl (by assumption) (by assumption) (by assumption) (by rw [hlen]; decide) (by rw [hlen]; decide) (by decide) (fun g9 => comp_of (fun i v => ∃ t, v = .str ((fun i : Nat => (⟨#[(signsOf 2).getD (2 * (i : Int) + aa.getD i 0).toNat 0]⟩ : Str)) i) t) (fun _ nw => nw = _) ?_ ?_ rfl)
  · intro i v I oI C oC D m₂ h tk E' ys news hi hv hJ hC hx F N off ne
    obtain ⟨t, rfl⟩ := hv
    subst hJ
    have hz : (0 : Int) + (i : Int) = (i : Int) := Int.zero_add _
    rw [hz] at hx
    have hz2 : ((i : Int)).toNat = i := Int.toNat_natCast i
    have hbi := hb ((i : Int)).toNat
    k_steps
    all_goals (try dsimp only)
    rw [sign_item signs2 (by omega) (by rw [show (signsOf 2).length = 8 from by decide +kernel]; omega), hz2]
    exact LCg.CompEnd.intro (by assumption) (by assumption) _ (fun p hp => hp) off trivial ⟨⟨_, rfl⟩, rfl⟩
  · intro ys news hyl hys hnw D h tk F N off
    subst hnw
    have hS := strsAre_of 4 _ ys hyl hys
    have hm : (List.range 4).map (fun i : Nat => (⟨#[(signsOf 2).getD (2 * (i : Int) + aa.getD i 0).toNat 0]⟩ : Str)) = (textL 2 aa).map fun c => (⟨#[c]⟩ : Str) := by
      unfold textL; rw [hlen, List.map_map]; rfl
    rw [hm] at hS
    k_steps
    all_goals (try dsimp only)
    refine join_listW ⟨_, (N _ (.head _)).1, rfl, _, rfl⟩ (by simpa using hS) (by decide +kernel) (by rw [sum_singles, List.length_map, textL_len, hlen]; decide) ?_
    intro t' k
    (repeat k_extra "M un")
    exact done_of (hret _ _ _ (hFr _ (hKeep _ _ _ F)) (hKeep _ _ _ F) (str_post (join_singles _)))

theorem enterR_C_text_1 : True := by
  k_with_none
  k_with "M ne" => first | exact NeW.l (by with_reducible assumption) | exact NeW.r (by with_reducible assumption) | (refine neN ?_; (try dsimp only); omega)
  k_with "M bits" => first | with_reducible assumption | exact bits_pow2 (by omega)
  k_with "M mem" => first | exact List.Mem.head _ | exact mem1 | exact mem2 | exact mem3 | exact mem4 | exact mem5 | exact mem6 | exact mem7 | exact mem8 | exact mem9 | exact mem10 | exact mem11 | exact mem12 | exact mem13
  k_with "M nw" => (try simp only [AllNw, and_true]); (try dsimp only); (repeat' constructor) <;> first | with_reducible assumption | (refine NeW.of ?_; k_ne)
  k_with "M sub2" => repeat (first | exact List.forall_mem_nil _ | refine fcons ⟨_, by k_mem⟩ ?_)
  k_with "M off" => repeat (first | exact List.forall_mem_nil _ | refine fcons (nin1 (by (try dsimp only); k_ne)) ?_)
  k_with "M sub" => repeat (first | exact List.forall_mem_nil _ | (refine fcons ?k9w ?_; (case k9w => k_mem)))
  k_with "M same" => intro z h1 h2 h3; (try dsimp only); (repeat (first | refine same_if (by first | exact h1 | exact ne_ps h2 rfl | exact ne_st h3 rfl) ?_ | exact rfl | exact same_st h3 | exact same_kst h2 h3 | refine same_k (by repeat (first | exact List.forall_mem_nil _ | refine fcons (by first | exact h1 | exact ne_ps h2 rfl | exact ne_st h3 rfl) ?_)) ?_ | refine same_c (by repeat (first | exact nc_nil | refine nc_cons (by first | exact h1 | exact ne_ps h2 rfl | exact ne_st h3 rfl) ?_)) ?_))
  k_with "M ROOM" => first | omega | ktr_room | ((try dsimp only [Around.deeper, ktrTop]); omega)
  k_with "M UNITS" => first | omega | ((try dsimp only [Around.deeper, ktrTop]); omega) | ktr_units
  k_with "execs cons" => (try k_fold); with_reducible first | refine seqL ?_ | (refine seqV ?_; intro Q8 q8)
  k_with "M un" => with_reducible first | (refine seqVN (s := s1) (by assumption) ?_; intro tk8; try clear q8 Q8) | (refine seqVN (s := s) (by assumption) ?_; intro tk8; try clear q8 Q8) | refine seqVR (by assumption) ?_ | refine seqVM (by assumption) ?_ | refine seqVB (by assumption) ?_ | refine seqVC (by assumption) ?_
  k_with "eval Name" => k_here; k_dflt (refine' nameX_L ?k9F ?k9v ?_ ?k9a ?k9b; (case k9F => k_asm); (case k9a => exact Eq.refl _); (case k9b => exact Eq.refl (some NameKind.local)); (case k9v => exact Eq.refl (some _)); k_whole)
  k_with "M ENTER" => (
    unfold Ctr PR
    k_fill
    intro dp un gd cn cs aF ccd clF outer A₀ base h₀ L mF s Q E B F X T hke hOff hdp hun hPre hret
    first
    | (refine' enter B F X T hke hOff ?hz ?k6 ?k7 ?k8 ?k9 ?kB ?c5 ?c2 ?c3 ?c4 ?_
       (case k6 => exact (X.keeps F.keep) _ _ (by k_is))
       (case k7 => exact codeRec_of (X.keeps F.keep) (by k_is))
       (case hz => first | exact (fun _ h => absurd h List.not_mem_nil) | k_extra "M HZ")
       (case k8 => omega)
       (case k9 => first | exact BindsTo.of_eq rfl | exact binds_K (by k_in) rfl (by k_is) rfl rfl rfl | exact (fun M A E Q hq Γ p _ => wp_of_peek (X.keeps F.keep) hq _ (by rfl)) | fail "k_enter: no rule for these arguments")
       (case kB => exact locs rfl)
       (case c5 => decide)
       (case c2 => exact rfl)
       (case c3 => exact rfl)
       (case c4 => exact rfl)
       intro g h₁ F' hk1 hFr hKeep hg hOff' B' X' T' en7 Ar7 Qf7 Ef7
       have N' : News g s.heap.objs.size h₁ [] := News.nil
       have hNew := new_of hg
       try dsimp only
       clear B F X T hke hOff)
    | (refine' enterC B F X T hke hOff ?hz ?k6 ?k7 ?k8 ?k9 ?kB ?kD ?c2 ?c3 ?c4 ?_
       (case k6 => exact (X.keeps F.keep) _ _ (by k_is))
       (case k7 => exact codeRec_of (X.keeps F.keep) (by k_is))
       (case hz => first | exact (fun _ h => absurd h List.not_mem_nil) | k_extra "M HZ")
       (case k8 => omega)
       (case k9 => first | exact BindsTo.of_eq rfl | exact binds_K (by k_in) rfl (by k_is) rfl rfl rfl | exact (fun M A E Q hq Γ p _ => wp_of_peek (X.keeps F.keep) hq _ (by rfl)) | fail "k_enter: no rule for these arguments")
       (case kB => exact rfl)
       (case kD => decide +kernel)
       (case c2 => exact rfl)
       (case c3 => exact rfl)
       (case c4 => exact rfl)
       intro g h₁ tk' cells' F' N' Y' hk1 hFr hKeep hg hOff' B' X' T' en7 Ar7 Qf7 Ef7
       first
       | (obtain ⟨oc1, hE', dc1⟩ := CellsAre.one Y'; subst hE')
       | (obtain ⟨oc1, oc2, hE', dc1, dc2⟩ := CellsAre.two Y'; subst hE')
       | (obtain ⟨oc1, oc2, oc3, hE', dc1, dc2, dc3⟩ := CellsAre.three Y'; subst hE')
       | (obtain ⟨oc1, oc2, oc3, oc4, hE', dc1, dc2, dc3, dc4⟩ := CellsAre.four Y'; subst hE')
       clear Y'
       (try simp only [List.cons_append, List.nil_append] at N')
       have hNew := new_of hg
       try dsimp only
       clear B F X T hke hOff)
    )
  trivial
set_option maxHeartbeats 8000000 in
theorem ctr_text3 {w : World} {p : Program} {loose : List Str} {mean : ExcName → Option Value} {mg mb : Str → Option Value} (l : Addr) (v : List Value) (aa : List Int) (tx : Tok) (hlen : aa.length = 3) (hb : ∀ i, 0 ≤ aa.getD i 0 ∧ aa.getD i 0 < 3)  :
    Ctr w (hd.heap_1 w.params) p loose mean mg mb 175 1 [] [.ref l, .int 3 tx]
      (fun h => h.IsList l v.toArray ∧ IntsAre v aa)
      (fun r _ _ => ∃ t, r = .str (textOf 3 aa) t) := by
  k_extra "M ENTER"
  obtain ⟨hl1, hi1⟩ := hPre
  have hl1' := hl1.at fun o e => hg _ o e List.not_mem_nil
  clear hg hl1
  k_with "CompSrc" => (refine hold ?_)
  k_steps
  refine unhold ?_
  refine LCg.CompSrc.range (n := 3) rfl (by assumption) (by assumption) (by assumption) (by rw [hlen]; decide) (by rw [hlen]; decide) (by decide) (fun g9 => comp_of (fun i v => ∃ t, v = .str ((fun i : Nat => (⟨#[(signsOf 3).getD (3 * (i : Int) + aa.getD i 0).toNat 0]⟩ : Str)) i) t) (fun _ nw => nw = _) ?_ ?_ rfl)
  · intro i v I oI C oC D m₂ h tk E' ys news hi hv hJ hC hx F N off ne
    obtain ⟨t, rfl⟩ := hv
    subst hJ
    have hz : (0 : Int) + (i : Int) = (i : Int) := Int.zero_add _
    rw [hz] at hx
    have hz2 : ((i : Int)).toNat = i := Int.toNat_natCast i
    have hbi := hb ((i : Int)).toNat
    k_steps
    all_goals (try dsimp only)
    rw [sign_item signs3 (by omega) (by rw [show (signsOf 3).length = 9 from by decide +kernel]; omega), hz2]
    exact LCg.CompEnd.intro (by assumption) (by assumption) _ (fun p hp => hp) off trivial ⟨⟨_, rfl⟩, rfl⟩
  · intro ys news hyl hys hnw D h tk F N off
    subst hnw
    have hS := strsAre_of 3 _ ys hyl hys
    have hm : (List.range 3).map (fun i : Nat => (⟨#[(signsOf 3).getD (3 * (i : Int) + aa.getD i 0).toNat 0]⟩ : Str)) = (textL 3 aa).map fun c => (⟨#[c]⟩ : Str) := by
      unfold textL; rw [hlen, List.map_map]; rfl
    rw [hm] at hS
    k_steps
    all_goals (try dsimp only)
    refine join_listW ⟨_, (N _ (.head _)).1, rfl, _, rfl⟩ (by simpa using hS) (by decide +kernel) (by rw [sum_singles, List.length_map, textL_len, hlen]; decide) ?_
    intro t' k
    (repeat k_extra "M un")
    exact done_of (hret _ _ _ (hFr _ (hKeep _ _ _ F)) (hKeep _ _ _ F) (str_post (join_singles _)))
end

section
theorem hush_C_fits : True := by
  k_with_none
  w_top off
  trivial
theorem getD_bnd {xs : List Int} (h : ∀ x ∈ xs, 0 ≤ x ∧ x < 3) (i : Nat) : 0 ≤ xs.getD i 0 ∧ xs.getD i 0 < 3 := by
  rw [List.getD_eq_getElem?_getD]
  cases e : xs[i]? with
  | none => simp
  | some v => exact h v (List.mem_of_getElem? e)
theorem getD_mul {xs : List Int} (h : ∀ x ∈ xs, 0 ≤ x ∧ x < 3) (i : Nat) (b : Int) : IntMulOk (xs.getD i 0) b :=
  IntMulOk.of_left (intBits_le_64 (by have := (getD_bnd h i).1; omega) (by have := (getD_bnd h i).2; omega))
local macro_rules | `(tactic| mul_fits) => `(tactic| k_extra "M fits")
theorem rules_C_fits_0 : True := by
  k_with "M ne" => first | exact NeW.l (by with_reducible assumption) | exact NeW.r (by with_reducible assumption) | (refine neN ?_; (try dsimp only); omega)
  k_with "M bits" => first | with_reducible assumption | exact bits_pow2 (by omega)
  k_with "M mem" => first | exact List.Mem.head _ | exact mem1 | exact mem2 | exact mem3 | exact mem4 | exact mem5 | exact mem6 | exact mem7 | exact mem8 | exact mem9 | exact mem10 | exact mem11 | exact mem12 | exact mem13
  k_with "M fits" => exact getD_mul (by assumption) _ _
  trivial
/-- the words' product, place by place, is a multiple of q -/
noncomputable def fitsL (q : Int) (x1 x2 : List Int) : Bool := Int.fmod (((rangeKs 0 ((x1.length : Int) - 0).toNat).map fun k => x1.getD k.toNat 0 * x2.getD k.toNat 0).sum) q == 0
theorem enterR_C_fits_0 : True := by
  k_with_none
  k_with "M ne" => first | exact NeW.l (by with_reducible assumption) | exact NeW.r (by with_reducible assumption) | (refine neN ?_; (try dsimp only); omega)
  k_with "M bits" => first | with_reducible assumption | exact bits_pow2 (by omega)
  k_with "M mem" => first | exact List.Mem.head _ | exact mem1 | exact mem2 | exact mem3 | exact mem4 | exact mem5 | exact mem6 | exact mem7 | exact mem8 | exact mem9 | exact mem10 | exact mem11 | exact mem12 | exact mem13
  k_with "M fits" => exact getD_mul (by assumption) _ _
  k_with "M nw" => (try simp only [AllNw, and_true]); (try dsimp only); (repeat' constructor) <;> first | with_reducible assumption | (refine NeW.of ?_; k_ne)
  k_with "M sub2" => repeat (first | exact List.forall_mem_nil _ | refine fcons ⟨_, by k_mem⟩ ?_)
  k_with "M off" => repeat (first | exact List.forall_mem_nil _ | refine fcons (nin1 (by (try dsimp only); k_ne)) ?_)
  k_with "M sub" => repeat (first | exact List.forall_mem_nil _ | (refine fcons ?k9w ?_; (case k9w => k_mem)))
  k_with "M same" => intro z h1 h2 h3; (try dsimp only); (repeat (first | refine same_if (by first | exact h1 | exact ne_ps h2 rfl | exact ne_st h3 rfl) ?_ | exact rfl | exact same_st h3 | exact same_kst h2 h3 | refine same_k (by repeat (first | exact List.forall_mem_nil _ | refine fcons (by first | exact h1 | exact ne_ps h2 rfl | exact ne_st h3 rfl) ?_)) ?_ | refine same_c (by repeat (first | exact nc_nil | refine nc_cons (by first | exact h1 | exact ne_ps h2 rfl | exact ne_st h3 rfl) ?_)) ?_))
  k_with "M ROOM" => first | omega | ktr_room | ((try dsimp only [Around.deeper, ktrTop]); omega)
  k_with "M UNITS" => first | omega | ((try dsimp only [Around.deeper, ktrTop]); omega) | ktr_units
  k_with "execs cons" => (try k_fold); with_reducible first | refine seqL ?_ | (refine seqV ?_; intro Q8 q8)
  k_with "M un" => with_reducible first | (refine seqVN (s := s1) (by assumption) ?_; intro tk8; try clear q8 Q8) | (refine seqVN (s := s) (by assumption) ?_; intro tk8; try clear q8 Q8) | refine seqVR (by assumption) ?_ | refine seqVM (by assumption) ?_ | refine seqVB (by assumption) ?_ | refine seqVC (by assumption) ?_
  k_with "eval Name" => k_here; k_dflt (refine' nameX_L ?k9F ?k9v ?_ ?k9a ?k9b; (case k9F => k_asm); (case k9a => exact Eq.refl _); (case k9b => exact Eq.refl (some NameKind.local)); (case k9v => exact Eq.refl (some _)); k_whole)
  k_with "M ENTER" => (
    unfold Ctr PR
    k_fill
    intro dp un gd cn cs aF ccd clF outer A₀ base h₀ L mF s Q E B F X T hke hOff hdp hun hPre hret
    first
    | (refine' enter B F X T hke hOff ?hz ?k6 ?k7 ?k8 ?k9 ?kB ?c5 ?c2 ?c3 ?c4 ?_
       (case k6 => exact (X.keeps F.keep) _ _ (by k_is))
       (case k7 => exact codeRec_of (X.keeps F.keep) (by k_is))
       (case hz => first | exact (fun _ h => absurd h List.not_mem_nil) | k_extra "M HZ")
       (case k8 => omega)
       (case k9 => first | exact BindsTo.of_eq rfl | exact binds_K (by k_in) rfl (by k_is) rfl rfl rfl | exact (fun M A E Q hq Γ p _ => wp_of_peek (X.keeps F.keep) hq _ (by rfl)) | fail "k_enter: no rule for these arguments")
       (case kB => exact locs rfl)
       (case c5 => decide)
       (case c2 => exact rfl)
       (case c3 => exact rfl)
       (case c4 => exact rfl)
       intro g h₁ F' hk1 hFr hKeep hg hOff' B' X' T' en7 Ar7 Qf7 Ef7
       have N' : News g s.heap.objs.size h₁ [] := News.nil
       have hNew := new_of hg
       try dsimp only
       clear B F X T hke hOff)
    | (refine' enterC B F X T hke hOff ?hz ?k6 ?k7 ?k8 ?k9 ?kB ?kD ?c2 ?c3 ?c4 ?_
       (case k6 => exact (X.keeps F.keep) _ _ (by k_is))
       (case k7 => exact codeRec_of (X.keeps F.keep) (by k_is))
       (case hz => first | exact (fun _ h => absurd h List.not_mem_nil) | k_extra "M HZ")
       (case k8 => omega)
       (case k9 => first | exact BindsTo.of_eq rfl | exact binds_K (by k_in) rfl (by k_is) rfl rfl rfl | exact (fun M A E Q hq Γ p _ => wp_of_peek (X.keeps F.keep) hq _ (by rfl)) | fail "k_enter: no rule for these arguments")
       (case kB => exact rfl)
       (case kD => decide +kernel)
       (case c2 => exact rfl)
       (case c3 => exact rfl)
       (case c4 => exact rfl)
       intro g h₁ tk' cells' F' N' Y' hk1 hFr hKeep hg hOff' B' X' T' en7 Ar7 Qf7 Ef7
       first
       | (obtain ⟨oc1, hE', dc1⟩ := CellsAre.one Y'; subst hE')
       | (obtain ⟨oc1, oc2, hE', dc1, dc2⟩ := CellsAre.two Y'; subst hE')
       | (obtain ⟨oc1, oc2, oc3, hE', dc1, dc2, dc3⟩ := CellsAre.three Y'; subst hE')
       | (obtain ⟨oc1, oc2, oc3, oc4, hE', dc1, dc2, dc3, dc4⟩ := CellsAre.four Y'; subst hE')
       clear Y'
       (try simp only [List.cons_append, List.nil_append] at N')
       have hNew := new_of hg
       try dsimp only
       clear B F X T hke hOff)
    )
  trivial
set_option maxHeartbeats 8000000 in
theorem ctr_fits {w : World} {p : Program} {loose : List Str} {mean : ExcName → Option Value} {mg mb : Str → Option Value} (l1 l2 : Addr) (v1 v2 : List Value) (x1 x2 : List Int) (q : Int) (tq : Tok)
   (hx1 : x1.length ≤ 4) (hx2 : x2.length = x1.length) (hb1 : ∀ x ∈ x1, 0 ≤ x ∧ x < 3) (hq : 2 ≤ q ∧ q ≤ 3):
    Ctr w (hd.heap_1 w.params) p loose mean mg mb 180 1 [] [.ref l1, .ref l2, .int q tq]
      (fun h => h.IsList l1 v1.toArray ∧ IntsAre v1 x1 ∧ h.IsList l2 v2.toArray ∧ IntsAre v2 x2)
      (fun r _ _ => r = .bool (fitsL q x1 x2)) := by
  k_extra "M ENTER"
  refine byG fun G9 hG9 => ?_
  obtain ⟨hl1, hi1, hl2, hi2⟩ := hPre
  refine hG9 ?_
  clear hG9 G9
  have hl1' := hl1.at fun o e => hg _ o e List.not_mem_nil
  have hl2' := hl2.at fun o e => hg _ o e List.not_mem_nil
  clear hl1 hl2 hg
  k_steps
  all_goals (try dsimp only)
  (repeat k_extra "M un")
  exact done_of (hret _ _ _ (hFr _ (hKeep _ _ _ (by assumption))) (hKeep _ _ _ (by assumption)) rfl)
end

section
theorem hush_C_i2d : True := by
  k_with_none
  w_top off
  trivial
theorem rules_C_i2d_0 : True := by
  k_with "M ne" => first | exact NeW.l (by with_reducible assumption) | exact NeW.r (by with_reducible assumption) | (refine neN ?_; (try dsimp only); omega)
  k_with "M bits" => first | with_reducible assumption | exact bits_pow2 (by omega)
  k_with "M mem" => first | exact List.Mem.head _ | exact mem1 | exact mem2 | exact mem3 | exact mem4 | exact mem5 | exact mem6 | exact mem7 | exact mem8 | exact mem9 | exact mem10 | exact mem11 | exact mem12 | exact mem13
  k_with "M nw" => (try simp only [AllNw, and_true]); (try dsimp only); (repeat' constructor) <;> first | with_reducible assumption | (refine NeW.of ?_; k_ne)
  k_with "M sub2" => repeat (first | exact List.forall_mem_nil _ | refine fcons ⟨_, by k_mem⟩ ?_)
  k_with "M off" => repeat (first | exact List.forall_mem_nil _ | refine fcons (nin1 (by (try dsimp only); k_ne)) ?_)
  k_with "M sub" => repeat (first | exact List.forall_mem_nil _ | (refine fcons ?k9w ?_; (case k9w => k_mem)))
  k_with "subscriptTail Name Slice ref ref" => refine' slice_all_led ?k9F ?k9N ?k9l ?k9z ?k9p ?k9q ?_ ?k9s ?k9t; (case k9F => k_asm); (case k9N => k_asm); (case k9l => k_mem); (case k9z => omega); (case k9p => kmk_part); (case k9q => kmk_part); (case k9s => with_unfolding_all rfl); (case k9t => kmk_pure); intro k9D k9h k9F k9N k9l1; (try k_lt k9l1); (try k_sweep)
  k_with "M same" => intro z h1 h2 h3; (try dsimp only); (repeat (first | refine same_if (by first | exact h1 | exact ne_ps h2 rfl | exact ne_st h3 rfl) ?_ | exact rfl | exact same_st h3 | exact same_kst h2 h3 | refine same_k (by repeat (first | exact List.forall_mem_nil _ | refine fcons (by first | exact h1 | exact ne_ps h2 rfl | exact ne_st h3 rfl) ?_)) ?_ | refine same_c (by repeat (first | exact nc_nil | refine nc_cons (by first | exact h1 | exact ne_ps h2 rfl | exact ne_st h3 rfl) ?_)) ?_))
  k_with "call builtin:list.append" => refine' append_led ?k9la ?k9lb ?k9lc ?k9ld ?_; (case k9la => k_asm); (case k9lb => k_asm); (case k9lc => k_upd); (case k9ld => omega); intro k9h k9F k9N; (try k_sweep)
  k_with "call builtin:list.reverse" => refine' reverse_led ?k9la ?k9lb ?k9lc ?k9ld ?_; (case k9la => k_asm); (case k9lb => k_asm); (case k9lc => k_upd); (case k9ld => omega); intro k9h k9F k9N; (try k_sweep)
  k_with "binaryOp LShift int int" => refine' lshift_bits ?k9la ?k9lb ?k9lc ?k9ld ?_; (case k9la => omega); (case k9lb => omega); (case k9lc => bits_by_make); (case k9ld => decide)
  k_with "inplaceOp LShift int int" => refine' ilshift_bits ?k9la ?k9lb ?k9lc ?k9ld ?_; (case k9la => omega); (case k9lb => omega); (case k9lc => bits_by_make); (case k9ld => decide)
  k_with "M ROOM" => first | omega | ktr_room | ((try dsimp only [Around.deeper, ktrTop]); omega)
  k_with "M UNITS" => first | omega | ((try dsimp only [Around.deeper, ktrTop]); omega) | ktr_units
  k_with "execs cons" => (try k_fold); with_reducible first | refine seqL ?_ | (refine seqV ?_; intro Q8 q8)
  k_with "M un" => with_reducible first | (refine seqVN (s := s1) (by assumption) ?_; intro tk8; try clear q8 Q8) | (refine seqVN (s := s) (by assumption) ?_; intro tk8; try clear q8 Q8) | refine seqVR (by assumption) ?_ | refine seqVM (by assumption) ?_ | refine seqVB (by assumption) ?_ | refine seqVC (by assumption) ?_
  k_with "eval Name" => k_here; k_dflt (refine' nameX_L ?k9F ?k9v ?_ ?k9a ?k9b; (case k9F => k_asm); (case k9a => exact Eq.refl _); (case k9b => exact Eq.refl (some NameKind.local)); (case k9v => exact Eq.refl (some _)); k_whole)
  trivial

/-- the code table of _int2digits, filled -/
noncomputable abbrev tripA (c : Addr) : Array Value := #[rawInt ((35 : Nat) : Int), rawInt ((4 : Nat) : Int), .ref c]
noncomputable def qualA : Str := Str.ofString "_int2digits" ++ ".<locals>." ++ Str.ofString "inner"
/-- the table is filled by a code made since -/
inductive HitA (h h' : Heap) : Prop
  | mk (c : _) (o : _) (h9x0 : h'.get? 37 = some (tabObj (tripA c))) (h9x1 : MadeAt h h' c o) (h9x2 : CodeObj qualA o) : HitA h h'
/-- the digits that _int2digits gives back, laid in a made list -/
inductive DigList (n : Nat) (a : Int) (r : Value) (h h' : Heap) : Prop
  | mk (d : _) (vs : _) (h9x0 : r = .ref d) (h9x1 : MadeAt h h' d (W.listOf vs.toArray 0)) (h9x2 : IntsAre vs (i2d n ((Builtin.Int.intBits a + n - 1) / n) a)) : DigList n a r h h'
theorem codeRec_butA {h g : Heap} {P c : Addr} {q : Str} (x : h.CodeRec (.ref c) q) (hg : ∀ b o, h.get? b = some o → b ∉ [P] → g.get? b = some o) (hP : (h.get? P).map (·.data) = some (Data.fields (tripA c)) ) : g.CodeRec (.ref c) q := by
  obtain ⟨c', o, vs, t, e1, e2, e3, e4⟩ := x
  refine ⟨c', o, vs, t, e1, hg _ _ e2 fun hm => ?_, e3, e4⟩
  rw [List.mem_singleton.mp hm] at e2
  rw [e2] at hP
  have h5 : o.data = Data.fields (tripA c) := Option.some.inj hP
  rw [e3] at h5
  cases h5
  cases e4

theorem rules_C_i2d_42 : True := by
  k_with "call builtin:len" => refine' len_led ?k9la ?k9lb ?k9lc ?k9ld ?_; (case k9la => assumption); (case k9lb => k_mem); (case k9lc => assumption); (case k9ld => omega); intro _ _; (try dsimp only)
  k_with "eval Name" => k_here; k_dflt (refine' nameX_G ?k9F ?k9c ?k9m ?k9d ?_ ?k9a ?k9b (by decide) (by decide); (case k9a => rfl); (case k9b => rfl); (case k9F => k_asm); (case k9c => rfl); (case k9m => k_asm); (case k9d => k_asm); k_whole)
  k_with "callWith ref" => k_here; k_dflt (refine' callWith_F ?k9k1 ?_; (case k9k1 => exact FnAt.ofG (by assumption) (by assumption)); k_whole)
  k_with "FnAt" => exact FnAt.ofG (by assumption) (by assumption)
  k_with "binaryOp RShift int int" => refine' rshift_eq ?k9ra ?k9rb ?_; (case k9ra => omega); (case k9rb => assumption)
  k_with "binaryOp BitXor int int" => refine' xor_eq ?k9rb ?_; (case k9rb => assumption)
  k_with "binaryOp Mult int int" => refine' mul_eq ?k9rb ?k9rc ?_; (case k9rb => assumption); (case k9rc => mul_fits)
  k_with "binaryOp Mult ref int" => refine hold ?_
  trivial
noncomputable def i2dO (P : Params) : { o : Obj // (hd.heap_1 P).lookup 42 = some o } := by
  refine ⟨?o, ?h⟩
  case h => exact rfl
noncomputable def i2dB (P : Params) : List Stmt := match (i2dO P).1.data with | .func fd => (match fd.body with | .stmts b => b | _ => []) | _ => []
noncomputable def inDef : List Stmt → Arguments × List Stmt × Scope
  | _ :: .FunctionDef _ params body _ _ _ scope _ _ _ :: _ => (params, body, scope)
  | _ => ({ posonlyargs := [], args := [], vararg := none, kwonlyargs := [], kw_defaults := [], kwarg := none, defaults := [] }, [], { kind := .function, names := [], isGenerator := false, isCoroutine := false })
noncomputable def inP (P : Params) : Arguments := (inDef (i2dB P)).1
noncomputable def inB (P : Params) : List Stmt := (inDef (i2dB P)).2.1
noncomputable def inS (P : Params) : Scope := (inDef (i2dB P)).2.2
/-- the inner def as it was made -/
noncomputable def inFn (P : Params) (cN cI cD c9 : Addr) (dc pm ct : Value) : Obj := fnMade (Str.ofString "inner") qualA (inP P) (inB P) (inS P) [(Str.ofString "n", cN), (Str.ofString "inner", cI), (Str.ofString "a_digits", cD)] dc pm c9 ct
set_option maxHeartbeats 8000000 in
theorem inner_i2d {w : World} {p : Program} {loose : List Str} {mean : ExcName → Option Value} {mg mb : Str → Option Value} {n k : Nat} {tn : Tok} {f9 c9 dA cN cI cD : Addr} {oN oI oD : Obj} {dc pm ct : Value} (hn : 1 ≤ n ∧ n ≤ 10000) (hkb : k ≤ 100000) (hkN : k * n ≤ 110000)
    (dN : oN.data = .cell (some (.int (n : Int) tn))) (dI : oI.data = .cell (some (.ref f9))) (dD : oD.data = .cell (some (.ref dA))) (nf : @Ne Nat f9 dA) (nN : @Ne Nat cN dA) (nI : @Ne Nat cI dA) (nD : @Ne Nat cD dA) :
    ∀ d Lo Hi : Nat, Hi - Lo ≤ d → Lo < Hi → Hi ≤ k → ∀ (x : Int) (t0 t1 t2 : Tok) (xs : List Int) (vs : List Value), 0 ≤ x → x < 2 ^ (n * (Hi - Lo)) → xs.length = k → IntsAre vs xs →
      Ctr w (hd.heap_1 w.params) p loose mean mg mb f9 d [dA] [.int x t0, .int (Lo : Int) t1, .int (Hi : Int) t2]
        (fun h => h.get? f9 = some (inFn w.params cN cI cD c9 dc pm ct) ∧ h.get? cI = some oI ∧ h.get? cD = some oD ∧ h.get? cN = some oN ∧ h.CodeRec (.ref c9) qualA ∧ h.get? dA = some (W.listOf vs.toArray 0))
        (fun r _ h' => r = .none ∧ ∃ vs', h'.get? dA = some (W.listOf vs'.toArray 0) ∧ IntsAre vs' (setR xs Lo Hi (i2d n (Hi - Lo) x))) := by
  k_with "call ref" => (refine hold ?_)
  intro d
  induction d with
  | zero => intro Lo Hi h1 h2; omega
  | succ d ih =>
    intro Lo Hi hd1 hd2 hd3 x t0 t1 t2 xs vs hx0 hx1 hxl hxi
    unfold Ctr PR
    intro dp2 un2 gd2 cn2 cs2 aF2 ccd2 clF2 outer2 A₂ base2 h₂ L2 m2 s2 Q2 E2 B2 F2 X2 T2 hke2 hOff2 hdp2 hun2 hPre2 hret2
    obtain ⟨p1, p4, p5, p6, hPC, hPD⟩ := hPre2
    have p0 := p1
    dsimp only [inFn, inB, inP, inS, inDef, i2dB, i2dO] at p1
    refine' enter B2 F2 X2 T2 hke2 hOff2 (fun a9 h9 => by rw [List.mem_singleton.mp h9]; exact Heap.lt_size hPD) p1 ?k7 ?k8 ?k9 ?kB ?c5 ?c2 ?c3 ?c4 ?_
    (case k7 => exact hPC)
    (case k8 => omega)
    (case k9 => exact BindsTo.of_eq rfl)
    (case kB => exact locs rfl)
    (case c5 => decide)
    (case c2 => exact rfl)
    (case c3 => exact rfl)
    (case c4 => exact rfl)
    intro g2 h2 F3 hk2 hFr2 hKeep2 hg2 hOff3 B3 X3 T3
    have N3 : News g2 s2.heap.objs.size h2 [(dA, W.listOf vs.toArray 0)] := News.one (hk2 _ _ hPD) (hOff3 dA (.head _))
    have q1 := hg2 _ _ p1 (nin1 nf)
    have q0 := hg2 _ _ p0 (nin1 nf)
    have q4 := hg2 _ _ p4 (nin1 nI)
    have q5 := hg2 _ _ p5 (nin1 nD)
    have q6 := hg2 _ _ p6 (nin1 nN)
    have hPC3 : g2.CodeRec (.ref c9) qualA := codeRec_list hPC hg2 hPD
    clear B2 F2 X2 T2 hke2 hOff2 p0 p1 p4 p5 p6
    have hmid : Int.fdiv ((Lo : Int) + (Hi : Int)) (2 ^ Int.toNat 1) = ((((Lo + Hi) / 2 : Nat)) : Int) := by rw [Int.fdiv_eq_ediv_of_nonneg _ (by decide)]; show _ / 2 = _; omega
    generalize hM : (Lo + Hi) / 2 = M at hmid
    have hsft : ((M : Int) - (Lo : Int)) * (n : Int) = (((M - Lo) * n : Nat) : Int) := by
      by_cases hc : Lo ≤ M
      · rw [Int.natCast_mul, Int.ofNat_sub hc]
      · omega
    have hsb : (M - Lo) * n ≤ 1000000 := by
      have : (M - Lo) * n ≤ k * n := Nat.mul_le_mul_right _ (by omega)
      have h8 : k * n ≤ 110000 := hkN
      omega
    have hxup : Int.fdiv x (2 ^ Int.toNat (((M - Lo) * n : Nat) : Int)) = x / 2 ^ (n * (M - Lo)) := by rw [Int.toNat_natCast, fdiv_pow, Nat.mul_comm]
    have hxlo : Builtin.bitXor x (x / 2 ^ (n * (M - Lo)) * 2 ^ Int.toNat (((M - Lo) * n : Nat) : Int)) = x % 2 ^ (n * (M - Lo)) := by rw [Int.toNat_natCast, Nat.mul_comm (M - Lo), bitXor_lower hx0]
    have hup0 : 0 ≤ x / 2 ^ (n * (M - Lo)) := Int.ediv_nonneg hx0 (Int.le_of_lt (two_pow_posI _))
    have hlo0 : 0 ≤ x % 2 ^ (n * (M - Lo)) := Int.emod_nonneg _ (Int.ne_of_gt (two_pow_posI _))
    have hlo1 : x % 2 ^ (n * (M - Lo)) < 2 ^ (n * (M - Lo)) := Int.emod_lt_of_pos _ (two_pow_posI _)
    have hup1 : Lo ≤ M → M ≤ Hi → x / 2 ^ (n * (M - Lo)) < 2 ^ (n * (Hi - M)) := fun h1 h2 => by
      rw [Int.ediv_lt_iff_lt_mul (two_pow_posI _), ← Int.pow_add, ← Nat.mul_add, show Hi - M + (M - Lo) = Hi - Lo by omega]; exact hx1
    have hubits : Builtin.Int.intBits (x / 2 ^ (n * (M - Lo))) ≤ 1000000 := by
      rw [← fdiv_pow]
      refine intBits_fdiv_le (bits_mono (bits_lt hx0 hx1) ?_)
      have : n * (Hi - Lo) ≤ n * k := Nat.mul_le_mul_left _ (by omega)
      have h8 : k * n ≤ 110000 := hkN
      rw [Nat.mul_comm] at h8
      omega
    have hfin : Lo ≤ M → M ≤ Hi → setR (setR xs Lo M (i2d n (M - Lo) (x % 2 ^ (n * (M - Lo))))) M Hi (i2d n (Hi - M) (x / 2 ^ (n * (M - Lo)))) = setR xs Lo Hi (i2d n (Hi - Lo) x) := fun h1 h2 => by
      rw [setR_two _ _ _ _ _ _ h1 h2 (by omega) (i2d_length _ _ _), i2d_mod _ _ _ hx0, ← i2d_append, show M - Lo + (Hi - M) = Hi - Lo by omega]
    have hxl1 : Lo ≤ M → M ≤ Hi → (setR xs Lo M (i2d n (M - Lo) (x % 2 ^ (n * (M - Lo))))).length = k := fun h1 h2 => by
      rw [setR_length _ _ _ _ h1 (by omega) (i2d_length _ _ _), hxl]
    generalize hxu : x / 2 ^ (n * (M - Lo)) = xu at *
    generalize hxw : x % 2 ^ (n * (M - Lo)) = xw at *
    generalize hsh : (M - Lo) * n = sh at *
    k_steps
    all_goals (try dsimp only)
    · have e9 : (Lo : Int) + 1 = (Hi : Int) := by assumption
      have e8 : Hi = Lo + 1 := by omega
      subst e8
      rename News _ _ _ _ => NE
      (repeat k_extra "M un")
      refine done_of (hret2 _ _ _ (hFr2 _ (hKeep2 _ _ _ (by assumption))) (hKeep2 _ _ _ (by assumption)) ⟨rfl, _, (NE _ (.head _)).1, ?_⟩)
      rw [show Lo + 1 - Lo = 1 by omega, i2d_one n x hx0 (by rw [show Lo + 1 - Lo = 1 by omega, Nat.mul_one] at hx1; exact hx1), ← setR_one _ _ _ (by omega)]
      assumption
    · refine unhold ?_
      rename Fr _ _ _ _ => FZ
      rename News _ _ _ _ => NZ
      refine (ih Lo M (by omega) (by omega) (by omega) xw _ _ _ xs vs hlo0 hlo1 hxl hxi).use B3 FZ X3 T3 rfl hOff3 (by k_extra "M ROOM") (by k_extra "M UNITS") ⟨FZ.keep _ _ q0, FZ.keep _ _ q4, FZ.keep _ _ q5, FZ.keep _ _ q6, hPC3.keeps FZ.keep, (NZ _ (.head _)).1⟩ ?_
      rintro r hA tkA FA KA hp95
      refine byG fun G9 hG9 => ?_
      obtain ⟨rfl, vs1, e1, i1⟩ := hp95
      refine hG9 ?_
      clear hG9 G9
      have NA : News g2 s2.heap.objs.size hA [(dA, W.listOf vs1.toArray 0)] := News.one e1 (hOff3 dA (.head _))
      clear FZ NZ
      k_steps
      all_goals (try dsimp only)
      refine unhold ?_
      rename Fr _ _ _ _ => FZ
      rename News _ _ _ _ => NZ
      refine (ih M Hi (by omega) (by omega) (by omega) xu _ _ _ _ vs1 hup0 (hup1 (by omega) (by omega)) (hxl1 (by omega) (by omega)) i1).use B3 FZ X3 T3 rfl hOff3 (by k_extra "M ROOM") (by k_extra "M UNITS") ⟨FZ.keep _ _ q0, FZ.keep _ _ q4, FZ.keep _ _ q5, FZ.keep _ _ q6, hPC3.keeps FZ.keep, (NZ _ (.head _)).1⟩ ?_
      rintro r hB tkB FB KB hp95
      refine byG fun G9 hG9 => ?_
      obtain ⟨rfl, vs2, e2, i2⟩ := hp95
      refine hG9 ?_
      clear hG9 G9
      have NB : News g2 s2.heap.objs.size hB [(dA, W.listOf vs2.toArray 0)] := News.one e2 (hOff3 dA (.head _))
      rw [hfin (by omega) (by omega)] at i2
      clear FZ NZ
      k_steps
      all_goals (try dsimp only)
      rename News _ _ _ _ => NE
      (repeat k_extra "M un")
      exact done_of (hret2 _ _ _ (hFr2 _ (hKeep2 _ _ _ (by assumption))) (hKeep2 _ _ _ (by assumption)) ⟨rfl, _, (NE _ (.head _)).1, i2⟩)

theorem enterR_C_i2d_0 : True := by
  k_with_none
  k_with "M ne" => first | exact NeW.l (by with_reducible assumption) | exact NeW.r (by with_reducible assumption) | (refine neN ?_; (try dsimp only); omega)
  k_with "M bits" => first | with_reducible assumption | exact bits_pow2 (by omega)
  k_with "M mem" => first | exact List.Mem.head _ | exact mem1 | exact mem2 | exact mem3 | exact mem4 | exact mem5 | exact mem6 | exact mem7 | exact mem8 | exact mem9 | exact mem10 | exact mem11 | exact mem12 | exact mem13
  k_with "M nw" => (try simp only [AllNw, and_true]); (try dsimp only); (repeat' constructor) <;> first | with_reducible assumption | (refine NeW.of ?_; k_ne)
  k_with "M sub2" => repeat (first | exact List.forall_mem_nil _ | refine fcons ⟨_, by k_mem⟩ ?_)
  k_with "M off" => repeat (first | exact List.forall_mem_nil _ | refine fcons (nin1 (by (try dsimp only); k_ne)) ?_)
  k_with "M sub" => repeat (first | exact List.forall_mem_nil _ | (refine fcons ?k9w ?_; (case k9w => k_mem)))
  k_with "subscriptTail Name Slice ref ref" => refine' slice_all_led ?k9F ?k9N ?k9l ?k9z ?k9p ?k9q ?_ ?k9s ?k9t; (case k9F => k_asm); (case k9N => k_asm); (case k9l => k_mem); (case k9z => omega); (case k9p => kmk_part); (case k9q => kmk_part); (case k9s => with_unfolding_all rfl); (case k9t => kmk_pure); intro k9D k9h k9F k9N k9l1; (try k_lt k9l1); (try k_sweep)
  k_with "M same" => intro z h1 h2 h3; (try dsimp only); (repeat (first | refine same_if (by first | exact h1 | exact ne_ps h2 rfl | exact ne_st h3 rfl) ?_ | exact rfl | exact same_st h3 | exact same_kst h2 h3 | refine same_k (by repeat (first | exact List.forall_mem_nil _ | refine fcons (by first | exact h1 | exact ne_ps h2 rfl | exact ne_st h3 rfl) ?_)) ?_ | refine same_c (by repeat (first | exact nc_nil | refine nc_cons (by first | exact h1 | exact ne_ps h2 rfl | exact ne_st h3 rfl) ?_)) ?_))
  k_with "call builtin:list.append" => refine' append_led ?k9la ?k9lb ?k9lc ?k9ld ?_; (case k9la => k_asm); (case k9lb => k_asm); (case k9lc => k_upd); (case k9ld => omega); intro k9h k9F k9N; (try k_sweep)
  k_with "call builtin:list.reverse" => refine' reverse_led ?k9la ?k9lb ?k9lc ?k9ld ?_; (case k9la => k_asm); (case k9lb => k_asm); (case k9lc => k_upd); (case k9ld => omega); intro k9h k9F k9N; (try k_sweep)
  k_with "binaryOp LShift int int" => refine' lshift_bits ?k9la ?k9lb ?k9lc ?k9ld ?_; (case k9la => omega); (case k9lb => omega); (case k9lc => bits_by_make); (case k9ld => decide)
  k_with "inplaceOp LShift int int" => refine' ilshift_bits ?k9la ?k9lb ?k9lc ?k9ld ?_; (case k9la => omega); (case k9lb => omega); (case k9lc => bits_by_make); (case k9ld => decide)
  k_with "M ROOM" => first | omega | ktr_room | ((try dsimp only [Around.deeper, ktrTop]); omega)
  k_with "M UNITS" => first | omega | ((try dsimp only [Around.deeper, ktrTop]); omega) | ktr_units
  k_with "execs cons" => (try k_fold); with_reducible first | refine seqL ?_ | (refine seqV ?_; intro Q8 q8)
  k_with "M un" => with_reducible first | (refine seqVN (s := s1) (by assumption) ?_; intro tk8; try clear q8 Q8) | (refine seqVN (s := s) (by assumption) ?_; intro tk8; try clear q8 Q8) | refine seqVR (by assumption) ?_ | refine seqVM (by assumption) ?_ | refine seqVB (by assumption) ?_ | refine seqVC (by assumption) ?_
  k_with "eval Name" => k_here; k_dflt (refine' nameX_L ?k9F ?k9v ?_ ?k9a ?k9b; (case k9F => k_asm); (case k9a => exact Eq.refl _); (case k9b => exact Eq.refl (some NameKind.local)); (case k9v => exact Eq.refl (some _)); k_whole)
  k_with "call builtin:len" => refine' len_led ?k9la ?k9lb ?k9lc ?k9ld ?_; (case k9la => assumption); (case k9lb => k_mem); (case k9lc => assumption); (case k9ld => omega); intro _ _; (try dsimp only)
  k_with "eval Name" => k_here; k_dflt (refine' nameX_G ?k9F ?k9c ?k9m ?k9d ?_ ?k9a ?k9b (by decide) (by decide); (case k9a => rfl); (case k9b => rfl); (case k9F => k_asm); (case k9c => rfl); (case k9m => k_asm); (case k9d => k_asm); k_whole)
  k_with "callWith ref" => k_here; k_dflt (refine' callWith_F ?k9k1 ?_; (case k9k1 => exact FnAt.ofG (by assumption) (by assumption)); k_whole)
  k_with "FnAt" => exact FnAt.ofG (by assumption) (by assumption)
  k_with "binaryOp RShift int int" => refine' rshift_eq ?k9ra ?k9rb ?_; (case k9ra => omega); (case k9rb => assumption)
  k_with "binaryOp BitXor int int" => refine' xor_eq ?k9rb ?_; (case k9rb => assumption)
  k_with "binaryOp Mult int int" => refine' mul_eq ?k9rb ?k9rc ?_; (case k9rb => assumption); (case k9rc => mul_fits)
  k_with "binaryOp Mult ref int" => refine hold ?_
  k_with "M ENTER" => (
    unfold Ctr PR
    k_fill
    intro dp un gd cn cs aF ccd clF outer A₀ base h₀ L mF s Q E B F X T hke hOff hdp hun hPre hret
    first
    | (refine' enter B F X T hke hOff ?hz ?k6 ?k7 ?k8 ?k9 ?kB ?c5 ?c2 ?c3 ?c4 ?_
       (case k6 => exact (X.keeps F.keep) _ _ (by k_is))
       (case k7 => exact codeRec_of (X.keeps F.keep) (by k_is))
       (case hz => first | exact (fun _ h => absurd h List.not_mem_nil) | k_extra "M HZ")
       (case k8 => omega)
       (case k9 => first | exact BindsTo.of_eq rfl | exact binds_K (by k_in) rfl (by k_is) rfl rfl rfl | exact (fun M A E Q hq Γ p _ => wp_of_peek (X.keeps F.keep) hq _ (by rfl)) | fail "k_enter: no rule for these arguments")
       (case kB => exact locs rfl)
       (case c5 => decide)
       (case c2 => exact rfl)
       (case c3 => exact rfl)
       (case c4 => exact rfl)
       intro g h₁ F' hk1 hFr hKeep hg hOff' B' X' T' en7 Ar7 Qf7 Ef7
       have N' : News g s.heap.objs.size h₁ [] := News.nil
       have hNew := new_of hg
       try dsimp only
       clear B F X T hke hOff)
    | (refine' enterC B F X T hke hOff ?hz ?k6 ?k7 ?k8 ?k9 ?kB ?kD ?c2 ?c3 ?c4 ?_
       (case k6 => exact (X.keeps F.keep) _ _ (by k_is))
       (case k7 => exact codeRec_of (X.keeps F.keep) (by k_is))
       (case hz => first | exact (fun _ h => absurd h List.not_mem_nil) | k_extra "M HZ")
       (case k8 => omega)
       (case k9 => first | exact BindsTo.of_eq rfl | exact binds_K (by k_in) rfl (by k_is) rfl rfl rfl | exact (fun M A E Q hq Γ p _ => wp_of_peek (X.keeps F.keep) hq _ (by rfl)) | fail "k_enter: no rule for these arguments")
       (case kB => exact rfl)
       (case kD => decide +kernel)
       (case c2 => exact rfl)
       (case c3 => exact rfl)
       (case c4 => exact rfl)
       intro g h₁ tk' cells' F' N' Y' hk1 hFr hKeep hg hOff' B' X' T' en7 Ar7 Qf7 Ef7
       first
       | (obtain ⟨oc1, hE', dc1⟩ := CellsAre.one Y'; subst hE')
       | (obtain ⟨oc1, oc2, hE', dc1, dc2⟩ := CellsAre.two Y'; subst hE')
       | (obtain ⟨oc1, oc2, oc3, hE', dc1, dc2, dc3⟩ := CellsAre.three Y'; subst hE')
       | (obtain ⟨oc1, oc2, oc3, oc4, hE', dc1, dc2, dc3, dc4⟩ := CellsAre.four Y'; subst hE')
       clear Y'
       (try simp only [List.cons_append, List.nil_append] at N')
       have hNew := new_of hg
       try dsimp only
       clear B F X T hke hOff)
    )
  trivial
set_option maxHeartbeats 8000000 in
theorem ctr_i2d_0 {w : World} {p : Program} {loose : List Str} {mean : ExcName → Option Value} {mg mb : Str → Option Value} (a : Int) (ta : Tok) (n : Nat) (tn : Tok)  (ha : 0 ≤ a) (hn : 1 ≤ n ∧ n ≤ 10000) (hbn : Builtin.Int.intBits a ≤ 100000) (hkn : (Builtin.Int.intBits a + n - 1) / n ≤ 100) :
    Ctr w (hd.heap_1 w.params) p loose mean mg mb 42 120 [37] [.int a ta, .int (n : Int) tn]
      (fun h => h.get? 37 = some (tabObj #[]))
      (fun r h h' => DigList n a r h h' ∧ HitA h h') := by
  k_with "M HZ" => (intro a9 h9; rw [List.mem_singleton.mp h9]; exact Heap.lt_size hPre)
  k_extra "M ENTER"
  have hP := hPre
  have h44 : 37 < s.heap.objs.size := Heap.lt_size hP
  have N2 := News.cons N' (hk1 _ _ hP) (hOff' 37 (.head _))
  have CH : CodeHd g 41 37 := codeHd_of_K X' (by kernel_rfl)
  clear hg N'

  k_with "call ref" => (refine hold ?_)
  k_steps
  all_goals (try dsimp only)
  refine unhold ?_
  rename Fr _ _ _ _ => FX
  rename News _ _ _ _ => NX
  obtain ⟨k, hk⟩ : ∃ k, k = (Builtin.Int.intBits a + n - 1) / n := ⟨_, rfl⟩
  have hkb : k ≤ 100000 := by
    rw [hk]
    refine Nat.div_le_of_le_mul ?_
    have : n * 100000 ≥ n + 99999 := by omega
    omega
  have hkd : Int.fdiv ((Builtin.Int.intBits a : Int) + (n : Int) - 1) (n : Int) = (k : Int) := by
    rw [Int.fdiv_eq_ediv_of_nonneg _ (by omega), show ((Builtin.Int.intBits a : Int) + (n : Int) - 1) = ((Builtin.Int.intBits a + n - 1 : Nat) : Int) by omega, hk, Int.natCast_ediv]
  rw [hkd]
  have hak : a < 2 ^ (n * k) := lt_pow_digits hn.1 ha hk
  refine mul_one_list FX NX (.head _) rfl (by omega) fun dA vs0 hM FM NM lM iM => ?_
  have hvl : vs0.length = k := by rw [iM.length, List.length_replicate]
  k_lt lM
  clear FX NX hkd
  k_steps
  all_goals (try dsimp only)
  · have hk0 : 0 < k := by
      rcases Nat.eq_zero_or_pos k with h0 | h0
      · rw [h0] at hak; simp at hak; omega
      · exact h0
    refine unhold ?_
    rename Obj.data _ = Data.cell (some (Value.ref _)) => dI
    revert dI
    rename Obj.data _ = Data.cell (some (Value.ref _)) => dD
    intro dI
    have dN : oc3.data = .cell (some (.int (n : Int) tn)) := dc3
    clear dc1 dc2 dc3
    rename Fr _ _ _ _ => FX
    rename News _ _ _ _ => NX
    refine with_fn NX fun f9 c9 hf9 hc9 => ?_
    subst hf9
    subst hc9
    have hA37 : dA ≠ 37 := neN (by omega)
    have hMade : g.get? dA = none := (NX _ (.tail _ (.tail _ (.head _)))).2.2
    have hkN : k * n ≤ 110000 := by
      have h8 : k * n ≤ Builtin.Int.intBits a + n - 1 := by rw [hk]; exact Nat.div_mul_le_self _ _
      omega
    refine (inner_i2d (cN := s.heap.objs.size + 1) (cI := s.heap.objs.size + 1 + 1 + 1) (cD := s.heap.objs.size + 1 + 1) hn hkb hkN dN dI dD (neN (by omega)) (neN (by omega)) (neN (by omega)) (neN (by omega)) k 0 k (by omega) hk0 (Nat.le_refl _) a _ _ _ (List.replicate k 0) vs0 ha (by rw [Nat.sub_zero]; exact hak) (by rw [List.length_replicate]) iM).use B' FX X' T' rfl (Off.one hMade (neN (by omega))) (by k_extra "M ROOM") (by k_extra "M UNITS") ⟨(NX _ (.head _)).1, (NX (_, _) (by k_mem)).1, (NX (_, _) (by k_mem)).1, (NX (_, _) (by k_mem)).1, ⟨_, _, _, _, rfl, (NX _ (.tail _ (.head _))).1, by assumption, by assumption⟩, (NX (dA, _) (by k_mem)).1⟩ ?_
    rintro r hA tkA FA KA hp95
    refine byG fun G9 hG9 => ?_
    obtain ⟨rfl, vs', e1, i1⟩ := hp95
    refine hG9 ?_
    clear hG9 G9
    rw [Nat.sub_zero, show setR (List.replicate k 0) 0 k (i2d n k a) = i2d n k a from by have := setR_all (List.replicate k 0) (i2d n k a); rw [List.length_replicate] at this; exact this] at i1
    rw [hk] at i1
    have ne1 : ∀ b, b < dA → b ∉ [dA] := fun b hb h9 => by rw [List.mem_singleton.mp h9] at hb; exact Nat.lt_irrefl _ hb
    have nf1 : ∀ b, dA < b → b ∉ [dA] := fun b hb h9 => by rw [List.mem_singleton.mp h9] at hb; exact Nat.lt_irrefl _ hb
    have m1 := NX _ (.tail _ (.tail _ (.tail _ (.tail _ (.tail _ (.tail _ (.head _)))))))
    have m2 := NX _ (.tail _ (.tail _ (.tail _ (.tail _ (.head _)))))
    have NA : News g s.heap.objs.size hA [(dA, _), (_, _), (37, _)] := News.cons (News.cons (News.one (KA _ _ m2.1 (ne1 _ (ltN (by omega)))) ⟨m2.2.2, m2.2.1⟩) (KA _ _ m1.1 (ne1 _ (ltN (by omega)))) ⟨m1.2.2, m1.2.1⟩) e1 ⟨hMade, neN (by omega)⟩
    obtain ⟨c8, oc8, vs8, t8, e8, e9, e10, e11⟩ : hA.CodeRec (.ref c9) qualA := ⟨_, _, _, _, rfl, KA _ _ (NX _ (.tail _ (.head _))).1 (nf1 _ (ltN (by omega))), by assumption, by assumption⟩
    cases e8
    have m3 := NX _ (.tail _ (.head _))
    have NA := News.cons NA e9 ⟨m3.2.2, m3.2.1⟩
    clear NX FX
    k_steps
    all_goals (try dsimp only)
    rename Fr _ _ _ _ => FE
    rename News _ _ _ _ => NE
    (repeat k_extra "M un")
    refine done_of (hret _ _ _ (hFr _ (hKeep _ _ _ FE)) (hKeep _ _ _ FE) ?_)
    exact ⟨⟨_, _, rfl, .of hNew NE (.tail _ (.head _)) (nin1 (neN (by omega))), i1⟩, _, _, (NE _ (.tail _ (.tail _ (.tail _ (.head _))))).1, .of hNew NE (.head _) (nin1 (neN (by omega))), _, _, e10, e11⟩
  · have hk0 : k = 0 := by
      have ha0 : a = 0 := by assumption
      rw [hk, ha0]
      have : (Builtin.Int.intBits 0) = 0 := by decide
      rw [this]
      exact Nat.div_eq_of_lt (by omega)
    rename Fr _ _ _ _ => FE
    rename News _ _ _ _ => NE
    rw [hk0] at iM
    have hd0 : i2d n ((Builtin.Int.intBits a + n - 1) / n) a = List.replicate 0 0 := by rw [← hk, hk0]; rfl
    (repeat k_extra "M un")
    refine done_of (hret _ _ _ (hFr _ (hKeep _ _ _ FE)) (hKeep _ _ _ FE) ?_)
    exact ⟨⟨_, vs0, rfl, .of hNew NE (.tail _ (.tail _ (.head _))) (nin1 (neN (by omega))), by rw [hd0]; exact iM⟩, _, _, (NE _ (.tail _ (.tail _ (.tail _ (.tail _ (.head _)))))).1, .of hNew NE (.tail _ (.head _)) (nin1 (neN (by omega))), _, _, by assumption, by assumption⟩
theorem enterR_C_i2d_1 : True := by
  k_with_none
  k_with "M ne" => first | exact NeW.l (by with_reducible assumption) | exact NeW.r (by with_reducible assumption) | (refine neN ?_; (try dsimp only); omega)
  k_with "M bits" => first | with_reducible assumption | exact bits_pow2 (by omega)
  k_with "M mem" => first | exact List.Mem.head _ | exact mem1 | exact mem2 | exact mem3 | exact mem4 | exact mem5 | exact mem6 | exact mem7 | exact mem8 | exact mem9 | exact mem10 | exact mem11 | exact mem12 | exact mem13
  k_with "M nw" => (try simp only [AllNw, and_true]); (try dsimp only); (repeat' constructor) <;> first | with_reducible assumption | (refine NeW.of ?_; k_ne)
  k_with "M sub2" => repeat (first | exact List.forall_mem_nil _ | refine fcons ⟨_, by k_mem⟩ ?_)
  k_with "M off" => repeat (first | exact List.forall_mem_nil _ | refine fcons (nin1 (by (try dsimp only); k_ne)) ?_)
  k_with "M sub" => repeat (first | exact List.forall_mem_nil _ | (refine fcons ?k9w ?_; (case k9w => k_mem)))
  k_with "subscriptTail Name Slice ref ref" => refine' slice_all_led ?k9F ?k9N ?k9l ?k9z ?k9p ?k9q ?_ ?k9s ?k9t; (case k9F => k_asm); (case k9N => k_asm); (case k9l => k_mem); (case k9z => omega); (case k9p => kmk_part); (case k9q => kmk_part); (case k9s => with_unfolding_all rfl); (case k9t => kmk_pure); intro k9D k9h k9F k9N k9l1; (try k_lt k9l1); (try k_sweep)
  k_with "M same" => intro z h1 h2 h3; (try dsimp only); (repeat (first | refine same_if (by first | exact h1 | exact ne_ps h2 rfl | exact ne_st h3 rfl) ?_ | exact rfl | exact same_st h3 | exact same_kst h2 h3 | refine same_k (by repeat (first | exact List.forall_mem_nil _ | refine fcons (by first | exact h1 | exact ne_ps h2 rfl | exact ne_st h3 rfl) ?_)) ?_ | refine same_c (by repeat (first | exact nc_nil | refine nc_cons (by first | exact h1 | exact ne_ps h2 rfl | exact ne_st h3 rfl) ?_)) ?_))
  k_with "call builtin:list.append" => refine' append_led ?k9la ?k9lb ?k9lc ?k9ld ?_; (case k9la => k_asm); (case k9lb => k_asm); (case k9lc => k_upd); (case k9ld => omega); intro k9h k9F k9N; (try k_sweep)
  k_with "call builtin:list.reverse" => refine' reverse_led ?k9la ?k9lb ?k9lc ?k9ld ?_; (case k9la => k_asm); (case k9lb => k_asm); (case k9lc => k_upd); (case k9ld => omega); intro k9h k9F k9N; (try k_sweep)
  k_with "binaryOp LShift int int" => refine' lshift_bits ?k9la ?k9lb ?k9lc ?k9ld ?_; (case k9la => omega); (case k9lb => omega); (case k9lc => bits_by_make); (case k9ld => decide)
  k_with "inplaceOp LShift int int" => refine' ilshift_bits ?k9la ?k9lb ?k9lc ?k9ld ?_; (case k9la => omega); (case k9lb => omega); (case k9lc => bits_by_make); (case k9ld => decide)
  k_with "M ROOM" => first | omega | ktr_room | ((try dsimp only [Around.deeper, ktrTop]); omega)
  k_with "M UNITS" => first | omega | ((try dsimp only [Around.deeper, ktrTop]); omega) | ktr_units
  k_with "execs cons" => (try k_fold); with_reducible first | refine seqL ?_ | (refine seqV ?_; intro Q8 q8)
  k_with "M un" => with_reducible first | (refine seqVN (s := s1) (by assumption) ?_; intro tk8; try clear q8 Q8) | (refine seqVN (s := s) (by assumption) ?_; intro tk8; try clear q8 Q8) | refine seqVR (by assumption) ?_ | refine seqVM (by assumption) ?_ | refine seqVB (by assumption) ?_ | refine seqVC (by assumption) ?_
  k_with "eval Name" => k_here; k_dflt (refine' nameX_L ?k9F ?k9v ?_ ?k9a ?k9b; (case k9F => k_asm); (case k9a => exact Eq.refl _); (case k9b => exact Eq.refl (some NameKind.local)); (case k9v => exact Eq.refl (some _)); k_whole)
  k_with "call builtin:len" => refine' len_led ?k9la ?k9lb ?k9lc ?k9ld ?_; (case k9la => assumption); (case k9lb => k_mem); (case k9lc => assumption); (case k9ld => omega); intro _ _; (try dsimp only)
  k_with "eval Name" => k_here; k_dflt (refine' nameX_G ?k9F ?k9c ?k9m ?k9d ?_ ?k9a ?k9b (by decide) (by decide); (case k9a => rfl); (case k9b => rfl); (case k9F => k_asm); (case k9c => rfl); (case k9m => k_asm); (case k9d => k_asm); k_whole)
  k_with "callWith ref" => k_here; k_dflt (refine' callWith_F ?k9k1 ?_; (case k9k1 => exact FnAt.ofG (by assumption) (by assumption)); k_whole)
  k_with "FnAt" => exact FnAt.ofG (by assumption) (by assumption)
  k_with "binaryOp RShift int int" => refine' rshift_eq ?k9ra ?k9rb ?_; (case k9ra => omega); (case k9rb => assumption)
  k_with "binaryOp BitXor int int" => refine' xor_eq ?k9rb ?_; (case k9rb => assumption)
  k_with "binaryOp Mult int int" => refine' mul_eq ?k9rb ?k9rc ?_; (case k9rb => assumption); (case k9rc => mul_fits)
  k_with "binaryOp Mult ref int" => refine hold ?_
  k_with "M ENTER" => (
    unfold Ctr PR
    k_fill
    intro dp un gd cn cs aF ccd clF outer A₀ base h₀ L mF s Q E B F X T hke hOff hdp hun hPre hret
    first
    | (refine' enter B F X T hke hOff ?hz ?k6 ?k7 ?k8 ?k9 ?kB ?c5 ?c2 ?c3 ?c4 ?_
       (case k6 => exact (X.keeps F.keep) _ _ (by k_is))
       (case k7 => exact codeRec_of (X.keeps F.keep) (by k_is))
       (case hz => first | exact (fun _ h => absurd h List.not_mem_nil) | k_extra "M HZ")
       (case k8 => omega)
       (case k9 => first | exact BindsTo.of_eq rfl | exact binds_K (by k_in) rfl (by k_is) rfl rfl rfl | exact (fun M A E Q hq Γ p _ => wp_of_peek (X.keeps F.keep) hq _ (by rfl)) | fail "k_enter: no rule for these arguments")
       (case kB => exact locs rfl)
       (case c5 => decide)
       (case c2 => exact rfl)
       (case c3 => exact rfl)
       (case c4 => exact rfl)
       intro g h₁ F' hk1 hFr hKeep hg hOff' B' X' T' en7 Ar7 Qf7 Ef7
       have N' : News g s.heap.objs.size h₁ [] := News.nil
       have hNew := new_of hg
       try dsimp only
       clear B F X T hke hOff)
    | (refine' enterC B F X T hke hOff ?hz ?k6 ?k7 ?k8 ?k9 ?kB ?kD ?c2 ?c3 ?c4 ?_
       (case k6 => exact (X.keeps F.keep) _ _ (by k_is))
       (case k7 => exact codeRec_of (X.keeps F.keep) (by k_is))
       (case hz => first | exact (fun _ h => absurd h List.not_mem_nil) | k_extra "M HZ")
       (case k8 => omega)
       (case k9 => first | exact BindsTo.of_eq rfl | exact binds_K (by k_in) rfl (by k_is) rfl rfl rfl | exact (fun M A E Q hq Γ p _ => wp_of_peek (X.keeps F.keep) hq _ (by rfl)) | fail "k_enter: no rule for these arguments")
       (case kB => exact rfl)
       (case kD => decide +kernel)
       (case c2 => exact rfl)
       (case c3 => exact rfl)
       (case c4 => exact rfl)
       intro g h₁ tk' cells' F' N' Y' hk1 hFr hKeep hg hOff' B' X' T' en7 Ar7 Qf7 Ef7
       first
       | (obtain ⟨oc1, hE', dc1⟩ := CellsAre.one Y'; subst hE')
       | (obtain ⟨oc1, oc2, hE', dc1, dc2⟩ := CellsAre.two Y'; subst hE')
       | (obtain ⟨oc1, oc2, oc3, hE', dc1, dc2, dc3⟩ := CellsAre.three Y'; subst hE')
       | (obtain ⟨oc1, oc2, oc3, oc4, hE', dc1, dc2, dc3, dc4⟩ := CellsAre.four Y'; subst hE')
       clear Y'
       (try simp only [List.cons_append, List.nil_append] at N')
       have hNew := new_of hg
       try dsimp only
       clear B F X T hke hOff)
    )
  trivial
set_option maxHeartbeats 8000000 in
theorem ctr_i2d_1 {w : World} {p : Program} {loose : List Str} {mean : ExcName → Option Value} {mg mb : Str → Option Value} (a : Int) (ta : Tok) (n : Nat) (tn : Tok) (c9 : Addr) (ha : 0 ≤ a) (hn : 1 ≤ n ∧ n ≤ 10000) (hbn : Builtin.Int.intBits a ≤ 100000) (hkn : (Builtin.Int.intBits a + n - 1) / n ≤ 100) :
    Ctr w (hd.heap_1 w.params) p loose mean mg mb 42 120 [37] [.int a ta, .int (n : Int) tn]
      (fun h => h.get? 37 = some (tabObj (tripA c9)) ∧ h.CodeRec (.ref c9) qualA)
      (fun r h h' => DigList n a r h h' ∧ h'.get? 37 = some (tabObj (tripA c9))) := by
  k_with "M HZ" => (intro a9 h9; rw [List.mem_singleton.mp h9]; exact Heap.lt_size hPre.1)
  k_extra "M ENTER"
  obtain ⟨hP, hCP⟩ := hPre
  have hCQ : g.CodeRec (.ref c9) qualA := codeRec_butA hCP hg (by rw [hP]; rfl)
  have h44 : 37 < s.heap.objs.size := Heap.lt_size hP
  have N2 := News.cons N' (hk1 _ _ hP) (hOff' 37 (.head _))
  have CH : CodeHd g 41 37 := codeHd_of_K X' (by kernel_rfl)
  clear hg N'

  k_with "call ref" => (refine hold ?_)
  k_steps
  all_goals (try dsimp only)
  refine unhold ?_
  rename Fr _ _ _ _ => FX
  rename News _ _ _ _ => NX
  obtain ⟨k, hk⟩ : ∃ k, k = (Builtin.Int.intBits a + n - 1) / n := ⟨_, rfl⟩
  have hkb : k ≤ 100000 := by
    rw [hk]
    refine Nat.div_le_of_le_mul ?_
    have : n * 100000 ≥ n + 99999 := by omega
    omega
  have hkd : Int.fdiv ((Builtin.Int.intBits a : Int) + (n : Int) - 1) (n : Int) = (k : Int) := by
    rw [Int.fdiv_eq_ediv_of_nonneg _ (by omega), show ((Builtin.Int.intBits a : Int) + (n : Int) - 1) = ((Builtin.Int.intBits a + n - 1 : Nat) : Int) by omega, hk, Int.natCast_ediv]
  rw [hkd]
  have hak : a < 2 ^ (n * k) := lt_pow_digits hn.1 ha hk
  refine mul_one_list FX NX (.head _) rfl (by omega) fun dA vs0 hM FM NM lM iM => ?_
  have hvl : vs0.length = k := by rw [iM.length, List.length_replicate]
  k_lt lM
  clear FX NX hkd
  k_steps
  all_goals (try dsimp only)
  · have hk0 : 0 < k := by
      rcases Nat.eq_zero_or_pos k with h0 | h0
      · rw [h0] at hak; simp at hak; omega
      · exact h0
    refine unhold ?_
    rename Obj.data _ = Data.cell (some (Value.ref _)) => dI
    revert dI
    rename Obj.data _ = Data.cell (some (Value.ref _)) => dD
    intro dI
    have dN : oc3.data = .cell (some (.int (n : Int) tn)) := dc3
    clear dc1 dc2 dc3
    rename Fr _ _ _ _ => FX
    rename News _ _ _ _ => NX
    refine with_fn NX fun f9 c7 hf9 hc9 => ?_
    subst hf9
    subst c7
    have hA37 : dA ≠ 37 := neN (by omega)
    have hMade : g.get? dA = none := (NX _ (.tail _ (.head _))).2.2
    have hkN : k * n ≤ 110000 := by
      have h8 : k * n ≤ Builtin.Int.intBits a + n - 1 := by rw [hk]; exact Nat.div_mul_le_self _ _
      omega
    refine (inner_i2d (cN := s.heap.objs.size + 1) (cI := s.heap.objs.size + 1 + 1 + 1) (cD := s.heap.objs.size + 1 + 1) hn hkb hkN dN dI dD (neN (by omega)) (neN (by omega)) (neN (by omega)) (neN (by omega)) k 0 k (by omega) hk0 (Nat.le_refl _) a _ _ _ (List.replicate k 0) vs0 ha (by rw [Nat.sub_zero]; exact hak) (by rw [List.length_replicate]) iM).use B' FX X' T' rfl (Off.one hMade (neN (by omega))) (by k_extra "M ROOM") (by k_extra "M UNITS") ⟨(NX _ (.head _)).1, (NX (_, _) (by k_mem)).1, (NX (_, _) (by k_mem)).1, (NX (_, _) (by k_mem)).1, hCQ.keeps FX.keep, (NX (dA, _) (by k_mem)).1⟩ ?_
    rintro r hA tkA FA KA hp95
    refine byG fun G9 hG9 => ?_
    obtain ⟨rfl, vs', e1, i1⟩ := hp95
    refine hG9 ?_
    clear hG9 G9
    rw [Nat.sub_zero, show setR (List.replicate k 0) 0 k (i2d n k a) = i2d n k a from by have := setR_all (List.replicate k 0) (i2d n k a); rw [List.length_replicate] at this; exact this] at i1
    rw [hk] at i1
    have ne1 : ∀ b, b < dA → b ∉ [dA] := fun b hb h9 => by rw [List.mem_singleton.mp h9] at hb; exact Nat.lt_irrefl _ hb
    have nf1 : ∀ b, dA < b → b ∉ [dA] := fun b hb h9 => by rw [List.mem_singleton.mp h9] at hb; exact Nat.lt_irrefl _ hb
    have m1 := NX _ (.tail _ (.tail _ (.tail _ (.tail _ (.tail _ (.head _))))))
    have m2 := NX _ (.tail _ (.tail _ (.tail _ (.head _))))
    have NA : News g s.heap.objs.size hA [(dA, _), (_, _), (37, _)] := News.cons (News.cons (News.one (KA _ _ m2.1 (ne1 _ (ltN (by omega)))) ⟨m2.2.2, m2.2.1⟩) (KA _ _ m1.1 (ne1 _ (ltN (by omega)))) ⟨m1.2.2, m1.2.1⟩) e1 ⟨hMade, neN (by omega)⟩
    skip
    clear NX FX
    k_steps
    all_goals (try dsimp only)
    rename Fr _ _ _ _ => FE
    rename News _ _ _ _ => NE
    (repeat k_extra "M un")
    refine done_of (hret _ _ _ (hFr _ (hKeep _ _ _ FE)) (hKeep _ _ _ FE) ?_)
    exact ⟨⟨_, _, rfl, .of hNew NE (.head _) (nin1 (neN (by omega))), i1⟩, (NE _ (.tail _ (.tail _ (.head _)))).1⟩
  · have hk0 : k = 0 := by
      have ha0 : a = 0 := by assumption
      rw [hk, ha0]
      have : (Builtin.Int.intBits 0) = 0 := by decide
      rw [this]
      exact Nat.div_eq_of_lt (by omega)
    rename Fr _ _ _ _ => FE
    rename News _ _ _ _ => NE
    rw [hk0] at iM
    have hd0 : i2d n ((Builtin.Int.intBits a + n - 1) / n) a = List.replicate 0 0 := by rw [← hk, hk0]; rfl
    (repeat k_extra "M un")
    refine done_of (hret _ _ _ (hFr _ (hKeep _ _ _ FE)) (hKeep _ _ _ FE) ?_)
    exact ⟨⟨_, vs0, rfl, .of hNew NE (.tail _ (.head _)) (nin1 (neN (by omega))), by rw [hd0]; exact iM⟩, (NE _ (.tail _ (.tail _ (.tail _ (.head _))))).1⟩
end

section
theorem hush_C_d2i : True := by
  k_with_none
  w_top off
  trivial
theorem rules_C_d2i_0 : True := by
  k_with "M ne" => first | exact NeW.l (by with_reducible assumption) | exact NeW.r (by with_reducible assumption) | (refine neN ?_; (try dsimp only); omega)
  k_with "M bits" => first | with_reducible assumption | exact bits_pow2 (by omega)
  k_with "M mem" => first | exact List.Mem.head _ | exact mem1 | exact mem2 | exact mem3 | exact mem4 | exact mem5 | exact mem6 | exact mem7 | exact mem8 | exact mem9 | exact mem10 | exact mem11 | exact mem12 | exact mem13
  trivial

/-- the code table of _digits2int, filled -/
noncomputable abbrev tripB (c : Addr) : Array Value := #[rawInt ((50 : Nat) : Int), rawInt ((4 : Nat) : Int), .ref c]
noncomputable def qualB : Str := Str.ofString "_digits2int" ++ ".<locals>." ++ Str.ofString "inner"
inductive HitB (h h' : Heap) : Prop
  | mk (c : _) (o : _) (h9x0 : h'.get? 44 = some (tabObj (tripB c))) (h9x1 : MadeAt h h' c o) (h9x2 : CodeObj qualB o) : HitB h h'
theorem codeRec_less {h h' : Heap} {v : Value} {q : Str} (x : h.CodeRec v q) (k : ∀ b o, h.get? b = some o → h'.get? b = some o) : h'.CodeRec v q := x.keeps k


theorem codeRec_but {h g : Heap} {P c : Addr} {q : Str} (x : h.CodeRec (.ref c) q) (hg : ∀ b o, h.get? b = some o → b ∉ [P] → g.get? b = some o) (hP : (h.get? P).map (·.data) = some (Data.fields (tripB c)) ) : g.CodeRec (.ref c) q := by
  obtain ⟨c', o, vs, t, e1, e2, e3, e4⟩ := x
  refine ⟨c', o, vs, t, e1, hg _ _ e2 fun hm => ?_, e3, e4⟩
  rw [List.mem_singleton.mp hm] at e2
  rw [e2] at hP
  have h5 : o.data = Data.fields (tripB c) := Option.some.inj hP
  rw [e3] at h5
  cases h5
  cases e4

theorem enterR_C_d2i_0 : True := by
  k_with_none
  k_with "M ne" => first | exact NeW.l (by with_reducible assumption) | exact NeW.r (by with_reducible assumption) | (refine neN ?_; (try dsimp only); omega)
  k_with "M bits" => first | with_reducible assumption | exact bits_pow2 (by omega)
  k_with "M mem" => first | exact List.Mem.head _ | exact mem1 | exact mem2 | exact mem3 | exact mem4 | exact mem5 | exact mem6 | exact mem7 | exact mem8 | exact mem9 | exact mem10 | exact mem11 | exact mem12 | exact mem13
  k_with "M nw" => (try simp only [AllNw, and_true]); (try dsimp only); (repeat' constructor) <;> first | with_reducible assumption | (refine NeW.of ?_; k_ne)
  k_with "M sub2" => repeat (first | exact List.forall_mem_nil _ | refine fcons ⟨_, by k_mem⟩ ?_)
  k_with "M off" => repeat (first | exact List.forall_mem_nil _ | refine fcons (nin1 (by (try dsimp only); k_ne)) ?_)
  k_with "M sub" => repeat (first | exact List.forall_mem_nil _ | (refine fcons ?k9w ?_; (case k9w => k_mem)))
  k_with "subscriptTail Name Slice ref ref" => refine' slice_all_led ?k9F ?k9N ?k9l ?k9z ?k9p ?k9q ?_ ?k9s ?k9t; (case k9F => k_asm); (case k9N => k_asm); (case k9l => k_mem); (case k9z => omega); (case k9p => kmk_part); (case k9q => kmk_part); (case k9s => with_unfolding_all rfl); (case k9t => kmk_pure); intro k9D k9h k9F k9N k9l1; (try k_lt k9l1); (try k_sweep)
  k_with "M same" => intro z h1 h2 h3; (try dsimp only); (repeat (first | refine same_if (by first | exact h1 | exact ne_ps h2 rfl | exact ne_st h3 rfl) ?_ | exact rfl | exact same_st h3 | exact same_kst h2 h3 | refine same_k (by repeat (first | exact List.forall_mem_nil _ | refine fcons (by first | exact h1 | exact ne_ps h2 rfl | exact ne_st h3 rfl) ?_)) ?_ | refine same_c (by repeat (first | exact nc_nil | refine nc_cons (by first | exact h1 | exact ne_ps h2 rfl | exact ne_st h3 rfl) ?_)) ?_))
  k_with "call builtin:list.append" => refine' append_led ?k9la ?k9lb ?k9lc ?k9ld ?_; (case k9la => k_asm); (case k9lb => k_asm); (case k9lc => k_upd); (case k9ld => omega); intro k9h k9F k9N; (try k_sweep)
  k_with "call builtin:list.reverse" => refine' reverse_led ?k9la ?k9lb ?k9lc ?k9ld ?_; (case k9la => k_asm); (case k9lb => k_asm); (case k9lc => k_upd); (case k9ld => omega); intro k9h k9F k9N; (try k_sweep)
  k_with "binaryOp LShift int int" => refine' lshift_bits ?k9la ?k9lb ?k9lc ?k9ld ?_; (case k9la => omega); (case k9lb => omega); (case k9lc => bits_by_make); (case k9ld => decide)
  k_with "inplaceOp LShift int int" => refine' ilshift_bits ?k9la ?k9lb ?k9lc ?k9ld ?_; (case k9la => omega); (case k9lb => omega); (case k9lc => bits_by_make); (case k9ld => decide)
  k_with "M ROOM" => first | omega | ktr_room | ((try dsimp only [Around.deeper, ktrTop]); omega)
  k_with "M UNITS" => first | omega | ((try dsimp only [Around.deeper, ktrTop]); omega) | ktr_units
  k_with "execs cons" => (try k_fold); with_reducible first | refine seqL ?_ | (refine seqV ?_; intro Q8 q8)
  k_with "M un" => with_reducible first | (refine seqVN (s := s1) (by assumption) ?_; intro tk8; try clear q8 Q8) | (refine seqVN (s := s) (by assumption) ?_; intro tk8; try clear q8 Q8) | refine seqVR (by assumption) ?_ | refine seqVM (by assumption) ?_ | refine seqVB (by assumption) ?_ | refine seqVC (by assumption) ?_
  k_with "eval Name" => k_here; k_dflt (refine' nameX_L ?k9F ?k9v ?_ ?k9a ?k9b; (case k9F => k_asm); (case k9a => exact Eq.refl _); (case k9b => exact Eq.refl (some NameKind.local)); (case k9v => exact Eq.refl (some _)); k_whole)
  k_with "binaryOp Mult int int" => refine' mul_eq ?k9rb ?k9rc ?_; (case k9rb => assumption); (case k9rc => mul_fits)
  k_with "eval Name" => k_here; k_dflt (refine' nameX_G ?k9F ?k9c ?k9m ?k9d ?_ ?k9a ?k9b (by decide) (by decide); (case k9a => rfl); (case k9b => rfl); (case k9F => k_asm); (case k9c => rfl); (case k9m => k_asm); (case k9d => k_asm); k_whole)
  k_with "callWith ref" => k_here; k_dflt (refine' callWith_F ?k9k1 ?_; (case k9k1 => exact FnAt.ofG (by assumption) (by assumption)); k_whole)
  k_with "FnAt" => exact FnAt.ofG (by assumption) (by assumption)
  k_with "binaryOp RShift int int" => refine' rshift_eq ?k9ra ?k9rb ?_; (case k9ra => omega); (case k9rb => assumption)
  k_with "M ENTER" => (
    unfold Ctr PR
    k_fill
    intro dp un gd cn cs aF ccd clF outer A₀ base h₀ L mF s Q E B F X T hke hOff hdp hun hPre hret
    first
    | (refine' enter B F X T hke hOff ?hz ?k6 ?k7 ?k8 ?k9 ?kB ?c5 ?c2 ?c3 ?c4 ?_
       (case k6 => exact (X.keeps F.keep) _ _ (by k_is))
       (case k7 => exact codeRec_of (X.keeps F.keep) (by k_is))
       (case hz => first | exact (fun _ h => absurd h List.not_mem_nil) | k_extra "M HZ")
       (case k8 => omega)
       (case k9 => first | exact BindsTo.of_eq rfl | exact binds_K (by k_in) rfl (by k_is) rfl rfl rfl | exact (fun M A E Q hq Γ p _ => wp_of_peek (X.keeps F.keep) hq _ (by rfl)) | fail "k_enter: no rule for these arguments")
       (case kB => exact locs rfl)
       (case c5 => decide)
       (case c2 => exact rfl)
       (case c3 => exact rfl)
       (case c4 => exact rfl)
       intro g h₁ F' hk1 hFr hKeep hg hOff' B' X' T' en7 Ar7 Qf7 Ef7
       have N' : News g s.heap.objs.size h₁ [] := News.nil
       have hNew := new_of hg
       try dsimp only
       clear B F X T hke hOff)
    | (refine' enterC B F X T hke hOff ?hz ?k6 ?k7 ?k8 ?k9 ?kB ?kD ?c2 ?c3 ?c4 ?_
       (case k6 => exact (X.keeps F.keep) _ _ (by k_is))
       (case k7 => exact codeRec_of (X.keeps F.keep) (by k_is))
       (case hz => first | exact (fun _ h => absurd h List.not_mem_nil) | k_extra "M HZ")
       (case k8 => omega)
       (case k9 => first | exact BindsTo.of_eq rfl | exact binds_K (by k_in) rfl (by k_is) rfl rfl rfl | exact (fun M A E Q hq Γ p _ => wp_of_peek (X.keeps F.keep) hq _ (by rfl)) | fail "k_enter: no rule for these arguments")
       (case kB => exact rfl)
       (case kD => decide +kernel)
       (case c2 => exact rfl)
       (case c3 => exact rfl)
       (case c4 => exact rfl)
       intro g h₁ tk' cells' F' N' Y' hk1 hFr hKeep hg hOff' B' X' T' en7 Ar7 Qf7 Ef7
       first
       | (obtain ⟨oc1, hE', dc1⟩ := CellsAre.one Y'; subst hE')
       | (obtain ⟨oc1, oc2, hE', dc1, dc2⟩ := CellsAre.two Y'; subst hE')
       | (obtain ⟨oc1, oc2, oc3, hE', dc1, dc2, dc3⟩ := CellsAre.three Y'; subst hE')
       | (obtain ⟨oc1, oc2, oc3, oc4, hE', dc1, dc2, dc3, dc4⟩ := CellsAre.four Y'; subst hE')
       clear Y'
       (try simp only [List.cons_append, List.nil_append] at N')
       have hNew := new_of hg
       try dsimp only
       clear B F X T hke hOff)
    )
  trivial
set_option maxHeartbeats 8000000 in
theorem ctr_d2i_0 {w : World} {p : Program} {loose : List Str} {mean : ExcName → Option Value} {mg mb : Str → Option Value} (l : Addr) (vs : List Value) (ns : List Int) (n : Nat) (tn : Tok)  (hns : 0 < ns.length ∧ ns.length < 100) (hn : 1 ≤ n ∧ n ≤ 10000) (hb : ∀ x ∈ ns, 0 ≤ x ∧ x < 2 ^ n) (hbn : n * ns.length ≤ 100000) :
    Ctr w (hd.heap_1 w.params) p loose mean mg mb 49 120 [44] [.ref l, .int (n : Int) tn]
      (fun h => h.get? 44 = some (tabObj #[]) ∧ h.IsList l vs.toArray ∧ IntsAre vs ns)
      (fun r h h' => (∃ t, r = .int (d2i n ns) t) ∧ HitB h h') := by
  k_with "M HZ" => (intro a9 h9; rw [List.mem_singleton.mp h9]; exact Heap.lt_size hPre.1)
  k_extra "M ENTER"
  obtain ⟨hP, hl, hi⟩ := hPre
  have h44 : 44 < s.heap.objs.size := Heap.lt_size hP
  have hl' := hl.at fun o e => hg _ o e (by obtain ⟨o9, e9, c9, _⟩ := hl; intro h9; rw [List.mem_singleton.mp h9, hP] at e9; cases e9; cases c9)
  skip
  have N2 := News.cons N' (hk1 _ _ hP) (hOff' 44 (.head _))
  have CH : CodeHd g 48 44 := codeHd_of_K X' (by kernel_rfl)
  clear hg N' hl

  k_with "call ref" => (refine hold ?_)
  k_steps
  all_goals (try dsimp only)
  refine unhold ?_
  rename Obj.data _ = Data.cell (some (Value.ref _)) => dI
  have dN : oc2.data = .cell (some (.int (n : Int) tn)) := dc2
  have dD : oc3.data = .cell (some (.ref l)) := dc3
  clear dc1 dc2 dc3
  rename Fr _ _ _ _ => FX
  rename News _ _ _ _ => NX
  refine with_led NX fun lg hlg NY => ?_
  rename_i f9 c9 oc9 vs9 t9 ct9 dc9 h9 tk9 d19 d29 l19 l29 h99 o9
  have key : ∀ d L R : Nat, R - L ≤ d → L < R → R ≤ ns.length → ∀ t1 t2 : Tok, Ctr w (hd.heap_1 w.params) p loose mean mg mb f9 d [] [.int (L : Int) t1, .int (R : Int) t2] (fun h => (∀ q ∈ lg, h.get? q.1 = some q.2) ∧ h.IsList l vs.toArray ∧ h.CodeRec (.ref c9) qualB) (fun r _ _ => ∃ t, r = .int (d2iR n ns L R) t) := by
    intro d
    induction d with
    | zero => intro L R h1 h2; omega
    | succ d ih =>
      intro Lo Hi hd1 hd2 hd3 t1 t2
      unfold Ctr PR
      intro dp2 un2 gd2 cn2 cs2 aF2 ccd2 clF2 outer2 A₂ base2 h₂ L2 m2 s2 Q2 E2 B2 F2 X2 T2 hke2 hOff2 hdp2 hun2 hPre2 hret2
      have hPg0 := hPre2.1
      rw [hlg] at hPre2
      obtain ⟨hPl, hPL, hPC⟩ := hPre2
      simp only [List.forall_mem_cons, List.not_mem_nil, false_implies, implies_true, and_true] at hPl
      refine byG fun G9 hG9 => ?_
      obtain ⟨p1, p2, p3, p4, p5, p6⟩ := hPl
      refine hG9 ?_
      clear hG9 G9
      refine' enter B2 F2 X2 T2 hke2 hOff2 (fun _ h => absurd h List.not_mem_nil) p1 ?k7 ?k8 ?k9 ?kB ?c5 ?c2 ?c3 ?c4 ?_
      (case k7 => exact hPC)
      (case k8 => omega)
      (case k9 => exact BindsTo.of_eq rfl)
      (case kB => exact locs rfl)
      (case c5 => decide)
      (case c2 => exact rfl)
      (case c3 => exact rfl)
      (case c4 => exact rfl)
      intro g2 h2 F3 hk2 hFr2 hKeep2 hg2 hOff3 B3 X3 T3
      have N3 : News g2 s2.heap.objs.size h2 [] := News.nil
      have hPg : ∀ q ∈ lg, g2.get? q.1 = some q.2 := fun q hq => hg2 _ _ (hPg0 q hq) List.not_mem_nil
      have q1 := hg2 _ _ p1 List.not_mem_nil
      have q4 := hg2 _ _ p4 List.not_mem_nil
      have q5 := hg2 _ _ p5 List.not_mem_nil
      have q6 := hg2 _ _ p6 List.not_mem_nil
      have hL3 := hPL.at fun o e => hg2 _ o e List.not_mem_nil
      have hPC3 := codeRec_less hPC fun b o e => hg2 b o e List.not_mem_nil
      clear B2 F2 X2 T2 hke2 hOff2 p1 p3 p4 p5 p6
      have hmid : Int.fdiv ((Lo : Int) + (Hi : Int)) (2 ^ Int.toNat 1) = ((((Lo + Hi) / 2 : Nat)) : Int) := by rw [Int.fdiv_eq_ediv_of_nonneg _ (by decide)]; show _ / 2 = _; omega
      generalize hM : (Lo + Hi) / 2 = M at hmid
      have hsb : (M - Lo) * n ≤ 100000 := Nat.le_trans (by rw [Nat.mul_comm]; exact Nat.mul_le_mul_left _ (by omega)) hbn
      have hsft : ((M : Int) - (Lo : Int)) * (n : Int) = (((M - Lo) * n : Nat) : Int) := by
        by_cases hc : Lo ≤ M
        · rw [Int.natCast_mul, Int.ofNat_sub hc]
        · omega
      have hspl : Lo ≤ M → M ≤ Hi → d2iR n ns Lo Hi = d2iR n ns M Hi * 2 ^ ((M - Lo) * n) + d2iR n ns Lo M := fun h1 h2 => d2iR_split n ns Lo M Hi h1 h2 hd3
      generalize hsh : (M - Lo) * n = sh at hsb hsft hspl
      have hbM := d2iR_bits n ns M Hi hd3 hb hbn
      k_steps
      all_goals (try dsimp only)
      · have e9 : (Lo : Int) + 1 = (Hi : Int) := by assumption
        have e8 : Hi = Lo + 1 := by omega
        subst e8
        (repeat k_extra "M un")
        refine done_of (hret2 _ _ _ (hFr2 _ (hKeep2 _ _ _ (by assumption))) (hKeep2 _ _ _ (by assumption)) (int_post ?_))
        rw [d2iR_one n ns Lo (by omega)]; rfl
      · refine unhold ?_
        rename Fr _ _ _ _ => FZ
        refine (ih M Hi (by omega) (by omega) hd3 _ _).use B3 FZ X3 T3 rfl Off.nil (by k_extra "M ROOM") (by k_extra "M UNITS") ⟨fun q hq => FZ.keep _ _ (hPg q hq), hL3.at fun o e => FZ.keep _ o e, hPC3.keeps FZ.keep⟩ ?_
        rintro r hA tkA FA KA ⟨tA, rfl⟩
        have NA : News g2 s2.heap.objs.size hA [] := News.nil
        clear FZ
        k_steps
        all_goals (try dsimp only)
        refine unhold ?_
        rename Fr _ _ _ _ => FZ
        refine (ih Lo M (by omega) (by omega) (by omega) _ _).use B3 FZ X3 T3 rfl Off.nil (by k_extra "M ROOM") (by k_extra "M UNITS") ⟨fun q hq => FZ.keep _ _ (hPg q hq), hL3.at fun o e => FZ.keep _ o e, hPC3.keeps FZ.keep⟩ ?_
        rintro r hB tkB FB KB ⟨tB, rfl⟩
        have NB : News g2 s2.heap.objs.size hB [] := News.nil
        clear FZ
        k_steps
        all_goals (try dsimp only)
        (repeat k_extra "M un")
        refine done_of (hret2 _ _ _ (hFr2 _ (hKeep2 _ _ _ (by assumption))) (hKeep2 _ _ _ (by assumption)) (int_post ?_))
        rw [hspl (by omega) (by omega), Int.toNat_natCast]
  refine (key ns.length 0 ns.length (by omega) (by omega) (Nat.le_refl _) _ _).use B' FX X' T' rfl Off.nil (by k_extra "M ROOM") (by k_extra "M UNITS") ⟨fun q hq => (NY q hq).1, hl'.at fun o e => FX.keep _ o e, ⟨_, _, _, _, rfl, (NX _ (.tail _ (.head _))).1, d19, d29⟩⟩ ?_
  rintro r hA tkA FA KA ⟨tA, rfl⟩
  have NA := KA.news0 NX
  (repeat k_extra "M un")
  refine done_of (hret _ _ _ (hFr _ (hKeep _ _ _ FA)) (hKeep _ _ _ FA) ?_)


  exact ⟨⟨_, by rw [d2iR_all]⟩, c9, _, (NA _ (.tail _ (.tail _ (.head _)))).1, .of hNew NA (.tail _ (.head _)) (nin1 (neN (by omega))), _, _, d19, d29⟩
theorem enterR_C_d2i_1 : True := by
  k_with_none
  k_with "M ne" => first | exact NeW.l (by with_reducible assumption) | exact NeW.r (by with_reducible assumption) | (refine neN ?_; (try dsimp only); omega)
  k_with "M bits" => first | with_reducible assumption | exact bits_pow2 (by omega)
  k_with "M mem" => first | exact List.Mem.head _ | exact mem1 | exact mem2 | exact mem3 | exact mem4 | exact mem5 | exact mem6 | exact mem7 | exact mem8 | exact mem9 | exact mem10 | exact mem11 | exact mem12 | exact mem13
  k_with "M nw" => (try simp only [AllNw, and_true]); (try dsimp only); (repeat' constructor) <;> first | with_reducible assumption | (refine NeW.of ?_; k_ne)
  k_with "M sub2" => repeat (first | exact List.forall_mem_nil _ | refine fcons ⟨_, by k_mem⟩ ?_)
  k_with "M off" => repeat (first | exact List.forall_mem_nil _ | refine fcons (nin1 (by (try dsimp only); k_ne)) ?_)
  k_with "M sub" => repeat (first | exact List.forall_mem_nil _ | (refine fcons ?k9w ?_; (case k9w => k_mem)))
  k_with "subscriptTail Name Slice ref ref" => refine' slice_all_led ?k9F ?k9N ?k9l ?k9z ?k9p ?k9q ?_ ?k9s ?k9t; (case k9F => k_asm); (case k9N => k_asm); (case k9l => k_mem); (case k9z => omega); (case k9p => kmk_part); (case k9q => kmk_part); (case k9s => with_unfolding_all rfl); (case k9t => kmk_pure); intro k9D k9h k9F k9N k9l1; (try k_lt k9l1); (try k_sweep)
  k_with "M same" => intro z h1 h2 h3; (try dsimp only); (repeat (first | refine same_if (by first | exact h1 | exact ne_ps h2 rfl | exact ne_st h3 rfl) ?_ | exact rfl | exact same_st h3 | exact same_kst h2 h3 | refine same_k (by repeat (first | exact List.forall_mem_nil _ | refine fcons (by first | exact h1 | exact ne_ps h2 rfl | exact ne_st h3 rfl) ?_)) ?_ | refine same_c (by repeat (first | exact nc_nil | refine nc_cons (by first | exact h1 | exact ne_ps h2 rfl | exact ne_st h3 rfl) ?_)) ?_))
  k_with "call builtin:list.append" => refine' append_led ?k9la ?k9lb ?k9lc ?k9ld ?_; (case k9la => k_asm); (case k9lb => k_asm); (case k9lc => k_upd); (case k9ld => omega); intro k9h k9F k9N; (try k_sweep)
  k_with "call builtin:list.reverse" => refine' reverse_led ?k9la ?k9lb ?k9lc ?k9ld ?_; (case k9la => k_asm); (case k9lb => k_asm); (case k9lc => k_upd); (case k9ld => omega); intro k9h k9F k9N; (try k_sweep)
  k_with "binaryOp LShift int int" => refine' lshift_bits ?k9la ?k9lb ?k9lc ?k9ld ?_; (case k9la => omega); (case k9lb => omega); (case k9lc => bits_by_make); (case k9ld => decide)
  k_with "inplaceOp LShift int int" => refine' ilshift_bits ?k9la ?k9lb ?k9lc ?k9ld ?_; (case k9la => omega); (case k9lb => omega); (case k9lc => bits_by_make); (case k9ld => decide)
  k_with "M ROOM" => first | omega | ktr_room | ((try dsimp only [Around.deeper, ktrTop]); omega)
  k_with "M UNITS" => first | omega | ((try dsimp only [Around.deeper, ktrTop]); omega) | ktr_units
  k_with "execs cons" => (try k_fold); with_reducible first | refine seqL ?_ | (refine seqV ?_; intro Q8 q8)
  k_with "M un" => with_reducible first | (refine seqVN (s := s1) (by assumption) ?_; intro tk8; try clear q8 Q8) | (refine seqVN (s := s) (by assumption) ?_; intro tk8; try clear q8 Q8) | refine seqVR (by assumption) ?_ | refine seqVM (by assumption) ?_ | refine seqVB (by assumption) ?_ | refine seqVC (by assumption) ?_
  k_with "eval Name" => k_here; k_dflt (refine' nameX_L ?k9F ?k9v ?_ ?k9a ?k9b; (case k9F => k_asm); (case k9a => exact Eq.refl _); (case k9b => exact Eq.refl (some NameKind.local)); (case k9v => exact Eq.refl (some _)); k_whole)
  k_with "binaryOp Mult int int" => refine' mul_eq ?k9rb ?k9rc ?_; (case k9rb => assumption); (case k9rc => mul_fits)
  k_with "eval Name" => k_here; k_dflt (refine' nameX_G ?k9F ?k9c ?k9m ?k9d ?_ ?k9a ?k9b (by decide) (by decide); (case k9a => rfl); (case k9b => rfl); (case k9F => k_asm); (case k9c => rfl); (case k9m => k_asm); (case k9d => k_asm); k_whole)
  k_with "callWith ref" => k_here; k_dflt (refine' callWith_F ?k9k1 ?_; (case k9k1 => exact FnAt.ofG (by assumption) (by assumption)); k_whole)
  k_with "FnAt" => exact FnAt.ofG (by assumption) (by assumption)
  k_with "binaryOp RShift int int" => refine' rshift_eq ?k9ra ?k9rb ?_; (case k9ra => omega); (case k9rb => assumption)
  k_with "M ENTER" => (
    unfold Ctr PR
    k_fill
    intro dp un gd cn cs aF ccd clF outer A₀ base h₀ L mF s Q E B F X T hke hOff hdp hun hPre hret
    first
    | (refine' enter B F X T hke hOff ?hz ?k6 ?k7 ?k8 ?k9 ?kB ?c5 ?c2 ?c3 ?c4 ?_
       (case k6 => exact (X.keeps F.keep) _ _ (by k_is))
       (case k7 => exact codeRec_of (X.keeps F.keep) (by k_is))
       (case hz => first | exact (fun _ h => absurd h List.not_mem_nil) | k_extra "M HZ")
       (case k8 => omega)
       (case k9 => first | exact BindsTo.of_eq rfl | exact binds_K (by k_in) rfl (by k_is) rfl rfl rfl | exact (fun M A E Q hq Γ p _ => wp_of_peek (X.keeps F.keep) hq _ (by rfl)) | fail "k_enter: no rule for these arguments")
       (case kB => exact locs rfl)
       (case c5 => decide)
       (case c2 => exact rfl)
       (case c3 => exact rfl)
       (case c4 => exact rfl)
       intro g h₁ F' hk1 hFr hKeep hg hOff' B' X' T' en7 Ar7 Qf7 Ef7
       have N' : News g s.heap.objs.size h₁ [] := News.nil
       have hNew := new_of hg
       try dsimp only
       clear B F X T hke hOff)
    | (refine' enterC B F X T hke hOff ?hz ?k6 ?k7 ?k8 ?k9 ?kB ?kD ?c2 ?c3 ?c4 ?_
       (case k6 => exact (X.keeps F.keep) _ _ (by k_is))
       (case k7 => exact codeRec_of (X.keeps F.keep) (by k_is))
       (case hz => first | exact (fun _ h => absurd h List.not_mem_nil) | k_extra "M HZ")
       (case k8 => omega)
       (case k9 => first | exact BindsTo.of_eq rfl | exact binds_K (by k_in) rfl (by k_is) rfl rfl rfl | exact (fun M A E Q hq Γ p _ => wp_of_peek (X.keeps F.keep) hq _ (by rfl)) | fail "k_enter: no rule for these arguments")
       (case kB => exact rfl)
       (case kD => decide +kernel)
       (case c2 => exact rfl)
       (case c3 => exact rfl)
       (case c4 => exact rfl)
       intro g h₁ tk' cells' F' N' Y' hk1 hFr hKeep hg hOff' B' X' T' en7 Ar7 Qf7 Ef7
       first
       | (obtain ⟨oc1, hE', dc1⟩ := CellsAre.one Y'; subst hE')
       | (obtain ⟨oc1, oc2, hE', dc1, dc2⟩ := CellsAre.two Y'; subst hE')
       | (obtain ⟨oc1, oc2, oc3, hE', dc1, dc2, dc3⟩ := CellsAre.three Y'; subst hE')
       | (obtain ⟨oc1, oc2, oc3, oc4, hE', dc1, dc2, dc3, dc4⟩ := CellsAre.four Y'; subst hE')
       clear Y'
       (try simp only [List.cons_append, List.nil_append] at N')
       have hNew := new_of hg
       try dsimp only
       clear B F X T hke hOff)
    )
  trivial
set_option maxHeartbeats 8000000 in
theorem ctr_d2i_1 {w : World} {p : Program} {loose : List Str} {mean : ExcName → Option Value} {mg mb : Str → Option Value} (l : Addr) (vs : List Value) (ns : List Int) (n : Nat) (tn : Tok) (c9 : Addr) (hns : 0 < ns.length ∧ ns.length < 100) (hn : 1 ≤ n ∧ n ≤ 10000) (hb : ∀ x ∈ ns, 0 ≤ x ∧ x < 2 ^ n) (hbn : n * ns.length ≤ 100000) :
    Ctr w (hd.heap_1 w.params) p loose mean mg mb 49 120 [44] [.ref l, .int (n : Int) tn]
      (fun h => h.get? 44 = some (tabObj (tripB c9)) ∧ h.IsList l vs.toArray ∧ IntsAre vs ns ∧ h.CodeRec (.ref c9) qualB)
      (fun r h h' => (∃ t, r = .int (d2i n ns) t) ∧ h'.get? 44 = some (tabObj (tripB c9))) := by
  k_with "M HZ" => (intro a9 h9; rw [List.mem_singleton.mp h9]; exact Heap.lt_size hPre.1)
  k_extra "M ENTER"
  refine byG fun G9 hG9 => ?_
  obtain ⟨hP, hl, hi, hCP⟩ := hPre
  refine hG9 ?_
  clear hG9 G9
  have h44 : 44 < s.heap.objs.size := Heap.lt_size hP
  have hl' := hl.at fun o e => hg _ o e (by obtain ⟨o9, e9, c9, _⟩ := hl; intro h9; rw [List.mem_singleton.mp h9, hP] at e9; cases e9; cases c9)
  have hCQ : g.CodeRec (.ref c9) qualB := codeRec_but hCP hg (by rw [hP]; rfl)
  have N2 := News.cons N' (hk1 _ _ hP) (hOff' 44 (.head _))
  have CH : CodeHd g 48 44 := codeHd_of_K X' (by kernel_rfl)
  clear hg N' hl

  k_with "call ref" => (refine hold ?_)
  k_steps
  all_goals (try dsimp only)
  refine unhold ?_
  rename Obj.data _ = Data.cell (some (Value.ref _)) => dI
  have dN : oc2.data = .cell (some (.int (n : Int) tn)) := dc2
  have dD : oc3.data = .cell (some (.ref l)) := dc3
  clear dc1 dc2 dc3
  rename Fr _ _ _ _ => FX
  rename News _ _ _ _ => NX
  refine with_led NX fun lg hlg NY => ?_
  rename_i f9 ct9 dc9 h9 tk9 l19 h99 o9
  have key : ∀ d L R : Nat, R - L ≤ d → L < R → R ≤ ns.length → ∀ t1 t2 : Tok, Ctr w (hd.heap_1 w.params) p loose mean mg mb f9 d [] [.int (L : Int) t1, .int (R : Int) t2] (fun h => (∀ q ∈ lg, h.get? q.1 = some q.2) ∧ h.IsList l vs.toArray ∧ h.CodeRec (.ref c9) qualB) (fun r _ _ => ∃ t, r = .int (d2iR n ns L R) t) := by
    intro d
    induction d with
    | zero => intro L R h1 h2; omega
    | succ d ih =>
      intro Lo Hi hd1 hd2 hd3 t1 t2
      unfold Ctr PR
      intro dp2 un2 gd2 cn2 cs2 aF2 ccd2 clF2 outer2 A₂ base2 h₂ L2 m2 s2 Q2 E2 B2 F2 X2 T2 hke2 hOff2 hdp2 hun2 hPre2 hret2
      have hPg0 := hPre2.1
      rw [hlg] at hPre2
      obtain ⟨hPl, hPL, hPC⟩ := hPre2
      simp only [List.forall_mem_cons, List.not_mem_nil, false_implies, implies_true, and_true] at hPl
      refine byG fun G9 hG9 => ?_
      obtain ⟨p1, p3, p4, p5, p6⟩ := hPl
      refine hG9 ?_
      clear hG9 G9
      refine' enter B2 F2 X2 T2 hke2 hOff2 (fun _ h => absurd h List.not_mem_nil) p1 ?k7 ?k8 ?k9 ?kB ?c5 ?c2 ?c3 ?c4 ?_
      (case k7 => exact hPC)
      (case k8 => omega)
      (case k9 => exact BindsTo.of_eq rfl)
      (case kB => exact locs rfl)
      (case c5 => decide)
      (case c2 => exact rfl)
      (case c3 => exact rfl)
      (case c4 => exact rfl)
      intro g2 h2 F3 hk2 hFr2 hKeep2 hg2 hOff3 B3 X3 T3
      have N3 : News g2 s2.heap.objs.size h2 [] := News.nil
      have hPg : ∀ q ∈ lg, g2.get? q.1 = some q.2 := fun q hq => hg2 _ _ (hPg0 q hq) List.not_mem_nil
      have q1 := hg2 _ _ p1 List.not_mem_nil
      have q4 := hg2 _ _ p4 List.not_mem_nil
      have q5 := hg2 _ _ p5 List.not_mem_nil
      have q6 := hg2 _ _ p6 List.not_mem_nil
      have hL3 := hPL.at fun o e => hg2 _ o e List.not_mem_nil
      have hPC3 := codeRec_less hPC fun b o e => hg2 b o e List.not_mem_nil
      clear B2 F2 X2 T2 hke2 hOff2 p1 p3 p4 p5 p6
      have hmid : Int.fdiv ((Lo : Int) + (Hi : Int)) (2 ^ Int.toNat 1) = ((((Lo + Hi) / 2 : Nat)) : Int) := by rw [Int.fdiv_eq_ediv_of_nonneg _ (by decide)]; show _ / 2 = _; omega
      generalize hM : (Lo + Hi) / 2 = M at hmid
      have hsb : (M - Lo) * n ≤ 100000 := Nat.le_trans (by rw [Nat.mul_comm]; exact Nat.mul_le_mul_left _ (by omega)) hbn
      have hsft : ((M : Int) - (Lo : Int)) * (n : Int) = (((M - Lo) * n : Nat) : Int) := by
        by_cases hc : Lo ≤ M
        · rw [Int.natCast_mul, Int.ofNat_sub hc]
        · omega
      have hspl : Lo ≤ M → M ≤ Hi → d2iR n ns Lo Hi = d2iR n ns M Hi * 2 ^ ((M - Lo) * n) + d2iR n ns Lo M := fun h1 h2 => d2iR_split n ns Lo M Hi h1 h2 hd3
      generalize hsh : (M - Lo) * n = sh at hsb hsft hspl
      have hbM := d2iR_bits n ns M Hi hd3 hb hbn
      k_steps
      all_goals (try dsimp only)
      · have e9 : (Lo : Int) + 1 = (Hi : Int) := by assumption
        have e8 : Hi = Lo + 1 := by omega
        subst e8
        (repeat k_extra "M un")
        refine done_of (hret2 _ _ _ (hFr2 _ (hKeep2 _ _ _ (by assumption))) (hKeep2 _ _ _ (by assumption)) (int_post ?_))
        rw [d2iR_one n ns Lo (by omega)]; rfl
      · refine unhold ?_
        rename Fr _ _ _ _ => FZ
        refine (ih M Hi (by omega) (by omega) hd3 _ _).use B3 FZ X3 T3 rfl Off.nil (by k_extra "M ROOM") (by k_extra "M UNITS") ⟨fun q hq => FZ.keep _ _ (hPg q hq), hL3.at fun o e => FZ.keep _ o e, hPC3.keeps FZ.keep⟩ ?_
        rintro r hA tkA FA KA ⟨tA, rfl⟩
        have NA : News g2 s2.heap.objs.size hA [] := News.nil
        clear FZ
        k_steps
        all_goals (try dsimp only)
        refine unhold ?_
        rename Fr _ _ _ _ => FZ
        refine (ih Lo M (by omega) (by omega) (by omega) _ _).use B3 FZ X3 T3 rfl Off.nil (by k_extra "M ROOM") (by k_extra "M UNITS") ⟨fun q hq => FZ.keep _ _ (hPg q hq), hL3.at fun o e => FZ.keep _ o e, hPC3.keeps FZ.keep⟩ ?_
        rintro r hB tkB FB KB ⟨tB, rfl⟩
        have NB : News g2 s2.heap.objs.size hB [] := News.nil
        clear FZ
        k_steps
        all_goals (try dsimp only)
        (repeat k_extra "M un")
        refine done_of (hret2 _ _ _ (hFr2 _ (hKeep2 _ _ _ (by assumption))) (hKeep2 _ _ _ (by assumption)) (int_post ?_))
        rw [hspl (by omega) (by omega), Int.toNat_natCast]
  refine (key ns.length 0 ns.length (by omega) (by omega) (Nat.le_refl _) _ _).use B' FX X' T' rfl Off.nil (by k_extra "M ROOM") (by k_extra "M UNITS") ⟨fun q hq => (NY q hq).1, hl'.at fun o e => FX.keep _ o e, hCQ.keeps FX.keep⟩ ?_
  rintro r hA tkA FA KA ⟨tA, rfl⟩
  have NA := KA.news0 NX
  (repeat k_extra "M un")
  refine done_of (hret _ _ _ (hFr _ (hKeep _ _ _ FA)) (hKeep _ _ _ FA) ?_)


  exact ⟨⟨_, by rw [d2iR_all]⟩, (NA _ (.tail _ (.head _))).1⟩
end

section
theorem hush_C_dp : True := by
  k_with_none
  w_top off
  trivial
theorem rules_C_dp_0 : True := by
  k_with "M ne" => first | exact NeW.l (by with_reducible assumption) | exact NeW.r (by with_reducible assumption) | (refine neN ?_; (try dsimp only); omega)
  k_with "M bits" => first | with_reducible assumption | exact bits_pow2 (by omega)
  k_with "M mem" => first | exact List.Mem.head _ | exact mem1 | exact mem2 | exact mem3 | exact mem4 | exact mem5 | exact mem6 | exact mem7 | exact mem8 | exact mem9 | exact mem10 | exact mem11 | exact mem12 | exact mem13
  trivial

theorem codeRec_hide {h g : Heap} {Ts : List Addr} {c : Addr} {q : Str} (x : h.CodeRec (.ref c) q) (hg : ∀ b o, h.get? b = some o → b ∉ Ts → g.get? b = some o) (hT : ∀ b ∈ Ts, ∃ ps, h.get? b = some (tabObj ps) ∧ ∀ v, ps[1]? = some v → ∃ i t, v = .int i t) : g.CodeRec (.ref c) q := by
  obtain ⟨c', o, vs, t, e1, e2, e3, e4⟩ := x
  cases e1
  refine ⟨c, o, vs, t, rfl, hg _ _ e2 fun hm => ?_, e3, e4⟩
  obtain ⟨ps, e5, e6⟩ := hT _ hm
  rw [e5] at e2
  cases e2
  cases e3
  obtain ⟨i, t', e7⟩ := e6 _ e4
  cases e7
/-- both tables filled, by these codes -/
noncomputable def Hit (cA cB : Addr) (h : Heap) : Prop := h.get? 44 = some (tabObj (tripB cB)) ∧ h.get? 37 = some (tabObj (tripA cA)) ∧ h.CodeRec (.ref cB) qualB ∧ h.CodeRec (.ref cA) qualA
theorem Hit.tabs {cA cB : Addr} {h : Heap} (x : Hit cA cB h) : ∀ b ∈ [(44 : Addr), 37], ∃ ps, h.get? b = some (tabObj ps) ∧ ∀ v, ps[1]? = some v → ∃ i t, v = .int i t := fun b hb => by
  rcases List.mem_cons.mp hb with rfl | hb
  · exact ⟨_, x.1, fun v hv => ⟨_, _, (Option.some.inj hv).symm⟩⟩
  · rw [List.mem_singleton.mp hb]; exact ⟨_, x.2.1, fun v hv => ⟨_, _, (Option.some.inj hv).symm⟩⟩
theorem Hit.lt {cA cB : Addr} {h : Heap} (x : Hit cA cB h) : ∀ a ∈ [(44 : Addr), 37], a < h.objs.size := fun a ha => by
  rcases List.mem_cons.mp ha with rfl | ha
  · exact Heap.lt_size x.1
  · rw [List.mem_singleton.mp ha]; exact Heap.lt_size x.2.1
theorem Hit.codes {cA cB : Addr} {h g : Heap} (x : Hit cA cB h) (hg : ∀ b o, h.get? b = some o → b ∉ [(44 : Addr), 37] → g.get? b = some o) : g.CodeRec (.ref cB) qualB ∧ g.CodeRec (.ref cA) qualA :=
  ⟨codeRec_hide x.2.2.1 hg x.tabs, codeRec_hide x.2.2.2 hg x.tabs⟩

theorem enterR_C_dp_0 : True := by
  k_with_none
  k_with "M ne" => first | exact NeW.l (by with_reducible assumption) | exact NeW.r (by with_reducible assumption) | (refine neN ?_; (try dsimp only); omega)
  k_with "M bits" => first | with_reducible assumption | exact bits_pow2 (by omega)
  k_with "M mem" => first | exact List.Mem.head _ | exact mem1 | exact mem2 | exact mem3 | exact mem4 | exact mem5 | exact mem6 | exact mem7 | exact mem8 | exact mem9 | exact mem10 | exact mem11 | exact mem12 | exact mem13
  k_with "M nw" => (try simp only [AllNw, and_true]); (try dsimp only); (repeat' constructor) <;> first | with_reducible assumption | (refine NeW.of ?_; k_ne)
  k_with "M sub2" => repeat (first | exact List.forall_mem_nil _ | refine fcons ⟨_, by k_mem⟩ ?_)
  k_with "M off" => repeat (first | exact List.forall_mem_nil _ | refine fcons (nin1 (by (try dsimp only); k_ne)) ?_)
  k_with "M sub" => repeat (first | exact List.forall_mem_nil _ | (refine fcons ?k9w ?_; (case k9w => k_mem)))
  k_with "subscriptTail Name Slice ref ref" => refine' slice_all_led ?k9F ?k9N ?k9l ?k9z ?k9p ?k9q ?_ ?k9s ?k9t; (case k9F => k_asm); (case k9N => k_asm); (case k9l => k_mem); (case k9z => omega); (case k9p => kmk_part); (case k9q => kmk_part); (case k9s => with_unfolding_all rfl); (case k9t => kmk_pure); intro k9D k9h k9F k9N k9l1; (try k_lt k9l1); (try k_sweep)
  k_with "M same" => intro z h1 h2 h3; (try dsimp only); (repeat (first | refine same_if (by first | exact h1 | exact ne_ps h2 rfl | exact ne_st h3 rfl) ?_ | exact rfl | exact same_st h3 | exact same_kst h2 h3 | refine same_k (by repeat (first | exact List.forall_mem_nil _ | refine fcons (by first | exact h1 | exact ne_ps h2 rfl | exact ne_st h3 rfl) ?_)) ?_ | refine same_c (by repeat (first | exact nc_nil | refine nc_cons (by first | exact h1 | exact ne_ps h2 rfl | exact ne_st h3 rfl) ?_)) ?_))
  k_with "call builtin:list.append" => refine' append_led ?k9la ?k9lb ?k9lc ?k9ld ?_; (case k9la => k_asm); (case k9lb => k_asm); (case k9lc => k_upd); (case k9ld => omega); intro k9h k9F k9N; (try k_sweep)
  k_with "call builtin:list.reverse" => refine' reverse_led ?k9la ?k9lb ?k9lc ?k9ld ?_; (case k9la => k_asm); (case k9lb => k_asm); (case k9lc => k_upd); (case k9ld => omega); intro k9h k9F k9N; (try k_sweep)
  k_with "binaryOp LShift int int" => refine' lshift_bits ?k9la ?k9lb ?k9lc ?k9ld ?_; (case k9la => omega); (case k9lb => omega); (case k9lc => bits_by_make); (case k9ld => decide)
  k_with "inplaceOp LShift int int" => refine' ilshift_bits ?k9la ?k9lb ?k9lc ?k9ld ?_; (case k9la => omega); (case k9lb => omega); (case k9lc => bits_by_make); (case k9ld => decide)
  k_with "M ROOM" => first | omega | ktr_room | ((try dsimp only [Around.deeper, ktrTop]); omega)
  k_with "M UNITS" => first | omega | ((try dsimp only [Around.deeper, ktrTop]); omega) | ktr_units
  k_with "execs cons" => (try k_fold); with_reducible first | refine seqL ?_ | (refine seqV ?_; intro Q8 q8)
  k_with "M un" => with_reducible first | (refine seqVN (s := s1) (by assumption) ?_; intro tk8; try clear q8 Q8) | (refine seqVN (s := s) (by assumption) ?_; intro tk8; try clear q8 Q8) | refine seqVR (by assumption) ?_ | refine seqVM (by assumption) ?_ | refine seqVB (by assumption) ?_ | refine seqVC (by assumption) ?_
  k_with "eval Name" => k_here; k_dflt (refine' nameX_L ?k9F ?k9v ?_ ?k9a ?k9b; (case k9F => k_asm); (case k9a => exact Eq.refl _); (case k9b => exact Eq.refl (some NameKind.local)); (case k9v => exact Eq.refl (some _)); k_whole)
  k_with "M ENTER" => (
    unfold Ctr PR
    k_fill
    intro dp un gd cn cs aF ccd clF outer A₀ base h₀ L mF s Q E B F X T hke hOff hdp hun hPre hret
    first
    | (refine' enter B F X T hke hOff ?hz ?k6 ?k7 ?k8 ?k9 ?kB ?c5 ?c2 ?c3 ?c4 ?_
       (case k6 => exact (X.keeps F.keep) _ _ (by k_is))
       (case k7 => exact codeRec_of (X.keeps F.keep) (by k_is))
       (case hz => first | exact (fun _ h => absurd h List.not_mem_nil) | k_extra "M HZ")
       (case k8 => omega)
       (case k9 => first | exact BindsTo.of_eq rfl | exact binds_K (by k_in) rfl (by k_is) rfl rfl rfl | exact (fun M A E Q hq Γ p _ => wp_of_peek (X.keeps F.keep) hq _ (by rfl)) | fail "k_enter: no rule for these arguments")
       (case kB => exact locs rfl)
       (case c5 => decide)
       (case c2 => exact rfl)
       (case c3 => exact rfl)
       (case c4 => exact rfl)
       intro g h₁ F' hk1 hFr hKeep hg hOff' B' X' T' en7 Ar7 Qf7 Ef7
       have N' : News g s.heap.objs.size h₁ [] := News.nil
       have hNew := new_of hg
       try dsimp only
       clear B F X T hke hOff)
    | (refine' enterC B F X T hke hOff ?hz ?k6 ?k7 ?k8 ?k9 ?kB ?kD ?c2 ?c3 ?c4 ?_
       (case k6 => exact (X.keeps F.keep) _ _ (by k_is))
       (case k7 => exact codeRec_of (X.keeps F.keep) (by k_is))
       (case hz => first | exact (fun _ h => absurd h List.not_mem_nil) | k_extra "M HZ")
       (case k8 => omega)
       (case k9 => first | exact BindsTo.of_eq rfl | exact binds_K (by k_in) rfl (by k_is) rfl rfl rfl | exact (fun M A E Q hq Γ p _ => wp_of_peek (X.keeps F.keep) hq _ (by rfl)) | fail "k_enter: no rule for these arguments")
       (case kB => exact rfl)
       (case kD => decide +kernel)
       (case c2 => exact rfl)
       (case c3 => exact rfl)
       (case c4 => exact rfl)
       intro g h₁ tk' cells' F' N' Y' hk1 hFr hKeep hg hOff' B' X' T' en7 Ar7 Qf7 Ef7
       first
       | (obtain ⟨oc1, hE', dc1⟩ := CellsAre.one Y'; subst hE')
       | (obtain ⟨oc1, oc2, hE', dc1, dc2⟩ := CellsAre.two Y'; subst hE')
       | (obtain ⟨oc1, oc2, oc3, hE', dc1, dc2, dc3⟩ := CellsAre.three Y'; subst hE')
       | (obtain ⟨oc1, oc2, oc3, oc4, hE', dc1, dc2, dc3, dc4⟩ := CellsAre.four Y'; subst hE')
       clear Y'
       (try simp only [List.cons_append, List.nil_append] at N')
       have hNew := new_of hg
       try dsimp only
       clear B F X T hke hOff)
    )
  trivial
set_option maxHeartbeats 8000000 in
theorem ctr_dp {w : World} {p : Program} {loose : List Str} {mean : ExcName → Option Value} {mg mb : Str → Option Value} (a b : Int) (n : Nat) (ta tb : Tok) (cA cB : Addr) (ha : 0 < a) (hb : 0 < b) (hn : n = Builtin.Int.intBits b) (hn1 : 1 ≤ n) (hn2 : n ≤ 5800) (hab : Builtin.Int.intBits a ≤ 90000) (hkn : (Builtin.Int.intBits a + n - 1) / n < 100) :
    Ctr w (hd.heap_1 w.params) p loose mean mg mb 56 140 [44, 37] [.int a ta, .int b tb]
      (fun h => Hit cA cB h)
      (fun r h h' => Pair (Int.fdiv a b) (Int.fmod a b) r h h' ∧ Hit cA cB h') := by
  k_with "M HZ" => (exact hPre.lt)
  k_extra "M ENTER"
  refine byG fun G9 hG9 => ?_
  obtain ⟨cB2, cA2⟩ := hPre.codes hg
  obtain ⟨hP, hP2, hCB, hCA⟩ := hPre
  refine hG9 ?_
  clear hG9 G9
  have h44 : 44 < s.heap.objs.size := Heap.lt_size hP
  have o44 := hOff' 44 (.head _)
  have o37 := hOff' 37 (.tail _ (.head _))
  have N2 := News.cons (News.one (hk1 _ _ hP2) o37) (hk1 _ _ hP) o44
  clear hg N' hCB hCA
  k_with "call ref" => (refine hold ?_)
  k_with "M pyIter" => (refine hold ?_)
  k_steps
  all_goals (try dsimp only)
  refine unhold ?_
  rw [← hn]
  rename Fr _ _ _ _ => FZ
  rename News _ _ _ _ => NZ
  refine (ctr_i2d_1 a ta n _ cA (by omega) (by omega) (by omega) (by omega)).use B' FZ X' T' rfl (Off.one o37.1 o37.2) (by k_extra "M ROOM") (by k_extra "M UNITS") ⟨(NZ _ (.tail _ (.head _))).1, cA2.keeps FZ.keep⟩ ?_
  rintro r hA tkA FA KA hp95
  refine byG fun G9 hG9 => ?_
  obtain ⟨⟨d, vs, rfl, hm, hi⟩, e37⟩ := hp95
  refine hG9 ?_
  clear hG9 G9
  have NA := hm.news FZ (News.cons (News.one e37 o37) (KA _ _ (NZ _ (.head _)).1 (nin1 (neN (by omega)))) o44)
  have lA := hm.ne NZ
  simp only [AllNe, and_true] at lA
  have hdD : g.get? d = none ∧ d ≠ s.heap.objs.size := ⟨(NA _ (.head _)).2.2, (NA _ (.head _)).2.1⟩
  clear FZ NZ hm KA
  generalize hk : (Builtin.Int.intBits a + n - 1) / n = k at *
  have hvl : vs.length = k := by rw [hi.length, i2d_length]
  have hak : a < 2 ^ (n * k) := lt_pow_digits hn1 (Int.le_of_lt ha) hk.symm
  have hb2 : 2 ^ (n - 1) ≤ b ∧ b < 2 ^ n := by
    have h1 := lt_of_bits (x := b) (k := n) (by omega)
    refine ⟨Int.not_lt.mp fun h2 => ?_, h1⟩
    have := bits_lt (Int.le_of_lt hb) h2
    omega
  k_steps
  all_goals (try dsimp only)
  refine unhold ?_
  rename Fr _ _ _ _ => FZ
  rename News _ _ _ _ => NZ
  refine with_head NZ fun D o9 rest hD => ?_
  obtain ⟨rfl, -, -⟩ := hD
  refine with_head (News.sub NZ fun q hq => .tail _ hq) fun l2 o9 rest hD => ?_
  obtain ⟨rfl, -, -⟩ := hD
  refine' loop_rev (σ := Int × Tok × List Value × Nat) (l := d) (vs := vs) (nn := 0) (news := _) (fun c => [(l2, W.listOf c.2.2.1.toArray c.2.2.2), (d, W.listOf vs.toArray 0), (44, tabObj (tripB cB)), (37, tabObj (tripA cA))]) (fun c => [(Str.ofString "r", .int c.1 c.2.1)]) [Str.ofString "q_digit", Str.ofString "r"]
    (fun i c => c.1 = Int.fmod (upper n k a i) b ∧ ∃ qs, IntsAre c.2.2.1 qs ∧ qs.reverse = i2d n i (Int.fdiv (upper n k a i) b)) (0, _, [], 0) ?Rh ?RD ?Rl ?RL ?Rn ?RF ?RN ?Rk ?Rp ?Rt ?Rd
  case RF => exact FZ
  case Rk =>
    refine List.forall_mem_singleton.mpr ?_
    dsimp only
    rw [if_neg (show ¬ (Str.ofString "r" = Str.ofString "q_digits") by decide), if_pos rfl]
  case RN => exact NZ
  case Rh => rfl
  case RD => exact .head _
  case Rl => exact fun c => .tail _ (.head _)
  case RL => intro p hp; exact .tail _ hp
  case Rn =>
    simp only [List.forall_mem_cons, List.not_mem_nil, false_implies, implies_true, and_true]
    refine ⟨neN (by omega), neN (by omega), neN (by omega), neN (by omega)⟩
  case Rp => exact ⟨by rw [upper_zero (Int.le_of_lt ha) hak]; simp, [], .nil, by rw [upper_zero (Int.le_of_lt ha) hak]; rfl⟩
  case Rt =>
    clear FZ NZ
    refine sp4 ?_
    rintro r0 tr0 qv sp i v u h tk oI hiv hv hp99 hne FZ NZ
    refine byG fun G9 hG9 => ?_
    obtain ⟨hr0, qs, hqs, hqr⟩ := hp99
    refine hG9 ?_
    clear hG9 G9
    dsimp only at hr0 hqs hqr hne NZ
    have hql : qv.length = i := by rw [hqs.length, ← List.length_reverse, hqr, i2d_length]
    simp only [List.forall_mem_cons, List.not_mem_nil, false_implies, implies_true, and_true] at hne
    have hik : i < k := by omega
    have hdg := hi.get _ _ (i2d_get n k a (k - 1 - i) (by omega))
    rw [← hvl, hv] at hdg
    obtain ⟨tg, hdg⟩ := hdg
    cases hdg
    have hst := upper_step (n := n) (a := a) hik
    have hd0 : 0 ≤ a / 2 ^ (n * (List.length vs - 1 - i)) % 2 ^ n ∧ a / 2 ^ (n * (List.length vs - 1 - i)) % 2 ^ n < 2 ^ n := ⟨Int.emod_nonneg _ (Int.ne_of_gt (two_pow_posI n)), Int.emod_lt_of_pos _ (two_pow_posI n)⟩
    rw [← hvl] at hst
    generalize a / 2 ^ (n * (List.length vs - 1 - i)) % 2 ^ n = dg at *
    have hld := ld_step (n := n) (b := b) (x := upper n (List.length vs) a i) (dg := dg) hb (upper_nonneg (Int.le_of_lt ha)) hd0
    refine byG fun G9 hG9 => ?_
    obtain ⟨z0, z1, z2, z3, z4, z5⟩ := hld
    refine hG9 ?_
    clear hG9 G9
    rw [← hst] at z4 z5
    have hx := (fdiv_fmod_facts (upper n (List.length vs) a i) b).2.2.1 hb
    rw [← hvl] at hr0 hqr
    subst hr0
    generalize hr0 : Int.fmod (upper n (List.length vs) a i) b = r0 at *
    have hbR : Builtin.Int.intBits r0 ≤ 100000 := by
      have := bits_lt (k := n) hx.1 (by omega)
      omega
    k_with "call ref" => (refine hold ?_)
    k_steps
    all_goals (try dsimp only)
    refine unhold ?_
    rename Fr _ _ _ _ => FZ
    rename News _ _ _ _ => NZ
    rw [Int.toNat_natCast, ← hn]
    refine (ctr_2n1n (r0 * 2 ^ n + dg) b n _ _ _ hn1 (by omega) z0 z1 hb2).use B' FZ X' T' rfl Off.nil (by k_extra "M ROOM") (by k_extra "M UNITS") trivial ?_
    rintro r hB tkB FB KB hp95
    refine byG fun G9 hG9 => ?_
    obtain ⟨u1, u2, t9, rfl, hm⟩ := hp95
    refine hG9 ?_
    clear hG9 G9
    have NB := hm.news FZ (KB.news0 NZ)
    have lB := hm.ne NZ
    simp only [AllNe, and_true] at lB
    clear FZ NZ hm KB
    rw [z4] at NB
    generalize hr1 : Int.fmod (upper n (List.length vs) a (i + 1)) b = r1 at *
    generalize hq1 : Int.fdiv (r0 * 2 ^ n + dg) b = q1 at *
    k_steps
    all_goals (repeat k_extra "M un")
    all_goals (try dsimp only [Post1])
    rename Fr _ _ _ _ => FZ
    rename News _ _ _ _ => NZ
    refine End1.intro (r1, u2, qv ++ [Value.int q1 u1], sp + 1) FZ NZ (by k_mem) (fun p hp => .tail _ (.tail _ hp)) ?_ ?_ ?_ ?_
    · simp only [List.forall_mem_cons, List.not_mem_nil, false_implies, implies_true, and_true]
      exact hne
    · first | kst_in | kst_all
    · k_extra "M same"
      all_goals (try rw [hn])
    · rw [← hvl]
      refine ⟨hr1.symm, qs ++ [q1], hqs.append (.cons _ _ .nil), ?_⟩
      rw [List.reverse_append, hqr, z5, i2d_cons ⟨z2, z3⟩]
      rfl
  case Rd =>
    clear FZ NZ
    refine sp4 ?_
    rintro r0 tr0 qv sp u h tk hp94 FZ NZ
    refine byG fun G9 hG9 => ?_
    obtain ⟨hr0, qs, hqs, hqr⟩ := hp94
    refine hG9 ?_
    clear hG9 G9
    dsimp only at hr0 hqs hqr
    dsimp only
    dsimp only at hr0 hqs hqr NZ
    have hql : qv.length = k := by rw [hqs.length, ← List.length_reverse, hqr, i2d_length, hvl]
    k_with "call ref" => (refine hold ?_)
    k_steps
    all_goals (try dsimp only)
    refine unhold ?_
    rename Fr _ _ _ _ => FZ
    rename News _ _ _ _ => NZ
    rw [← hn]
    rw [hvl, upper_all] at hr0 hqr
    have hkp : 0 < k := by
      rcases Nat.eq_zero_or_pos k with h0 | h0
      · rw [h0] at hak; simp at hak; omega
      · exact h0
    have hq0 : 0 ≤ Int.fdiv a b := Int.fdiv_nonneg (Int.le_of_lt ha) (Int.le_of_lt hb)
    have hqa : Int.fdiv a b < 2 ^ (n * k) := Int.lt_of_le_of_lt (by rw [Int.fdiv_eq_ediv_of_nonneg _ (Int.le_of_lt hb)]; exact Int.ediv_le_self _ (Int.le_of_lt ha)) hak
    have hnk : n * k ≤ 100000 := by
      rw [← hk]
      have := Nat.mul_div_le (Builtin.Int.intBits a + n - 1) n
      omega
    refine (ctr_d2i_1 l2 qv.reverse (i2d n k (Int.fdiv a b)) n _ cB ⟨by rw [i2d_length]; omega, by rw [i2d_length]; omega⟩ ⟨hn1, by omega⟩ (i2d_bnd n k _) (by rw [i2d_length]; exact hnk)).use B' FZ X' T' rfl (Off.one o44.1 o44.2) (by k_extra "M ROOM") (by k_extra "M UNITS") ⟨(NZ _ (.tail _ (.tail _ (.head _)))).1, ⟨_, (NZ _ (.head _)).1, rfl, _, rfl⟩, by rw [← hqr]; exact hqs.reverse, cB2.keeps FZ.keep⟩ ?_
    rintro r hB tkB FB KB hp95
    refine byG fun G9 hG9 => ?_
    obtain ⟨⟨tq, rfl⟩, e44⟩ := hp95
    refine hG9 ?_
    clear hG9 G9
    have NB : News g s.heap.objs.size hB [(44, tabObj (tripB cB)), (37, tabObj (tripA cA))] := News.cons (News.one (KB _ _ (NZ _ (.tail _ (.tail _ (.tail _ (.head _))))).1 (nin1 (neN (by omega)))) o37) e44 o44
    clear FZ NZ KB
    rw [d2i_i2d n k _ hq0 hqa]
    k_steps
    all_goals (try dsimp only)
    (repeat k_extra "M un")
    refine done_of (hret _ _ _ (hFr _ (hKeep _ _ _ (by assumption))) (hKeep _ _ _ (by assumption)) ?_)
    rename Fr _ _ _ _ => FZ
    rename News _ _ _ _ => NZ
    rw [hr0] at NZ
    exact ⟨⟨_, _, _, rfl, MadeAt.of hNew NZ (.head _) (nin2 (neN (by omega)) (neN (by omega)))⟩, (NZ _ (.tail _ (.head _))).1, (NZ _ (.tail _ (.tail _ (.head _)))).1, cB2.keeps FZ.keep, cA2.keeps FZ.keep⟩
end

section
theorem hush_C_ins : True := by
  k_with_none
  w_top off
  trivial
theorem rules_C_ins_0 : True := by
  k_with "M ne" => first | exact NeW.l (by with_reducible assumption) | exact NeW.r (by with_reducible assumption) | (refine neN ?_; (try dsimp only); omega)
  k_with "M bits" => first | with_reducible assumption | exact bits_pow2 (by omega)
  k_with "M mem" => first | exact List.Mem.head _ | exact mem1 | exact mem2 | exact mem3 | exact mem4 | exact mem5 | exact mem6 | exact mem7 | exact mem8 | exact mem9 | exact mem10 | exact mem11 | exact mem12 | exact mem13
  trivial

theorem insert_led {prog : Program} {w : World} {A : Around} {E : Value → Shared → Prop} {s : Shared} {h₀ : Heap} {L : Addr} {m : Str → Option Value} {news news' : List (Addr × Obj)} {D : Addr} {vs : List Value} {n : Nat} {x : Int} {u : Tok} {y : Value} {Q : Value → Shared → Prop} (F : Fr h₀ L s.heap m) (N : News h₀ L s.heap news)
    (U : Upd D (W.listOf vs.toArray n) (W.listOf (vs.take x.toNat ++ y :: vs.drop x.toNat).toArray (n + 1)) news news') (h0 : 0 ≤ x) (hx : x ≤ (vs.length : Int)) (hz : vs.length ≤ 100000)
    (h : ∀ h', Fr h₀ L h' m → News h₀ L h' news' → Q .none { s with heap := h' }) : wpAny (model prog w) A (call (.builtin "list.insert") [.ref D, .int x u, y]) Q E s := by
  refine kl_insert (l := vs.take x.toNat ++ y :: vs.drop x.toNat) F N ?_ ?_ U (by simp only [PySem.sizeLine_eq]; omega) h
  · unfold Builtin.List.listFitsIndex
    simp only [Bool.and_eq_true, decide_eq_true_eq]
    constructor <;> omega
  · show kl_ins vs x y = _
    unfold kl_ins
    rw [if_neg (by omega), Nat.min_eq_left (by omega)]
theorem enterR_C_ins_0 : True := by
  k_with_none
  k_with "M ne" => first | exact NeW.l (by with_reducible assumption) | exact NeW.r (by with_reducible assumption) | (refine neN ?_; (try dsimp only); omega)
  k_with "M bits" => first | with_reducible assumption | exact bits_pow2 (by omega)
  k_with "M mem" => first | exact List.Mem.head _ | exact mem1 | exact mem2 | exact mem3 | exact mem4 | exact mem5 | exact mem6 | exact mem7 | exact mem8 | exact mem9 | exact mem10 | exact mem11 | exact mem12 | exact mem13
  k_with "M nw" => (try simp only [AllNw, and_true]); (try dsimp only); (repeat' constructor) <;> first | with_reducible assumption | (refine NeW.of ?_; k_ne)
  k_with "M sub2" => repeat (first | exact List.forall_mem_nil _ | refine fcons ⟨_, by k_mem⟩ ?_)
  k_with "M off" => repeat (first | exact List.forall_mem_nil _ | refine fcons (nin1 (by (try dsimp only); k_ne)) ?_)
  k_with "M sub" => repeat (first | exact List.forall_mem_nil _ | (refine fcons ?k9w ?_; (case k9w => k_mem)))
  k_with "subscriptTail Name Slice ref ref" => refine' slice_all_led ?k9F ?k9N ?k9l ?k9z ?k9p ?k9q ?_ ?k9s ?k9t; (case k9F => k_asm); (case k9N => k_asm); (case k9l => k_mem); (case k9z => omega); (case k9p => kmk_part); (case k9q => kmk_part); (case k9s => with_unfolding_all rfl); (case k9t => kmk_pure); intro k9D k9h k9F k9N k9l1; (try k_lt k9l1); (try k_sweep)
  k_with "M same" => intro z h1 h2 h3; (try dsimp only); (repeat (first | refine same_if (by first | exact h1 | exact ne_ps h2 rfl | exact ne_st h3 rfl) ?_ | exact rfl | exact same_st h3 | exact same_kst h2 h3 | refine same_k (by repeat (first | exact List.forall_mem_nil _ | refine fcons (by first | exact h1 | exact ne_ps h2 rfl | exact ne_st h3 rfl) ?_)) ?_ | refine same_c (by repeat (first | exact nc_nil | refine nc_cons (by first | exact h1 | exact ne_ps h2 rfl | exact ne_st h3 rfl) ?_)) ?_))
  k_with "call builtin:list.append" => refine' append_led ?k9la ?k9lb ?k9lc ?k9ld ?_; (case k9la => k_asm); (case k9lb => k_asm); (case k9lc => k_upd); (case k9ld => omega); intro k9h k9F k9N; (try k_sweep)
  k_with "call builtin:list.reverse" => refine' reverse_led ?k9la ?k9lb ?k9lc ?k9ld ?_; (case k9la => k_asm); (case k9lb => k_asm); (case k9lc => k_upd); (case k9ld => omega); intro k9h k9F k9N; (try k_sweep)
  k_with "binaryOp LShift int int" => refine' lshift_bits ?k9la ?k9lb ?k9lc ?k9ld ?_; (case k9la => omega); (case k9lb => omega); (case k9lc => bits_by_make); (case k9ld => decide)
  k_with "inplaceOp LShift int int" => refine' ilshift_bits ?k9la ?k9lb ?k9lc ?k9ld ?_; (case k9la => omega); (case k9lb => omega); (case k9lc => bits_by_make); (case k9ld => decide)
  k_with "M ROOM" => first | omega | ktr_room | ((try dsimp only [Around.deeper, ktrTop]); omega)
  k_with "M UNITS" => first | omega | ((try dsimp only [Around.deeper, ktrTop]); omega) | ktr_units
  k_with "execs cons" => (try k_fold); with_reducible first | refine seqL ?_ | (refine seqV ?_; intro Q8 q8)
  k_with "M un" => with_reducible first | (refine seqVN (s := s1) (by assumption) ?_; intro tk8; try clear q8 Q8) | (refine seqVN (s := s) (by assumption) ?_; intro tk8; try clear q8 Q8) | refine seqVR (by assumption) ?_ | refine seqVM (by assumption) ?_ | refine seqVB (by assumption) ?_ | refine seqVC (by assumption) ?_
  k_with "eval Name" => k_here; k_dflt (refine' nameX_L ?k9F ?k9v ?_ ?k9a ?k9b; (case k9F => k_asm); (case k9a => exact Eq.refl _); (case k9b => exact Eq.refl (some NameKind.local)); (case k9v => exact Eq.refl (some _)); k_whole)
  k_with "call builtin:list.insert" => refine' insert_led ?k9la ?k9lb ?k9lc ?k9ld ?k9le ?k9lf ?_; (case k9la => k_asm); (case k9lb => k_asm); (case k9lc => k_upd); (case k9ld => omega); (case k9le => omega); (case k9lf => omega); intro k9h k9F k9N; (try k_sweep)
  k_with "M ENTER" => (
    unfold Ctr PR
    k_fill
    intro dp un gd cn cs aF ccd clF outer A₀ base h₀ L mF s Q E B F X T hke hOff hdp hun hPre hret
    first
    | (refine' enter B F X T hke hOff ?hz ?k6 ?k7 ?k8 ?k9 ?kB ?c5 ?c2 ?c3 ?c4 ?_
       (case k6 => exact (X.keeps F.keep) _ _ (by k_is))
       (case k7 => exact codeRec_of (X.keeps F.keep) (by k_is))
       (case hz => first | exact (fun _ h => absurd h List.not_mem_nil) | k_extra "M HZ")
       (case k8 => omega)
       (case k9 => first | exact BindsTo.of_eq rfl | exact binds_K (by k_in) rfl (by k_is) rfl rfl rfl | exact (fun M A E Q hq Γ p _ => wp_of_peek (X.keeps F.keep) hq _ (by rfl)) | fail "k_enter: no rule for these arguments")
       (case kB => exact locs rfl)
       (case c5 => decide)
       (case c2 => exact rfl)
       (case c3 => exact rfl)
       (case c4 => exact rfl)
       intro g h₁ F' hk1 hFr hKeep hg hOff' B' X' T' en7 Ar7 Qf7 Ef7
       have N' : News g s.heap.objs.size h₁ [] := News.nil
       have hNew := new_of hg
       try dsimp only
       clear B F X T hke hOff)
    | (refine' enterC B F X T hke hOff ?hz ?k6 ?k7 ?k8 ?k9 ?kB ?kD ?c2 ?c3 ?c4 ?_
       (case k6 => exact (X.keeps F.keep) _ _ (by k_is))
       (case k7 => exact codeRec_of (X.keeps F.keep) (by k_is))
       (case hz => first | exact (fun _ h => absurd h List.not_mem_nil) | k_extra "M HZ")
       (case k8 => omega)
       (case k9 => first | exact BindsTo.of_eq rfl | exact binds_K (by k_in) rfl (by k_is) rfl rfl rfl | exact (fun M A E Q hq Γ p _ => wp_of_peek (X.keeps F.keep) hq _ (by rfl)) | fail "k_enter: no rule for these arguments")
       (case kB => exact rfl)
       (case kD => decide +kernel)
       (case c2 => exact rfl)
       (case c3 => exact rfl)
       (case c4 => exact rfl)
       intro g h₁ tk' cells' F' N' Y' hk1 hFr hKeep hg hOff' B' X' T' en7 Ar7 Qf7 Ef7
       first
       | (obtain ⟨oc1, hE', dc1⟩ := CellsAre.one Y'; subst hE')
       | (obtain ⟨oc1, oc2, hE', dc1, dc2⟩ := CellsAre.two Y'; subst hE')
       | (obtain ⟨oc1, oc2, oc3, hE', dc1, dc2, dc3⟩ := CellsAre.three Y'; subst hE')
       | (obtain ⟨oc1, oc2, oc3, oc4, hE', dc1, dc2, dc3, dc4⟩ := CellsAre.four Y'; subst hE')
       clear Y'
       (try simp only [List.cons_append, List.nil_append] at N')
       have hNew := new_of hg
       try dsimp only
       clear B F X T hke hOff)
    )
  trivial
set_option maxHeartbeats 8000000 in
theorem ctr_ins {w : World} {p : Program} {loose : List Str} {mean : ExcName → Option Value} {mg mb : Str → Option Value} (l : Addr) (vs : List Value) (sp : Nat) (ns : List Int) (x : Int) (tx : Tok) (hlen : ns.length ≤ 100) (hr : Rising ns) :
    Ctr w (hd.heap_1 w.params) p loose mean mg mb 72 20 [l] [.ref l, .int x tx]
      (fun h => h.get? l = some (W.listOf vs.toArray sp) ∧ IntsAre vs ns)
      (fun r h h' => ∃ (k : Nat) (vs' : List Value), k ≤ ns.length ∧ BR ns x k k ∧ h'.get? l = some (W.listOf vs'.toArray (sp + 1)) ∧ IntsAre vs' (ns.take k ++ x :: ns.drop k)) := by
  k_with "M HZ" => (intro a9 h9; rw [List.mem_singleton.mp h9]; exact Heap.lt_size hPre.1)
  k_extra "M ENTER"
  obtain ⟨hP, hi⟩ := hPre
  have hl : l < s.heap.objs.size := Heap.lt_size hP
  have oL := hOff' l (.head _)
  have N2 := News.one (hk1 _ _ hP) oL
  clear hg N'
  k_with "call ref" => (refine hold ?_)
  k_steps
  all_goals (try dsimp only)
  refine unhold ?_
  rename Fr _ _ _ _ => FZ
  rename News _ _ _ _ => NZ
  refine (ctr_br l vs ns x _ _ hlen hr).use B' FZ X' T' rfl Off.nil (by k_extra "M ROOM") (by k_extra "M UNITS") ⟨⟨_, (NZ _ (.head _)).1, rfl, _, rfl⟩, hi⟩ ?_
  rintro r hA tkA FA KA hp95
  refine byG fun G9 hG9 => ?_
  obtain ⟨k, t9, rfl, hk0, hkn, hBR⟩ := hp95
  refine hG9 ?_
  clear hG9 G9
  have NA := KA.news0 NZ
  clear FZ NZ KA
  have hvl := hi.length
  k_steps
  all_goals (try dsimp only)
  (repeat k_extra "M un")
  refine done_of (hret _ _ _ (hFr _ (hKeep _ _ _ (by assumption))) (hKeep _ _ _ (by assumption)) ?_)
  rename News _ _ _ _ => NZ
  obtain ⟨k, rfl⟩ := Int.eq_ofNat_of_zero_le hk0
  rw [Int.toNat_natCast] at NZ
  exact ⟨k, _, by omega, hBR, (NZ _ (.head _)).1, (hi.take k).append (.cons _ _ (hi.drop k))⟩
end

section
theorem hush_C_tab : True := by
  k_with_none
  w_top off
  trivial
theorem rules_C_tab_0 : True := by
  k_with "M ne" => first | exact NeW.l (by with_reducible assumption) | exact NeW.r (by with_reducible assumption) | (refine neN ?_; (try dsimp only); omega)
  k_with "M bits" => first | with_reducible assumption | exact bits_pow2 (by omega)
  k_with "M mem" => first | exact List.Mem.head _ | exact mem1 | exact mem2 | exact mem3 | exact mem4 | exact mem5 | exact mem6 | exact mem7 | exact mem8 | exact mem9 | exact mem10 | exact mem11 | exact mem12 | exact mem13
  k_with "M nw" => (try simp only [AllNw, and_true]); (try dsimp only); (repeat' constructor) <;> first | with_reducible assumption | (refine NeW.of ?_; k_ne)
  k_with "M sub2" => repeat (first | exact List.forall_mem_nil _ | refine fcons ⟨_, by k_mem⟩ ?_)
  k_with "M off" => repeat (first | exact List.forall_mem_nil _ | refine fcons (nin1 (by (try dsimp only); k_ne)) ?_)
  k_with "M sub" => repeat (first | exact List.forall_mem_nil _ | (refine fcons ?k9w ?_; (case k9w => k_mem)))
  k_with "subscriptTail Name Slice ref ref" => refine' slice_all_led ?k9F ?k9N ?k9l ?k9z ?k9p ?k9q ?_ ?k9s ?k9t; (case k9F => k_asm); (case k9N => k_asm); (case k9l => k_mem); (case k9z => omega); (case k9p => kmk_part); (case k9q => kmk_part); (case k9s => with_unfolding_all rfl); (case k9t => kmk_pure); intro k9D k9h k9F k9N k9l1; (try k_lt k9l1); (try k_sweep)
  k_with "M same" => intro z h1 h2 h3; (try dsimp only); (repeat (first | refine same_if (by first | exact h1 | exact ne_ps h2 rfl | exact ne_st h3 rfl) ?_ | exact rfl | exact same_st h3 | exact same_kst h2 h3 | refine same_k (by repeat (first | exact List.forall_mem_nil _ | refine fcons (by first | exact h1 | exact ne_ps h2 rfl | exact ne_st h3 rfl) ?_)) ?_ | refine same_c (by repeat (first | exact nc_nil | refine nc_cons (by first | exact h1 | exact ne_ps h2 rfl | exact ne_st h3 rfl) ?_)) ?_))
  k_with "call builtin:list.append" => refine' append_led ?k9la ?k9lb ?k9lc ?k9ld ?_; (case k9la => k_asm); (case k9lb => k_asm); (case k9lc => k_upd); (case k9ld => omega); intro k9h k9F k9N; (try k_sweep)
  k_with "call builtin:list.reverse" => refine' reverse_led ?k9la ?k9lb ?k9lc ?k9ld ?_; (case k9la => k_asm); (case k9lb => k_asm); (case k9lc => k_upd); (case k9ld => omega); intro k9h k9F k9N; (try k_sweep)
  k_with "binaryOp LShift int int" => refine' lshift_bits ?k9la ?k9lb ?k9lc ?k9ld ?_; (case k9la => omega); (case k9lb => omega); (case k9lc => bits_by_make); (case k9ld => decide)
  k_with "inplaceOp LShift int int" => refine' ilshift_bits ?k9la ?k9lb ?k9lc ?k9ld ?_; (case k9la => omega); (case k9lb => omega); (case k9lc => bits_by_make); (case k9ld => decide)
  k_with "M ROOM" => first | omega | ktr_room | ((try dsimp only [Around.deeper, ktrTop]); omega)
  k_with "M UNITS" => first | omega | ((try dsimp only [Around.deeper, ktrTop]); omega) | ktr_units
  k_with "execs cons" => (try k_fold); with_reducible first | refine seqL ?_ | (refine seqV ?_; intro Q8 q8)
  k_with "M un" => with_reducible first | (refine seqVN (s := s1) (by assumption) ?_; intro tk8; try clear q8 Q8) | (refine seqVN (s := s) (by assumption) ?_; intro tk8; try clear q8 Q8) | refine seqVR (by assumption) ?_ | refine seqVM (by assumption) ?_ | refine seqVB (by assumption) ?_ | refine seqVC (by assumption) ?_
  k_with "eval Name" => k_here; k_dflt (refine' nameX_L ?k9F ?k9v ?_ ?k9a ?k9b; (case k9F => k_asm); (case k9a => exact Eq.refl _); (case k9b => exact Eq.refl (some NameKind.local)); (case k9v => exact Eq.refl (some _)); k_whole)
  trivial

/-- a code table as it stands: empty, or filled by this code -/
noncomputable def TabS (T : Addr) (trip : Addr → Array Value) (q : Str) (h : Heap) (t : Array Value) (c : Addr) (o : Obj) : Prop := h.get? T = some (tabObj t) ∧ (t = #[] ∨ t = trip c ∧ h.get? c = some o ∧ CodeObj q o)
/-- filled since, by the code that stood there or a new one -/
noncomputable def NewS (T : Addr) (trip : Addr → Array Value) (q : Str) (h h' : Heap) (t : Array Value) (c : Addr) (o : Obj) : Prop := ∃ c' o', h'.get? T = some (tabObj (trip c')) ∧ CodeObj q o' ∧ ((t = trip c ∧ c' = c ∧ o' = o) ∨ MadeAt h h' c' o')
theorem AllNe.mem {r : Addr} : ∀ {l : List (Addr × Obj)}, AllNe r l → ∀ p ∈ l, p.1 ≠ r
  | [], _, _, h => nomatch h
  | p :: l, x, q, h => by
    rcases List.mem_cons.mp h with rfl | h
    · exact x.1
    · exact AllNe.mem x.2 q h
theorem News.erase {h₀ h : Heap} {L : Addr} {news : List (Addr × Obj)} (N : News h₀ L h news) (i : Nat) : News h₀ L h (news.eraseIdx i) := News.sub N fun _ hq => List.mem_of_mem_eraseIdx hq
theorem NewS.ledger {T : Addr} {trip : Addr → Array Value} {q : Str} {h h' h₀ : Heap} {L : Addr} {m : Str → Option Value} {t : Array Value} {c : Addr} {o : Obj} {news rest : List (Addr × Obj)} (x : NewS T trip q h h' t c o) (F : Fr h₀ L h m) (N : News h₀ L h news) (K : KeepBut [T] h h')
    (hm : (c, o) ∈ news) (hcT : c ≠ T) (hT : (T, tabObj t) ∈ news) (hne : AllNw c rest) (hsub : ∀ p ∈ rest, ∃ o', (p.1, o') ∈ news) :
    ∃ c' o', CodeObj q o' ∧ h'.get? T = some (tabObj (trip c')) ∧ News h₀ L h' [(T, tabObj (trip c')), (c', o')] ∧ AllNw c' rest := by
  obtain ⟨c', o', e, hc, hx⟩ := x
  refine ⟨c', o', hc, e, ?_⟩
  have hT2 := (N _ hT).2
  rcases hx with ⟨_, rfl, rfl⟩ | hx
  · have z := N _ hm
    exact ⟨News.cons (News.one (K _ _ z.1 (nin1 hcT)) ⟨z.2.2, z.2.1⟩) e ⟨hT2.2, hT2.1⟩, hne⟩
  · have N1 := hx.news F (news := []) (fun q hq => nomatch hq)
    have z := N1 _ (.head _)
    refine ⟨News.cons (News.one z.1 ⟨z.2.2, z.2.1⟩) e ⟨hT2.2, hT2.1⟩, allNw_of fun p hp => ?_⟩
    obtain ⟨o2, h2⟩ := hsub p hp
    exact AllNe.mem (hx.ne N) (p.1, o2) h2
theorem ctr_i2d_g {w : World} {p : Program} {loose : List Str} {mean : ExcName → Option Value} {mg mb : Str → Option Value} (a : Int) (ta : Tok) (n : Nat) (tn : Tok) (tA : Array Value) (cA : Addr) (oA : Obj) (ha : 0 ≤ a) (hn : 1 ≤ n ∧ n ≤ 10000) (hbn : Builtin.Int.intBits a ≤ 100000) (hkn : (Builtin.Int.intBits a + n - 1) / n ≤ 100) :
    Ctr w (hd.heap_1 w.params) p loose mean mg mb 42 120 [37] [.int a ta, .int (n : Int) tn] (fun h => TabS 37 tripA qualA h tA cA oA) (fun r h h' => DigList n a r h h' ∧ NewS 37 tripA qualA h h' tA cA oA) := by
  by_cases hA : tA = #[]
  · refine (ctr_i2d_0 a ta n tn ha hn hbn hkn).mono (Nat.le_refl _) (fun h x => by rw [← hA]; exact x.1) fun r h h' x y => ⟨y.1, ?_⟩
    refine byG fun G9 hG9 => ?_
    obtain ⟨c, o, e, hm, hc⟩ := y.2
    refine hG9 ?_
    clear hG9 G9
    exact ⟨c, o, e, hc, .inr hm⟩
  · refine (ctr_i2d_1 a ta n tn cA ha hn hbn hkn).mono (Nat.le_refl _) (fun h x => ?_) fun r h h' x y => ⟨y.1, ?_⟩
    · rcases x.2 with z | ⟨z, z1, z2⟩
      · exact absurd z hA
      · exact ⟨by rw [x.1, z], z2.at z1⟩
    · rcases x.2 with z | ⟨z, z1, z2⟩
      · exact absurd z hA
      · exact ⟨cA, oA, y.2, z2, .inl ⟨z, rfl, rfl⟩⟩
theorem ctr_d2i_g {w : World} {p : Program} {loose : List Str} {mean : ExcName → Option Value} {mg mb : Str → Option Value} (l : Addr) (vs : List Value) (ns : List Int) (n : Nat) (tn : Tok) (tB : Array Value) (cB : Addr) (oB : Obj) (hns : 0 < ns.length ∧ ns.length < 100) (hn : 1 ≤ n ∧ n ≤ 10000) (hb : ∀ x ∈ ns, 0 ≤ x ∧ x < 2 ^ n) (hbn : n * ns.length ≤ 100000) :
    Ctr w (hd.heap_1 w.params) p loose mean mg mb 49 120 [44] [.ref l, .int (n : Int) tn] (fun h => TabS 44 tripB qualB h tB cB oB ∧ h.IsList l vs.toArray ∧ IntsAre vs ns) (fun r h h' => (∃ t, r = .int (d2i n ns) t) ∧ NewS 44 tripB qualB h h' tB cB oB) := by
  by_cases hA : tB = #[]
  · refine (ctr_d2i_0 l vs ns n tn hns hn hb hbn).mono (Nat.le_refl _) (fun h x => ⟨by rw [← hA]; exact x.1.1, x.2⟩) fun r h h' x y => ⟨y.1, ?_⟩
    refine byG fun G9 hG9 => ?_
    obtain ⟨c, o, e, hm, hc⟩ := y.2
    refine hG9 ?_
    clear hG9 G9
    exact ⟨c, o, e, hc, .inr hm⟩
  · refine (ctr_d2i_1 l vs ns n tn cB hns hn hb hbn).mono (Nat.le_refl _) (fun h x => ?_) fun r h h' x y => ⟨y.1, ?_⟩
    · rcases x.1.2 with z | ⟨z, z1, z2⟩
      · exact absurd z hA
      · exact ⟨by rw [x.1.1, z], x.2.1, x.2.2, z2.at z1⟩
    · rcases x.1.2 with z | ⟨z, z1, z2⟩
      · exact absurd z hA
      · exact ⟨cB, oB, y.2, z2, .inl ⟨z, rfl, rfl⟩⟩
end

section
open PySem PySem.W PySem.Spec PySem.Calls PyProof.Rows PySem.Builtin PySem.Builtin.Str
theorem hush_M8 : True := by
  k_with_none
  w_top off
  trivial
theorem len_mk (xs : List Nat) : (⟨xs.toArray⟩ : Str).length = xs.length := List.size_toArray ..
theorem sl_from {xs : List Nat} {p : Int} (h0 : 0 ≤ p) (h1 : p ≤ xs.length) : Txt.slice ⟨xs.toArray⟩ (some p) none = ⟨(xs.drop p.toNat).toArray⟩ := by
  rw [slice_from_eq h0 (by rw [len_mk]; exact h1) rfl, len_mk]
  simp only
  rw [List.take_of_length_le (by rw [List.length_drop]; omega)]
theorem ix_neg {n r : Nat} (h : r ≤ n) (h0 : 1 ≤ r) : strSliceIndices none (some (-(r : Int))) 1 n = strSliceIndices none (some ((n : Int) - r)) 1 n := by
  have e0 : (-(r : Int)) < 0 := by omega
  have e1 : ¬ ((n : Int) - r) < 0 := by omega
  have e2 : -(r : Int) + n = n - r := by omega
  simp only [strSliceIndices, e0, e1, if_true, if_false, e2]
theorem sl_neg {xs : List Nat} {q : Int} {r : Nat} (hq : q = -(r : Int)) (h1 : r ≤ xs.length) (h0 : 1 ≤ r) : Txt.slice ⟨xs.toArray⟩ none (some q) = ⟨(xs.take (xs.length - r)).toArray⟩ := by
  subst hq
  have e : Txt.slice ⟨xs.toArray⟩ none (some (-(r : Int))) = Txt.slice ⟨xs.toArray⟩ none (some ((xs.length : Int) - r)) := by
    unfold Txt.slice
    rw [len_mk, ix_neg h1 h0]
  rw [e, beq_iff_eq.mp (slice_closes_toL (by omega) (by rw [len_mk]; omega))]
  have e3 : ((xs.length : Int) - r - 0).toNat = xs.length - r := by omega
  simp
theorem sl_all {xs : List Nat} : Txt.slice ⟨xs.toArray⟩ none none = ⟨xs.toArray⟩ := by
  have e : (if 0 < xs.length then (xs.length : Int) else 0).toNat = xs.length := by split <;> omega
  simp [Txt.slice, strSliceIndices, sliceRange, len_mk, e]
theorem item_at {xs : List Nat} {p : Int} (h0 : 0 ≤ p) (h1 : p < xs.length) : Txt.item ⟨xs.toArray⟩ p = ⟨#[xs.getD p.toNat 0]⟩ := by
  rw [item_meets ⟨h0, by rw [len_mk]; exact h1⟩]
  simp
theorem item_neg {xs : List Nat} {p : Int} (h0 : p < 0) (h1 : -p ≤ xs.length) : Txt.item ⟨xs.toArray⟩ p = ⟨#[xs.getD (xs.length - (-p).toNat) 0]⟩ := by
  have h3 : ¬ 0 ≤ p := by omega
  have h4 : xs.length - (-p).toNat < xs.length := by omega
  have h5 : (p + (xs.length : Int)).toNat = xs.length - (-p).toNat := by omega
  have h6 : ¬ p + (xs.length : Int) < 0 := by omega
  have h7 : p + (xs.length : Int) < xs.length := by omega
  have h8 : 0 ≤ p + (xs.length : Int) := by omega
  simp [Txt.item, Txt.charAt, seqIndex?, len_mk, h0, h5, h4, h8, h7]
theorem one_eq {a b : Nat} : ((⟨#[a]⟩ : Str) == ⟨#[b]⟩) = (a == b) := by
  by_cases h : a = b
  · subst h; simp
  · have : ¬ (⟨#[a]⟩ : Str) = ⟨#[b]⟩ := fun e => h (by injection e with e; injection e with e; injection e)
    simp [beq_eq_false_iff_ne.mpr this, h]
/-- how long the equal start is -/
noncomputable def cpl : List Nat → List Nat → Nat
  | x :: xs, y :: ys => if x = y then cpl xs ys + 1 else 0
  | _, _ => 0
theorem cpl_at : ∀ (xs ys : List Nat) (p : Nat), p ≤ xs.length → p ≤ ys.length → (∀ j, j < p → xs.getD j 0 = ys.getD j 0) → (p < xs.length → p < ys.length → xs.getD p 0 ≠ ys.getD p 0) → xs.length = ys.length → cpl xs ys = p
  | [], [], p, h, _, _, _, _ => by simp at h; rw [h]; rfl
  | [], y :: ys, p, h, _, _, _, e => by simp at e
  | x :: xs, [], p, h, _, _, _, e => by simp at e
  | x :: xs, y :: ys, 0, _, _, _, h, _ => by
    have := h (Nat.succ_pos _) (Nat.succ_pos _)
    simp at this
    rw [cpl, if_neg this]
  | x :: xs, y :: ys, p + 1, h1, h2, h3, h4, e => by
    have h0 := h3 0 (Nat.succ_pos _)
    simp at h0
    rw [cpl, if_pos h0, cpl_at xs ys p (Nat.le_of_succ_le_succ h1) (Nat.le_of_succ_le_succ h2) (fun j hj => by simpa using h3 (j + 1) (Nat.succ_lt_succ hj)) (fun a b => by simpa using h4 (Nat.succ_lt_succ a) (Nat.succ_lt_succ b)) (Nat.succ.inj e)]
noncomputable def Fin (C : Shared → Prop) (f : Flow) (s : Shared) : Prop := f = .next ∧ C s
theorem Fin.mk {C : Shared → Prop} {s : Shared} (h : C s) : Fin C .next s := ⟨rfl, h⟩
section
variable {M : Model} {A : Around} {env : Env} {E : Value → Shared → Prop} {s : Shared} {s1 s2 : Stmt} {rest : List Stmt} {Q : Flow → Shared → Prop}
theorem split1 (C : Shared → Prop) (h1 : wpAny M A (exec s1 env) (Fin C) E s) (h2 : ∀ s', C s' → wpAny M A (execs rest env) Q E s') : wpAny M A (execs (s1 :: rest) env) Q E s :=
  wpAny_execs_cons (wpAny_mono h1 (by rintro f s' ⟨rfl, h⟩; exact h2 _ h) fun _ _ e => e)
theorem split2 (C : Shared → Prop) (h1 : wpAny M A (exec s1 env) (Fin fun s' => wpAny M A (exec s2 env) (Fin C) E s') E s) (h2 : ∀ s', C s' → wpAny M A (execs rest env) Q E s') : wpAny M A (execs (s1 :: s2 :: rest) env) Q E s :=
  split1 (fun s' => wpAny M A (exec s2 env) (Fin C) E s') h1 fun _ h => split1 C h h2
end
theorem cutW {M : Model} {A : Around} {E : Value → Shared → Prop} {s : Shared} {c : Sem Flow} {Q : Flow → Shared → Prop} (C : Shared → Prop) (h1 : wpAny M A c (Fin C) E s) (h2 : ∀ s', C s' → Q .next s') : wpAny M A c Q E s :=
  wpAny_mono h1 (by rintro f s' ⟨rfl, h⟩; exact h2 _ h) fun _ _ e => e
theorem kst_id {m : Str → Option Value} : ∀ {ps : List (Str × Value)}, (∀ p ∈ ps, m p.1 = some p.2) → m = kstB m ps
  | [], _ => rfl
  | p :: ps, h => by
    funext z
    rw [kstB_cons]
    by_cases e : z = p.1
    · rw [if_pos e, e]; exact h p (.head _)
    · rw [if_neg e, ← kst_id (fun q hq => h q (.tail _ hq))]
theorem kstF_nil {m : Str → Option Value} : kstB m [] = m := rfl
theorem kstF_cons {m : Str → Option Value} {p : Str × Value} {r : List (Str × Value)} : kstB m (p :: r) = fun z => if z = p.1 then some p.2 else kstB m r z := rfl
/-- where a walk may be cut: the heap's frame and what its names hold -/
inductive At (g : Heap) (L : Addr) (s : Shared) (ps : List (Str × Value)) (news : List (Addr × Obj)) (s' : Shared) : Prop
  | mk (h : _) (tk : _) (m : _) (h9x0 : s' = { s with heap := h, toks := tk }) (h9x1 : Fr g L h (kstB m ps)) (h9x2 : News g L h news) : At g L s ps news s'
theorem At.of {g : Heap} {L : Addr} {s : Shared} {ps : List (Str × Value)} {news : List (Addr × Obj)} {h : Heap} {tk : Nat} {m : Str → Option Value} (F : Fr g L h m) (N : News g L h news) (hp : ∀ p ∈ ps, m p.1 = some p.2) : At g L s ps news { s with heap := h, toks := tk } := ⟨h, tk, m, rfl, kst_id hp ▸ F, N⟩
theorem pre_step {xs ys : List Nat} {n : Nat} {p : Int} (hx : xs.length = n) (hy : ys.length = n) (h0 : 0 ≤ p) (h1 : p ≤ (n : Int)) (h2 : ∀ j : Nat, (j : Int) < p → xs.getD j 0 = ys.getD j 0)
    (a1 : p < (n : Int)) (a2 : (Txt.item ⟨xs.toArray⟩ p == Txt.item ⟨ys.toArray⟩ p) = true) : 0 ≤ p + 1 ∧ p + 1 ≤ (n : Int) ∧ ∀ j : Nat, (j : Int) < p + 1 → xs.getD j 0 = ys.getD j 0 := by
  refine ⟨by omega, by omega, fun j hj => ?_⟩
  rw [item_at h0 (by omega), item_at h0 (by omega), one_eq] at a2
  have := eq_of_beq a2
  by_cases hjp : (j : Int) < p
  · exact h2 j hjp
  · have e : j = p.toNat := by omega
    rw [e]; exact this
theorem pre_end {xs ys : List Nat} {n : Nat} {p : Int} (hx : xs.length = n) (hy : ys.length = n) (h0 : 0 ≤ p) (h1 : p < (n : Int)) (h2 : ∀ j : Nat, (j : Int) < p → xs.getD j 0 = ys.getD j 0)
    (a2 : (Txt.item ⟨xs.toArray⟩ p == Txt.item ⟨ys.toArray⟩ p) = false) : p = (cpl xs ys : Int) ∧ cpl xs ys < n ∧ xs.getD (cpl xs ys) 0 ≠ ys.getD (cpl xs ys) 0 := by
  rw [item_at h0 (by omega), item_at h0 (by omega), one_eq] at a2
  have hne := ne_of_beq_false a2
  have e : cpl xs ys = p.toNat := cpl_at _ _ _ (by omega) (by omega) (fun j hj => h2 j (by omega)) (fun _ _ => hne) (by omega)
  exact ⟨by omega, by omega, by rw [e]; exact hne⟩
theorem all_same {xs ys : List Nat} {n : Nat} {p : Int} (hx : xs.length = n) (hy : ys.length = n) (h1 : p = (n : Int)) (h2 : ∀ j : Nat, (j : Int) < p → xs.getD j 0 = ys.getD j 0) : xs = ys := by
  refine List.ext_getElem (by omega) fun i ha hb => ?_
  have := h2 i (by omega)
  simpa [ha, hb] using this
theorem str_ne {xs ys : List Nat} (h : ((⟨xs.toArray⟩ : Str) == ⟨ys.toArray⟩) = false) : xs ≠ ys := fun e => by
  rw [e] at h; simp at h
theorem post_step {xs ys : List Nat} {n : Nat} {p : Int} (hx : xs.length = n) (hy : ys.length = n) (h0 : p ≤ 0) (h1 : -p < (n : Int)) (h2 : ∀ j : Nat, (j : Int) < -p → xs.getD (n - 1 - j) 0 = ys.getD (n - 1 - j) 0) (h3 : xs.getD 0 0 ≠ ys.getD 0 0)
    (a2 : (Txt.item ⟨xs.toArray⟩ (p - 1) == Txt.item ⟨ys.toArray⟩ (p - 1)) = true) : p - 1 ≤ 0 ∧ -(p - 1) < (n : Int) ∧ ∀ j : Nat, (j : Int) < -(p - 1) → xs.getD (n - 1 - j) 0 = ys.getD (n - 1 - j) 0 := by
  rw [item_neg (by omega) (by omega), item_neg (by omega) (by omega), one_eq, hx, hy] at a2
  have a3 := eq_of_beq a2
  have hlt : -(p - 1) < (n : Int) := by
    rcases Int.lt_or_le (-(p - 1)) (n : Int) with h | h
    · exact h
    · have e : n - (-(p - 1)).toNat = 0 := by omega
      rw [e] at a3; exact absurd a3 h3
  refine ⟨by omega, hlt, fun j hj => ?_⟩
  by_cases hjp : (j : Int) < -p
  · exact h2 j hjp
  · have e : n - 1 - j = n - (-(p - 1)).toNat := by omega
    rw [e]; exact a3
theorem getD_rev {xs : List Nat} {j : Nat} (h : j < xs.length) : xs.reverse.getD j 0 = xs.getD (xs.length - 1 - j) 0 := by
  simp [List.getD_eq_getElem?_getD, List.getElem?_reverse h]
theorem post_end {xs ys : List Nat} {n : Nat} {p : Int} (hx : xs.length = n) (hy : ys.length = n) (h0 : p ≤ 0) (h1 : -p < (n : Int)) (h2 : ∀ j : Nat, (j : Int) < -p → xs.getD (n - 1 - j) 0 = ys.getD (n - 1 - j) 0)
    (a2 : (Txt.item ⟨xs.toArray⟩ (p - 1) == Txt.item ⟨ys.toArray⟩ (p - 1)) = false) : p = -(cpl xs.reverse ys.reverse : Int) ∧ cpl xs.reverse ys.reverse < n := by
  rw [item_neg (by omega) (by omega), item_neg (by omega) (by omega), one_eq, hx, hy] at a2
  have hne := ne_of_beq_false a2
  have e : cpl xs.reverse ys.reverse = (-p).toNat := by
    refine cpl_at _ _ _ (by rw [List.length_reverse]; omega) (by rw [List.length_reverse]; omega) (fun j hj => ?_) (fun k1 k2 => ?_) (by rw [List.length_reverse, List.length_reverse]; omega)
    · rw [getD_rev (by omega), getD_rev (by omega), hx, hy]; exact h2 j (by omega)
    · rw [List.length_reverse] at k1 k2
      rw [getD_rev k1, getD_rev k2, hx, hy]
      have e2 : n - 1 - (-p).toNat = n - (-(p - 1)).toNat := by omega
      rw [e2]; exact hne
  exact ⟨by omega, by omega⟩
theorem sl_all' (x : Str) : Txt.slice x none none = x := by
  have := @sl_all x.cps.toList
  simpa using this
theorem slneg_pos {xs as bs : List Nat} {n : Nat} {p : Int} (_hall : ∀ j : Nat, (j : Int) < -p → as.getD (n - 1 - j) 0 = bs.getD (n - 1 - j) 0) (hx : xs.length = n) (h0 : p ≤ 0) (h1 : -p < (n : Int)) (hp : p ≠ 0) : (Txt.slice ⟨xs.toArray⟩ none (some p)).length ≠ 0 := by
  obtain ⟨r, hr⟩ : ∃ r : Nat, p = -(r : Int) := ⟨(-p).toNat, by omega⟩
  rw [sl_neg hr (by omega) (by omega), len_mk, List.length_take]
  omega
section
variable {prog : Program} {w : World} {A : Around} {E : Value → Shared → Prop} {s : Shared} {value slice : PySem.Expr} {x : Str} {t : Tok} {h₀ : Heap} {L : Addr} {m : Str → Option Value} {news : List (Addr × Obj)} {Q : Value → Shared → Prop}
theorem slice_whole (hI : Fr h₀ L s.heap m) (N : News h₀ L s.heap news) (h : ∀ h' t' k, Fr h₀ L h' m → News h₀ L h' news → Q (.str x t') { s with heap := h', toks := k })
    (hs : subscripted slice false (.str x t) (.ref s.heap.objs.size) = operate [.ref s.heap.objs.size, .str x t] (getItem (.str x t) (.ref s.heap.objs.size)))
    (ht : ∀ r, letTemporaryGo value (.str x t) r = pure ()) (hsz : x.length ≤ sizeLine) :
    wpAny (model prog w) A (subscriptTail value slice (.str x t) (.ref s.heap.objs.size)) Q E { s with heap := s.heap.push { cls := .type "slice", data := .fields #[.none, .none, .none] } } :=
  slice_strN_nn_len hI N (fun h' t' k F' N' _ => by rw [sl_all']; exact h h' t' k F' N') hs ht hsz
end
theorem ints_step : ∀ (vs : List Value) (a c : Int) (n : Nat), vs.length = n → (∀ (j : Nat) (v : Value), vs[j]? = some v → ∃ t, v = .int (a + j * c) t) → IntsAre vs ((List.range n).map fun (i : Nat) => a + (i : Int) * c)
  | [], a, c, n, e, _ => by
    subst e
    exact IntsAre.nil
  | v :: r, a, c, n, e, h => by
    subst e
    rw [List.length_cons, List.range_succ_eq_map, List.map_cons, List.map_map]
    obtain ⟨t, ht⟩ := h 0 v rfl
    have hv : v = .int (a + ((0 : Nat) : Int) * c) t := ht
    subst hv
    refine IntsAre.cons _ _ ?_
    have := ints_step r (a + c) c r.length rfl fun j v hj => ?_
    · have e2 : ((fun (i : Nat) => a + (i : Int) * c) ∘ Nat.succ) = fun (i : Nat) => a + c + (i : Int) * c := by
        funext i
        simp only [Function.comp, Nat.succ_eq_add_one, Int.natCast_add, Int.add_mul]
        omega
      rw [e2]; exact this
    · obtain ⟨t', ht'⟩ := h (j + 1) v hj
      refine ⟨t', ht'.trans ?_⟩
      congr 1
      rw [Int.natCast_add, Int.add_mul]
      omega
section
variable {prog : Program} {w : World} {A : Around} {E : Value → Shared → Prop} {s : Shared} {h₀ : Heap} {L r : Addr} {m : Str → Option Value} {news : List (Addr × Obj)} {a b c : Int} {t₀ u₀ v₀ : Tok} {n : Nat} {Q : Value → Shared → Prop}
theorem list_range_step (hh : A.handled = none) (F : Fr h₀ L s.heap m) (N : News h₀ L s.heap news) (hr : IsRange s.heap r a b c t₀ u₀ v₀) (hsmall : Builtin.Range.small a b c = true) (hn : Builtin.Range.rangeSize a b c = (n : Int)) (hz : n ≤ 2 ^ 24)
    (h : ∀ D us k h' tk, Fr h₀ L h' m → News h₀ L h' ((D, W.listOf (List.toArray us) k) :: news) → (∀ p ∈ news, p.1 < D) → IntsAre us ((List.range n).map fun (i : Nat) => a + (i : Int) * c) → Q (.ref D) { s with heap := h', toks := tk }) :
    wpAny (model prog w) A (call (.type "list") [.ref r]) Q E s := by
  refine call_list_range hh hr hsmall hn hz fun h' tk acc k hk hD hI => ?_
  have hD' : h'.get? s.heap.objs.size = some (W.listOf (List.toArray acc.toList) k) := by
    rw [Array.toArray_toList]
    exact hD
  exact h _ acc.toList k h' tk (F.keeps hk) (news_pushed F N hk hD' rfl) (fun p hp => Heap.lt_size (N p hp).1) (ints_step _ _ _ _ (by rw [Array.length_toList]; exact hI.1) fun j v hj => hI.2 j v (by rw [← hj, Array.getElem?_toList]))
theorem row_size {d : Nat} (h : 1 ≤ d ∧ d ≤ 4) : Builtin.Range.rangeSize 2 (2 * ((d : Int) + 1)) 2 = (d : Int) ∧ Builtin.Range.small 2 (2 * ((d : Int) + 1)) 2 = true := by
  obtain ⟨h1, h2⟩ := h
  rcases Nat.lt_or_ge d 3 with h3 | h3
  · rcases Nat.lt_or_ge d 2 with h4 | h4
    · obtain rfl : d = 1 := by omega
      decide +kernel
    · obtain rfl : d = 2 := by omega
      decide +kernel
  · rcases Nat.lt_or_ge d 4 with h4 | h4
    · obtain rfl : d = 3 := by omega
      decide +kernel
    · obtain rfl : d = 4 := by omega
      decide +kernel
end
theorem intsAre_of : ∀ (n : Nat) (f : Nat → Int) (ys : List Value), ys.length = n → (∀ j, j < n → ∃ y, ys[j]? = some y ∧ ∃ t, y = .int (f j) t) → IntsAre ys ((List.range n).map f)
  | 0, f, ys, hl, _ => by rw [List.length_eq_zero_iff.mp hl]; exact .nil
  | n + 1, f, [], hl, _ => by simp at hl
  | n + 1, f, y :: ys, hl, h => by
    obtain ⟨y', h1, t, h2⟩ := h 0 (Nat.succ_pos _)
    have e : y = .int (f 0) t := by simpa [h2] using h1
    subst e
    rw [List.range_succ_eq_map, List.map_cons, List.map_map]
    refine .cons _ _ (intsAre_of n (f ∘ Nat.succ) ys (by simpa using hl) fun j hj => ?_)
    obtain ⟨z, h3, h4⟩ := h (j + 1) (Nat.succ_lt_succ hj)
    exact ⟨z, by simpa using h3, h4⟩
end

section
theorem hush_M9 : True := by
  k_with_none
  w_top off
  trivial
noncomputable def subN (c d : Nat) : Int := costS ⟨#[c]⟩ ⟨#[d]⟩
/-- distance, result, minimum, row -/
noncomputable def stepI (a : List Nat) (bc : Nat) (st : Int × Int × Int × List Int) (i : Nat) : Int × Int × Int × List Int :=
  let sub := st.1 + subN bc (a.getD i 0)
  let d := st.2.2.2.getD i 0
  let r := min (min st.2.1 d + 2) sub
  (d, r, (if r < st.2.2.1 then r else st.2.2.1), st.2.2.2.set i r)
noncomputable def rowN (a : List Nat) (bc : Nat) (bi : Int) (row : List Int) (k : Nat) : Int × Int × Int × List Int := (List.range k).foldl (stepI a bc) (bi * 2, bi * 2, 9223372036854775807, row)
theorem min2 (x y : Int) : (if y < x then y else x) = min x y := by omega
theorem rowN_succ (a : List Nat) (bc : Nat) (bi : Int) (row : List Int) (k : Nat) : rowN a bc bi row (k + 1) = stepI a bc (rowN a bc bi row k) k := by
  unfold rowN
  rw [List.range_succ, List.foldl_append]
  rfl
noncomputable def levGo (a : List Nat) (mc : Int) : List Nat → Nat → List Int → Int → Int
  | [], _, _, res => res
  | bc :: bs, bi, row, _ =>
    let st := rowN a bc bi row a.length
    if st.2.2.1 > mc then mc + 1 else levGo a mc bs (bi + 1) st.2.2.2 st.2.1
theorem levGo_step {a b : List Nat} {mc : Int} {i : Nat} {row : List Int} {res : Int} (hi : i < b.length) :
    levGo a mc (b.drop i) i row res = if (rowN a (b.getD i 0) i row a.length).2.2.1 > mc then mc + 1 else levGo a mc (b.drop (i + 1)) (i + 1) (rowN a (b.getD i 0) i row a.length).2.2.2 (rowN a (b.getD i 0) i row a.length).2.1 := by
  rw [List.drop_eq_getElem_cons hi, levGo]
  have : b[i] = b.getD i 0 := by simp [List.getD_eq_getElem?_getD, hi]
  rw [this]
noncomputable def levM (xs ys : List Nat) (mc : Int) : Int :=
  if xs = ys then 0 else
    let as := xs.drop (cpl xs ys)
    let bs := ys.drop (cpl xs ys)
    let r := cpl as.reverse bs.reverse
    let a := as.take (as.length - r)
    let b := bs.take (bs.length - r)
    levGo a mc b 0 ((List.range a.length).map fun (i : Nat) => 2 + (i : Int) * 2) 0
section
variable {a : List Nat} {bc j : Nat} {bi dist res mn : Int} {row rw : List Int}
theorem rowN_lt (hst : rowN a bc bi row j = (dist, res, mn, rw)) (h : min (min res (rw.getD j 0) + 2) (dist + subN bc (a.getD j 0)) < mn) :
    rowN a bc bi row (j + 1) = (rw.getD j 0, min (min res (rw.getD j 0) + 2) (dist + subN bc (a.getD j 0)), min (min res (rw.getD j 0) + 2) (dist + subN bc (a.getD j 0)), rw.set j (min (min res (rw.getD j 0) + 2) (dist + subN bc (a.getD j 0)))) := by
  rw [rowN_succ, hst]
  unfold stepI
  simp only [if_pos h]
theorem rowN_ge (hst : rowN a bc bi row j = (dist, res, mn, rw)) (h : ¬ min (min res (rw.getD j 0) + 2) (dist + subN bc (a.getD j 0)) < mn) :
    rowN a bc bi row (j + 1) = (rw.getD j 0, min (min res (rw.getD j 0) + 2) (dist + subN bc (a.getD j 0)), mn, rw.set j (min (min res (rw.getD j 0) + 2) (dist + subN bc (a.getD j 0)))) := by
  rw [rowN_succ, hst]
  unfold stepI
  simp only [if_neg h]
end
end

section
theorem hush_C_lev : True := by
  k_with_none
  w_top off
  trivial
theorem rules_C_lev_0 : True := by
  k_with "M ne" => first | exact NeW.l (by with_reducible assumption) | exact NeW.r (by with_reducible assumption) | (refine neN ?_; (try dsimp only); omega)
  k_with "M bits" => first | with_reducible assumption | exact bits_pow2 (by omega)
  k_with "M mem" => first | exact List.Mem.head _ | exact mem1 | exact mem2 | exact mem3 | exact mem4 | exact mem5 | exact mem6 | exact mem7 | exact mem8 | exact mem9 | exact mem10 | exact mem11 | exact mem12 | exact mem13
  trivial

theorem enterR_C_lev_0 : True := by
  k_with_none
  k_with "M ne" => first | exact NeW.l (by with_reducible assumption) | exact NeW.r (by with_reducible assumption) | (refine neN ?_; (try dsimp only); omega)
  k_with "M bits" => first | with_reducible assumption | exact bits_pow2 (by omega)
  k_with "M mem" => first | exact List.Mem.head _ | exact mem1 | exact mem2 | exact mem3 | exact mem4 | exact mem5 | exact mem6 | exact mem7 | exact mem8 | exact mem9 | exact mem10 | exact mem11 | exact mem12 | exact mem13
  k_with "M nw" => (try simp only [AllNw, and_true]); (try dsimp only); (repeat' constructor) <;> first | with_reducible assumption | (refine NeW.of ?_; k_ne)
  k_with "M sub2" => repeat (first | exact List.forall_mem_nil _ | refine fcons ⟨_, by k_mem⟩ ?_)
  k_with "M off" => repeat (first | exact List.forall_mem_nil _ | refine fcons (nin1 (by (try dsimp only); k_ne)) ?_)
  k_with "M sub" => repeat (first | exact List.forall_mem_nil _ | (refine fcons ?k9w ?_; (case k9w => k_mem)))
  k_with "subscriptTail Name Slice ref ref" => refine' slice_all_led ?k9F ?k9N ?k9l ?k9z ?k9p ?k9q ?_ ?k9s ?k9t; (case k9F => k_asm); (case k9N => k_asm); (case k9l => k_mem); (case k9z => omega); (case k9p => kmk_part); (case k9q => kmk_part); (case k9s => with_unfolding_all rfl); (case k9t => kmk_pure); intro k9D k9h k9F k9N k9l1; (try k_lt k9l1); (try k_sweep)
  k_with "M same" => intro z h1 h2 h3; (try dsimp only); (repeat (first | refine same_if (by first | exact h1 | exact ne_ps h2 rfl | exact ne_st h3 rfl) ?_ | exact rfl | exact same_st h3 | exact same_kst h2 h3 | refine same_k (by repeat (first | exact List.forall_mem_nil _ | refine fcons (by first | exact h1 | exact ne_ps h2 rfl | exact ne_st h3 rfl) ?_)) ?_ | refine same_c (by repeat (first | exact nc_nil | refine nc_cons (by first | exact h1 | exact ne_ps h2 rfl | exact ne_st h3 rfl) ?_)) ?_))
  k_with "call builtin:list.append" => refine' append_led ?k9la ?k9lb ?k9lc ?k9ld ?_; (case k9la => k_asm); (case k9lb => k_asm); (case k9lc => k_upd); (case k9ld => omega); intro k9h k9F k9N; (try k_sweep)
  k_with "call builtin:list.reverse" => refine' reverse_led ?k9la ?k9lb ?k9lc ?k9ld ?_; (case k9la => k_asm); (case k9lb => k_asm); (case k9lc => k_upd); (case k9ld => omega); intro k9h k9F k9N; (try k_sweep)
  k_with "binaryOp LShift int int" => refine' lshift_bits ?k9la ?k9lb ?k9lc ?k9ld ?_; (case k9la => omega); (case k9lb => omega); (case k9lc => bits_by_make); (case k9ld => decide)
  k_with "inplaceOp LShift int int" => refine' ilshift_bits ?k9la ?k9lb ?k9lc ?k9ld ?_; (case k9la => omega); (case k9lb => omega); (case k9lc => bits_by_make); (case k9ld => decide)
  k_with "M ROOM" => first | omega | ktr_room | ((try dsimp only [Around.deeper, ktrTop]); omega)
  k_with "M UNITS" => first | omega | ((try dsimp only [Around.deeper, ktrTop]); omega) | ktr_units
  k_with "execs cons" => (try k_fold); with_reducible first | refine seqL ?_ | (refine seqV ?_; intro Q8 q8)
  k_with "M un" => with_reducible first | (refine seqVN (s := s1) (by assumption) ?_; intro tk8; try clear q8 Q8) | (refine seqVN (s := s) (by assumption) ?_; intro tk8; try clear q8 Q8) | refine seqVR (by assumption) ?_ | refine seqVM (by assumption) ?_ | refine seqVB (by assumption) ?_ | refine seqVC (by assumption) ?_
  k_with "eval Name" => k_here; k_dflt (refine' nameX_L ?k9F ?k9v ?_ ?k9a ?k9b; (case k9F => k_asm); (case k9a => exact Eq.refl _); (case k9b => exact Eq.refl (some NameKind.local)); (case k9v => exact Eq.refl (some _)); k_whole)
  k_with "subscriptTail Name Slice str ref" => (with_reducible show wpAny _ _ (subscriptTail _ (Expr.Slice none (some (Expr.BoolOp _ _ _)) none _) _ _) _ _ _); (with_reducible rename Fr _ _ _ _ => k9F); (with_reducible rename News _ _ _ _ => k9N); refine slice_whole (s := ⟨_, _, _, _, _⟩) k9F k9N ?_ (by with_unfolding_all rfl) (by intro _; with_unfolding_all rfl) (by size_fits); intro _ _ _ _ _
  k_with "M ENTER" => (
    unfold Ctr PR
    k_fill
    intro dp un gd cn cs aF ccd clF outer A₀ base h₀ L mF s Q E B F X T hke hOff hdp hun hPre hret
    first
    | (refine' enter B F X T hke hOff ?hz ?k6 ?k7 ?k8 ?k9 ?kB ?c5 ?c2 ?c3 ?c4 ?_
       (case k6 => exact (X.keeps F.keep) _ _ (by k_is))
       (case k7 => exact codeRec_of (X.keeps F.keep) (by k_is))
       (case hz => first | exact (fun _ h => absurd h List.not_mem_nil) | k_extra "M HZ")
       (case k8 => omega)
       (case k9 => first | exact BindsTo.of_eq rfl | exact binds_K (by k_in) rfl (by k_is) rfl rfl rfl | exact (fun M A E Q hq Γ p _ => wp_of_peek (X.keeps F.keep) hq _ (by rfl)) | fail "k_enter: no rule for these arguments")
       (case kB => exact locs rfl)
       (case c5 => decide)
       (case c2 => exact rfl)
       (case c3 => exact rfl)
       (case c4 => exact rfl)
       intro g h₁ F' hk1 hFr hKeep hg hOff' B' X' T' en7 Ar7 Qf7 Ef7
       have N' : News g s.heap.objs.size h₁ [] := News.nil
       have hNew := new_of hg
       try dsimp only
       clear B F X T hke hOff)
    | (refine' enterC B F X T hke hOff ?hz ?k6 ?k7 ?k8 ?k9 ?kB ?kD ?c2 ?c3 ?c4 ?_
       (case k6 => exact (X.keeps F.keep) _ _ (by k_is))
       (case k7 => exact codeRec_of (X.keeps F.keep) (by k_is))
       (case hz => first | exact (fun _ h => absurd h List.not_mem_nil) | k_extra "M HZ")
       (case k8 => omega)
       (case k9 => first | exact BindsTo.of_eq rfl | exact binds_K (by k_in) rfl (by k_is) rfl rfl rfl | exact (fun M A E Q hq Γ p _ => wp_of_peek (X.keeps F.keep) hq _ (by rfl)) | fail "k_enter: no rule for these arguments")
       (case kB => exact rfl)
       (case kD => decide +kernel)
       (case c2 => exact rfl)
       (case c3 => exact rfl)
       (case c4 => exact rfl)
       intro g h₁ tk' cells' F' N' Y' hk1 hFr hKeep hg hOff' B' X' T' en7 Ar7 Qf7 Ef7
       first
       | (obtain ⟨oc1, hE', dc1⟩ := CellsAre.one Y'; subst hE')
       | (obtain ⟨oc1, oc2, hE', dc1, dc2⟩ := CellsAre.two Y'; subst hE')
       | (obtain ⟨oc1, oc2, oc3, hE', dc1, dc2, dc3⟩ := CellsAre.three Y'; subst hE')
       | (obtain ⟨oc1, oc2, oc3, oc4, hE', dc1, dc2, dc3, dc4⟩ := CellsAre.four Y'; subst hE')
       clear Y'
       (try simp only [List.cons_append, List.nil_append] at N')
       have hNew := new_of hg
       try dsimp only
       clear B F X T hke hOff)
    )
  trivial
set_option maxHeartbeats 8000000 in
theorem ctr_lev {w : World} {p : Program} {loose : List Str} {mean : ExcName → Option Value} {mg mb : Str → Option Value} (xs ys : List Nat) (tx ty : Tok) (mc : Int) (tm : Tok) (n : Nat) (hx : xs.length = n) (hy : ys.length = n) (hn : n ≤ 4) (hmc : 0 ≤ mc ∧ mc ≤ 100) :
    Ctr w (hd.heap_1 w.params) p loose mean mg mb 170 10 [] [.str ⟨xs.toArray⟩ tx, .str ⟨ys.toArray⟩ ty, .int mc tm]
      (fun h => True)
      (fun r h h' => ∃ t, r = .int (levM xs ys mc) t) := by
  have hxl : (⟨xs.toArray⟩ : Str).length = n := by rw [len_mk, hx]
  have hyl : (⟨ys.toArray⟩ : Str).length = n := by rw [len_mk, hy]
  k_extra "M ENTER"
  clear hg
  k_with "exec While Compare cons nil" => (refine hold ?_)
  k_with "exec While BoolOp cons nil" => (refine hold ?_)
  k_steps
  · all_goals (try dsimp only)
    (repeat k_extra "M un")
    refine (done_of (hret _ _ _ (hFr _ (hKeep _ _ _ (by assumption))) (hKeep _ _ _ (by assumption)) (int_post ?_)))
    rename ((_ == _) = true) => heq
    have heq := eq_of_beq heq
    have heq : xs = ys := by injection heq with heq; injection heq
    unfold levM
    rw [if_pos heq]
  rename ((_ == _) = false) => hne
  have hne := str_ne hne
  refine unhold ?_
  refine cutW (fun s' => cpl xs ys < n ∧ xs.getD (cpl xs ys) 0 ≠ ys.getD (cpl xs ys) 0 ∧ ∃ t, At g s.heap.objs.size s [(Str.ofString "pre", .int (cpl xs ys : Int) t), (Str.ofString "a", .str ⟨xs.toArray⟩ tx), (Str.ofString "b", .str ⟨ys.toArray⟩ ty), (Str.ofString "max_cost", .int mc tm)] [] s') ?_ ?_
  · have hs0 : (0 : Int) ≤ 0 ∧ (0 : Int) ≤ (n : Int) ∧ ∀ j : Nat, (j : Int) < 0 → xs.getD j 0 = ys.getD j 0 := ⟨by omega, by omega, fun j hj => by omega⟩
    k_with "state" => first | exact hs0 | exact pre_step hx hy (by assumption) (by assumption) (by assumption) (by omega) (by assumption)
    k_while (fun _ pre => 0 ≤ pre ∧ pre ≤ (n : Int) ∧ ∀ j : Nat, (j : Int) < pre → xs.getD j 0 = ys.getD j 0) (fun _ pre => ((n : Int) - pre).toNat) "pre"
    k_steps
    all_goals (rename (∀ j : Nat, _ → List.getD _ _ _ = List.getD _ _ _) => hall)
    all_goals (try exact absurd (all_same (h2 := hall) hx hy (by omega)) hne)
    rename (Txt.item _ _ == Txt.item _ _) = false => hit
    obtain ⟨hp1, hp2, hp3⟩ := pre_end hx hy (by omega) (by omega) hall hit
    rename Fr _ _ _ _ => FZ
    rename News _ _ _ _ => NZ
    rw [hp1] at FZ
    refine Fin.mk ⟨hp2, hp3, ?t, At.of FZ NZ ?hh⟩
    case hh =>
      repeat (first | exact List.forall_mem_nil _ | refine fcons (by exact Eq.refl (some _)) ?_)
  (repeat (rename Fr _ _ _ _ => zz; clear zz))
  (repeat (rename News _ _ _ _ => zz; clear zz))
  rintro s' hp91
  refine byG fun G9 hG9 => ?_
  obtain ⟨hp2, hp3, t, h, tk, m', rfl, FZ, NZ⟩ := hp91
  refine hG9 ?_
  clear hG9 G9
  simp only [kstF_cons, kstF_nil] at FZ
  k_steps
  refine unhold ?_
  rename Fr _ _ _ _ => FZ
  rename News _ _ _ _ => NZ
  rw [sl_from (by omega) (by omega), sl_from (by omega) (by omega), Int.toNat_natCast] at FZ
  have ha : (xs.drop (cpl xs ys)).length = n - cpl xs ys := by rw [List.length_drop, hx]
  have hb : (ys.drop (cpl xs ys)).length = n - cpl xs ys := by rw [List.length_drop, hy]
  have h3 : (xs.drop (cpl xs ys)).getD 0 0 ≠ (ys.drop (cpl xs ys)).getD 0 0 := by
    simp only [List.getD_eq_getElem?_getD, List.getElem?_drop, Nat.add_zero] at hp3 ⊢
    exact hp3
  obtain ⟨m, hm⟩ : ∃ m, m = n - cpl xs ys := ⟨_, rfl⟩
  rw [← hm] at ha hb
  have hm1 : 1 ≤ m ∧ m ≤ 4 := by omega
  generalize hA : xs.drop (cpl xs ys) = as at *
  generalize hB : ys.drop (cpl xs ys) = bs at *
  clear hp2 hp3 hm
  have hal : (⟨as.toArray⟩ : Str).length = m := by rw [len_mk, ha]
  have hbl : (⟨bs.toArray⟩ : Str).length = m := by rw [len_mk, hb]
  refine cutW (fun s' => cpl as.reverse bs.reverse < m ∧ ∃ t ta tb, At g s.heap.objs.size s [(Str.ofString "post", .int (-(cpl as.reverse bs.reverse : Int)) t), (Str.ofString "a", .str ⟨as.toArray⟩ ta), (Str.ofString "b", .str ⟨bs.toArray⟩ tb), (Str.ofString "max_cost", .int mc tm)] [] s') ?_ ?_
  · have hs0 : (0 : Int) ≤ 0 ∧ -(0 : Int) < (m : Int) ∧ ∀ j : Nat, (j : Int) < -0 → as.getD (m - 1 - j) 0 = bs.getD (m - 1 - j) 0 := ⟨by omega, by omega, fun j hj => by omega⟩
    k_with "state" => first | exact hs0 | exact post_step ha hb (by assumption) (by assumption) (by assumption) h3 (by assumption)
    k_while (fun _ post => post ≤ 0 ∧ -post < (m : Int) ∧ ∀ j : Nat, (j : Int) < -post → as.getD (m - 1 - j) 0 = bs.getD (m - 1 - j) 0) (fun _ post => ((m : Int) + post).toNat) "post"
    k_steps
    all_goals (rename (∀ j : Nat, _ → List.getD _ _ _ = List.getD _ _ _) => hall)
    all_goals (try (exfalso; omega))
    all_goals (try (have hz := slneg_pos hall ha (by assumption) (by assumption) (by assumption); have hz2 := slneg_pos hall hb (by assumption) (by assumption) (by assumption); exfalso; omega))
    all_goals (rename (Txt.item _ _ == Txt.item _ _) = false => hit)
    all_goals (obtain ⟨hp1, hp2⟩ := post_end ha hb (by omega) (by omega) hall hit)
    all_goals (rename Fr _ _ _ _ => FZ)
    all_goals (rename News _ _ _ _ => NZ)
    all_goals (rw [hp1] at FZ; refine' Fin.mk ⟨hp2, _, _, _, At.of FZ NZ _⟩)
    all_goals (try (repeat (first | exact List.forall_mem_nil _ | refine fcons (by exact Eq.refl (some _)) ?_)))
  (repeat (rename Fr _ _ _ _ => zz; clear zz))
  (repeat (rename News _ _ _ _ => zz; clear zz))
  rintro s' hp91
  refine byG fun G9 hG9 => ?_
  obtain ⟨hr, t, ta, tb, h, tk, m', rfl, FZ, NZ⟩ := hp91
  refine hG9 ?_
  clear hG9 G9
  simp only [kstF_cons, kstF_nil] at FZ
  obtain ⟨r, hr9⟩ : ∃ r, r = cpl as.reverse bs.reverse := ⟨_, rfl⟩
  rw [← hr9] at hr FZ
  (try k_extra "M un")
  refine split2 (fun s' => ∃ ta tb, At g s.heap.objs.size s [(Str.ofString "a", .str ⟨(as.take (as.length - r)).toArray⟩ ta), (Str.ofString "b", .str ⟨(bs.take (bs.length - r)).toArray⟩ tb), (Str.ofString "max_cost", .int mc tm)] [] s') ?_ ?_
  · k_steps
    all_goals (refine Fin.mk ?_; dsimp only)
    all_goals k_steps
    all_goals (try (exfalso; omega))
    all_goals (rename Fr _ _ _ _ => FZ; rename News _ _ _ _ => NZ)
    · rw [sl_neg rfl (by omega) (by omega), sl_neg rfl (by omega) (by omega)] at FZ
      refine' Fin.mk ⟨_, _, At.of FZ NZ _⟩
      all_goals (try (repeat (first | exact List.forall_mem_nil _ | refine fcons (by exact Eq.refl (some _)) ?_)))
    · have e0 : r = 0 := by omega
      rw [e0, Nat.sub_zero, Nat.sub_zero, List.take_length, List.take_length]
      refine' Fin.mk ⟨_, _, At.of FZ NZ _⟩
      all_goals (try (repeat (first | exact List.forall_mem_nil _ | refine fcons (by exact Eq.refl (some _)) ?_)))
  (repeat (rename Fr _ _ _ _ => zz; clear zz))
  (repeat (rename News _ _ _ _ => zz; clear zz))
  rintro s' hp91
  refine byG fun G9 hG9 => ?_
  obtain ⟨ta, tb, h, tk, m', rfl, FZ, NZ⟩ := hp91
  refine hG9 ?_
  clear hG9 G9
  simp only [kstF_cons, kstF_nil] at FZ
  have ha2 : (as.take (as.length - r)).length = m - r := by rw [List.length_take]; omega
  have hb2 : (bs.take (bs.length - r)).length = m - r := by rw [List.length_take]; omega
  obtain ⟨d, hd9⟩ : ∃ d, d = m - r := ⟨_, rfl⟩
  rw [← hd9] at ha2 hb2
  have hd1 : 1 ≤ d ∧ d ≤ 4 := by omega
  generalize hA2 : as.take (as.length - r) = a2 at *
  generalize hB2 : bs.take (bs.length - r) = b2 at *
  clear hr hd9
  have hal : (⟨a2.toArray⟩ : Str).length = d := by rw [len_mk, ha2]
  have hbl : (⟨b2.toArray⟩ : Str).length = d := by rw [len_mk, hb2]
  k_with "M pyIter" => (refine hold ?_)
  k_with "call type:range" => (refine hold ?_)
  k_with "call type:list" => (refine hold ?_)
  k_steps
  all_goals (try (exfalso; omega))
  refine unhold ?_
  rename Fr _ _ _ _ => FZ
  rename News _ _ _ _ => NZ
  refine range3_rows (s := ⟨_, _, _, _, _⟩) FZ NZ (by decide) ?_ (Or.inl (PyProof.noPylong_small (by decide)))
  clear FZ NZ
  intro h2 tk2 t1 u1 v1 hrg FZ NZ _
  rw [hal] at hrg
  k_steps
  refine unhold ?_
  rename Fr _ _ _ _ => FZ
  rename News _ _ _ _ => NZ
  refine list_range_step (s := ⟨_, _, _, _, _⟩) rfl FZ NZ hrg (row_size hd1).2 (row_size hd1).1 (by omega) ?_
  clear FZ NZ hrg
  intro D us k h2 tk2 FZ NZ _ hus
  k_with_none
  k_with "M ne" => first | exact NeW.l (by with_reducible assumption) | exact NeW.r (by with_reducible assumption) | (refine neN ?_; (try dsimp only); omega)
  k_with "M bits" => first | with_reducible assumption | exact bits_pow2 (by omega)
  k_with "M mem" => first | exact List.Mem.head _ | exact mem1 | exact mem2 | exact mem3 | exact mem4 | exact mem5 | exact mem6 | exact mem7 | exact mem8 | exact mem9 | exact mem10 | exact mem11 | exact mem12 | exact mem13
  k_with "M nw" => (try simp only [AllNw, and_true]); (try dsimp only); (repeat' constructor) <;> first | with_reducible assumption | (refine NeW.of ?_; k_ne)
  k_with "M sub2" => repeat (first | exact List.forall_mem_nil _ | refine fcons ⟨_, by k_mem⟩ ?_)
  k_with "M off" => repeat (first | exact List.forall_mem_nil _ | refine fcons (nin1 (by (try dsimp only); k_ne)) ?_)
  k_with "M sub" => repeat (first | exact List.forall_mem_nil _ | (refine fcons ?k9w ?_; (case k9w => k_mem)))
  k_with "subscriptTail Name Slice ref ref" => refine' slice_all_led ?k9F ?k9N ?k9l ?k9z ?k9p ?k9q ?_ ?k9s ?k9t; (case k9F => k_asm); (case k9N => k_asm); (case k9l => k_mem); (case k9z => omega); (case k9p => kmk_part); (case k9q => kmk_part); (case k9s => with_unfolding_all rfl); (case k9t => kmk_pure); intro k9D k9h k9F k9N k9l1; (try k_lt k9l1); (try k_sweep)
  k_with "M same" => intro z h1 h2 h3; (try dsimp only); (repeat (first | refine same_if (by first | exact h1 | exact ne_ps h2 rfl | exact ne_st h3 rfl) ?_ | exact rfl | exact same_st h3 | exact same_kst h2 h3 | refine same_k (by repeat (first | exact List.forall_mem_nil _ | refine fcons (by first | exact h1 | exact ne_ps h2 rfl | exact ne_st h3 rfl) ?_)) ?_ | refine same_c (by repeat (first | exact nc_nil | refine nc_cons (by first | exact h1 | exact ne_ps h2 rfl | exact ne_st h3 rfl) ?_)) ?_))
  k_with "call builtin:list.append" => refine' append_led ?k9la ?k9lb ?k9lc ?k9ld ?_; (case k9la => k_asm); (case k9lb => k_asm); (case k9lc => k_upd); (case k9ld => omega); intro k9h k9F k9N; (try k_sweep)
  k_with "call builtin:list.reverse" => refine' reverse_led ?k9la ?k9lb ?k9lc ?k9ld ?_; (case k9la => k_asm); (case k9lb => k_asm); (case k9lc => k_upd); (case k9ld => omega); intro k9h k9F k9N; (try k_sweep)
  k_with "binaryOp LShift int int" => refine' lshift_bits ?k9la ?k9lb ?k9lc ?k9ld ?_; (case k9la => omega); (case k9lb => omega); (case k9lc => bits_by_make); (case k9ld => decide)
  k_with "inplaceOp LShift int int" => refine' ilshift_bits ?k9la ?k9lb ?k9lc ?k9ld ?_; (case k9la => omega); (case k9lb => omega); (case k9lc => bits_by_make); (case k9ld => decide)
  k_with "M ROOM" => first | omega | ktr_room | ((try dsimp only [Around.deeper, ktrTop]); omega)
  k_with "M UNITS" => first | omega | ((try dsimp only [Around.deeper, ktrTop]); omega) | ktr_units
  k_with "execs cons" => (try k_fold); with_reducible first | refine seqL ?_ | (refine seqV ?_; intro Q8 q8)
  k_with "M un" => with_reducible first | (refine seqVN (s := s1) (by assumption) ?_; intro tk8; try clear q8 Q8) | (refine seqVN (s := s) (by assumption) ?_; intro tk8; try clear q8 Q8) | refine seqVR (by assumption) ?_ | refine seqVM (by assumption) ?_ | refine seqVB (by assumption) ?_ | refine seqVC (by assumption) ?_
  k_with "eval Name" => k_here; k_dflt (refine' nameX_L ?k9F ?k9v ?_ ?k9a ?k9b; (case k9F => k_asm); (case k9a => exact Eq.refl _); (case k9b => exact Eq.refl (some NameKind.local)); (case k9v => exact Eq.refl (some _)); k_whole)
  k_with "subscriptTail Name Slice str ref" => (with_reducible show wpAny _ _ (subscriptTail _ (Expr.Slice none (some (Expr.BoolOp _ _ _)) none _) _ _) _ _ _); (with_reducible rename Fr _ _ _ _ => k9F); (with_reducible rename News _ _ _ _ => k9N); refine slice_whole (s := ⟨_, _, _, _, _⟩) k9F k9N ?_ (by with_unfolding_all rfl) (by intro _; with_unfolding_all rfl) (by size_fits); intro _ _ _ _ _
  k_with "M pyIter" => (refine hold ?_)
  k_steps
  refine unhold ?_
  all_goals (try dsimp only)
  refine unhold ?_
  rename Fr _ _ _ _ => FZ
  rename News _ _ _ _ => NZ
  rename IsRange _ _ _ _ _ _ _ _ => hrng
  rw [hbl] at hrng
  refine' loop_range (σ := List Value × Int × Tok) (h₀ := g) (n := d) (fun c => [(D, W.listOf c.1.toArray k)]) (fun c => [(Str.ofString "result", .int c.2.1 c.2.2)]) [Str.ofString "bchar", Str.ofString "distance", Str.ofString "minimum", Str.ofString "index", Str.ofString "substitute", Str.ofString "insert_delete", Str.ofString "result"]
    (fun i c => ∃ row, IntsAre c.1 row ∧ row.length = d ∧ levM xs ys mc = levGo a2 mc (b2.drop i) i row c.2.1) (us, 0, _) ?Rh ?Rr ?Rs ?Rz ?RF ?RN ?Rk ?Rp ?Rt ?Rd
  case RF => exact FZ
  case Rr => exact hrng
  case Rk =>
    refine List.forall_mem_singleton.mpr ?_
    dsimp only
    rw [if_pos rfl]
  case RN => exact News.sub NZ (by k_extra "M sub")
  case Rh => rfl
  case Rs => exact small_one (by omega) (by omega) (by omega) (by omega)
  case Rz => exact rangeSize_nat _ _
  case Rp =>
    refine ⟨_, hus, by simp, ?_⟩
    unfold levM
    rw [if_neg hne]
    simp only [hA, hB, ← hr9, hA2, hB2, ha2, List.drop_zero]
  case Rt =>
    clear FZ NZ hrng
    refine sp3 ?_
    rintro uv res tr i ti u h tk I oI hid hp99 hIne FZ NZ
    refine byG fun G9 hG9 => ?_
    obtain ⟨row, hur, hrl, hlev⟩ := hp99
    refine hG9 ?_
    clear hG9 G9
    dsimp only at hur hlev FZ NZ hIne
    have hn1 := allNw_of hIne
    simp only [AllNw, and_true] at hn1
    k_steps
    refine unhold ?_
    rename Fr _ _ _ _ => FZ
    rename News _ _ _ _ => NZ
    rename IsRange _ _ _ _ _ _ _ _ => hrng
    rw [hal] at hrng
    have hbc : Txt.item ⟨b2.toArray⟩ (0 + (i : Int)) = ⟨#[b2.getD i 0]⟩ := by
      rw [item_at (by omega) (by omega)]
      simp
    rw [hbc, Int.zero_add] at FZ
    rw [levGo_step (by omega)] at hlev
    generalize b2.getD i 0 = bc at *
    refine' loop_range (σ := List Value × Int × Tok × Int × Tok × Int × Tok) (h₀ := g) (n := d) (fun c => [(I, oI), (D, W.listOf c.1.toArray k)]) (fun c => [(Str.ofString "distance", .int c.2.1 c.2.2.1), (Str.ofString "result", .int c.2.2.2.1 c.2.2.2.2.1), (Str.ofString "minimum", .int c.2.2.2.2.2.1 c.2.2.2.2.2.2)]) [Str.ofString "substitute", Str.ofString "insert_delete", Str.ofString "distance", Str.ofString "result", Str.ofString "minimum"]
      (fun j c => ∃ rw, IntsAre c.1 rw ∧ rw.length = d ∧ rowN a2 bc i row j = (c.2.1, c.2.2.2.1, c.2.2.2.2.2.1, rw)) (uv, (i : Int) * 2, _, (i : Int) * 2, _, 9223372036854775807, _) ?Sh ?Sr ?Ss ?Sz ?SF ?SN ?Sk ?Sp ?St ?Sd
    case SF => exact FZ
    case Sr => exact hrng
    case Sk => repeat (first | exact List.forall_mem_nil _ | refine fcons (by exact Eq.refl (some _)) ?_)
    case SN => exact News.sub NZ (by k_extra "M sub")
    case Sh => rfl
    case Ss => exact small_one (by omega) (by omega) (by omega) (by omega)
    case Sz => exact rangeSize_nat _ _
    case Sp => exact ⟨row, hur, hrl, rfl⟩
    case St =>
      clear FZ NZ hrng
      refine sp7 ?_
      rintro uv2 dist td res2 tr2 mn tmn j tj u2 h tk I2 oI2 hjd hp99 hI2ne FZ NZ
      refine byG fun G9 hG9 => ?_
      obtain ⟨rw2, hu2, hl2, hst⟩ := hp99
      refine hG9 ?_
      clear hG9 G9
      dsimp only at hu2 hst FZ NZ hI2ne
      have hn2 := allNw_of hI2ne
      simp only [AllNw, and_true] at hn2
      obtain ⟨y1, y2⟩ := hn2
      k_with "call ref" => (refine hold ?_)
      k_steps
      all_goals (try dsimp only)
      refine unhold ?_
      rename Fr _ _ _ _ => FZ
      rename News _ _ _ _ => NZ
      have hac : Txt.item ⟨a2.toArray⟩ (0 + (j : Int)) = ⟨#[a2.getD j 0]⟩ := by
        rw [item_at (by omega) (by omega)]
        simp
      rw [hac]
      refine (ctr_subst _ _ _ _ (Nat.le_of_eq (len_mk [_])) (Nat.le_of_eq (len_mk [_]))).use B' FZ X' T' rfl Off.nil (by k_extra "M ROOM") (by k_extra "M UNITS") trivial ?_
      rintro r hB tkB FB KB ⟨t9, rfl⟩
      have NB := KB.news0 NZ
      clear FZ NZ KB hac
      have hul := hu2.length
      rw [show costS ⟨#[bc]⟩ ⟨#[a2.getD j 0]⟩ = subN bc (a2.getD j 0) from rfl]
      k_with_none
      k_with "M ne" => first | exact NeW.l (by with_reducible assumption) | exact NeW.r (by with_reducible assumption) | (refine neN ?_; (try dsimp only); omega)
      k_with "M bits" => first | with_reducible assumption | exact bits_pow2 (by omega)
      k_with "M mem" => first | exact List.Mem.head _ | exact mem1 | exact mem2 | exact mem3 | exact mem4 | exact mem5 | exact mem6 | exact mem7 | exact mem8 | exact mem9 | exact mem10 | exact mem11 | exact mem12 | exact mem13
      k_with "M nw" => (try simp only [AllNw, and_true]); (try dsimp only); (repeat' constructor) <;> first | with_reducible assumption | (refine NeW.of ?_; k_ne)
      k_with "M sub2" => repeat (first | exact List.forall_mem_nil _ | refine fcons ⟨_, by k_mem⟩ ?_)
      k_with "M off" => repeat (first | exact List.forall_mem_nil _ | refine fcons (nin1 (by (try dsimp only); k_ne)) ?_)
      k_with "M sub" => repeat (first | exact List.forall_mem_nil _ | (refine fcons ?k9w ?_; (case k9w => k_mem)))
      k_with "subscriptTail Name Slice ref ref" => refine' slice_all_led ?k9F ?k9N ?k9l ?k9z ?k9p ?k9q ?_ ?k9s ?k9t; (case k9F => k_asm); (case k9N => k_asm); (case k9l => k_mem); (case k9z => omega); (case k9p => kmk_part); (case k9q => kmk_part); (case k9s => with_unfolding_all rfl); (case k9t => kmk_pure); intro k9D k9h k9F k9N k9l1; (try k_lt k9l1); (try k_sweep)
      k_with "M same" => intro z h1 h2 h3; (try dsimp only); (repeat (first | refine same_if (by first | exact h1 | exact ne_ps h2 rfl | exact ne_st h3 rfl) ?_ | exact rfl | exact same_st h3 | exact same_kst h2 h3 | refine same_k (by repeat (first | exact List.forall_mem_nil _ | refine fcons (by first | exact h1 | exact ne_ps h2 rfl | exact ne_st h3 rfl) ?_)) ?_ | refine same_c (by repeat (first | exact nc_nil | refine nc_cons (by first | exact h1 | exact ne_ps h2 rfl | exact ne_st h3 rfl) ?_)) ?_))
      k_with "call builtin:list.append" => refine' append_led ?k9la ?k9lb ?k9lc ?k9ld ?_; (case k9la => k_asm); (case k9lb => k_asm); (case k9lc => k_upd); (case k9ld => omega); intro k9h k9F k9N; (try k_sweep)
      k_with "call builtin:list.reverse" => refine' reverse_led ?k9la ?k9lb ?k9lc ?k9ld ?_; (case k9la => k_asm); (case k9lb => k_asm); (case k9lc => k_upd); (case k9ld => omega); intro k9h k9F k9N; (try k_sweep)
      k_with "binaryOp LShift int int" => refine' lshift_bits ?k9la ?k9lb ?k9lc ?k9ld ?_; (case k9la => omega); (case k9lb => omega); (case k9lc => bits_by_make); (case k9ld => decide)
      k_with "inplaceOp LShift int int" => refine' ilshift_bits ?k9la ?k9lb ?k9lc ?k9ld ?_; (case k9la => omega); (case k9lb => omega); (case k9lc => bits_by_make); (case k9ld => decide)
      k_with "M ROOM" => first | omega | ktr_room | ((try dsimp only [Around.deeper, ktrTop]); omega)
      k_with "M UNITS" => first | omega | ((try dsimp only [Around.deeper, ktrTop]); omega) | ktr_units
      k_with "execs cons" => (try k_fold); with_reducible first | refine seqL ?_ | (refine seqV ?_; intro Q8 q8)
      k_with "M un" => with_reducible first | (refine seqVN (s := s1) (by assumption) ?_; intro tk8; try clear q8 Q8) | (refine seqVN (s := s) (by assumption) ?_; intro tk8; try clear q8 Q8) | refine seqVR (by assumption) ?_ | refine seqVM (by assumption) ?_ | refine seqVB (by assumption) ?_ | refine seqVC (by assumption) ?_
      k_with "eval Name" => k_here; k_dflt (refine' nameX_L ?k9F ?k9v ?_ ?k9a ?k9b; (case k9F => k_asm); (case k9a => exact Eq.refl _); (case k9b => exact Eq.refl (some NameKind.local)); (case k9v => exact Eq.refl (some _)); k_whole)
      k_with "subscriptTail Name Slice str ref" => (with_reducible show wpAny _ _ (subscriptTail _ (Expr.Slice none (some (Expr.BoolOp _ _ _)) none _) _ _) _ _ _); (with_reducible rename Fr _ _ _ _ => k9F); (with_reducible rename News _ _ _ _ => k9N); refine slice_whole (s := ⟨_, _, _, _, _⟩) k9F k9N ?_ (by with_unfolding_all rfl) (by intro _; with_unfolding_all rfl) (by size_fits); intro _ _ _ _ _
      k_steps
      all_goals (rename Fr _ _ _ _ => FZ)
      all_goals (rename News _ _ _ _ => NZ)
      all_goals (simp only [min2, Int.zero_add] at FZ NZ)
      all_goals (repeat k_extra "M un")
      all_goals (try dsimp only [Post1])
      · rename (_ < mn) => hlt
        simp only [min2, Int.zero_add] at hlt
        rw [Int.toNat_natCast] at hlt FZ NZ
        refine' End1.intro (?a1, ?b1, ?c1, ?d1, ?e1, ?f1, ?g1) FZ NZ ?hI1 ?hl1 ?hne1 ?hk1 ?hr1 ?hp1
        case hk1 => repeat (first | exact List.forall_mem_nil _ | refine fcons (by exact Eq.refl (some _)) ?_)
        case hl1 =>
          dsimp only
          k_extra "M sub"
        case hI1 => exact .head _
        case hne1 =>
          dsimp only
          refine AllNw.mem ⟨y1, y2, trivial⟩
        case hr1 => k_extra "M same"
        case hp1 => exact ⟨_, ints_set hu2 j, by rw [List.length_set]; exact hl2, rowN_lt hst hlt⟩
      · rename (¬ (_ < mn)) => hlt
        simp only [min2, Int.zero_add] at hlt
        rw [Int.toNat_natCast] at hlt FZ NZ
        refine' End1.intro (?a2, ?b2, ?c2, ?d2, ?e2, ?f2, ?g2) FZ NZ ?hI2 ?hl2 ?hne2 ?hk2 ?hr2 ?hp2
        case hk2 => repeat (first | exact List.forall_mem_nil _ | refine fcons (by exact Eq.refl (some _)) ?_)
        case hl2 =>
          dsimp only
          k_extra "M sub"
        case hI2 => exact .head _
        case hne2 =>
          dsimp only
          refine AllNw.mem ⟨y1, y2, trivial⟩
        case hr2 => k_extra "M same"
        case hp2 => exact ⟨_, ints_set hu2 j, by rw [List.length_set]; exact hl2, rowN_ge hst hlt⟩
    case Sd =>
      clear FZ NZ hrng
      refine sp7 ?_
      rintro uv2 dist td res2 tr2 mn tmn u2 h tk hp94 FZ NZ
      refine byG fun G9 hG9 => ?_
      obtain ⟨rw2, hu2, hl2, hst⟩ := hp94
      refine hG9 ?_
      clear hG9 G9
      dsimp only at hu2 hst FZ NZ
      rw [ha2, hst] at hlev
      dsimp only at hlev
      k_with_none
      k_with "M ne" => first | exact NeW.l (by with_reducible assumption) | exact NeW.r (by with_reducible assumption) | (refine neN ?_; (try dsimp only); omega)
      k_with "M bits" => first | with_reducible assumption | exact bits_pow2 (by omega)
      k_with "M mem" => first | exact List.Mem.head _ | exact mem1 | exact mem2 | exact mem3 | exact mem4 | exact mem5 | exact mem6 | exact mem7 | exact mem8 | exact mem9 | exact mem10 | exact mem11 | exact mem12 | exact mem13
      k_with "M nw" => (try simp only [AllNw, and_true]); (try dsimp only); (repeat' constructor) <;> first | with_reducible assumption | (refine NeW.of ?_; k_ne)
      k_with "M sub2" => repeat (first | exact List.forall_mem_nil _ | refine fcons ⟨_, by k_mem⟩ ?_)
      k_with "M off" => repeat (first | exact List.forall_mem_nil _ | refine fcons (nin1 (by (try dsimp only); k_ne)) ?_)
      k_with "M sub" => repeat (first | exact List.forall_mem_nil _ | (refine fcons ?k9w ?_; (case k9w => k_mem)))
      k_with "subscriptTail Name Slice ref ref" => refine' slice_all_led ?k9F ?k9N ?k9l ?k9z ?k9p ?k9q ?_ ?k9s ?k9t; (case k9F => k_asm); (case k9N => k_asm); (case k9l => k_mem); (case k9z => omega); (case k9p => kmk_part); (case k9q => kmk_part); (case k9s => with_unfolding_all rfl); (case k9t => kmk_pure); intro k9D k9h k9F k9N k9l1; (try k_lt k9l1); (try k_sweep)
      k_with "M same" => intro z h1 h2 h3; (try dsimp only); (repeat (first | refine same_if (by first | exact h1 | exact ne_ps h2 rfl | exact ne_st h3 rfl) ?_ | exact rfl | exact same_st h3 | exact same_kst h2 h3 | refine same_k (by repeat (first | exact List.forall_mem_nil _ | refine fcons (by first | exact h1 | exact ne_ps h2 rfl | exact ne_st h3 rfl) ?_)) ?_ | refine same_c (by repeat (first | exact nc_nil | refine nc_cons (by first | exact h1 | exact ne_ps h2 rfl | exact ne_st h3 rfl) ?_)) ?_))
      k_with "call builtin:list.append" => refine' append_led ?k9la ?k9lb ?k9lc ?k9ld ?_; (case k9la => k_asm); (case k9lb => k_asm); (case k9lc => k_upd); (case k9ld => omega); intro k9h k9F k9N; (try k_sweep)
      k_with "call builtin:list.reverse" => refine' reverse_led ?k9la ?k9lb ?k9lc ?k9ld ?_; (case k9la => k_asm); (case k9lb => k_asm); (case k9lc => k_upd); (case k9ld => omega); intro k9h k9F k9N; (try k_sweep)
      k_with "binaryOp LShift int int" => refine' lshift_bits ?k9la ?k9lb ?k9lc ?k9ld ?_; (case k9la => omega); (case k9lb => omega); (case k9lc => bits_by_make); (case k9ld => decide)
      k_with "inplaceOp LShift int int" => refine' ilshift_bits ?k9la ?k9lb ?k9lc ?k9ld ?_; (case k9la => omega); (case k9lb => omega); (case k9lc => bits_by_make); (case k9ld => decide)
      k_with "M ROOM" => first | omega | ktr_room | ((try dsimp only [Around.deeper, ktrTop]); omega)
      k_with "M UNITS" => first | omega | ((try dsimp only [Around.deeper, ktrTop]); omega) | ktr_units
      k_with "execs cons" => (try k_fold); with_reducible first | refine seqL ?_ | (refine seqV ?_; intro Q8 q8)
      k_with "M un" => with_reducible first | (refine seqVN (s := s1) (by assumption) ?_; intro tk8; try clear q8 Q8) | (refine seqVN (s := s) (by assumption) ?_; intro tk8; try clear q8 Q8) | refine seqVR (by assumption) ?_ | refine seqVM (by assumption) ?_ | refine seqVB (by assumption) ?_ | refine seqVC (by assumption) ?_
      k_with "eval Name" => k_here; k_dflt (refine' nameX_L ?k9F ?k9v ?_ ?k9a ?k9b; (case k9F => k_asm); (case k9a => exact Eq.refl _); (case k9b => exact Eq.refl (some NameKind.local)); (case k9v => exact Eq.refl (some _)); k_whole)
      k_with "subscriptTail Name Slice str ref" => (with_reducible show wpAny _ _ (subscriptTail _ (Expr.Slice none (some (Expr.BoolOp _ _ _)) none _) _ _) _ _ _); (with_reducible rename Fr _ _ _ _ => k9F); (with_reducible rename News _ _ _ _ => k9N); refine slice_whole (s := ⟨_, _, _, _, _⟩) k9F k9N ?_ (by with_unfolding_all rfl) (by intro _; with_unfolding_all rfl) (by size_fits); intro _ _ _ _ _
      k_steps
      · rename (mc < mn) => hlt
        rw [if_pos hlt] at hlev
        (repeat k_extra "M un")
        dsimp only [Post1]
        (repeat k_extra "M un")
        refine (done_of (hret _ _ _ (hFr _ (hKeep _ _ _ (by assumption))) (hKeep _ _ _ (by assumption)) (int_post hlev.symm)))
      · rename (¬ (mc < mn)) => hlt
        rw [if_neg hlt] at hlev
        rename Fr _ _ _ _ => FZ
        rename News _ _ _ _ => NZ
        (repeat k_extra "M un")
        dsimp only [Post1]
        refine' End1.intro (?a3, ?b3, ?c3) FZ NZ ?hI3 ?hl3 ?hne3 ?hk3 ?hr3 ?hp3
        case hk3 => repeat (first | exact List.forall_mem_nil _ | refine fcons (by exact Eq.refl (some _)) ?_)
        case hl3 =>
          dsimp only
          k_extra "M sub"
        case hI3 => exact .head _
        case hne3 =>
          dsimp only
          refine AllNw.mem ⟨hn1, trivial⟩
        case hr3 => k_extra "M same"
        case hp3 => exact ⟨_, hu2, hl2, hlev⟩
  case Rd =>
    clear FZ NZ hrng
    refine sp3 ?_
    rintro uv res tr u h tk hp94 FZ NZ
    refine byG fun G9 hG9 => ?_
    obtain ⟨row, hur, hrl, hlev⟩ := hp94
    refine hG9 ?_
    clear hG9 G9
    dsimp only at hur hlev FZ NZ
    k_with_none
    k_with "M ne" => first | exact NeW.l (by with_reducible assumption) | exact NeW.r (by with_reducible assumption) | (refine neN ?_; (try dsimp only); omega)
    k_with "M bits" => first | with_reducible assumption | exact bits_pow2 (by omega)
    k_with "M mem" => first | exact List.Mem.head _ | exact mem1 | exact mem2 | exact mem3 | exact mem4 | exact mem5 | exact mem6 | exact mem7 | exact mem8 | exact mem9 | exact mem10 | exact mem11 | exact mem12 | exact mem13
    k_with "M nw" => (try simp only [AllNw, and_true]); (try dsimp only); (repeat' constructor) <;> first | with_reducible assumption | (refine NeW.of ?_; k_ne)
    k_with "M sub2" => repeat (first | exact List.forall_mem_nil _ | refine fcons ⟨_, by k_mem⟩ ?_)
    k_with "M off" => repeat (first | exact List.forall_mem_nil _ | refine fcons (nin1 (by (try dsimp only); k_ne)) ?_)
    k_with "M sub" => repeat (first | exact List.forall_mem_nil _ | (refine fcons ?k9w ?_; (case k9w => k_mem)))
    k_with "subscriptTail Name Slice ref ref" => refine' slice_all_led ?k9F ?k9N ?k9l ?k9z ?k9p ?k9q ?_ ?k9s ?k9t; (case k9F => k_asm); (case k9N => k_asm); (case k9l => k_mem); (case k9z => omega); (case k9p => kmk_part); (case k9q => kmk_part); (case k9s => with_unfolding_all rfl); (case k9t => kmk_pure); intro k9D k9h k9F k9N k9l1; (try k_lt k9l1); (try k_sweep)
    k_with "M same" => intro z h1 h2 h3; (try dsimp only); (repeat (first | refine same_if (by first | exact h1 | exact ne_ps h2 rfl | exact ne_st h3 rfl) ?_ | exact rfl | exact same_st h3 | exact same_kst h2 h3 | refine same_k (by repeat (first | exact List.forall_mem_nil _ | refine fcons (by first | exact h1 | exact ne_ps h2 rfl | exact ne_st h3 rfl) ?_)) ?_ | refine same_c (by repeat (first | exact nc_nil | refine nc_cons (by first | exact h1 | exact ne_ps h2 rfl | exact ne_st h3 rfl) ?_)) ?_))
    k_with "call builtin:list.append" => refine' append_led ?k9la ?k9lb ?k9lc ?k9ld ?_; (case k9la => k_asm); (case k9lb => k_asm); (case k9lc => k_upd); (case k9ld => omega); intro k9h k9F k9N; (try k_sweep)
    k_with "call builtin:list.reverse" => refine' reverse_led ?k9la ?k9lb ?k9lc ?k9ld ?_; (case k9la => k_asm); (case k9lb => k_asm); (case k9lc => k_upd); (case k9ld => omega); intro k9h k9F k9N; (try k_sweep)
    k_with "binaryOp LShift int int" => refine' lshift_bits ?k9la ?k9lb ?k9lc ?k9ld ?_; (case k9la => omega); (case k9lb => omega); (case k9lc => bits_by_make); (case k9ld => decide)
    k_with "inplaceOp LShift int int" => refine' ilshift_bits ?k9la ?k9lb ?k9lc ?k9ld ?_; (case k9la => omega); (case k9lb => omega); (case k9lc => bits_by_make); (case k9ld => decide)
    k_with "M ROOM" => first | omega | ktr_room | ((try dsimp only [Around.deeper, ktrTop]); omega)
    k_with "M UNITS" => first | omega | ((try dsimp only [Around.deeper, ktrTop]); omega) | ktr_units
    k_with "execs cons" => (try k_fold); with_reducible first | refine seqL ?_ | (refine seqV ?_; intro Q8 q8)
    k_with "M un" => with_reducible first | (refine seqVN (s := s1) (by assumption) ?_; intro tk8; try clear q8 Q8) | (refine seqVN (s := s) (by assumption) ?_; intro tk8; try clear q8 Q8) | refine seqVR (by assumption) ?_ | refine seqVM (by assumption) ?_ | refine seqVB (by assumption) ?_ | refine seqVC (by assumption) ?_
    k_with "eval Name" => k_here; k_dflt (refine' nameX_L ?k9F ?k9v ?_ ?k9a ?k9b; (case k9F => k_asm); (case k9a => exact Eq.refl _); (case k9b => exact Eq.refl (some NameKind.local)); (case k9v => exact Eq.refl (some _)); k_whole)
    k_with "subscriptTail Name Slice str ref" => (with_reducible show wpAny _ _ (subscriptTail _ (Expr.Slice none (some (Expr.BoolOp _ _ _)) none _) _ _) _ _ _); (with_reducible rename Fr _ _ _ _ => k9F); (with_reducible rename News _ _ _ _ => k9N); refine slice_whole (s := ⟨_, _, _, _, _⟩) k9F k9N ?_ (by with_unfolding_all rfl) (by intro _; with_unfolding_all rfl) (by size_fits); intro _ _ _ _ _
    k_steps
    all_goals (try dsimp only)
    rw [List.drop_of_length_le (by omega)] at hlev
    (repeat k_extra "M un")
    refine (done_of (hret _ _ _ (hFr _ (hKeep _ _ _ (by assumption))) (hKeep _ _ _ (by assumption)) (int_post hlev.symm)))
end

section
theorem hush_C_code : True := by
  k_with_none
  w_top off
  trivial
set_option genSizeOf false
set_option genInjectivity false
theorem rules_C_code_0 : True := by
  k_with "M ne" => first | exact NeW.l (by with_reducible assumption) | exact NeW.r (by with_reducible assumption) | (refine neN ?_; (try dsimp only); omega)
  k_with "M bits" => first | with_reducible assumption | exact bits_pow2 (by omega)
  k_with "M mem" => first | exact List.Mem.head _ | exact mem1 | exact mem2 | exact mem3 | exact mem4 | exact mem5 | exact mem6 | exact mem7 | exact mem8 | exact mem9 | exact mem10 | exact mem11 | exact mem12 | exact mem13
  trivial

structure CSt where
  cv : List Value
  sp : Nat
  tA : Array Value
  tB : Array Value
  cA : Addr
  oA : Obj
  cB : Addr
  oB : Obj
  oT : Obj
  oO : Obj
  oW : Obj
noncomputable abbrev restC (S D : Addr) : List (Addr × Obj) := [(D, tabObj #[]), (44, tabObj #[]), (37, tabObj #[]), (S + 1 + 1 + 1 + 1, tabObj #[]), (S + 1 + 1 + 1, tabObj #[]), (S + 1 + 1, tabObj #[])]
noncomputable def OkC (S D : Addr) (c : CSt) : Prop := (c.tA = #[] ∨ c.tA = tripA c.cA ∧ CodeObj qualA c.oA) ∧ (c.tB = #[] ∨ c.tB = tripB c.cB ∧ CodeObj qualB c.oB) ∧ AllNw c.cA (restC S D) ∧ AllNw c.cB (restC S D) ∧ (∃ v, c.oT.data = .cell v) ∧ (∃ v, c.oO.data = .cell v) ∧ ∃ v, c.oW.data = .cell v
noncomputable def ledC (S D : Addr) (o4 : Obj) (c : CSt) : List (Addr × Obj) := [(D, W.listOf c.cv.toArray c.sp), (44, tabObj c.tB), (37, tabObj c.tA), (c.cB, c.oB), (c.cA, c.oA), (S + 1 + 1 + 1 + 1, c.oT), (S + 1 + 1 + 1, c.oO), (S + 1 + 1, c.oW), (S + 1, o4)]
noncomputable def codeP (q : Int) (w0 w1 : List Int) : Nat → List Int
  | 0 => [0]
  | 1 => loopN q w0 [0] [0]
  | _ => codeL q w0 w1
inductive GotCode (q : Int) (w0 w1 : List Int) (r : Value) (h h' : Heap) : Prop
  | mk (D : _) (cv : _) (sp : _) (cA : _) (oA : _) (cB : _) (oB : _) (h9x0 : r = .ref D) (h9x1 : MadeAt h h' D (W.listOf cv sp)) (h9x2 : IntsAre cv.toList (codeL q w0 w1)) (h9x3 : h'.get? 44 = some (tabObj (tripB cB))) (h9x4 : h'.get? 37 = some (tabObj (tripA cA))) (h9x5 : MadeAt h h' cA oA) (h9x6 : MadeAt h h' cB oB) (h9x7 : CodeObj qualA oA) (h9x8 : CodeObj qualB oB) : GotCode q w0 w1 r h h'
theorem CodeObj.off {q : Str} {o : Obj} {h : Heap} {c a : Addr} {ps : Array Value} (x : CodeObj q o) (e : h.get? c = some o) (e2 : h.get? a = some (tabObj ps)) (hp : (∃ b, ps = tripB b) ∨ ∃ b, ps = tripA b) : @Ne Nat c a := fun z => by
  obtain rfl : c = a := z
  rw [e] at e2
  cases e2
  obtain ⟨vs, t, e1, e3⟩ := x
  cases e1
  rcases hp with ⟨b, rfl⟩ | ⟨b, rfl⟩ <;> cases e3
theorem with_ints {cv0 : List Value} {ns : List Int} (_h : IntsAre cv0 ns) {G : Prop} (k : ∀ cv0', cv0' = cv0 → IntsAre cv0' ns → G) : G := k cv0 rfl _h
theorem Keep.mono {m m' : Nat} {ns : List Int} (h : Keep m ns) (hm : m ≤ m') : Keep m' ns := ⟨h.1, h.2.1, Nat.le_trans h.2.2 hm⟩
theorem list_at2 {h g : Heap} {l : Addr} {its : Array Value} {p1 p2 : Array Value} (x : h.IsList l its) (hg : ∀ b o, h.get? b = some o → b ∉ [(44 : Addr), 37] → g.get? b = some o) (h1 : h.get? 44 = some (tabObj p1)) (h2 : h.get? 37 = some (tabObj p2)) : g.IsList l its := by
  refine x.at fun o e => hg _ o e ?_
  obtain ⟨o9, e9, c9, _⟩ := x
  intro hm
  rcases List.mem_cons.mp hm with hm | hm
  · rw [hm, h1] at e9; cases e9; cases c9
  · rw [List.mem_singleton.mp hm, h2] at e9; cases e9; cases c9

theorem enterR_C_code_0 : True := by
  k_with_none
  k_with "M ne" => first | exact NeW.l (by with_reducible assumption) | exact NeW.r (by with_reducible assumption) | (refine neN ?_; (try dsimp only); omega)
  k_with "M bits" => first | with_reducible assumption | exact bits_pow2 (by omega)
  k_with "M mem" => first | exact List.Mem.head _ | exact mem1 | exact mem2 | exact mem3 | exact mem4 | exact mem5 | exact mem6 | exact mem7 | exact mem8 | exact mem9 | exact mem10 | exact mem11 | exact mem12 | exact mem13
  k_with "M nw" => (try simp only [AllNw, and_true]); (try dsimp only); (repeat' constructor) <;> first | with_reducible assumption | (refine NeW.of ?_; k_ne)
  k_with "M sub2" => repeat (first | exact List.forall_mem_nil _ | refine fcons ⟨_, by k_mem⟩ ?_)
  k_with "M off" => repeat (first | exact List.forall_mem_nil _ | refine fcons (nin1 (by (try dsimp only); k_ne)) ?_)
  k_with "M sub" => repeat (first | exact List.forall_mem_nil _ | (refine fcons ?k9w ?_; (case k9w => k_mem)))
  k_with "subscriptTail Name Slice ref ref" => refine' slice_all_led ?k9F ?k9N ?k9l ?k9z ?k9p ?k9q ?_ ?k9s ?k9t; (case k9F => k_asm); (case k9N => k_asm); (case k9l => k_mem); (case k9z => omega); (case k9p => kmk_part); (case k9q => kmk_part); (case k9s => with_unfolding_all rfl); (case k9t => kmk_pure); intro k9D k9h k9F k9N k9l1; (try k_lt k9l1); (try k_sweep)
  k_with "M same" => intro z h1 h2 h3; (try dsimp only); (repeat (first | refine same_if (by first | exact h1 | exact ne_ps h2 rfl | exact ne_st h3 rfl) ?_ | exact rfl | exact same_st h3 | exact same_kst h2 h3 | refine same_k (by repeat (first | exact List.forall_mem_nil _ | refine fcons (by first | exact h1 | exact ne_ps h2 rfl | exact ne_st h3 rfl) ?_)) ?_ | refine same_c (by repeat (first | exact nc_nil | refine nc_cons (by first | exact h1 | exact ne_ps h2 rfl | exact ne_st h3 rfl) ?_)) ?_))
  k_with "call builtin:list.append" => refine' append_led ?k9la ?k9lb ?k9lc ?k9ld ?_; (case k9la => k_asm); (case k9lb => k_asm); (case k9lc => k_upd); (case k9ld => omega); intro k9h k9F k9N; (try k_sweep)
  k_with "call builtin:list.reverse" => refine' reverse_led ?k9la ?k9lb ?k9lc ?k9ld ?_; (case k9la => k_asm); (case k9lb => k_asm); (case k9lc => k_upd); (case k9ld => omega); intro k9h k9F k9N; (try k_sweep)
  k_with "binaryOp LShift int int" => refine' lshift_bits ?k9la ?k9lb ?k9lc ?k9ld ?_; (case k9la => omega); (case k9lb => omega); (case k9lc => bits_by_make); (case k9ld => decide)
  k_with "inplaceOp LShift int int" => refine' ilshift_bits ?k9la ?k9lb ?k9lc ?k9ld ?_; (case k9la => omega); (case k9lb => omega); (case k9lc => bits_by_make); (case k9ld => decide)
  k_with "M ROOM" => first | omega | ktr_room | ((try dsimp only [Around.deeper, ktrTop]); omega)
  k_with "M UNITS" => first | omega | ((try dsimp only [Around.deeper, ktrTop]); omega) | ktr_units
  k_with "execs cons" => (try k_fold); with_reducible first | refine seqL ?_ | (refine seqV ?_; intro Q8 q8)
  k_with "M un" => with_reducible first | (refine seqVN (s := s1) (by assumption) ?_; intro tk8; try clear q8 Q8) | (refine seqVN (s := s) (by assumption) ?_; intro tk8; try clear q8 Q8) | refine seqVR (by assumption) ?_ | refine seqVM (by assumption) ?_ | refine seqVB (by assumption) ?_ | refine seqVC (by assumption) ?_
  k_with "eval Name" => k_here; k_dflt (refine' nameX_L ?k9F ?k9v ?_ ?k9a ?k9b; (case k9F => k_asm); (case k9a => exact Eq.refl _); (case k9b => exact Eq.refl (some NameKind.local)); (case k9v => exact Eq.refl (some _)); k_whole)
  k_with "M ENTER" => (
    unfold Ctr PR
    k_fill
    intro dp un gd cn cs aF ccd clF outer A₀ base h₀ L mF s Q E B F X T hke hOff hdp hun hPre hret
    first
    | (refine' enter B F X T hke hOff ?hz ?k6 ?k7 ?k8 ?k9 ?kB ?c5 ?c2 ?c3 ?c4 ?_
       (case k6 => exact (X.keeps F.keep) _ _ (by k_is))
       (case k7 => exact codeRec_of (X.keeps F.keep) (by k_is))
       (case hz => first | exact (fun _ h => absurd h List.not_mem_nil) | k_extra "M HZ")
       (case k8 => omega)
       (case k9 => first | exact BindsTo.of_eq rfl | exact binds_K (by k_in) rfl (by k_is) rfl rfl rfl | exact (fun M A E Q hq Γ p _ => wp_of_peek (X.keeps F.keep) hq _ (by rfl)) | fail "k_enter: no rule for these arguments")
       (case kB => exact locs rfl)
       (case c5 => decide)
       (case c2 => exact rfl)
       (case c3 => exact rfl)
       (case c4 => exact rfl)
       intro g h₁ F' hk1 hFr hKeep hg hOff' B' X' T' en7 Ar7 Qf7 Ef7
       have N' : News g s.heap.objs.size h₁ [] := News.nil
       have hNew := new_of hg
       try dsimp only
       clear B F X T hke hOff)
    | (refine' enterC B F X T hke hOff ?hz ?k6 ?k7 ?k8 ?k9 ?kB ?kD ?c2 ?c3 ?c4 ?_
       (case k6 => exact (X.keeps F.keep) _ _ (by k_is))
       (case k7 => exact codeRec_of (X.keeps F.keep) (by k_is))
       (case hz => first | exact (fun _ h => absurd h List.not_mem_nil) | k_extra "M HZ")
       (case k8 => omega)
       (case k9 => first | exact BindsTo.of_eq rfl | exact binds_K (by k_in) rfl (by k_is) rfl rfl rfl | exact (fun M A E Q hq Γ p _ => wp_of_peek (X.keeps F.keep) hq _ (by rfl)) | fail "k_enter: no rule for these arguments")
       (case kB => exact rfl)
       (case kD => decide +kernel)
       (case c2 => exact rfl)
       (case c3 => exact rfl)
       (case c4 => exact rfl)
       intro g h₁ tk' cells' F' N' Y' hk1 hFr hKeep hg hOff' B' X' T' en7 Ar7 Qf7 Ef7
       first
       | (obtain ⟨oc1, hE', dc1⟩ := CellsAre.one Y'; subst hE')
       | (obtain ⟨oc1, oc2, hE', dc1, dc2⟩ := CellsAre.two Y'; subst hE')
       | (obtain ⟨oc1, oc2, oc3, hE', dc1, dc2, dc3⟩ := CellsAre.three Y'; subst hE')
       | (obtain ⟨oc1, oc2, oc3, oc4, hE', dc1, dc2, dc3, dc4⟩ := CellsAre.four Y'; subst hE')
       clear Y'
       (try simp only [List.cons_append, List.nil_append] at N')
       have hNew := new_of hg
       try dsimp only
       clear B F X T hke hOff)
    )
  trivial
set_option maxHeartbeats 8000000 in
theorem ctr_code {w : World} {p : Program} {loose : List Str} {mean : ExcName → Option Value} {mg mb : Str → Option Value} (W0 a0 a1 : Addr) (v0 v1 : List Value) (w0 w1 : List Int) (q : Int) (tq : Tok) (n : Nat) (hq : 2 ≤ q ∧ q ≤ 3) (hn : n ≤ 4) (hn0 : 1 ≤ n) (hw0 : w0.length = n) (hw1 : w1.length = n) :
    Ctr w (hd.heap_1 w.params) p loose mean mg mb 185 300 [44, 37] [.ref W0, .int q tq]
      (fun h => h.get? 44 = some (tabObj #[]) ∧ h.get? 37 = some (tabObj #[]) ∧ h.IsList W0 [.ref a0, .ref a1].toArray ∧ h.IsList a0 v0.toArray ∧ h.IsList a1 v1.toArray ∧ IntsAre v0 w0 ∧ IntsAre v1 w1)
      (fun r h h' => GotCode q w0 w1 r h h') := by
  k_with "M HZ" => (intro a9 h9; rcases List.mem_cons.mp h9 with rfl | h9; exact Heap.lt_size hPre.1; rw [List.mem_singleton.mp h9]; exact Heap.lt_size hPre.2.1)
  k_extra "M ENTER"
  refine byG fun G9 hG9 => ?_
  obtain ⟨hP, hP2, hlW, hl0, hl1, hi0, hi1⟩ := hPre
  refine hG9 ?_
  clear hG9 G9
  have gW := list_at2 hlW hg hP hP2
  have g0 := list_at2 hl0 hg hP hP2
  have g1 := list_at2 hl1 hg hP hP2
  have h44 : 44 < s.heap.objs.size := Heap.lt_size hP
  have o44 := hOff' 44 (.head _)
  have o37 := hOff' 37 (.tail _ (.head _))
  have N2 := News.cons (News.cons N' (hk1 _ _ hP2) o37) (hk1 _ _ hP) o44
  have OFF : Off [(44 : Addr), 37] g s.heap.objs.size := hOff'
  clear hg N' hP hP2 hlW hl0 hl1
  have dQ : oc4.data = .cell (some (.int q tq)) := dc4
  have dW : oc3.data = .cell none := dc3
  have dO : oc2.data = .cell none := dc2
  have dT : oc1.data = .cell none := dc1
  clear dc1 dc2 dc3 dc4
  k_with "exec For Name Name cons nil" => ((rename Fr _ _ _ _ => lF'); (refine' For_turns lF' ?_ (by intro _; unfold foldedSetIterable; first | with_reducible rfl | rfl)))
  k_with "exec For Name Call cons nil" => ((rename Fr _ _ _ _ => lF'); (refine' For_turns lF' ?_ (by intro _; unfold foldedSetIterable; first | with_reducible rfl | rfl)))
  k_with "exec For Name Subscript cons nil" => ((rename Fr _ _ _ _ => lF'); (refine' For_turns lF' ?_ (by intro _; unfold foldedSetIterable; first | with_reducible rfl | rfl)))
  k_with "M pyIter" => (refine hold ?_)
  k_steps
  all_goals (try dsimp only)
  refine unhold ?_
  rename Fr _ _ _ _ => FZ
  rename News _ _ _ _ => NZ
  refine with_head NZ fun D o9 rest hD => ?_
  obtain ⟨rfl, -, -⟩ := hD
  refine' loop_listT (σ := CSt) (l := W0) (vs := [.ref a0, .ref a1]) (h₀ := g) (ledC s.heap.objs.size D oc4) (fun _ => []) [Str.ofString "word", Str.ofString "number", Str.ofString "old", Str.ofString "times", Str.ofString "new", Str.ofString "place"]
    (fun i c => IntsAre c.cv (codeP q w0 w1 i) ∧ Keep (3 ^ i) (codeP q w0 w1 i) ∧ OkC s.heap.objs.size D c ∧ (0 < i → c.tA ≠ #[] ∧ c.tB ≠ #[])) ⟨[.int 0 _], 0, #[], #[], s.heap.objs.size + 1, oc4, s.heap.objs.size + 1, oc4, oc1, oc2, oc3⟩ ?Rh ?Rl ?RF ?RN ?Rk ?Rp ?Rt ?Rd
  case RF => exact FZ
  case RN => exact News.sub NZ (by
    unfold ledC
    k_extra "M sub")
  case Rh => rfl
  case Rl => exact gW
  case Rk => exact fun p hp => nomatch hp
  case Rp =>
    refine ⟨.cons _ _ .nil, ⟨fun i j h1 h2 => by simp [codeP] at h2; omega, fun x hx => by rw [List.mem_singleton.mp hx]; decide, Nat.le_refl _⟩, ⟨.inl rfl, .inl rfl, ?_, ?_, ⟨_, dT⟩, ⟨_, dO⟩, ⟨_, dW⟩⟩, fun h => absurd h (Nat.lt_irrefl _)⟩ <;> k_extra "M nw"
  case Rt =>
    clear FZ NZ dT dO dW
    rintro ⟨cv0, sp, tA, tB, cA, oA, cB, oB, oT, oO, oW⟩ i v u h tk I oI hiv hv hp910 hne FZ NZ
    refine byG fun G9 hG9 => ?_
    obtain ⟨hcv, hkp, ⟨hA, hB, nA, nB, ⟨vT, dT⟩, ⟨vO, dO⟩, ⟨vW, dW⟩⟩, hff⟩ := hp910
    refine hG9 ?_
    clear hG9 G9
    have hwd : ∃ wl wv wd, v = .ref wl ∧ g.IsList wl (List.toArray wv) ∧ IntsAre wv wd ∧ wd.length = n ∧ i < 2 ∧ codeP q w0 w1 (i + 1) = loopN q wd (codeP q w0 w1 i) (codeP q w0 w1 i) := by
      match i, hiv, hv with
      | 0, _, hv => cases hv; exact ⟨a0, v0, w0, rfl, g0, hi0, hw0, by decide, rfl⟩
      | 1, _, hv => cases hv; exact ⟨a1, v1, w1, rfl, g1, hi1, hw1, by decide, rfl⟩
    refine byG fun G9 hG9 => ?_
    obtain ⟨wl, wv, wd, rfl, hwl, hwi, hwn, hi2, hcp⟩ := hwd
    refine hG9 ?_
    clear hG9 G9
    clear hv hiv
    dsimp only at hcv hA hB nA nB hff dT dO dW
    generalize hns : codeP q w0 w1 i = ns at *
    have hcl : cv0.length = ns.length := hcv.length
    have hcl3 : ns.length ≤ 3 := Nat.le_trans hkp.2.2 (by match i, hi2 with | 0, _ => decide | 1, _ => decide)
    have hn1 := allNw_of hne
    have nA' := nA
    have nB' := nB
    simp only [AllNw, and_true, ledC] at hn1 nA nB
    unfold ledC at NZ
    dsimp only at hn1 nA nB NZ
    refine byG fun G9 hG9 => ?_
    obtain ⟨x1, x2, x3, x4, x5, x6, x7, x8, x9⟩ := hn1
    obtain ⟨xa1, xa2, xa3, xa4, xa5, xa6⟩ := nA
    obtain ⟨xb1, xb2, xb3, xb4, xb5, xb6⟩ := nB
    refine hG9 ?_
    clear hG9 G9
    k_with "subscriptTail Name Slice ref ref" => (refine hold ?_)
    k_steps
    refine unhold ?_
    refine' slice_all_led ?zF ?zN ?zl ?zz ?zp ?zq ?_ ?zs ?zt
    case zF => k_asm
    case zN => k_asm
    case zl => k_mem
    case zz => omega
    case zp => kmk_part
    case zq => kmk_part
    case zs => rfl
    case zt => intro _; rfl
    intro D2 h' F' N' l1
    (try k_lt l1)
    (try k_sweep)
    k_steps
    all_goals (try dsimp only)
    refine unhold ?_
    rename Fr _ _ _ _ => FZ
    rename News _ _ _ _ => NZ
    have hws := hcv
    have hwsl : cv0.length = ns.length := hws.length
    refine' loop_ledT (σ := CSt) (l := D2) (h₀ := g) (vs := cv0) (nn := 0) (fun c => (D2, W.listOf cv0.toArray 0) :: (I, oI) :: ledC s.heap.objs.size D oc4 c) (fun _ => []) [Str.ofString "times", Str.ofString "new", Str.ofString "place"]
      (fun j c => IntsAre c.cv (loopN q wd (ns.take j) ns) ∧ Keep (ns.length + 2 * j) (loopN q wd (ns.take j) ns) ∧ OkC s.heap.objs.size D c ∧ (NeW c.cA I ∧ NeW c.cB I) ∧ c.oW.data = .cell (some (.ref wl)) ∧ (0 < j ∨ 0 < i → c.tA ≠ #[] ∧ c.tB ≠ #[])) ⟨cv0, sp, tA, tB, cA, oA, cB, oB, oT, oO, _⟩ ?Sh ?Sl ?SF ?SN ?Sk ?Sp ?St ?Sd
    case SF => exact FZ
    case SN => exact News.sub NZ (by
      unfold ledC
      k_extra "M sub")
    case Sh => rfl
    case Sl => exact fun c => .head _
    case Sk => exact fun p hp => nomatch hp
    case Sp => exact ⟨hcv, ⟨hkp.1, hkp.2.1, Nat.le_refl _⟩, ⟨hA, hB, nA', nB', ⟨_, dT⟩, ⟨_, dO⟩, ⟨_, by assumption⟩⟩, ⟨x5, x4⟩, by assumption, fun h => hff (by omega)⟩
    case St =>
      clear FZ NZ dT dO dW hcv hff xa1 xa2 xa3 xa4 xa5 xa6 xb1 xb2 xb3 xb4 xb5 xb6 x4 x5 nA' nB' hA hB hcl
      rintro ⟨cv, sp, tA, tB, cA, oA, cB, oB, oT, oO, oW⟩ j v u2 h tk I2 oI2 hj hv hp910 hne2 FZ NZ
      refine byG fun G9 hG9 => ?_
      obtain ⟨hcv, hkj, ⟨hA, hB, nA, nB, ⟨vT, dT⟩, ⟨vO, dO⟩, -⟩, hcI, dW, hff⟩ := hp910
      refine hG9 ?_
      clear hG9 G9
      dsimp only at hcv hA hB nA nB hff hcI dT dO dW
      have hjn : j < ns.length := by omega
      obtain ⟨t9, hx⟩ := hws.get j ns[j] (List.getElem?_eq_getElem hjn)
      rw [hv] at hx
      cases hx
      have hxb := hkp.2.1 _ (List.getElem_mem hjn)
      have hxj : ns[j]? = some ns[j] := List.getElem?_eq_getElem hjn
      generalize ns[j] = x at *
      have hxbits : Builtin.Int.intBits x ≤ 8 := bits_lt hxb.1 hxb.2
      have hn2 := allNw_of hne2
      simp only [AllNw, and_true, ledC] at hn2 nA nB
      unfold ledC at NZ
      dsimp only at hn2 nA nB NZ
      refine byG fun G9 hG9 => ?_
      obtain ⟨y1, y2, y3, y4, y5, y6, y7, y8, y9, y10, y11⟩ := hn2
      obtain ⟨xa1, xa2, xa3, xa4, xa5, xa6⟩ := nA
      obtain ⟨xb1, xb2, xb3, xb4, xb5, xb6⟩ := nB
      obtain ⟨xcI, xdI⟩ := hcI
      refine hG9 ?_
      clear hG9 G9
      k_with "call ref" => (refine hold ?_)
      k_steps
      all_goals (try dsimp only)
      refine unhold ?_
      rename Fr _ _ _ _ => FZ
      rename News _ _ _ _ => NZ
      refine (ctr_i2d_g x _ 2 _ tA cA oA hxb.1 (by decide) (by omega) (by omega)).use B' FZ X' T' rfl (Off.one o37.1 o37.2) (by k_extra "M ROOM") (by k_extra "M UNITS") ⟨(NZ (37, tabObj tA) (by k_mem)).1, hA.imp id fun z => ⟨z.1, (NZ (cA, oA) (by k_mem)).1, z.2⟩⟩ ?_
      rintro r hA1 tkA FA KA hp95
      refine byG fun G9 hG9 => ?_
      obtain ⟨⟨d1, dv, rfl, hm1, hi1⟩, hnew⟩ := hp95
      refine hG9 ?_
      clear hG9 G9
      refine byG fun G9 hG9 => ?_
      obtain ⟨cA1, oA1, hcA1, e37, N37, nA1⟩ := hnew.ledger (rest := (I2, oI2) :: (I, oI) :: restC s.heap.objs.size D) FZ NZ KA (by k_mem) (by k_ne) (by k_mem) (by k_extra "M nw") (by unfold restC; k_extra "M sub2")
      refine hG9 ?_
      clear hG9 G9
      have nd1 := allNw_of (AllNe.mem (hm1.ne NZ))
      have NE := News.erase (News.erase NZ 5) 6
      dsimp only [List.eraseIdx] at NE
      have NR := hm1.news FZ (News.append N37 (KA.news NE (by k_extra "M off")))
      simp only [AllNw, and_true, List.cons_append, List.nil_append] at nA1 nd1 NR
      (try dsimp only at nA1 nd1)
      refine byG fun G9 hG9 => ?_
      obtain ⟨z1, z2, z3, z4, z5, z6, z7, z8⟩ := nA1
      obtain ⟨v1, v2, v3, v4, v5, v6, v7, v8, v9, v10, v11, v12⟩ := nd1
      refine hG9 ?_
      clear hG9 G9
      clear NE N37 KA FZ NZ hm1 hnew hA
      have hodl : (i2d 2 ((Builtin.Int.intBits x + 2 - 1) / 2) x).length ≤ 4 := by rw [i2d_length]; omega
      have hgod : ∀ i, i < 4 → (i2d 2 ((Builtin.Int.intBits x + 2 - 1) / 2) x ++ [0, 0, 0, 0])[i]? = some (x / 2 ^ (2 * i) % 2 ^ 2) := fun i hi => old_get hxb.1 (lt_pow_digits (by decide) hxb.1 rfl) hi
      generalize i2d 2 ((Builtin.Int.intBits x + 2 - 1) / 2) x = od at hi1 hodl hgod
      k_with "call ref" => (refine hold ?_)
      k_with "exec For Name Name cons nil" => ((rename Fr _ _ _ _ => lF'); (refine' For_turns lF' ?_ (by intro _; unfold foldedSetIterable; first | with_reducible rfl | rfl)))
      k_with "exec For Name Call cons nil" => ((rename Fr _ _ _ _ => lF'); (refine' For_turns lF' ?_ (by intro _; unfold foldedSetIterable; first | with_reducible rfl | rfl)))
      k_with "exec For Name Subscript cons nil" => ((rename Fr _ _ _ _ => lF'); (refine' For_turns lF' ?_ (by intro _; unfold foldedSetIterable; first | with_reducible rfl | rfl)))
      k_with "M pyIter" => (refine hold ?_)
      k_steps
      all_goals (try dsimp only)
      refine unhold ?_
      rename Fr _ _ _ _ => FZ
      rename News _ _ _ _ => NZ
      rename IsRange _ _ _ _ _ _ _ _ => hrng
      rename IntsAre _ (od ++ _) => how
      refine with_ints how fun ow e9 how => ?_
      subst e9
      refine with_head NZ fun D4 o9 rest9 hD => ?_
      obtain ⟨rfl, -, -⟩ := hD
      have hq3 : q = 2 ∨ q = 3 := by omega
      generalize hcur : loopN q wd (ns.take j) ns = cur at *
      refine' loop_rangeT (σ := CSt) (h₀ := g) (n := q.toNat - 1) (fun c => (D4, W.listOf ow.toArray 0) :: (I2, oI2) :: (D2, W.listOf cv0.toArray 0) :: (I, oI) :: ledC s.heap.objs.size D oc4 c) (fun _ => []) [Str.ofString "new", Str.ofString "place"]
        (fun t c => IntsAre c.cv (loopT q wd x cur t) ∧ Keep (ns.length + 2 * j + t) (loopT q wd x cur t) ∧ OkC s.heap.objs.size D c ∧ (NeW c.cA I ∧ NeW c.cB I) ∧ (NeW c.cA I2 ∧ NeW c.cB I2) ∧ c.oW.data = .cell (some (.ref wl)) ∧ c.oO.data = .cell (some (.ref D4)) ∧ c.tA ≠ #[] ∧ (0 < t ∨ 0 < j ∨ 0 < i → c.tB ≠ #[])) ⟨cv, sp, tripA cA1, tB, cA1, oA1, cB, oB, oT, _, oW⟩ ?Uh ?Ur ?Us ?Uz ?UF ?UN ?Uk ?Up ?Ut ?Ud
      case Ur => exact hrng
      case UF => exact FZ
      case UN => exact News.sub NZ (by
        unfold ledC
        k_extra "M sub")
      case Uh => rfl
      case Us => rcases hq3 with rfl | rfl <;> decide
      case Uz => rcases hq3 with rfl | rfl <;> decide
      case Uk => exact fun p hp => nomatch hp
      case Up => exact ⟨hcv, hkj, ⟨.inr ⟨rfl, hcA1⟩, hB, ⟨z3, z4, z5, z6, z7, z8, trivial⟩, ⟨xb1, xb2, xb3, xb4, xb5, xb6, trivial⟩, ⟨_, dT⟩, ⟨_, by assumption⟩, ⟨_, dW⟩⟩, ⟨NeW.of z2.r, xdI⟩, ⟨NeW.of z1.r, y6⟩, dW, by assumption, (fun h => absurd (congrArg Array.size h) (by simp)), fun h => (hff (by omega)).2⟩
      case Ut =>
        (repeat (rename Fr _ _ _ _ => zz; clear zz))
        (repeat (rename News _ _ _ _ => zz; clear zz))
        clear hcv hkj hff hB dT xa1 xa2 xa3 xa4 xa5 xa6 xb1 xb2 xb3 xb4 xb5 xb6 xcI xdI z1 z2 z3 z4 z5 z6 z7 z8 hcA1
        rintro ⟨cv, sp, tA, tB, cA, oA, cB, oB, oT, oO, oW⟩ t tt u3 h tk I3 oI3 ht hp99 hne3 FZ NZ
        refine byG fun G9 hG9 => ?_
        obtain ⟨hcv, hkt, ⟨hA, hB, nA, nB, ⟨vT, dT⟩, -, -⟩, ⟨hcI, hdI⟩, ⟨hcI2, hdI2⟩, dW, dO, hfA, hfB⟩ := hp99
        refine hG9 ?_
        clear hG9 G9
        dsimp only at hcv hA hB nA nB hcI hdI hcI2 hdI2 dT dO dW hfA hfB
        have hn3 := allNw_of hne3
        simp only [AllNw, and_true, ledC] at hn3 nA nB
        unfold ledC at NZ
        dsimp only at hn3 nA nB NZ
        refine byG fun G9 hG9 => ?_
        obtain ⟨p1, p2, p3, p4, p5, p6, p7, p8, p9, p10, p11, p12, p13⟩ := hn3
        obtain ⟨xa1, xa2, xa3, xa4, xa5, xa6⟩ := nA
        obtain ⟨xb1, xb2, xb3, xb4, xb5, xb6⟩ := nB
        refine hG9 ?_
        clear hG9 G9
        have e1 : NeW D D4 := NeW.of (neN (by omega))
        have e2 : NeW D D2 := NeW.of (neN (by omega))
        have e3 : NeW 44 D := NeW.of (neN (by omega))
        have e4 : NeW 37 D := NeW.of (neN (by omega))
        have e5 : NeW (s.heap.objs.size + 1 + 1 + 1 + 1) D := NeW.of (neN (by omega))
        have e6 : NeW (s.heap.objs.size + 1 + 1 + 1) D := NeW.of (neN (by omega))
        have e7 : NeW (s.heap.objs.size + 1 + 1) D := NeW.of (neN (by omega))
        have e8 : NeW (s.heap.objs.size + 1) D := NeW.of (neN (by omega))
        have e9 : NeW (s.heap.objs.size + 1 + 1 + 1 + 1) D2 := NeW.of (neN (by omega))
        have e10 : NeW (s.heap.objs.size + 1 + 1 + 1 + 1) D4 := NeW.of (neN (by omega))
        have e11 : NeW 44 D2 := NeW.of (neN (by omega))
        have e12 : NeW 44 D4 := NeW.of (neN (by omega))
        repeat clear l1
        k_with "CompSrc" => (refine hold ?_)
        k_steps
        refine unhold ?_
        rename IsRange _ _ _ _ _ _ _ _ => hrng
        rw [hwn] at hrng
        have hzs : Builtin.Range.small 0 (n : Int) 1 = true := small_one (by omega) (by omega) (by omega) (by omega)
        have hzn : Builtin.Range.rangeSize 0 (n : Int) 1 = ((n : Nat) : Int) := rangeSize_nat _ _
        refine LCg.CompSrc.range (n := n) rfl (by assumption) (by assumption) hrng hzs hzn (by rw [sizeLine_eq]; omega) (fun g9 => comp_of (fun i v => ∃ t9, v = .int (Int.fmod (x / 2 ^ (2 * i) % 2 ^ 2 + (1 + (t : Int)) * wd.getD i 0) q) t9) (fun _ nw => nw = _) ?_ ?_ rfl)
        · intro i9 v I9 oI9 C oC D9 m₂ h tk E' ys news hi9 hv hJ hC hx F N off ne
          obtain ⟨t9, rfl⟩ := hv
          subst hJ
          rw [Int.zero_add] at hx
          have hgi := hgod i9 (by omega)
          k_steps
          all_goals (try dsimp only)
          refine LCg.CompEnd.intro (by assumption) (by assumption) _ (fun p hp => hp) off trivial ⟨int_post ?_, rfl⟩
          have hg2 : (od ++ [0, 0, 0, 0]).getD i9 0 = x / 2 ^ (2 * i9) % 2 ^ 2 := by
            rw [List.getD_eq_getElem?_getD, hgi]
            rfl
          rw [Int.toNat_natCast, hg2]
        · intro ys news hyl hys hnw D5 h tk F N off
          subst hnw
          have hS := intsAre_of n _ ys hyl hys
          have hm : (List.range n).map (fun i : Nat => Int.fmod (x / 2 ^ (2 * i) % 2 ^ 2 + (1 + (t : Int)) * wd.getD i 0) q) = (List.range wd.length).map fun i : Nat => Int.fmod (x / 2 ^ (2 * i) % 2 ^ 2 + (1 + (t : Int)) * wd.getD i 0) q := by rw [hwn]
          rw [hm] at hS
          have hnb := newOf_bnd (q := q) (w := wd) (number := x) (t := 1 + (t : Int)) hq (by omega)
          have hbd : ∀ y ∈ (List.range wd.length).map (fun i : Nat => Int.fmod (x / 2 ^ (2 * i) % 2 ^ 2 + (1 + (t : Int)) * wd.getD i 0) q), 0 ≤ y ∧ y < 2 ^ 2 := by
            intro y hy
            obtain ⟨i, _, rfl⟩ := List.mem_map.mp hy
            have := (fdiv_fmod_facts (x / 2 ^ (2 * i) % 2 ^ 2 + (1 + (t : Int)) * wd.getD i 0) q).2.2.1 (by omega)
            have e : (2 : Int) ^ 2 = 4 := rfl
            omega
          have hld : ((List.range wd.length).map (fun i : Nat => Int.fmod (x / 2 ^ (2 * i) % 2 ^ 2 + (1 + (t : Int)) * wd.getD i 0) q)).length = n := by rw [List.length_map, List.length_range, hwn]
          k_steps
          refine unhold ?_
          rename Fr _ _ _ _ => FZ
          rename News _ _ _ _ => NZ
          refine (ctr_d2i_g D5 ys _ 2 _ tB cB oB (by rw [hld]; omega) (by decide) hbd (by rw [hld]; omega)).use B' FZ X' T' rfl (Off.one o44.1 o44.2) (by k_extra "M ROOM") (by k_extra "M UNITS") ⟨⟨(NZ (44, tabObj tB) (by k_mem)).1, hB.imp id fun z => ⟨z.1, (NZ (cB, oB) (by k_mem)).1, z.2⟩⟩, ⟨_, (NZ _ (.head _)).1, rfl, _, rfl⟩, hS⟩ ?_
          rintro r hB1 tkB FB KB hp95
          refine byG fun G9 hG9 => ?_
          obtain ⟨⟨t10, rfl⟩, hnew⟩ := hp95
          refine hG9 ?_
          clear hG9 G9
          refine byG fun G9 hG9 => ?_
          obtain ⟨cB1, oB1, hcB1, e44, N44, nB1⟩ := hnew.ledger (rest := (I3, oI3) :: (I2, oI2) :: (I, oI) :: restC s.heap.objs.size D) FZ NZ KB (by k_mem) (by k_ne) (by k_mem) (by k_extra "M nw") (by unfold restC; k_extra "M sub2")
          refine hG9 ?_
          clear hG9 G9
          have NE := News.erase (News.erase (News.erase NZ 9) 7) 0
          dsimp only [List.eraseIdx] at NE
          have NR := News.append N44 (KB.news NE (by k_extra "M off"))
          simp only [AllNw, and_true, List.cons_append, List.nil_append] at nB1 NR
          (try dsimp only at nB1)
          refine byG fun G9 hG9 => ?_
          obtain ⟨z1, z2, z3, z4, z5, z6, z7, z8, z9⟩ := nB1
          refine hG9 ?_
          clear hG9 G9
          clear NE N44 KB FZ NZ hnew hB xb1 xb2 xb3 xb4 xb5 xb6 hdI hdI2 p8 hbd hld hm hS
          rw [show d2i 2 ((List.range wd.length).map fun i : Nat => Int.fmod (x / 2 ^ (2 * i) % 2 ^ 2 + (1 + (t : Int)) * wd.getD i 0) q) = newOf q wd x (1 + (t : Int)) from rfl]
          have hsu := loopT_succ q wd x cur t
          generalize newOf q wd x (1 + (t : Int)) = nv at *
          have hlc : (loopT q wd x cur t).length ≤ 100 := by have := hkt.2.2; omega
          generalize hlt : loopT q wd x cur t = lt at *
          k_steps
          refine unhold ?_
          rename Fr _ _ _ _ => FZ
          rename News _ _ _ _ => NZ
          refine (ctr_bl D cv lt nv t10 hlc hkt.1).use B' FZ X' T' rfl Off.nil (by k_extra "M ROOM") (by k_extra "M UNITS") ⟨⟨_, (NZ (D, _) (by k_mem)).1, rfl, _, rfl⟩, hcv⟩ ?_
          rintro r hC1 tkC FC KC hp95
          refine byG fun G9 hG9 => ?_
          obtain ⟨kI, t11, rfl, hk0, hk1', hBI⟩ := hp95
          refine hG9 ?_
          clear hG9 G9
          have NC := KC.news0 NZ
          clear FZ NZ KC
          obtain ⟨kN, rfl⟩ := Int.eq_ofNat_of_zero_le hk0
          have hat := at_place hkt.1 hBI
          have hcvl := hcv.length
          have oD : g.get? D = none ∧ D ≠ s.heap.objs.size := ⟨(NC (D, _) (by k_mem)).2.2, (NC (D, _) (by k_mem)).2.1⟩
          k_steps
          · have hx : nv ∉ lt := by
              rw [hat]
              rintro ⟨q1, q2⟩
              omega
            refine unhold ?_
            rename Fr _ _ _ _ => FZ
            rename News _ _ _ _ => NZ
            refine (ctr_ins D cv sp lt nv t10 hlc hkt.1).use B' FZ X' T' rfl (Off.one oD.1 oD.2) (by k_extra "M ROOM") (by k_extra "M UNITS") ⟨(NZ (D, _) (by k_mem)).1, hcv⟩ ?_
            rintro r hD1 tkD FD KD hp95
            refine byG fun G9 hG9 => ?_
            obtain ⟨k2, vs2, hk2, hBR, eD, hi2⟩ := hp95
            refine hG9 ?_
            clear hG9 G9
            obtain ⟨hins, hkeep⟩ := hkt.ins hx hnb hk2 hBR
            have NE := News.erase NZ 7
            dsimp only [List.eraseIdx] at NE
            have NR := News.cons (KD.news NE (by k_extra "M off")) eD oD
            clear FZ NZ KD NE
            k_steps
            all_goals (repeat k_extra "M un")
            all_goals (try dsimp only [Post1])
            rename Fr _ _ _ _ => FZ
            rename News _ _ _ _ => NZ
            rw [hins] at hsu
            refine' End1.intro ⟨vs2, sp + 1, tA, tripB cB1, cA, oA, cB1, oB1, ?oT1, oO, oW⟩ FZ NZ ?hI1 ?hl1 ?hne1 (fun p hp => nomatch hp) ?hr1 ?hp1
            case hI1 => k_mem
            case hl1 =>
              dsimp only [ledC]
              k_extra "M sub"
            case hp1 =>
              dsimp only
              rw [hsu]
              refine ⟨hi2, hkeep, ⟨hA, .inr ⟨rfl, hcB1⟩, ⟨xa1, xa2, xa3, xa4, xa5, xa6, trivial⟩, ⟨z4, z5, z6, z7, z8, z9, trivial⟩, ?_, ⟨_, dO⟩, ⟨_, dW⟩⟩, ⟨hcI, NeW.of z3.r⟩, ⟨hcI2, NeW.of z2.r⟩, dW, dO, hfA, fun _ => (fun h => absurd (congrArg Array.size h) (by simp))⟩
              exact ⟨_, by with_reducible assumption⟩
            case hne1 =>
              dsimp only [ledC]
              refine AllNw.mem ?_
              k_extra "M nw"
            case hr1 => k_extra "M same"
          · have hx : nv ∉ lt := by
              rw [hat]
              rintro ⟨q1, q2⟩
              rename (List.getD _ _ _ ≠ nv) => hnn
              rw [Int.toNat_natCast] at hnn
              exact hnn q2
            refine unhold ?_
            rename Fr _ _ _ _ => FZ
            rename News _ _ _ _ => NZ
            refine (ctr_ins D cv sp lt nv t10 hlc hkt.1).use B' FZ X' T' rfl (Off.one oD.1 oD.2) (by k_extra "M ROOM") (by k_extra "M UNITS") ⟨(NZ (D, _) (by k_mem)).1, hcv⟩ ?_
            rintro r hD1 tkD FD KD hp95
            refine byG fun G9 hG9 => ?_
            obtain ⟨k2, vs2, hk2, hBR, eD, hi2⟩ := hp95
            refine hG9 ?_
            clear hG9 G9
            obtain ⟨hins, hkeep⟩ := hkt.ins hx hnb hk2 hBR
            have NE := News.erase NZ 7
            dsimp only [List.eraseIdx] at NE
            have NR := News.cons (KD.news NE (by k_extra "M off")) eD oD
            clear FZ NZ KD NE
            k_steps
            all_goals (repeat k_extra "M un")
            all_goals (try dsimp only [Post1])
            rename Fr _ _ _ _ => FZ
            rename News _ _ _ _ => NZ
            rw [hins] at hsu
            refine' End1.intro ⟨vs2, sp + 1, tA, tripB cB1, cA, oA, cB1, oB1, ?oT2, oO, oW⟩ FZ NZ ?hI2 ?hl2 ?hne2 (fun p hp => nomatch hp) ?hr2 ?hp2
            case hI2 => k_mem
            case hl2 =>
              dsimp only [ledC]
              k_extra "M sub"
            case hp2 =>
              dsimp only
              rw [hsu]
              refine ⟨hi2, hkeep, ⟨hA, .inr ⟨rfl, hcB1⟩, ⟨xa1, xa2, xa3, xa4, xa5, xa6, trivial⟩, ⟨z4, z5, z6, z7, z8, z9, trivial⟩, ?_, ⟨_, dO⟩, ⟨_, dW⟩⟩, ⟨hcI, NeW.of z3.r⟩, ⟨hcI2, NeW.of z2.r⟩, dW, dO, hfA, fun _ => (fun h => absurd (congrArg Array.size h) (by simp))⟩
              exact ⟨_, by with_reducible assumption⟩
            case hne2 =>
              dsimp only [ledC]
              refine AllNw.mem ?_
              k_extra "M nw"
            case hr2 => k_extra "M same"
          · rename (List.getD _ _ _ = nv) => hnn
            rw [Int.toNat_natCast] at hnn
            obtain ⟨hins, hkeep⟩ := hkt.same (hat.mpr ⟨by omega, hnn⟩)
            all_goals (repeat k_extra "M un")
            all_goals (try dsimp only [Post1])
            rename Fr _ _ _ _ => FZ
            rename News _ _ _ _ => NZ
            rw [hins] at hsu
            refine' End1.intro ⟨cv, sp, tA, tripB cB1, cA, oA, cB1, oB1, ?oT3, oO, oW⟩ FZ NZ ?hI3 ?hl3 ?hne3 (fun p hp => nomatch hp) ?hr3 ?hp3
            case hI3 => k_mem
            case hl3 =>
              dsimp only [ledC]
              k_extra "M sub"
            case hp3 =>
              dsimp only
              rw [hsu]
              refine ⟨hcv, hkeep, ⟨hA, .inr ⟨rfl, hcB1⟩, ⟨xa1, xa2, xa3, xa4, xa5, xa6, trivial⟩, ⟨z4, z5, z6, z7, z8, z9, trivial⟩, ?_, ⟨_, dO⟩, ⟨_, dW⟩⟩, ⟨hcI, NeW.of z3.r⟩, ⟨hcI2, NeW.of z2.r⟩, dW, dO, hfA, fun _ => (fun h => absurd (congrArg Array.size h) (by simp))⟩
              exact ⟨_, by with_reducible assumption⟩
            case hne3 =>
              dsimp only [ledC]
              refine AllNw.mem ?_
              k_extra "M nw"
            case hr3 => k_extra "M same"
      case Ud =>
        clear FZ NZ
        rintro ⟨cv, sp, tA, tB, cA, oA, cB, oB, oT, oO, oW⟩ u3 h tk hp94 FZ NZ
        refine byG fun G9 hG9 => ?_
        obtain ⟨hcv, hkt, hok, hcI, hcI2, dW, dO, hfA, hfB⟩ := hp94
        refine hG9 ?_
        clear hG9 G9
        dsimp only at hcv hkt hok hcI hcI2 dW dO hfA hfB NZ
        dsimp only
        k_steps
        all_goals (repeat k_extra "M un")
        all_goals (try dsimp only [Post1])
        rename Fr _ _ _ _ => FZ
        rename News _ _ _ _ => NZ
        rw [← hcur, ← loopN_succ q wd ns ns j x hxj] at hcv hkt
        refine End1.intro ⟨cv, sp, tA, tB, cA, oA, cB, oB, oT, oO, oW⟩ FZ NZ (.tail _ (.head _)) (fun p hp => .tail _ (.tail _ hp)) ?_ (fun p hp => nomatch hp) ?_ ⟨hcv, hkt.mono ?_, hok, hcI, dW, fun _ => ⟨hfA, hfB ?_⟩⟩
        · obtain ⟨xcI, xdI⟩ := hcI2
          dsimp only [ledC]
          refine AllNw.mem ?_
          k_extra "M nw"
        · k_extra "M same"
        · omega
        · left
          rcases hq3 with rfl | rfl <;> decide
    case Sd =>
      clear FZ NZ
      rintro ⟨cv, sp, tA, tB, cA, oA, cB, oB, oT, oO, oW⟩ u2 h tk hp94 FZ NZ
      refine byG fun G9 hG9 => ?_
      obtain ⟨hcv, hkj, hok, hcI, dW, hff⟩ := hp94
      refine hG9 ?_
      clear hG9 G9
      dsimp only at hcv hkj hok hff hcI dW NZ
      dsimp only
      k_steps
      all_goals (repeat k_extra "M un")
      all_goals (try dsimp only [Post1])
      rename Fr _ _ _ _ => FZ
      rename News _ _ _ _ => NZ
      rw [hwsl, List.take_of_length_le (Nat.le_refl _), ← hcp] at hcv hkj
      refine End1.intro ⟨cv, sp, tA, tB, cA, oA, cB, oB, oT, oO, oW⟩ FZ NZ (.tail _ (.head _)) (fun p hp => .tail _ (.tail _ hp)) ?_ (fun p hp => nomatch hp) ?_ ⟨hcv, hkj.mono ?_, hok, fun _ => hff ?_⟩
      · obtain ⟨xcI, xdI⟩ := hcI
        dsimp only [ledC]
        refine AllNw.mem ?_
        k_extra "M nw"
      · k_extra "M same"
      · rw [Nat.pow_succ]
        have := hkp.2.2
        omega
      · rcases Nat.eq_zero_or_pos i with h0 | h0
        · subst h0
          left
          rw [hwsl, ← hns]
          simp [codeP]
        · exact .inr h0
  case Rd =>
    clear FZ NZ dT dO dW
    rintro ⟨cv, sp, tA, tB, cA, oA, cB, oB, oT, oO, oW⟩ u h tk hp94 FZ NZ
    refine byG fun G9 hG9 => ?_
    obtain ⟨hcv, hkp, ⟨hA, hB, nA, nB, -, -, -⟩, hff⟩ := hp94
    refine hG9 ?_
    clear hG9 G9
    unfold ledC at NZ
    dsimp only at hcv hA hB nA nB hff NZ
    obtain ⟨f1, f2⟩ := hff (by simp)
    rcases hA with hA | ⟨rfl, hA⟩
    · exact absurd hA f1
    rcases hB with hB | ⟨rfl, hB⟩
    · exact absurd hB f2
    simp only [AllNw, and_true] at nA nB
    (try dsimp only at nA nB)
    dsimp only
    k_steps
    all_goals (try dsimp only)
    (repeat k_extra "M un")
    refine done_of (hret _ _ _ (hFr _ (hKeep _ _ _ (by assumption))) (hKeep _ _ _ (by assumption)) ?_)
    rename News _ _ _ _ => NZ
    have zB := NZ (44, tabObj (tripB cB)) (.tail _ (.head _))
    have zA := NZ (37, tabObj (tripA cA)) (.tail _ (.tail _ (.head _)))
    exact ⟨D, _, sp, cA, oA, cB, oB, rfl, MadeAt.of hNew NZ (.head _) (nin2 (neN (by omega)) (neN (by omega))), hcv, zB.1, zA.1, MadeAt.of hNew NZ (.tail _ (.tail _ (.tail _ (.tail _ (.head _))))) (nin2 nA.2.1.r nA.2.2.1.r), MadeAt.of hNew NZ (.tail _ (.tail _ (.tail _ (.head _)))) (nin2 nB.2.1.r nB.2.2.1.r), hA, hB⟩
end

section
theorem hush_M10 : True := by
  k_with_none
  w_top off
  trivial
section
variable {prog : Program} {w : World} {A : Around} {E : Value → Shared → Prop} {s : Shared} {env : Env} {h₀ : Heap} {x : Str} {body : List Stmt} {Q : Flow → Shared → Prop}
/-- over the signs of a str -/
theorem loop_str {σ : Type} {xs : List Nat} {tx : Tok} {m₀ : Str → Option Value}
    (Led : σ → List (Addr × Obj)) (ps : σ → List (Str × Value)) (stored : List Str) (P : Nat → σ → Prop) (c₀ : σ)
    (hh : A.handled = none)
    (F : Fr h₀ env.locals s.heap m₀) (N : News h₀ env.locals s.heap (Led c₀)) (hk : ∀ p ∈ ps c₀, m₀ p.1 = some p.2) (hp : P 0 c₀)
    (turn : ∀ (c : σ) i t (u : Str → Option Value) h tk I oI ch, xs[i]? = some ch → P i c → (∀ p ∈ Led c, p.1 ≠ I) →
      Fr h₀ env.locals h (fun y => if y = x then some (.str ⟨#[ch]⟩ t) else kstB (fun z => if stored.contains z then u z else m₀ z) (ps c) y) → News h₀ env.locals h ((I, oI) :: Led c) →
      wpAny (model prog w) A (execs body env) (Post1 h₀ env.locals Led ps x stored m₀ (P (i + 1)) I oI { s with heap := h, toks := tk } Q) E { s with heap := h, toks := tk })
    (done : ∀ (c : σ) (u : Str → Option Value) h tk, P xs.length c → Fr h₀ env.locals h (fun y => if y = x then u y else kstB (fun z => if stored.contains z then u z else m₀ z) (ps c) y) → News h₀ env.locals h (Led c) → Q .next { s with heap := h, toks := tk }) :
    wpAny (model prog w) A (pyIter (.str ⟨xs.toArray⟩ tx)) (fun it s₂ => LoopAtV prog w A h₀ env x body Q E it s₂) E s := by
  have keep : ∀ o, ∀ b o', s.heap.get? b = some o' → (s.heap.push o).get? b = some o' := fun o b o' e => Heap.get?_push_of_some _ e
  have main : ∀ (T : String) (o : Obj), (s.heap.push o).IsStrIter s.heap.objs.size T ⟨xs.toArray⟩ tx 0 → Walks prog w A s.heap.objs.size [s.heap.objs.size] [s.heap.objs.size] xs.length (SignAt ⟨xs.toArray⟩) (fun i h => h.IsStrIter s.heap.objs.size T ⟨xs.toArray⟩ tx i) →
      LoopAtV prog w A h₀ env x body Q E (.ref s.heap.objs.size) { s with heap := s.heap.push o } := fun T o st W => by
    refine loop1 (σ := σ) (s := { s with heap := s.heap.push o }) [] Led ps stored P c₀ W (fun i h st => let ⟨o, e, _⟩ := st; ⟨o, e⟩) (fun b hb => .inl (List.mem_singleton.mp hb)) (fun _ _ h => nomatch h) (next_is_new F) (Nat.ne_of_lt F.ns.lt) (fun _ h => nomatch h)
      st (F.push _) (fun p hp => ⟨keep _ _ _ (N p hp).1, (N p hp).2⟩) (fun p hp => Nat.ne_of_lt (Heap.lt_size (N p hp).1)) hk hp ?_ done
    rintro c i v u h tk oI hi ⟨ch, t, hch, rfl⟩ hP hne F₁ N₁
    exact turn c i t u h tk _ oI ch (by simpa using hch) hP hne F₁ N₁
  have hsz : (⟨xs.toArray⟩ : Str).cps.size = xs.length := by simp
  cases ha : (⟨xs.toArray⟩ : Str).cps.all (· < 128)
  · exact wpAny_pyIter_wide ha (main _ _ ⟨_, Heap.get?_push_size _ rfl, rfl, rfl⟩ (hsz ▸ Walks.strWide hh _ _ tx))
  · exact wpAny_pyIter_ascii ha (main _ _ ⟨_, Heap.get?_push_size _ rfl, rfl, rfl⟩ (hsz ▸ Walks.strAscii hh _ _ tx))
theorem with_fr {h₀ h : Heap} {L : Addr} {m : Str → Option Value} (_F : Fr h₀ L h m) {G : Prop} (k : ∀ g' L', g' = h₀ → L' = L → G) : G := k h₀ L rfl rfl
theorem for_local {m : Str → Option Value} {px pos : Pos} {iter : PySem.Expr} (F : Fr h₀ env.locals s.heap m) (hx : env.kindOf x = some .local)
    (hp : (env.scope.kind == .class || (env.scope.kind == .module && env.locals != env.globals)) = false) (hs : ∀ x, foldedSetIterable iter env x = pure x)
    (hE : PassesOwn (model prog w) A env E)
    (h : wpAny (model prog w) A (eval iter env) (fun xv s₁ => wpAny (model prog w) A (pyIter xv) (fun it s₂ => LoopAtV prog w A h₀ env x body Q E it s₂) E s₁) E s) :
    wpAny (model prog w) A (exec (.For (.Name x px) iter body [] pos) env) Q E s := For_invVF F hx hp h hs hE
end
end

section
theorem hush_M11 : True := by
  k_with_none
  w_top off
  trivial
theorem blank_is : Str.ofString " " = ⟨[32].toArray⟩ := by decide +kernel
theorem tab_is : Str.ofString "\t" = ⟨[9].toArray⟩ := by decide +kernel
theorem xtab_is : Str.ofString "x\t " = ⟨[120, 9, 32].toArray⟩ := by decide +kernel
theorem app_mk (a b : List Nat) : (⟨a.toArray⟩ : Str) ++ ⟨b.toArray⟩ = ⟨(a ++ b).toArray⟩ := by
  show (⟨a.toArray ++ b.toArray⟩ : Str) = _
  rw [List.append_toArray]
theorem rep_nat (y : Nat) : ∀ (k : Nat) (acc : Array Nat), List.foldl (fun x1 x2 => x1 ++ x2) acc (List.replicate k #[y]) = acc ++ (List.replicate k y).toArray
  | 0, acc => by simp
  | k + 1, acc => by
    rw [List.replicate_succ, List.foldl_cons, rep_nat y k]
    apply Array.ext'
    simp [List.replicate_succ]
theorem mul_blank (d : Nat) : Txt.mul (Str.ofString " ") (d : Int) = ⟨(List.replicate d 32).toArray⟩ := by
  rw [blank_is]
  unfold Txt.mul
  by_cases h0 : (d : Int) < 1
  · have e : d = 0 := by omega
    subst e
    rfl
  · rw [if_neg h0]
    by_cases h1 : d = 1
    · subst h1
      rfl
    · have e1 : (((d : Int) == 1) || (⟨[32].toArray⟩ : Str).length == 0) = false := by
        have : ¬ (d : Int) = 1 := by omega
        simp [this, Str.length]
      rw [if_neg (by rw [e1]; decide), Int.toNat_natCast]
      have := rep_nat 32 d #[]
      simp only at this ⊢
      rw [this]
      simp
theorem lead_str (ld : List Nat) (d : Nat) : (⟨ld.toArray⟩ : Str) ++ (Txt.mul (Str.ofString " ") (d : Int) ++ Str.ofString "\t") = ⟨(ld ++ (List.replicate d 32 ++ [9])).toArray⟩ := by
  rw [mul_blank, tab_is, app_mk, app_mk]
theorem one_blank (c : Nat) : ((⟨#[c]⟩ : Str) == Str.ofString " ") = (c == 32) := by rw [blank_is]; exact one_eq
theorem one_tab (c : Nat) : ((⟨#[c]⟩ : Str) == Str.ofString "\t") = (c == 9) := by rw [tab_is]; exact one_eq
/-- a tab met after b blanks -/
noncomputable def incC (c : List Int) (b : Int) : List Int :=
  let c' := if (c.length : Int) ≤ b then c ++ List.replicate (b - c.length + 1).toNat 0 else c
  c'.set b.toNat (c'.getD b.toNat 0 + 1)
/-- what the nanny counts: runs, blanks left, n, nt -/
noncomputable def wsGo : List Nat → List Int → Int → Int → Int → List Int × Int × Int × Int
  | [], c, b, n, nt => (c, b, n, nt)
  | ch :: r, c, b, n, nt => if ch = 32 then wsGo r c (b + 1) (n + 1) nt else if ch = 9 then wsGo r (incC c b) 0 (n + 1) (nt + 1) else (c, b, n, nt)
theorem incC_len (c : List Int) (b : Int) (h : 0 ≤ b) (m : Nat) (hc : c.length ≤ m) (hb : b < m) : (incC c b).length ≤ m := by
  unfold incC
  simp only [List.length_set]
  split
  · rw [List.length_append, List.length_replicate]; omega
  · exact hc
theorem with_dict {h₀ h : Heap} {L c1 c2 x d C : Addr} {o1 o2 od : Obj} {rest : List (Addr × Obj)} (_N : News h₀ L h ((c1, o1) :: (c2, o2) :: (x, instObj C d) :: (d, od) :: rest)) {G : Prop} (k : ∀ x' d' od', x' = x → d' = d → od' = od → G) : G := k x d od rfl rfl rfl
theorem with_two {h₀ h : Heap} {L a b : Addr} {oa ob : Obj} {rest : List (Addr × Obj)} (_N : News h₀ L h ((a, oa) :: (b, ob) :: rest)) {G : Prop} (k : ∀ a' b', a' = a → b' = b → G) : G := k a b rfl rfl
theorem News.nw {h₀ h : Heap} {L a b : Addr} {oa ob : Obj} {news : List (Addr × Obj)} (N : News h₀ L h news) (ha : (a, oa) ∈ news) (hb : (b, ob) ∈ news) (hc : oa.cls ≠ ob.cls) : NeW a b := fun e => by
  have h1 := (N _ ha).1
  have h2 := (N _ hb).1
  obtain rfl : a = b := e
  rw [h1] at h2
  cases h2
  exact hc rfl
theorem flat_rep : ∀ k : Nat, (List.replicate k [(0 : Int)]).flatten = List.replicate k 0
  | 0 => rfl
  | k + 1 => by rw [List.replicate_succ, List.flatten_cons, flat_rep k]; rfl
theorem incC_ge {c : List Int} {b : Int} (h : (c.length : Int) ≤ b) : (c ++ (List.replicate (b - c.length + 1).toNat [(0 : Int)]).flatten).set b.toNat ((c ++ (List.replicate (b - c.length + 1).toNat [(0 : Int)]).flatten).getD b.toNat 0 + 1) = incC c b := by
  unfold incC
  simp only [if_pos h, flat_rep]
theorem incC_lt {c : List Int} {b : Int} (h : ¬ (c.length : Int) ≤ b) : c.set b.toNat (c.getD b.toNat 0 + 1) = incC c b := by
  unfold incC
  simp only [if_neg h]
noncomputable abbrev wsD (P : Params) (t1 t2 t3 t4 t5 : Tok) (v1 v2 v3 v4 v5 : Value) : Obj :=
  W.dictOf [{ hash := PyData.keyHash P (Str.ofString "raw"), key := .str (Str.ofString "raw") t1, val := v1 }, { hash := PyData.keyHash P (Str.ofString "n"), key := .str (Str.ofString "n") t2, val := v2 }, { hash := PyData.keyHash P (Str.ofString "nt"), key := .str (Str.ofString "nt") t3, val := v3 }, { hash := PyData.keyHash P (Str.ofString "norm"), key := .str (Str.ofString "norm") t4, val := v4 }, { hash := PyData.keyHash P (Str.ofString "is_simple"), key := .str (Str.ofString "is_simple") t5, val := v5 }] 5
section
variable {prog : Program} {w : World} {A : Around} {E : Value → Shared → Prop} {s : Shared} {a n v : Int} {t u : Tok}
theorem pow_eq {m : Nat} {Q : Value → Shared → Prop} (e : a ^ n.toNat = v) (hn : 0 ≤ n) (hn2 : n ≤ 10) (ha : Builtin.Int.intBits a ≤ m) (hm : m ≤ 100000) (h : Q (.int v s.toks) { s with toks := s.toks + 1 }) : wpAny (model prog w) A (binaryOp .Pow (.int a t) (.int n u)) Q E s := by
  refine pow_int hn ?_ (by rw [e]; exact h)
  have h1 : (Builtin.Int.intBits a : Int) ≤ 100000 := by omega
  have h2 : (Builtin.Int.intBits a : Int) * n ≤ 100000 * 10 := Int.mul_le_mul h1 hn2 hn (by decide)
  have h3 : (100000 * 10 : Int) ≤ 2 ^ 27 := by decide
  omega
end
end

section
theorem hush_C_lead : True := by
  k_with_none
  w_top off
  trivial
set_option genSizeOf false
set_option genInjectivity false

local macro_rules | `(tactic| k_room) => `(tactic| k_extra "M room")
theorem rules_C_lead_0 : True := by
  k_with "M ne" => first | exact NeW.l (by with_reducible assumption) | exact NeW.r (by with_reducible assumption) | (refine neN ?_; (try dsimp only); omega)
  k_with "M bits" => first | with_reducible assumption | exact bits_pow2 (by omega)
  k_with "M mem" => first | exact List.Mem.head _ | exact mem1 | exact mem2 | exact mem3 | exact mem4 | exact mem5 | exact mem6 | exact mem7 | exact mem8 | exact mem9 | exact mem10 | exact mem11 | exact mem12 | exact mem13
  k_with "M room" => (try simp only [depth_mark, depth_under_make, depth_under_kw, depth_in1, depth_deeper, depth_caller]); first | omega | ktr_room | ((try dsimp only [Around.deeper, ktrTop]); omega)
  trivial
/-- what the lead is, a run of blanks and a tab for each distance -/
noncomputable def leadS (ah : List Nat) (dd : List Nat) : List Nat := ah ++ dd.flatMap fun d => List.replicate d 32 ++ [9]
theorem leadS_len {ah : List Nat} {dd : List Nat} {i : Nat} (ha : ah.length ≤ 2) (hd : dd.length ≤ 9) (h8 : ∀ (j d : Nat), dd[j]? = some d → d ≤ 8) : (leadS ah (dd.take i)).length ≤ 83 := by
  unfold leadS
  have key : ∀ l : List Nat, (∀ d ∈ l, d ≤ 8) → (l.flatMap fun d => List.replicate d 32 ++ [9]).length ≤ 9 * l.length := by
    intro l
    induction l with
    | nil => intro _; simp
    | cons d l ih =>
      intro h
      have h1 := h d (.head _)
      have h2 := ih fun x hx => h x (.tail _ hx)
      rw [List.flatMap_cons, List.length_append, List.length_cons]
      simp only [List.length_append, List.length_replicate, List.length_cons, List.length_nil]
      omega
  have h1 := key (dd.take i) fun d hd => by
    obtain ⟨j, hj⟩ := List.getElem?_of_mem (List.mem_of_mem_take hd)
    exact h8 j d hj
  have h2 : (dd.take i).length ≤ 9 := by rw [List.length_take]; omega
  rw [List.length_append]
  omega
/-- an object of the nanny's, made of the str S -/
inductive GotWs (w : World) (S : List Nat) (r : Value) (h h' : Heap) : Prop
  | mk (x : _) (dx : _) (tn : _) (tc : _) (t1 : _) (t2 : _) (t3 : _) (t4 : _) (t5 : _) (v1 : _) (v2 : _) (v3 : _) (v5 : _) (tb : _) (cv : _) (h9x0 : r = .ref x) (h9x1 : MadeAt h h' x (instObj 152 dx)) (h9x2 : MadeAt h h' dx (wsD w.params t1 t2 t3 t4 t5 v1 v2 v3 (.ref tn) v5)) (h9x3 : MadeAt h h' tn { cls := .type "tuple", data := .seq #[.ref tc, .int (wsGo S [] 0 0 0).2.1 tb] }) (h9x4 : MadeAt h h' tc { cls := .type "tuple", data := .seq cv.toArray }) (h9x5 : IntsAre cv (wsGo S [] 0 0 0).1) : GotWs w S r h h'
structure WSt where
  cA : Addr
  cv : List Value
  k : Nat
  b : Int
  tb : Tok
  n : Int
  tn : Tok
  nt : Int
  tnt : Tok
/-- a list of strs, hidden from the walk -/
structure StrsH (vs : List Value) (xs : List (List Nat)) : Prop where
  are : StrsAre vs (xs.map fun y => ⟨y.toArray⟩)
theorem enterR_C_lead_0 : True := by
  k_with_none
  k_with "M ne" => first | exact NeW.l (by with_reducible assumption) | exact NeW.r (by with_reducible assumption) | (refine neN ?_; (try dsimp only); omega)
  k_with "M bits" => first | with_reducible assumption | exact bits_pow2 (by omega)
  k_with "M mem" => first | exact List.Mem.head _ | exact mem1 | exact mem2 | exact mem3 | exact mem4 | exact mem5 | exact mem6 | exact mem7 | exact mem8 | exact mem9 | exact mem10 | exact mem11 | exact mem12 | exact mem13
  k_with "M room" => (try simp only [depth_mark, depth_under_make, depth_under_kw, depth_in1, depth_deeper, depth_caller]); first | omega | ktr_room | ((try dsimp only [Around.deeper, ktrTop]); omega)
  k_with "M nw" => (try simp only [AllNw, and_true]); (try dsimp only); (repeat' constructor) <;> first | with_reducible assumption | (refine NeW.of ?_; k_ne)
  k_with "M sub2" => repeat (first | exact List.forall_mem_nil _ | refine fcons ⟨_, by k_mem⟩ ?_)
  k_with "M off" => repeat (first | exact List.forall_mem_nil _ | refine fcons (nin1 (by (try dsimp only); k_ne)) ?_)
  k_with "M sub" => repeat (first | exact List.forall_mem_nil _ | (refine fcons ?k9w ?_; (case k9w => k_mem)))
  k_with "subscriptTail Name Slice ref ref" => refine' slice_all_led ?k9F ?k9N ?k9l ?k9z ?k9p ?k9q ?_ ?k9s ?k9t; (case k9F => k_asm); (case k9N => k_asm); (case k9l => k_mem); (case k9z => omega); (case k9p => kmk_part); (case k9q => kmk_part); (case k9s => with_unfolding_all rfl); (case k9t => kmk_pure); intro k9D k9h k9F k9N k9l1; (try k_lt k9l1); (try k_sweep)
  k_with "M same" => intro z h1 h2 h3; (try dsimp only); (repeat (first | refine same_if (by first | exact h1 | exact ne_ps h2 rfl | exact ne_st h3 rfl) ?_ | exact rfl | exact same_st h3 | exact same_kst h2 h3 | refine same_k (by repeat (first | exact List.forall_mem_nil _ | refine fcons (by first | exact h1 | exact ne_ps h2 rfl | exact ne_st h3 rfl) ?_)) ?_ | refine same_c (by repeat (first | exact nc_nil | refine nc_cons (by first | exact h1 | exact ne_ps h2 rfl | exact ne_st h3 rfl) ?_)) ?_))
  k_with "call builtin:list.append" => refine' append_led ?k9la ?k9lb ?k9lc ?k9ld ?_; (case k9la => k_asm); (case k9lb => k_asm); (case k9lc => k_upd); (case k9ld => omega); intro k9h k9F k9N; (try k_sweep)
  k_with "call builtin:list.reverse" => refine' reverse_led ?k9la ?k9lb ?k9lc ?k9ld ?_; (case k9la => k_asm); (case k9lb => k_asm); (case k9lc => k_upd); (case k9ld => omega); intro k9h k9F k9N; (try k_sweep)
  k_with "binaryOp LShift int int" => refine' lshift_bits ?k9la ?k9lb ?k9lc ?k9ld ?_; (case k9la => omega); (case k9lb => omega); (case k9lc => bits_by_make); (case k9ld => decide)
  k_with "inplaceOp LShift int int" => refine' ilshift_bits ?k9la ?k9lb ?k9lc ?k9ld ?_; (case k9la => omega); (case k9lb => omega); (case k9lc => bits_by_make); (case k9ld => decide)
  k_with "M ROOM" => first | omega | ktr_room | ((try dsimp only [Around.deeper, ktrTop]); omega)
  k_with "M UNITS" => first | omega | ((try dsimp only [Around.deeper, ktrTop]); omega) | ktr_units
  k_with "execs cons" => (try k_fold); with_reducible first | refine seqL ?_ | (refine seqV ?_; intro Q8 q8)
  k_with "M un" => with_reducible first | (refine seqVN (s := s1) (by assumption) ?_; intro tk8; try clear q8 Q8) | (refine seqVN (s := s) (by assumption) ?_; intro tk8; try clear q8 Q8) | refine seqVR (by assumption) ?_ | refine seqVM (by assumption) ?_ | refine seqVB (by assumption) ?_ | refine seqVC (by assumption) ?_
  k_with "eval Name" => k_here; k_dflt (refine' nameX_L ?k9F ?k9v ?_ ?k9a ?k9b; (case k9F => k_asm); (case k9a => exact Eq.refl _); (case k9b => exact Eq.refl (some NameKind.local)); (case k9v => exact Eq.refl (some _)); k_whole)
  k_with "M ENTER" => (
    unfold Ctr PR
    k_fill
    intro dp un gd cn cs aF ccd clF outer A₀ base h₀ L mF s Q E B F X T hke hOff hdp hun hPre hret
    first
    | (refine' enter B F X T hke hOff ?hz ?k6 ?k7 ?k8 ?k9 ?kB ?c5 ?c2 ?c3 ?c4 ?_
       (case k6 => exact (X.keeps F.keep) _ _ (by k_is))
       (case k7 => exact codeRec_of (X.keeps F.keep) (by k_is))
       (case hz => first | exact (fun _ h => absurd h List.not_mem_nil) | k_extra "M HZ")
       (case k8 => omega)
       (case k9 => first | exact BindsTo.of_eq rfl | exact binds_K (by k_in) rfl (by k_is) rfl rfl rfl | exact (fun M A E Q hq Γ p _ => wp_of_peek (X.keeps F.keep) hq _ (by rfl)) | fail "k_enter: no rule for these arguments")
       (case kB => exact locs rfl)
       (case c5 => decide)
       (case c2 => exact rfl)
       (case c3 => exact rfl)
       (case c4 => exact rfl)
       intro g h₁ F' hk1 hFr hKeep hg hOff' B' X' T' en7 Ar7 Qf7 Ef7
       have N' : News g s.heap.objs.size h₁ [] := News.nil
       have hNew := new_of hg
       try dsimp only
       clear B F X T hke hOff)
    | (refine' enterC B F X T hke hOff ?hz ?k6 ?k7 ?k8 ?k9 ?kB ?kD ?c2 ?c3 ?c4 ?_
       (case k6 => exact (X.keeps F.keep) _ _ (by k_is))
       (case k7 => exact codeRec_of (X.keeps F.keep) (by k_is))
       (case hz => first | exact (fun _ h => absurd h List.not_mem_nil) | k_extra "M HZ")
       (case k8 => omega)
       (case k9 => first | exact BindsTo.of_eq rfl | exact binds_K (by k_in) rfl (by k_is) rfl rfl rfl | exact (fun M A E Q hq Γ p _ => wp_of_peek (X.keeps F.keep) hq _ (by rfl)) | fail "k_enter: no rule for these arguments")
       (case kB => exact rfl)
       (case kD => decide +kernel)
       (case c2 => exact rfl)
       (case c3 => exact rfl)
       (case c4 => exact rfl)
       intro g h₁ tk' cells' F' N' Y' hk1 hFr hKeep hg hOff' B' X' T' en7 Ar7 Qf7 Ef7
       first
       | (obtain ⟨oc1, hE', dc1⟩ := CellsAre.one Y'; subst hE')
       | (obtain ⟨oc1, oc2, hE', dc1, dc2⟩ := CellsAre.two Y'; subst hE')
       | (obtain ⟨oc1, oc2, oc3, hE', dc1, dc2, dc3⟩ := CellsAre.three Y'; subst hE')
       | (obtain ⟨oc1, oc2, oc3, oc4, hE', dc1, dc2, dc3, dc4⟩ := CellsAre.four Y'; subst hE')
       clear Y'
       (try simp only [List.cons_append, List.nil_append] at N')
       have hNew := new_of hg
       try dsimp only
       clear B F X T hke hOff)
    )
  trivial
set_option maxHeartbeats 8000000 in
theorem ctr_lead {w : World} {p : Program} {loose : List Str} {mean : ExcName → Option Value} {mg mb : Str → Option Value} (T : Addr) (vt : List Value) (tt : List (List Nat)) (ah be tx : List Nat) (t1 t2 t3 t4 : Tok) (bound : Int) (n : Nat) (dd : List Nat) (hn : n ≤ 4) (hxl : tx.length = n) (htl : ∀ y ∈ tt, y.length = n) (hbd : 0 ≤ bound ∧ bound ≤ 100)
    (hdl : dd.length = tt.length) (hd9 : dd.length ≤ 9) (hdd : ∀ (i d : Nat) (y : List Nat), dd[i]? = some d → tt[i]? = some y → levM tx y bound = (d : Int) ∧ d ≤ 8) (hal : ah.length ≤ 2) (hbl : be.length ≤ 4) :
    Ctr w (hd.heap_1 w.params) p loose mean mg mb 192 40 [] [.str ⟨ah.toArray⟩ t1, .ref T, .str ⟨tx.toArray⟩ t2, .int bound t3, .str ⟨be.toArray⟩ t4]
      (fun h => h.IsList T vt.toArray ∧ StrsH vt tt)
      (fun r h h' => GotWs w (leadS ah dd ++ be ++ [120, 9, 32]) r h h') := by
  k_extra "M ENTER"
  obtain ⟨hl, hs⟩ := hPre
  have gl := hl.at fun o e => hg _ o e List.not_mem_nil
  clear hg hl
  k_with "exec For Name Name cons nil" => (refine hold ?_)
  k_with "exec For Name Call cons nil" => (refine hold ?_)
  k_with "exec For Name Subscript cons nil" => (refine hold ?_)
  k_with "exec For Name Attribute cons nil" => (refine hold ?_)
  k_with "M pyIter" => (refine hold ?_)
  k_steps
  refine unhold ?_
  rename Fr _ _ _ _ => FZ
  rename News _ _ _ _ => NZ
  refine cutW (fun s' => ∃ t, At g s.heap.objs.size s [(Str.ofString "lead", .str ⟨(leadS ah dd).toArray⟩ t), (Str.ofString "behind", .str ⟨be.toArray⟩ t4)] [] s') ?_ ?_
  · refine for_local FZ rfl rfl (by intro _; rfl) (by passes_own) ?_
    k_steps
    refine unhold ?_
    rename Fr _ _ _ _ => FZ
    rename News _ _ _ _ => NZ
    refine' loop_list (σ := List Nat × Tok) (h₀ := g) (l := T) (vs := vt) (fun c => []) (fun c => [(Str.ofString "lead", .str ⟨c.1.toArray⟩ c.2)]) [Str.ofString "lead"]
      (fun i c => c.1 = leadS ah (dd.take i)) (ah, _) ?Rh ?Rl ?RF ?RN ?Rk ?Rp ?Rt ?Rd
    case RF => exact FZ
    case Rl => exact gl
    case Rk => repeat (first | exact List.forall_mem_nil _ | refine fcons (by exact Eq.refl (some _)) ?_)
    case RN => exact NZ
    case Rh => rfl
    case Rp => simp [leadS]
    case Rt =>
      clear FZ NZ
      refine sp2 ?_
      rintro ld tl i v u h tk I oI hi hv hld hIne FZ NZ
      dsimp only at hld FZ NZ
      have hti : i < tt.length := by rw [hs.are.length, List.length_map] at hi; exact hi
      obtain ⟨ty, hv2⟩ := hs.are.get i ⟨tt[i].toArray⟩ (by rw [List.getElem?_map, List.getElem?_eq_getElem hti]; rfl)
      rw [hv] at hv2
      cases hv2
      have hyn := htl _ (List.getElem_mem hti)
      obtain ⟨hlv, hd8⟩ := hdd i (dd[i]'(by omega)) tt[i] (List.getElem?_eq_getElem _) (List.getElem?_eq_getElem _)
      have hsn : leadS ah (dd.take (i + 1)) = leadS ah (dd.take i) ++ (List.replicate (dd[i]'(by omega)) 32 ++ [9]) := by
        unfold leadS
        rw [List.take_add_one, List.getElem?_eq_getElem (by omega), List.flatMap_append]
        simp only [Option.toList_some, List.flatMap_cons, List.flatMap_nil, List.append_nil, List.append_assoc]
      have hll := leadS_len (ah := ah) (dd := dd) (i := i) (by omega) hd9 (fun j d hj => (hdd j d (tt[j]'(by have := (List.getElem?_eq_some_iff.mp hj).1; omega)) hj (List.getElem?_eq_getElem _)).2)
      rw [← hld] at hsn hll
      generalize tt[i] = yy at *
      generalize dd[i]'(by omega) = d9 at *
      k_with "call ref" => (refine hold ?_)
      k_steps
      refine unhold ?_
      rename Fr _ _ _ _ => FZ
      rename News _ _ _ _ => NZ
      refine (ctr_lev tx yy _ _ bound _ n hxl hyn hn hbd).use B' FZ X' T' rfl Off.nil (by k_extra "M ROOM") (by k_extra "M UNITS") trivial ?_
      rintro r hA tkA FA KA ⟨t9, rfl⟩
      have NA := KA.news0 NZ
      clear FZ NZ KA
      rw [hlv]
      k_with_none
      k_with "M ne" => first | exact NeW.l (by with_reducible assumption) | exact NeW.r (by with_reducible assumption) | (refine neN ?_; (try dsimp only); omega)
      k_with "M bits" => first | with_reducible assumption | exact bits_pow2 (by omega)
      k_with "M mem" => first | exact List.Mem.head _ | exact mem1 | exact mem2 | exact mem3 | exact mem4 | exact mem5 | exact mem6 | exact mem7 | exact mem8 | exact mem9 | exact mem10 | exact mem11 | exact mem12 | exact mem13
      k_with "M room" => (try simp only [depth_mark, depth_under_make, depth_under_kw, depth_in1, depth_deeper, depth_caller]); first | omega | ktr_room | ((try dsimp only [Around.deeper, ktrTop]); omega)
      k_with "M nw" => (try simp only [AllNw, and_true]); (try dsimp only); (repeat' constructor) <;> first | with_reducible assumption | (refine NeW.of ?_; k_ne)
      k_with "M sub2" => repeat (first | exact List.forall_mem_nil _ | refine fcons ⟨_, by k_mem⟩ ?_)
      k_with "M off" => repeat (first | exact List.forall_mem_nil _ | refine fcons (nin1 (by (try dsimp only); k_ne)) ?_)
      k_with "M sub" => repeat (first | exact List.forall_mem_nil _ | (refine fcons ?k9w ?_; (case k9w => k_mem)))
      k_with "subscriptTail Name Slice ref ref" => refine' slice_all_led ?k9F ?k9N ?k9l ?k9z ?k9p ?k9q ?_ ?k9s ?k9t; (case k9F => k_asm); (case k9N => k_asm); (case k9l => k_mem); (case k9z => omega); (case k9p => kmk_part); (case k9q => kmk_part); (case k9s => with_unfolding_all rfl); (case k9t => kmk_pure); intro k9D k9h k9F k9N k9l1; (try k_lt k9l1); (try k_sweep)
      k_with "M same" => intro z h1 h2 h3; (try dsimp only); (repeat (first | refine same_if (by first | exact h1 | exact ne_ps h2 rfl | exact ne_st h3 rfl) ?_ | exact rfl | exact same_st h3 | exact same_kst h2 h3 | refine same_k (by repeat (first | exact List.forall_mem_nil _ | refine fcons (by first | exact h1 | exact ne_ps h2 rfl | exact ne_st h3 rfl) ?_)) ?_ | refine same_c (by repeat (first | exact nc_nil | refine nc_cons (by first | exact h1 | exact ne_ps h2 rfl | exact ne_st h3 rfl) ?_)) ?_))
      k_with "call builtin:list.append" => refine' append_led ?k9la ?k9lb ?k9lc ?k9ld ?_; (case k9la => k_asm); (case k9lb => k_asm); (case k9lc => k_upd); (case k9ld => omega); intro k9h k9F k9N; (try k_sweep)
      k_with "call builtin:list.reverse" => refine' reverse_led ?k9la ?k9lb ?k9lc ?k9ld ?_; (case k9la => k_asm); (case k9lb => k_asm); (case k9lc => k_upd); (case k9ld => omega); intro k9h k9F k9N; (try k_sweep)
      k_with "binaryOp LShift int int" => refine' lshift_bits ?k9la ?k9lb ?k9lc ?k9ld ?_; (case k9la => omega); (case k9lb => omega); (case k9lc => bits_by_make); (case k9ld => decide)
      k_with "inplaceOp LShift int int" => refine' ilshift_bits ?k9la ?k9lb ?k9lc ?k9ld ?_; (case k9la => omega); (case k9lb => omega); (case k9lc => bits_by_make); (case k9ld => decide)
      k_with "M ROOM" => first | omega | ktr_room | ((try dsimp only [Around.deeper, ktrTop]); omega)
      k_with "M UNITS" => first | omega | ((try dsimp only [Around.deeper, ktrTop]); omega) | ktr_units
      k_with "execs cons" => (try k_fold); with_reducible first | refine seqL ?_ | (refine seqV ?_; intro Q8 q8)
      k_with "M un" => with_reducible first | (refine seqVN (s := s1) (by assumption) ?_; intro tk8; try clear q8 Q8) | (refine seqVN (s := s) (by assumption) ?_; intro tk8; try clear q8 Q8) | refine seqVR (by assumption) ?_ | refine seqVM (by assumption) ?_ | refine seqVB (by assumption) ?_ | refine seqVC (by assumption) ?_
      k_with "eval Name" => k_here; k_dflt (refine' nameX_L ?k9F ?k9v ?_ ?k9a ?k9b; (case k9F => k_asm); (case k9a => exact Eq.refl _); (case k9b => exact Eq.refl (some NameKind.local)); (case k9v => exact Eq.refl (some _)); k_whole)
      k_steps
      rename Fr _ _ _ _ => FZ
      rename News _ _ _ _ => NZ
      have hst := lead_str ld d9
      rw [hst] at FZ
      rw [← hsn] at FZ
      (repeat k_extra "M un")
      dsimp only [Post1]
      refine' End1.intro (?a1, ?b1) FZ NZ ?hI1 ?hl1 ?hne1 ?hk1 ?hr1 ?hp1
      case hk1 => repeat (first | exact List.forall_mem_nil _ | refine fcons (by exact Eq.refl (some _)) ?_)
      case hl1 => exact fun p hp => nomatch hp
      case hI1 => exact .head _
      case hne1 => exact fun p hp => nomatch hp
      case hr1 => k_extra "M same"
      case hp1 => rfl
    case Rd =>
      clear FZ NZ
      refine sp2 ?_
      rintro ld tl u h tk hld FZ NZ
      dsimp only at hld FZ NZ
      have e9 : dd.take vt.length = dd := List.take_of_length_le (by rw [hs.are.length, List.length_map]; omega)
      rw [e9] at hld
      subst hld
      refine' Fin.mk ⟨_, At.of FZ NZ _⟩
      all_goals try (repeat (first | exact List.forall_mem_nil _ | refine fcons (by exact Eq.refl (some _)) ?_))
  (repeat (rename Fr _ _ _ _ => zz; clear zz))
  (repeat (rename News _ _ _ _ => zz; clear zz))
  rintro s' hp91
  refine byG fun G9 hG9 => ?_
  obtain ⟨t, h, tk, m', rfl, FZ, NZ⟩ := hp91
  refine hG9 ?_
  clear hG9 G9
  simp only [kstF_cons, kstF_nil] at FZ
  have hL0 : (leadS ah dd).length ≤ 83 := by
    have := leadS_len (ah := ah) (dd := dd) (i := dd.length) (by omega) hd9 (fun j d hj => (hdd j d (tt[j]'(by have := (List.getElem?_eq_some_iff.mp hj).1; omega)) hj (List.getElem?_eq_getElem _)).2)
    rw [List.take_length] at this
    exact this
  generalize leadS ah dd = L0 at *
  have hLs : (⟨L0.toArray⟩ : Str).length ≤ 83 := by rw [len_mk]; exact hL0
  have hbs : (⟨be.toArray⟩ : Str).length ≤ 4 := by rw [len_mk]; exact hbl
  k_with_none
  k_with "M ne" => first | exact NeW.l (by with_reducible assumption) | exact NeW.r (by with_reducible assumption) | (refine neN ?_; (try dsimp only); omega)
  k_with "M bits" => first | with_reducible assumption | exact bits_pow2 (by omega)
  k_with "M mem" => first | exact List.Mem.head _ | exact mem1 | exact mem2 | exact mem3 | exact mem4 | exact mem5 | exact mem6 | exact mem7 | exact mem8 | exact mem9 | exact mem10 | exact mem11 | exact mem12 | exact mem13
  k_with "M room" => (try simp only [depth_mark, depth_under_make, depth_under_kw, depth_in1, depth_deeper, depth_caller]); first | omega | ktr_room | ((try dsimp only [Around.deeper, ktrTop]); omega)
  k_with "M nw" => (try simp only [AllNw, and_true]); (try dsimp only); (repeat' constructor) <;> first | with_reducible assumption | (refine NeW.of ?_; k_ne)
  k_with "M sub2" => repeat (first | exact List.forall_mem_nil _ | refine fcons ⟨_, by k_mem⟩ ?_)
  k_with "M off" => repeat (first | exact List.forall_mem_nil _ | refine fcons (nin1 (by (try dsimp only); k_ne)) ?_)
  k_with "M sub" => repeat (first | exact List.forall_mem_nil _ | (refine fcons ?k9w ?_; (case k9w => k_mem)))
  k_with "subscriptTail Name Slice ref ref" => refine' slice_all_led ?k9F ?k9N ?k9l ?k9z ?k9p ?k9q ?_ ?k9s ?k9t; (case k9F => k_asm); (case k9N => k_asm); (case k9l => k_mem); (case k9z => omega); (case k9p => kmk_part); (case k9q => kmk_part); (case k9s => with_unfolding_all rfl); (case k9t => kmk_pure); intro k9D k9h k9F k9N k9l1; (try k_lt k9l1); (try k_sweep)
  k_with "M same" => intro z h1 h2 h3; (try dsimp only); (repeat (first | refine same_if (by first | exact h1 | exact ne_ps h2 rfl | exact ne_st h3 rfl) ?_ | exact rfl | exact same_st h3 | exact same_kst h2 h3 | refine same_k (by repeat (first | exact List.forall_mem_nil _ | refine fcons (by first | exact h1 | exact ne_ps h2 rfl | exact ne_st h3 rfl) ?_)) ?_ | refine same_c (by repeat (first | exact nc_nil | refine nc_cons (by first | exact h1 | exact ne_ps h2 rfl | exact ne_st h3 rfl) ?_)) ?_))
  k_with "call builtin:list.append" => refine' append_led ?k9la ?k9lb ?k9lc ?k9ld ?_; (case k9la => k_asm); (case k9lb => k_asm); (case k9lc => k_upd); (case k9ld => omega); intro k9h k9F k9N; (try k_sweep)
  k_with "call builtin:list.reverse" => refine' reverse_led ?k9la ?k9lb ?k9lc ?k9ld ?_; (case k9la => k_asm); (case k9lb => k_asm); (case k9lc => k_upd); (case k9ld => omega); intro k9h k9F k9N; (try k_sweep)
  k_with "binaryOp LShift int int" => refine' lshift_bits ?k9la ?k9lb ?k9lc ?k9ld ?_; (case k9la => omega); (case k9lb => omega); (case k9lc => bits_by_make); (case k9ld => decide)
  k_with "inplaceOp LShift int int" => refine' ilshift_bits ?k9la ?k9lb ?k9lc ?k9ld ?_; (case k9la => omega); (case k9lb => omega); (case k9lc => bits_by_make); (case k9ld => decide)
  k_with "M ROOM" => first | omega | ktr_room | ((try dsimp only [Around.deeper, ktrTop]); omega)
  k_with "M UNITS" => first | omega | ((try dsimp only [Around.deeper, ktrTop]); omega) | ktr_units
  k_with "execs cons" => (try k_fold); with_reducible first | refine seqL ?_ | (refine seqV ?_; intro Q8 q8)
  k_with "M un" => with_reducible first | (refine seqVN (s := s1) (by assumption) ?_; intro tk8; try clear q8 Q8) | (refine seqVN (s := s) (by assumption) ?_; intro tk8; try clear q8 Q8) | refine seqVR (by assumption) ?_ | refine seqVM (by assumption) ?_ | refine seqVB (by assumption) ?_ | refine seqVC (by assumption) ?_
  k_with "eval Name" => k_here; k_dflt (refine' nameX_L ?k9F ?k9v ?_ ?k9a ?k9b; (case k9F => k_asm); (case k9a => exact Eq.refl _); (case k9b => exact Eq.refl (some NameKind.local)); (case k9v => exact Eq.refl (some _)); k_whole)
  k_with "M pyIter" => (refine hold ?_)
  k_with "exec For Name Name cons nil" => (refine hold ?_)
  k_with "exec For Name Call cons nil" => (refine hold ?_)
  k_with "exec For Name Subscript cons nil" => (refine hold ?_)
  k_with "exec For Name Attribute cons nil" => (refine hold ?_)
  k_steps
  dsimp only [Ar7, en7]
  k_steps
  refine unhold ?_
  rename Fr _ _ _ _ => FZ
  rename News _ _ _ _ => NZ
  refine with_fr FZ fun g2 L2 e1 e2 => ?_
  subst e1 e2
  have hS : ((⟨L0.toArray⟩ : Str) ++ ⟨be.toArray⟩ ++ Str.ofString "x\t ") = ⟨(L0 ++ be ++ [120, 9, 32]).toArray⟩ := by rw [xtab_is, app_mk, app_mk]
  rw [hS] at FZ NZ
  refine with_dict NZ fun x dx od e1 e2 e3 => ?_
  subst e1 e2
  rw [← e3] at NZ
  have hSl : (L0 ++ be ++ [120, 9, 32]).length ≤ 90 := by simp; omega
  generalize hSS : L0 ++ be ++ [120, 9, 32] = SS at *
  refine cutW (fun s' => ∃ cA cv k tb tn tnt, At g2 L2 s [(Str.ofString "count", .ref cA), (Str.ofString "b", .int (wsGo SS [] 0 0 0).2.1 tb), (Str.ofString "n", .int (wsGo SS [] 0 0 0).2.2.1 tn), (Str.ofString "nt", .int (wsGo SS [] 0 0 0).2.2.2 tnt), (Str.ofString "self", .ref x)] [(cA, W.listOf cv k), (x, instObj 152 dx), (dx, od)] s' ∧ IntsAre cv.toList (wsGo SS [] 0 0 0).1 ∧ (wsGo SS [] 0 0 0).1.length ≤ 100 ∧ NeW x cA ∧ NeW dx cA) ?_ ?_
  · refine for_local FZ rfl rfl (by intro _; rfl) (by passes_own) ?_
    rw [e3] at NZ
    k_steps
    refine unhold ?_
    rename Fr _ _ _ _ => FZ
    rename News _ _ _ _ => NZ
    refine with_head NZ fun c0 o9 rest9 hD => ?_
    obtain ⟨rfl, -, -⟩ := hD
    have q0 : NeW dx c0 := News.nw NZ (.tail _ (.tail _ (.tail _ (.head _)))) (.head _) (fun e => absurd (Value.type.inj e) (by decide))
    rw [← e3] at NZ
    refine' loop_str (σ := WSt) (h₀ := g2) (xs := SS) (fun c => [(c.cA, W.listOf c.cv.toArray c.k), (x, instObj 152 dx), (dx, od)]) (fun c => [(Str.ofString "count", .ref c.cA), (Str.ofString "b", .int c.b c.tb), (Str.ofString "n", .int c.n c.tn), (Str.ofString "nt", .int c.nt c.tnt)]) [Str.ofString "count", Str.ofString "b", Str.ofString "n", Str.ofString "nt"]
      (fun i c => ∃ cl, IntsAre c.cv cl ∧ wsGo SS [] 0 0 0 = wsGo (SS.drop i) cl c.b c.n c.nt ∧ (0 ≤ c.b ∧ c.b ≤ (i : Int) ∧ cl.length ≤ i) ∧ NeW x c.cA ∧ NeW dx c.cA) ⟨c0, [], 0, 0, _, 0, _, 0, _⟩ ?Rh ?RF ?RN ?Rk ?Rp ?Rt ?Rd
    case RF => exact FZ
    case Rk => repeat (first | exact List.forall_mem_nil _ | refine fcons (by exact Eq.refl (some _)) ?_)
    case RN => exact News.sub NZ (by k_extra "M sub")
    case Rh => rfl
    case Rp => exact ⟨[], .nil, by rw [List.drop_zero], ⟨Int.le_refl _, Int.le_refl _, Nat.le_refl _⟩, News.nw NZ (.tail _ (.tail _ (.head _))) (.head _) (fun e => by cases e), q0⟩
    case Rt =>
      clear FZ NZ
      rintro ⟨cA, cv, k, b, tb, n, tn, nt, tnt⟩ i t u h tk I oI ch hch hp910 hIne FZ NZ
      refine byG fun G9 hG9 => ?_
      obtain ⟨cl, hcv, hgo, ⟨hb0, hb1, hcl⟩, hx1, hx2⟩ := hp910
      refine hG9 ?_
      clear hG9 G9
      dsimp only at hcv hgo hb0 hb1 hx1 hx2 FZ NZ hIne
      have hi : i < SS.length := (List.getElem?_eq_some_iff.mp hch).1
      have hch2 : SS[i] = ch := (List.getElem?_eq_some_iff.mp hch).2
      have hn2 := allNw_of hIne
      simp only [AllNw, and_true] at hn2
      obtain ⟨y1, y2, y3⟩ := hn2
      rw [List.drop_eq_getElem_cons hi, hch2, wsGo] at hgo
      have hcvl := hcv.length
      k_with_none
      k_with "M ne" => first | exact NeW.l (by with_reducible assumption) | exact NeW.r (by with_reducible assumption) | (refine neN ?_; (try dsimp only); omega)
      k_with "M bits" => first | with_reducible assumption | exact bits_pow2 (by omega)
      k_with "M mem" => first | exact List.Mem.head _ | exact mem1 | exact mem2 | exact mem3 | exact mem4 | exact mem5 | exact mem6 | exact mem7 | exact mem8 | exact mem9 | exact mem10 | exact mem11 | exact mem12 | exact mem13
      k_with "M room" => (try simp only [depth_mark, depth_under_make, depth_under_kw, depth_in1, depth_deeper, depth_caller]); first | omega | ktr_room | ((try dsimp only [Around.deeper, ktrTop]); omega)
      k_with "M nw" => (try simp only [AllNw, and_true]); (try dsimp only); (repeat' constructor) <;> first | with_reducible assumption | (refine NeW.of ?_; k_ne)
      k_with "M sub2" => repeat (first | exact List.forall_mem_nil _ | refine fcons ⟨_, by k_mem⟩ ?_)
      k_with "M off" => repeat (first | exact List.forall_mem_nil _ | refine fcons (nin1 (by (try dsimp only); k_ne)) ?_)
      k_with "M sub" => repeat (first | exact List.forall_mem_nil _ | (refine fcons ?k9w ?_; (case k9w => k_mem)))
      k_with "subscriptTail Name Slice ref ref" => refine' slice_all_led ?k9F ?k9N ?k9l ?k9z ?k9p ?k9q ?_ ?k9s ?k9t; (case k9F => k_asm); (case k9N => k_asm); (case k9l => k_mem); (case k9z => omega); (case k9p => kmk_part); (case k9q => kmk_part); (case k9s => with_unfolding_all rfl); (case k9t => kmk_pure); intro k9D k9h k9F k9N k9l1; (try k_lt k9l1); (try k_sweep)
      k_with "M same" => intro z h1 h2 h3; (try dsimp only); (repeat (first | refine same_if (by first | exact h1 | exact ne_ps h2 rfl | exact ne_st h3 rfl) ?_ | exact rfl | exact same_st h3 | exact same_kst h2 h3 | refine same_k (by repeat (first | exact List.forall_mem_nil _ | refine fcons (by first | exact h1 | exact ne_ps h2 rfl | exact ne_st h3 rfl) ?_)) ?_ | refine same_c (by repeat (first | exact nc_nil | refine nc_cons (by first | exact h1 | exact ne_ps h2 rfl | exact ne_st h3 rfl) ?_)) ?_))
      k_with "call builtin:list.append" => refine' append_led ?k9la ?k9lb ?k9lc ?k9ld ?_; (case k9la => k_asm); (case k9lb => k_asm); (case k9lc => k_upd); (case k9ld => omega); intro k9h k9F k9N; (try k_sweep)
      k_with "call builtin:list.reverse" => refine' reverse_led ?k9la ?k9lb ?k9lc ?k9ld ?_; (case k9la => k_asm); (case k9lb => k_asm); (case k9lc => k_upd); (case k9ld => omega); intro k9h k9F k9N; (try k_sweep)
      k_with "binaryOp LShift int int" => refine' lshift_bits ?k9la ?k9lb ?k9lc ?k9ld ?_; (case k9la => omega); (case k9lb => omega); (case k9lc => bits_by_make); (case k9ld => decide)
      k_with "inplaceOp LShift int int" => refine' ilshift_bits ?k9la ?k9lb ?k9lc ?k9ld ?_; (case k9la => omega); (case k9lb => omega); (case k9lc => bits_by_make); (case k9ld => decide)
      k_with "M ROOM" => first | omega | ktr_room | ((try dsimp only [Around.deeper, ktrTop]); omega)
      k_with "M UNITS" => first | omega | ((try dsimp only [Around.deeper, ktrTop]); omega) | ktr_units
      k_with "execs cons" => (try k_fold); with_reducible first | refine seqL ?_ | (refine seqV ?_; intro Q8 q8)
      k_with "M un" => with_reducible first | (refine seqVN (s := s1) (by assumption) ?_; intro tk8; try clear q8 Q8) | (refine seqVN (s := s) (by assumption) ?_; intro tk8; try clear q8 Q8) | refine seqVR (by assumption) ?_ | refine seqVM (by assumption) ?_ | refine seqVB (by assumption) ?_ | refine seqVC (by assumption) ?_
      k_with "eval Name" => k_here; k_dflt (refine' nameX_L ?k9F ?k9v ?_ ?k9a ?k9b; (case k9F => k_asm); (case k9a => exact Eq.refl _); (case k9b => exact Eq.refl (some NameKind.local)); (case k9v => exact Eq.refl (some _)); k_whole)
      k_steps
      · rename Fr _ _ _ _ => FZ
        rename News _ _ _ _ => NZ
        all_goals (repeat k_extra "M un")
        all_goals (try dsimp only [Post1])
        refine' End1.intro ⟨cA, cv, k, b + 1, ?tb1, n + 1, ?tn1, nt, tnt⟩ FZ NZ ?hI1 ?hl1 ?hne1 ?hk1 ?hr1 ?hp1
        case hk1 => repeat (first | exact List.forall_mem_nil _ | refine fcons (by exact Eq.refl (some _)) ?_)
        case hI1 => k_mem
        case hl1 =>
          (try dsimp only)
          k_extra "M sub"
        case hne1 =>
          (try dsimp only)
          refine AllNw.mem ?_
          k_extra "M nw"
        case hr1 => k_extra "M same"
        case hp1 =>
          (try dsimp only)
          rename ((_ == Str.ofString " ") = true) => h1
          rw [one_blank] at h1
          rw [if_pos (eq_of_beq h1)] at hgo
          exact ⟨cl, hcv, hgo, ⟨by omega, by omega, by omega⟩, hx1, hx2⟩
      · rename Fr _ _ _ _ => FZ
        rename News _ _ _ _ => NZ
        all_goals (repeat k_extra "M un")
        all_goals (try dsimp only [Post1])
        refine' End1.intro ⟨?cA2, ?cv2, ?k2, 0, ?tb2, n + 1, ?tn2, nt + 1, ?tnt2⟩ FZ NZ ?hI2 ?hl2 ?hne2 ?hk2 ?hr2 ?hp2
        case hk2 => repeat (first | exact List.forall_mem_nil _ | refine fcons (by exact Eq.refl (some _)) ?_)
        case hI2 => k_mem
        case hl2 =>
          (try dsimp only)
          k_extra "M sub"
        case hne2 =>
          (try dsimp only)
          refine AllNw.mem ?_
          k_extra "M nw"
        case hr2 => k_extra "M same"
        case hp2 =>
          (try dsimp only)
          rename ((_ == Str.ofString " ") = false) => h1
          rename ((_ == Str.ofString "\t") = true) => h2
          rename ((cl.length : Int) ≤ b) => h3
          rename IntsAre (List.set _ _ _) _ => h4
          rw [one_blank] at h1
          rw [one_tab] at h2
          rw [if_neg (ne_of_beq_false h1), if_pos (eq_of_beq h2)] at hgo
          rw [incC_ge h3] at h4
          exact ⟨_, h4, hgo, ⟨by omega, by omega, incC_len cl b hb0 _ (by omega) (by omega)⟩, NeW.of (neN (by omega)), NeW.of (neN (by omega))⟩
      · rename Fr _ _ _ _ => FZ
        rename News _ _ _ _ => NZ
        all_goals (repeat k_extra "M un")
        all_goals (try dsimp only [Post1])
        refine' End1.intro ⟨cA, ?cv3, k, 0, ?tb3, n + 1, ?tn3, nt + 1, ?tnt3⟩ FZ NZ ?hI3 ?hl3 ?hne3 ?hk3 ?hr3 ?hp3
        case hk3 => repeat (first | exact List.forall_mem_nil _ | refine fcons (by exact Eq.refl (some _)) ?_)
        case hI3 => k_mem
        case hl3 =>
          (try dsimp only)
          k_extra "M sub"
        case hne3 =>
          (try dsimp only)
          refine AllNw.mem ?_
          k_extra "M nw"
        case hr3 => k_extra "M same"
        case hp3 =>
          (try dsimp only)
          rename ((_ == Str.ofString " ") = false) => h1
          rename ((_ == Str.ofString "\t") = true) => h2
          rename (¬ (cl.length : Int) ≤ b) => h3
          rename IntsAre (List.set _ _ _) _ => h4
          rw [one_blank] at h1
          rw [one_tab] at h2
          rw [if_neg (ne_of_beq_false h1), if_pos (eq_of_beq h2)] at hgo
          rw [incC_lt h3] at h4
          exact ⟨_, h4, hgo, ⟨by omega, by omega, incC_len cl b hb0 _ (by omega) (by omega)⟩, hx1, hx2⟩
      · rename Fr _ _ _ _ => FZ
        rename News _ _ _ _ => NZ
        (try dsimp only)
        (repeat k_extra "M un")
        (try dsimp only [Post1])
        rename ((_ == Str.ofString " ") = false) => h1
        rename ((_ == Str.ofString "\t") = false) => h2
        rw [one_blank] at h1
        rw [one_tab] at h2
        rw [if_neg (ne_of_beq_false h1), if_neg (ne_of_beq_false h2)] at hgo
        refine Fin.mk ⟨cA, cv.toArray, k, ?bt4, ?nt4, ?ntt4, At.of FZ (News.sub NZ ?sb4) ?hh4, by rw [hgo]; exact hcv, by rw [hgo]; dsimp only; omega, hx1, hx2⟩
        case hh4 =>
          rw [hgo]
          repeat (first | exact List.forall_mem_nil _ | refine fcons (by exact Eq.refl (some _)) ?_)
        case sb4 => k_extra "M sub"
    case Rd =>
      clear FZ NZ
      rintro ⟨cA, cv, k, b, tb, n, tn, nt, tnt⟩ u h tk hp94 FZ NZ
      refine byG fun G9 hG9 => ?_
      obtain ⟨cl, hcv, hgo, ⟨hb0, hb1, hcl⟩, hx1, hx2⟩ := hp94
      refine hG9 ?_
      clear hG9 G9
      dsimp only at hcv hgo hb0 hb1 hx1 hx2 FZ NZ
      · rw [List.drop_of_length_le (Nat.le_refl _), wsGo] at hgo
        refine Fin.mk ⟨cA, cv.toArray, k, ?bt5, ?nt5, ?ntt5, At.of FZ (News.sub NZ ?sb5) ?hh5, by rw [hgo]; exact hcv, by rw [hgo]; dsimp only; omega, hx1, hx2⟩
        case hh5 =>
          rw [hgo]
          repeat (first | exact List.forall_mem_nil _ | refine fcons (by exact Eq.refl (some _)) ?_)
        case sb5 => k_extra "M sub"
  (repeat (rename Fr g2 _ _ _ => zz; clear zz))
  (repeat (rename News g2 _ _ _ => zz; clear zz))
  rintro s' hp91
  refine byG fun G9 hG9 => ?_
  obtain ⟨cA, cv, k, tb, tn, tnt, ⟨h, tk, m', rfl, FZ, NZ⟩, hcv, hcl, hx1, hx2⟩ := hp91
  refine hG9 ?_
  clear hG9 G9
  simp only [kstF_cons, kstF_nil] at FZ
  subst e3
  k_with_none
  k_with "M ne" => first | exact NeW.l (by with_reducible assumption) | exact NeW.r (by with_reducible assumption) | (refine neN ?_; (try dsimp only); omega)
  k_with "M bits" => first | with_reducible assumption | exact bits_pow2 (by omega)
  k_with "M mem" => first | exact List.Mem.head _ | exact mem1 | exact mem2 | exact mem3 | exact mem4 | exact mem5 | exact mem6 | exact mem7 | exact mem8 | exact mem9 | exact mem10 | exact mem11 | exact mem12 | exact mem13
  k_with "M room" => (try simp only [depth_mark, depth_under_make, depth_under_kw, depth_in1, depth_deeper, depth_caller]); first | omega | ktr_room | ((try dsimp only [Around.deeper, ktrTop]); omega)
  k_with "M nw" => (try simp only [AllNw, and_true]); (try dsimp only); (repeat' constructor) <;> first | with_reducible assumption | (refine NeW.of ?_; k_ne)
  k_with "M sub2" => repeat (first | exact List.forall_mem_nil _ | refine fcons ⟨_, by k_mem⟩ ?_)
  k_with "M off" => repeat (first | exact List.forall_mem_nil _ | refine fcons (nin1 (by (try dsimp only); k_ne)) ?_)
  k_with "M sub" => repeat (first | exact List.forall_mem_nil _ | (refine fcons ?k9w ?_; (case k9w => k_mem)))
  k_with "subscriptTail Name Slice ref ref" => refine' slice_all_led ?k9F ?k9N ?k9l ?k9z ?k9p ?k9q ?_ ?k9s ?k9t; (case k9F => k_asm); (case k9N => k_asm); (case k9l => k_mem); (case k9z => omega); (case k9p => kmk_part); (case k9q => kmk_part); (case k9s => with_unfolding_all rfl); (case k9t => kmk_pure); intro k9D k9h k9F k9N k9l1; (try k_lt k9l1); (try k_sweep)
  k_with "M same" => intro z h1 h2 h3; (try dsimp only); (repeat (first | refine same_if (by first | exact h1 | exact ne_ps h2 rfl | exact ne_st h3 rfl) ?_ | exact rfl | exact same_st h3 | exact same_kst h2 h3 | refine same_k (by repeat (first | exact List.forall_mem_nil _ | refine fcons (by first | exact h1 | exact ne_ps h2 rfl | exact ne_st h3 rfl) ?_)) ?_ | refine same_c (by repeat (first | exact nc_nil | refine nc_cons (by first | exact h1 | exact ne_ps h2 rfl | exact ne_st h3 rfl) ?_)) ?_))
  k_with "call builtin:list.append" => refine' append_led ?k9la ?k9lb ?k9lc ?k9ld ?_; (case k9la => k_asm); (case k9lb => k_asm); (case k9lc => k_upd); (case k9ld => omega); intro k9h k9F k9N; (try k_sweep)
  k_with "call builtin:list.reverse" => refine' reverse_led ?k9la ?k9lb ?k9lc ?k9ld ?_; (case k9la => k_asm); (case k9lb => k_asm); (case k9lc => k_upd); (case k9ld => omega); intro k9h k9F k9N; (try k_sweep)
  k_with "binaryOp LShift int int" => refine' lshift_bits ?k9la ?k9lb ?k9lc ?k9ld ?_; (case k9la => omega); (case k9lb => omega); (case k9lc => bits_by_make); (case k9ld => decide)
  k_with "inplaceOp LShift int int" => refine' ilshift_bits ?k9la ?k9lb ?k9lc ?k9ld ?_; (case k9la => omega); (case k9lb => omega); (case k9lc => bits_by_make); (case k9ld => decide)
  k_with "M ROOM" => first | omega | ktr_room | ((try dsimp only [Around.deeper, ktrTop]); omega)
  k_with "M UNITS" => first | omega | ((try dsimp only [Around.deeper, ktrTop]); omega) | ktr_units
  k_with "execs cons" => (try k_fold); with_reducible first | refine seqL ?_ | (refine seqV ?_; intro Q8 q8)
  k_with "M un" => with_reducible first | (refine seqVN (s := s1) (by assumption) ?_; intro tk8; try clear q8 Q8) | (refine seqVN (s := s) (by assumption) ?_; intro tk8; try clear q8 Q8) | refine seqVR (by assumption) ?_ | refine seqVM (by assumption) ?_ | refine seqVB (by assumption) ?_ | refine seqVC (by assumption) ?_
  k_with "eval Name" => k_here; k_dflt (refine' nameX_L ?k9F ?k9v ?_ ?k9a ?k9b; (case k9F => k_asm); (case k9a => exact Eq.refl _); (case k9b => exact Eq.refl (some NameKind.local)); (case k9v => exact Eq.refl (some _)); k_whole)
  k_steps
  rename News _ _ _ _ => NZ
  refine with_two NZ fun tn9 tc9 e1 e2 => ?_
  subst e1 e2
  have q1 : NeW tn9 x := News.nw NZ (.head _) (.tail _ (.tail _ (.tail _ (.head _)))) (fun e => by cases e)
  have q2 : NeW tc9 x := News.nw NZ (.tail _ (.head _)) (.tail _ (.tail _ (.tail _ (.head _)))) (fun e => by cases e)
  have q3 : NeW tn9 dx := News.nw NZ (.head _) (.tail _ (.tail _ (.tail _ (.tail _ (.head _))))) (fun e => absurd (Value.type.inj e) (by decide))
  have q4 : NeW tc9 dx := News.nw NZ (.tail _ (.head _)) (.tail _ (.tail _ (.tail _ (.tail _ (.head _))))) (fun e => absurd (Value.type.inj e) (by decide))
  k_steps
  rename Fr _ _ _ _ => FZ
  rename News _ _ _ _ => NZ
  (repeat k_extra "M un")
  refine done_of (hret _ _ _ (hFr _ (hKeep _ _ _ FZ)) (hKeep _ _ _ FZ) ?_)
  exact ⟨x, dx, tn9, tc9, _, _, _, _, _, _, _, _, _, tb, cv.toList, rfl, MadeAt.of hNew NZ (.tail _ (.tail _ (.tail _ (.head _)))) List.not_mem_nil, MadeAt.of hNew NZ (.tail _ (.tail _ (.tail _ (.tail _ (.head _))))) List.not_mem_nil, MadeAt.of hNew NZ (.head _) List.not_mem_nil, MadeAt.of hNew NZ (.tail _ (.head _)) List.not_mem_nil, hcv⟩
end

section
theorem hush_C_sum : True := by
  k_with_none
  w_top off
  trivial
theorem rules_C_sum_0 : True := by
  k_with "M ne" => first | exact NeW.l (by with_reducible assumption) | exact NeW.r (by with_reducible assumption) | (refine neN ?_; (try dsimp only); omega)
  k_with "M bits" => first | with_reducible assumption | exact bits_pow2 (by omega)
  k_with "M mem" => first | exact List.Mem.head _ | exact mem1 | exact mem2 | exact mem3 | exact mem4 | exact mem5 | exact mem6 | exact mem7 | exact mem8 | exact mem9 | exact mem10 | exact mem11 | exact mem12 | exact mem13
  trivial

/-- how many are not 0 -/
noncomputable def othersN (one : List Int) : Nat := (one.filter (· != 0)).length
noncomputable def partZ (q x : Int) (one : List Int) : Int := (x - 1) ^ othersN one * (x + q - 1) ^ (one.length - othersN one)
noncomputable def termZ (word : List Int) (q x : Int) (one : List Int) : Int := if fitsL q one word then (q - 1) * partZ q x one else - partZ q x one
noncomputable def sumZ (mate : List (List Int)) (word : List Int) (q x : Int) : Int := (mate.map (termZ word q x)).sum
/-- a list of lists of ints -/
noncomputable def RowsAt (h : Heap) (vm : List Value) (ml : List (List Int)) : Prop := vm.length = ml.length ∧ ∀ (i : Nat) (one : List Int), ml[i]? = some one → ∃ a v, vm[i]? = some (.ref a) ∧ h.IsList a v.toArray ∧ IntsAre v one
theorem RowsAt.keeps {h g : Heap} {vm : List Value} {ml : List (List Int)} (x : RowsAt h vm ml) (hg : ∀ b o, h.get? b = some o → g.get? b = some o) : RowsAt g vm ml :=
  ⟨x.1, fun i one hi => by obtain ⟨a, v, e, hl, hv⟩ := x.2 i one hi; exact ⟨a, v, e, hl.at fun o e => hg _ o e, hv⟩⟩
theorem enterR_C_sum_0 : True := by
  k_with_none
  k_with "M ne" => first | exact NeW.l (by with_reducible assumption) | exact NeW.r (by with_reducible assumption) | (refine neN ?_; (try dsimp only); omega)
  k_with "M bits" => first | with_reducible assumption | exact bits_pow2 (by omega)
  k_with "M mem" => first | exact List.Mem.head _ | exact mem1 | exact mem2 | exact mem3 | exact mem4 | exact mem5 | exact mem6 | exact mem7 | exact mem8 | exact mem9 | exact mem10 | exact mem11 | exact mem12 | exact mem13
  k_with "M nw" => (try simp only [AllNw, and_true]); (try dsimp only); (repeat' constructor) <;> first | with_reducible assumption | (refine NeW.of ?_; k_ne)
  k_with "M sub2" => repeat (first | exact List.forall_mem_nil _ | refine fcons ⟨_, by k_mem⟩ ?_)
  k_with "M off" => repeat (first | exact List.forall_mem_nil _ | refine fcons (nin1 (by (try dsimp only); k_ne)) ?_)
  k_with "M sub" => repeat (first | exact List.forall_mem_nil _ | (refine fcons ?k9w ?_; (case k9w => k_mem)))
  k_with "M same" => intro z h1 h2 h3; (try dsimp only); (repeat (first | refine same_if (by first | exact h1 | exact ne_ps h2 rfl | exact ne_st h3 rfl) ?_ | exact rfl | exact same_st h3 | exact same_kst h2 h3 | refine same_k (by repeat (first | exact List.forall_mem_nil _ | refine fcons (by first | exact h1 | exact ne_ps h2 rfl | exact ne_st h3 rfl) ?_)) ?_ | refine same_c (by repeat (first | exact nc_nil | refine nc_cons (by first | exact h1 | exact ne_ps h2 rfl | exact ne_st h3 rfl) ?_)) ?_))
  k_with "M ROOM" => first | omega | ktr_room | ((try dsimp only [Around.deeper, ktrTop]); omega)
  k_with "M UNITS" => first | omega | ((try dsimp only [Around.deeper, ktrTop]); omega) | ktr_units
  k_with "execs cons" => (try k_fold); with_reducible first | refine seqL ?_ | (refine seqV ?_; intro Q8 q8)
  k_with "M un" => with_reducible first | (refine seqVN (s := s1) (by assumption) ?_; intro tk8; try clear q8 Q8) | (refine seqVN (s := s) (by assumption) ?_; intro tk8; try clear q8 Q8) | refine seqVR (by assumption) ?_ | refine seqVM (by assumption) ?_ | refine seqVB (by assumption) ?_ | refine seqVC (by assumption) ?_
  k_with "eval Name" => k_here; k_dflt (refine' nameX_L ?k9F ?k9v ?_ ?k9a ?k9b; (case k9F => k_asm); (case k9a => exact Eq.refl _); (case k9b => exact Eq.refl (some NameKind.local)); (case k9v => exact Eq.refl (some _)); k_whole)
  k_with "binaryOp Pow int int" => refine' pow_eq (m := 3000) ?k9rb ?k9rc ?k9rd ?k9re ?k9rf ?_; (case k9rb => with_reducible assumption); (case k9rc => omega); (case k9rd => omega); (case k9re => assumption); (case k9rf => decide)
  k_with "binaryOp Mult int int" => refine' mul_eq ?k9rb ?k9rc ?_; (case k9rb => with_reducible assumption); (case k9rc => with_reducible assumption)
  k_with "M ENTER" => (
    unfold Ctr PR
    k_fill
    intro dp un gd cn cs aF ccd clF outer A₀ base h₀ L mF s Q E B F X T hke hOff hdp hun hPre hret
    first
    | (refine' enter B F X T hke hOff ?hz ?k6 ?k7 ?k8 ?k9 ?kB ?c5 ?c2 ?c3 ?c4 ?_
       (case k6 => exact (X.keeps F.keep) _ _ (by k_is))
       (case k7 => exact codeRec_of (X.keeps F.keep) (by k_is))
       (case hz => first | exact (fun _ h => absurd h List.not_mem_nil) | k_extra "M HZ")
       (case k8 => omega)
       (case k9 => first | exact BindsTo.of_eq rfl | exact binds_K (by k_in) rfl (by k_is) rfl rfl rfl | exact (fun M A E Q hq Γ p _ => wp_of_peek (X.keeps F.keep) hq _ (by rfl)) | fail "k_enter: no rule for these arguments")
       (case kB => exact locs rfl)
       (case c5 => decide)
       (case c2 => exact rfl)
       (case c3 => exact rfl)
       (case c4 => exact rfl)
       intro g h₁ F' hk1 hFr hKeep hg hOff' B' X' T' en7 Ar7 Qf7 Ef7
       have N' : News g s.heap.objs.size h₁ [] := News.nil
       have hNew := new_of hg
       try dsimp only
       clear B F X T hke hOff)
    | (refine' enterC B F X T hke hOff ?hz ?k6 ?k7 ?k8 ?k9 ?kB ?kD ?c2 ?c3 ?c4 ?_
       (case k6 => exact (X.keeps F.keep) _ _ (by k_is))
       (case k7 => exact codeRec_of (X.keeps F.keep) (by k_is))
       (case hz => first | exact (fun _ h => absurd h List.not_mem_nil) | k_extra "M HZ")
       (case k8 => omega)
       (case k9 => first | exact BindsTo.of_eq rfl | exact binds_K (by k_in) rfl (by k_is) rfl rfl rfl | exact (fun M A E Q hq Γ p _ => wp_of_peek (X.keeps F.keep) hq _ (by rfl)) | fail "k_enter: no rule for these arguments")
       (case kB => exact rfl)
       (case kD => decide +kernel)
       (case c2 => exact rfl)
       (case c3 => exact rfl)
       (case c4 => exact rfl)
       intro g h₁ tk' cells' F' N' Y' hk1 hFr hKeep hg hOff' B' X' T' en7 Ar7 Qf7 Ef7
       first
       | (obtain ⟨oc1, hE', dc1⟩ := CellsAre.one Y'; subst hE')
       | (obtain ⟨oc1, oc2, hE', dc1, dc2⟩ := CellsAre.two Y'; subst hE')
       | (obtain ⟨oc1, oc2, oc3, hE', dc1, dc2, dc3⟩ := CellsAre.three Y'; subst hE')
       | (obtain ⟨oc1, oc2, oc3, oc4, hE', dc1, dc2, dc3, dc4⟩ := CellsAre.four Y'; subst hE')
       clear Y'
       (try simp only [List.cons_append, List.nil_append] at N')
       have hNew := new_of hg
       try dsimp only
       clear B F X T hke hOff)
    )
  trivial
set_option maxHeartbeats 8000000 in
theorem ctr_sum {w : World} {p : Program} {loose : List Str} {mean : ExcName → Option Value} {mg mb : Str → Option Value} (M W : Addr) (vm vw : List Value) (ml : List (List Int)) (word : List Int) (q x : Int) (tq tx : Tok) (n : Nat) (hq : 2 ≤ q ∧ q ≤ 3) (hn : n ≤ 4) (hwl : word.length = n) (hml : ∀ one ∈ ml, one.length = n ∧ ∀ d ∈ one, 0 ≤ d ∧ d < 3) (hmc : ml.length ≤ 30)
    (hx0 : 0 < x) (hxb : Builtin.Int.intBits x ≤ 2300) :
    Ctr w (hd.heap_1 w.params) p loose mean mg mb 197 40 [] [.ref M, .ref W, .int q tq, .int x tx]
      (fun h => h.IsList M vm.toArray ∧ RowsAt h vm ml ∧ h.IsList W vw.toArray ∧ IntsAre vw word)
      (fun r h h' => ∃ t, r = .int (sumZ ml word q x) t) := by
  k_extra "M ENTER"
  refine byG fun G9 hG9 => ?_
  obtain ⟨hl, hr, hw, hwi⟩ := hPre
  refine hG9 ?_
  clear hG9 G9
  have gl := hl.at fun o e => hg _ o e List.not_mem_nil
  have gw := hw.at fun o e => hg _ o e List.not_mem_nil
  have gr := hr.keeps fun b o e => hg b o e List.not_mem_nil
  clear hg hl hw hr
  k_with "exec For Name Name cons nil" => (refine hold ?_)
  k_with "exec For Name Call cons nil" => (refine hold ?_)
  k_with "exec For Name Subscript cons nil" => (refine hold ?_)
  k_with "M pyIter" => (refine hold ?_)
  k_steps
  refine unhold ?_
  rename Fr _ _ _ _ => FZ
  rename News _ _ _ _ => NZ
  refine for_local FZ rfl rfl (by intro _; rfl) (by passes_own) ?_
  k_steps
  refine unhold ?_
  rename Fr _ _ _ _ => FZ
  rename News _ _ _ _ => NZ
  refine' loop_list (σ := Int × Tok) (h₀ := g) (l := M) (vs := vm) (fun c => []) (fun c => [(Str.ofString "weighed", .int c.1 c.2)]) [Str.ofString "weighed", Str.ofString "others", Str.ofString "part"]
    (fun i c => c.1 = sumZ (ml.take i) word q x) (0, _) ?Rh ?Rl ?RF ?RN ?Rk ?Rp ?Rt ?Rd
  case RF => exact FZ
  case Rl => exact gl
  case Rk => repeat (first | exact List.forall_mem_nil _ | refine fcons (by exact Eq.refl (some _)) ?_)
  case RN => exact NZ
  case Rh => rfl
  case Rp => rfl
  case Rt =>
    clear FZ NZ
    refine sp2 ?_
    rintro wz tz i v u h tk I oI hi hv hwz hIne FZ NZ
    dsimp only at hwz FZ NZ
    have hi2 : i < ml.length := by rw [← gr.1]; exact hi
    refine byG fun G9 hG9 => ?_
    obtain ⟨a, vo, hv2, hlo, hio⟩ := gr.2 i ml[i] (List.getElem?_eq_getElem hi2)
    refine hG9 ?_
    clear hG9 G9
    rw [hv] at hv2
    cases hv2
    obtain ⟨hon, hod⟩ := hml _ (List.getElem_mem hi2)
    have hsn : sumZ (ml.take (i + 1)) word q x = sumZ (ml.take i) word q x + termZ word q x ml[i] := by
      unfold sumZ
      rw [List.take_add_one, List.getElem?_eq_getElem hi2, List.map_append, List.sum_append]
      simp only [Option.toList_some, List.map_cons, List.map_nil, List.sum_cons, List.sum_nil, Int.add_zero]
    rw [← hwz] at hsn
    generalize ml[i] = one at *
    k_with_none
    k_with "M ne" => first | exact NeW.l (by with_reducible assumption) | exact NeW.r (by with_reducible assumption) | (refine neN ?_; (try dsimp only); omega)
    k_with "M bits" => first | with_reducible assumption | exact bits_pow2 (by omega)
    k_with "M mem" => first | exact List.Mem.head _ | exact mem1 | exact mem2 | exact mem3 | exact mem4 | exact mem5 | exact mem6 | exact mem7 | exact mem8 | exact mem9 | exact mem10 | exact mem11 | exact mem12 | exact mem13
    k_with "M nw" => (try simp only [AllNw, and_true]); (try dsimp only); (repeat' constructor) <;> first | with_reducible assumption | (refine NeW.of ?_; k_ne)
    k_with "M sub2" => repeat (first | exact List.forall_mem_nil _ | refine fcons ⟨_, by k_mem⟩ ?_)
    k_with "M off" => repeat (first | exact List.forall_mem_nil _ | refine fcons (nin1 (by (try dsimp only); k_ne)) ?_)
    k_with "M sub" => repeat (first | exact List.forall_mem_nil _ | (refine fcons ?k9w ?_; (case k9w => k_mem)))
    k_with "M same" => intro z h1 h2 h3; (try dsimp only); (repeat (first | refine same_if (by first | exact h1 | exact ne_ps h2 rfl | exact ne_st h3 rfl) ?_ | exact rfl | exact same_st h3 | exact same_kst h2 h3 | refine same_k (by repeat (first | exact List.forall_mem_nil _ | refine fcons (by first | exact h1 | exact ne_ps h2 rfl | exact ne_st h3 rfl) ?_)) ?_ | refine same_c (by repeat (first | exact nc_nil | refine nc_cons (by first | exact h1 | exact ne_ps h2 rfl | exact ne_st h3 rfl) ?_)) ?_))
    k_with "M ROOM" => first | omega | ktr_room | ((try dsimp only [Around.deeper, ktrTop]); omega)
    k_with "M UNITS" => first | omega | ((try dsimp only [Around.deeper, ktrTop]); omega) | ktr_units
    k_with "execs cons" => (try k_fold); with_reducible first | refine seqL ?_ | (refine seqV ?_; intro Q8 q8)
    k_with "M un" => with_reducible first | (refine seqVN (s := s1) (by assumption) ?_; intro tk8; try clear q8 Q8) | (refine seqVN (s := s) (by assumption) ?_; intro tk8; try clear q8 Q8) | refine seqVR (by assumption) ?_ | refine seqVM (by assumption) ?_ | refine seqVB (by assumption) ?_ | refine seqVC (by assumption) ?_
    k_with "eval Name" => k_here; k_dflt (refine' nameX_L ?k9F ?k9v ?_ ?k9a ?k9b; (case k9F => k_asm); (case k9a => exact Eq.refl _); (case k9b => exact Eq.refl (some NameKind.local)); (case k9v => exact Eq.refl (some _)); k_whole)
    k_with "binaryOp Pow int int" => refine' pow_eq (m := 3000) ?k9rb ?k9rc ?k9rd ?k9re ?k9rf ?_; (case k9rb => with_reducible assumption); (case k9rc => omega); (case k9rd => omega); (case k9re => assumption); (case k9rf => decide)
    k_with "binaryOp Mult int int" => refine' mul_eq ?k9rb ?k9rc ?_; (case k9rb => with_reducible assumption); (case k9rc => with_reducible assumption)
    k_with "call ref" => (refine hold ?_)
    k_steps
    rename Heap.IsList _ _ _ => hL
    rename CarriedAll _ _ => hC
    have hfl : (one.filter (· != 0)).length ≤ one.length := List.length_filter_le _ _
    refine len_list_made hL hC (by rw [List.length_map]; omega) ?_
    rw [List.length_map]
    rw [show (one.filter (· != 0)).length = othersN one from rfl]
    have ho : othersN one ≤ n := by rw [← hon]; exact hfl
    clear hL hC
    have hxn := lt_of_bits hxb
    have hx1 : Builtin.Int.intBits (x - 1) ≤ 3000 := bits_mono (bits_lt (k := 2300) (by omega) (by omega)) (by decide)
    have hx2 : Builtin.Int.intBits (x + q - 1) ≤ 3000 := bits_mono (bits_lt (k := 2301) (by omega) (by
      rw [show (2 : Int) ^ 2301 = 2 ^ 2300 * 2 from by rw [← Int.pow_succ]]
      have : (2 : Int) ≤ 2 ^ 2300 := pow2_mono (i := 1) (by decide)
      omega)) (by decide)
    obtain ⟨PA, hPA⟩ : ∃ v, (x - 1) ^ ((othersN one : Nat) : Int).toNat = v := ⟨_, rfl⟩
    obtain ⟨PB, hPB⟩ : ∃ v, (x + q - 1) ^ ((one.length : Int) - (othersN one : Int)).toNat = v := ⟨_, rfl⟩
    obtain ⟨PC, hPC⟩ : ∃ v, PA * PB = v := ⟨_, rfl⟩
    obtain ⟨PD, hPD⟩ : ∃ v, (q - 1) * PC = v := ⟨_, rfl⟩
    have hbA : Builtin.Int.intBits PA ≤ 100000 := by
      rw [← hPA]
      exact Nat.le_trans (intBits_pow_le hx1 _) (by rw [Int.toNat_natCast]; omega)
    have hbB : Builtin.Int.intBits PB ≤ 100000 := by
      rw [← hPB]
      exact Nat.le_trans (intBits_pow_le hx2 _) (by omega)
    have hmC : IntMulOk PA PB := IntMulOk.of_le hbA hbB (by decide)
    have hmD : IntMulOk (q - 1) PC := IntMulOk.of_left (intBits_le_64 (by omega) (by omega))
    have hpart : partZ q x one = PC := by
      unfold partZ
      rw [← hPC, ← hPA, ← hPB, Int.toNat_natCast, show ((one.length : Int) - (othersN one : Int)).toNat = one.length - othersN one by omega]
    have hterm : termZ word q x one = if fitsL q one word then PD else - PC := by
      unfold termZ
      rw [hpart, hPD]
    k_steps
    refine unhold ?_
    rename Fr _ _ _ _ => FZ
    rename News _ _ _ _ => NZ
    refine (ctr_fits a W vo vw one word q _ (by omega) (by omega) hod hq).use B' FZ X' T' rfl Off.nil (by k_extra "M ROOM") (by k_extra "M UNITS") ⟨hlo.at fun o e => FZ.keep _ o e, hio, gw.at fun o e => FZ.keep _ o e, hwi⟩ ?_
    rintro r hA tkA FA KA rfl
    have NA := KA.news0 NZ
    clear FZ NZ KA
    k_steps
    · rename Fr _ _ _ _ => FZ
      rename News _ _ _ _ => NZ
      (repeat k_extra "M un")
      dsimp only [Post1]
      refine' End1.intro (wz + PD, ?t1) FZ NZ ?hI1 ?hl1 ?hne1 ?hk1 ?hr1 ?hp1
      case hk1 => repeat (first | exact List.forall_mem_nil _ | refine fcons (by exact Eq.refl (some _)) ?_)
      case hl1 => exact fun p hp => nomatch hp
      case hI1 => exact .head _
      case hne1 => exact fun p hp => nomatch hp
      case hr1 => k_extra "M same"
      case hp1 =>
        dsimp only
        rw [hsn, hterm, if_pos (by assumption)]
    · rename Fr _ _ _ _ => FZ
      rename News _ _ _ _ => NZ
      (repeat k_extra "M un")
      dsimp only [Post1]
      refine' End1.intro (wz - PC, ?t2) FZ NZ ?hI2 ?hl2 ?hne2 ?hk2 ?hr2 ?hp2
      case hk2 => repeat (first | exact List.forall_mem_nil _ | refine fcons (by exact Eq.refl (some _)) ?_)
      case hl2 => exact fun p hp => nomatch hp
      case hI2 => exact .head _
      case hne2 => exact fun p hp => nomatch hp
      case hr2 => k_extra "M same"
      case hp2 =>
        dsimp only
        rw [hsn, hterm, if_neg (by first | assumption | (rw [show fitsL q one word = false by assumption]; decide)), Int.sub_eq_add_neg]
  case Rd =>
    clear FZ NZ
    refine sp2 ?_
    rintro wz tz u h tk hwz FZ NZ
    dsimp only at hwz FZ NZ
    k_with_none
    k_with "M ne" => first | exact NeW.l (by with_reducible assumption) | exact NeW.r (by with_reducible assumption) | (refine neN ?_; (try dsimp only); omega)
    k_with "M bits" => first | with_reducible assumption | exact bits_pow2 (by omega)
    k_with "M mem" => first | exact List.Mem.head _ | exact mem1 | exact mem2 | exact mem3 | exact mem4 | exact mem5 | exact mem6 | exact mem7 | exact mem8 | exact mem9 | exact mem10 | exact mem11 | exact mem12 | exact mem13
    k_with "M nw" => (try simp only [AllNw, and_true]); (try dsimp only); (repeat' constructor) <;> first | with_reducible assumption | (refine NeW.of ?_; k_ne)
    k_with "M sub2" => repeat (first | exact List.forall_mem_nil _ | refine fcons ⟨_, by k_mem⟩ ?_)
    k_with "M off" => repeat (first | exact List.forall_mem_nil _ | refine fcons (nin1 (by (try dsimp only); k_ne)) ?_)
    k_with "M sub" => repeat (first | exact List.forall_mem_nil _ | (refine fcons ?k9w ?_; (case k9w => k_mem)))
    k_with "M same" => intro z h1 h2 h3; (try dsimp only); (repeat (first | refine same_if (by first | exact h1 | exact ne_ps h2 rfl | exact ne_st h3 rfl) ?_ | exact rfl | exact same_st h3 | exact same_kst h2 h3 | refine same_k (by repeat (first | exact List.forall_mem_nil _ | refine fcons (by first | exact h1 | exact ne_ps h2 rfl | exact ne_st h3 rfl) ?_)) ?_ | refine same_c (by repeat (first | exact nc_nil | refine nc_cons (by first | exact h1 | exact ne_ps h2 rfl | exact ne_st h3 rfl) ?_)) ?_))
    k_with "M ROOM" => first | omega | ktr_room | ((try dsimp only [Around.deeper, ktrTop]); omega)
    k_with "M UNITS" => first | omega | ((try dsimp only [Around.deeper, ktrTop]); omega) | ktr_units
    k_with "execs cons" => (try k_fold); with_reducible first | refine seqL ?_ | (refine seqV ?_; intro Q8 q8)
    k_with "M un" => with_reducible first | (refine seqVN (s := s1) (by assumption) ?_; intro tk8; try clear q8 Q8) | (refine seqVN (s := s) (by assumption) ?_; intro tk8; try clear q8 Q8) | refine seqVR (by assumption) ?_ | refine seqVM (by assumption) ?_ | refine seqVB (by assumption) ?_ | refine seqVC (by assumption) ?_
    k_with "eval Name" => k_here; k_dflt (refine' nameX_L ?k9F ?k9v ?_ ?k9a ?k9b; (case k9F => k_asm); (case k9a => exact Eq.refl _); (case k9b => exact Eq.refl (some NameKind.local)); (case k9v => exact Eq.refl (some _)); k_whole)
    k_with "binaryOp Pow int int" => refine' pow_eq (m := 3000) ?k9rb ?k9rc ?k9rd ?k9re ?k9rf ?_; (case k9rb => with_reducible assumption); (case k9rc => omega); (case k9rd => omega); (case k9re => assumption); (case k9rf => decide)
    k_with "binaryOp Mult int int" => refine' mul_eq ?k9rb ?k9rc ?_; (case k9rb => with_reducible assumption); (case k9rc => with_reducible assumption)
    k_steps
    all_goals (try dsimp only)
    rw [gr.1, List.take_length] at hwz
    (repeat k_extra "M un")
    refine (done_of (hret _ _ _ (hFr _ (hKeep _ _ _ (by assumption))) (hKeep _ _ _ (by assumption)) (int_post hwz)))
end

section
theorem hush_C_idm : True := by
  k_with_none
  w_top off
  trivial
theorem rules_C_idm_0 : True := by
  k_with "M ne" => first | exact NeW.l (by with_reducible assumption) | exact NeW.r (by with_reducible assumption) | (refine neN ?_; (try dsimp only); omega)
  k_with "M bits" => first | with_reducible assumption | exact bits_pow2 (by omega)
  k_with "M mem" => first | exact List.Mem.head _ | exact mem1 | exact mem2 | exact mem3 | exact mem4 | exact mem5 | exact mem6 | exact mem7 | exact mem8 | exact mem9 | exact mem10 | exact mem11 | exact mem12 | exact mem13
  trivial

theorem neg_fdiv {c b : Int} (hb : 0 < b) : Int.fdiv (-1 - c) b = -1 - Int.fdiv c b ∧ Int.fmod (-1 - c) b = b - 1 - Int.fmod c b := by
  have f := fdiv_fmod_facts c b
  have g := f.2.2.1 hb
  have := fdivmod_of (x := -1 - c) (y := b) (q := -1 - Int.fdiv c b) (r := b - 1 - Int.fmod c b) hb (by have := f.1; rw [Int.sub_mul]; omega) (by omega) (by omega)
  exact ⟨this.1.symm, this.2.symm⟩
theorem fdivmod_neg (a b : Int) : Int.fdiv a (-b) = Int.fdiv (-a) b ∧ Int.fmod a (-b) = -Int.fmod (-a) b := by
  have e : Int.fdiv a (-b) = Int.fdiv (-a) b := by
    have := Int.neg_fdiv_neg (-a) b
    rw [Int.neg_neg] at this
    exact this
  refine ⟨e, ?_⟩
  rw [Int.fmod_def, Int.fmod_def, e, Int.neg_mul]
  omega

theorem enterR_C_idm_0 : True := by
  k_with_none
  k_with "M ne" => first | exact NeW.l (by with_reducible assumption) | exact NeW.r (by with_reducible assumption) | (refine neN ?_; (try dsimp only); omega)
  k_with "M bits" => first | with_reducible assumption | exact bits_pow2 (by omega)
  k_with "M mem" => first | exact List.Mem.head _ | exact mem1 | exact mem2 | exact mem3 | exact mem4 | exact mem5 | exact mem6 | exact mem7 | exact mem8 | exact mem9 | exact mem10 | exact mem11 | exact mem12 | exact mem13
  k_with "M nw" => (try simp only [AllNw, and_true]); (try dsimp only); (repeat' constructor) <;> first | with_reducible assumption | (refine NeW.of ?_; k_ne)
  k_with "M sub2" => repeat (first | exact List.forall_mem_nil _ | refine fcons ⟨_, by k_mem⟩ ?_)
  k_with "M off" => repeat (first | exact List.forall_mem_nil _ | refine fcons (nin1 (by (try dsimp only); k_ne)) ?_)
  k_with "M sub" => repeat (first | exact List.forall_mem_nil _ | (refine fcons ?k9w ?_; (case k9w => k_mem)))
  k_with "subscriptTail Name Slice ref ref" => refine' slice_all_led ?k9F ?k9N ?k9l ?k9z ?k9p ?k9q ?_ ?k9s ?k9t; (case k9F => k_asm); (case k9N => k_asm); (case k9l => k_mem); (case k9z => omega); (case k9p => kmk_part); (case k9q => kmk_part); (case k9s => with_unfolding_all rfl); (case k9t => kmk_pure); intro k9D k9h k9F k9N k9l1; (try k_lt k9l1); (try k_sweep)
  k_with "M same" => intro z h1 h2 h3; (try dsimp only); (repeat (first | refine same_if (by first | exact h1 | exact ne_ps h2 rfl | exact ne_st h3 rfl) ?_ | exact rfl | exact same_st h3 | exact same_kst h2 h3 | refine same_k (by repeat (first | exact List.forall_mem_nil _ | refine fcons (by first | exact h1 | exact ne_ps h2 rfl | exact ne_st h3 rfl) ?_)) ?_ | refine same_c (by repeat (first | exact nc_nil | refine nc_cons (by first | exact h1 | exact ne_ps h2 rfl | exact ne_st h3 rfl) ?_)) ?_))
  k_with "call builtin:list.append" => refine' append_led ?k9la ?k9lb ?k9lc ?k9ld ?_; (case k9la => k_asm); (case k9lb => k_asm); (case k9lc => k_upd); (case k9ld => omega); intro k9h k9F k9N; (try k_sweep)
  k_with "call builtin:list.reverse" => refine' reverse_led ?k9la ?k9lb ?k9lc ?k9ld ?_; (case k9la => k_asm); (case k9lb => k_asm); (case k9lc => k_upd); (case k9ld => omega); intro k9h k9F k9N; (try k_sweep)
  k_with "binaryOp LShift int int" => refine' lshift_bits ?k9la ?k9lb ?k9lc ?k9ld ?_; (case k9la => omega); (case k9lb => omega); (case k9lc => bits_by_make); (case k9ld => decide)
  k_with "inplaceOp LShift int int" => refine' ilshift_bits ?k9la ?k9lb ?k9lc ?k9ld ?_; (case k9la => omega); (case k9lb => omega); (case k9lc => bits_by_make); (case k9ld => decide)
  k_with "M ROOM" => first | omega | ktr_room | ((try dsimp only [Around.deeper, ktrTop]); omega)
  k_with "M UNITS" => first | omega | ((try dsimp only [Around.deeper, ktrTop]); omega) | ktr_units
  k_with "execs cons" => (try k_fold); with_reducible first | refine seqL ?_ | (refine seqV ?_; intro Q8 q8)
  k_with "M un" => with_reducible first | (refine seqVN (s := s1) (by assumption) ?_; intro tk8; try clear q8 Q8) | (refine seqVN (s := s) (by assumption) ?_; intro tk8; try clear q8 Q8) | refine seqVR (by assumption) ?_ | refine seqVM (by assumption) ?_ | refine seqVB (by assumption) ?_ | refine seqVC (by assumption) ?_
  k_with "eval Name" => k_here; k_dflt (refine' nameX_L ?k9F ?k9v ?_ ?k9a ?k9b; (case k9F => k_asm); (case k9a => exact Eq.refl _); (case k9b => exact Eq.refl (some NameKind.local)); (case k9v => exact Eq.refl (some _)); k_whole)
  k_with "M ENTER" => (
    unfold Ctr PR
    k_fill
    intro dp un gd cn cs aF ccd clF outer A₀ base h₀ L mF s Q E B F X T hke hOff hdp hun hPre hret
    first
    | (refine' enter B F X T hke hOff ?hz ?k6 ?k7 ?k8 ?k9 ?kB ?c5 ?c2 ?c3 ?c4 ?_
       (case k6 => exact (X.keeps F.keep) _ _ (by k_is))
       (case k7 => exact codeRec_of (X.keeps F.keep) (by k_is))
       (case hz => first | exact (fun _ h => absurd h List.not_mem_nil) | k_extra "M HZ")
       (case k8 => omega)
       (case k9 => first | exact BindsTo.of_eq rfl | exact binds_K (by k_in) rfl (by k_is) rfl rfl rfl | exact (fun M A E Q hq Γ p _ => wp_of_peek (X.keeps F.keep) hq _ (by rfl)) | fail "k_enter: no rule for these arguments")
       (case kB => exact locs rfl)
       (case c5 => decide)
       (case c2 => exact rfl)
       (case c3 => exact rfl)
       (case c4 => exact rfl)
       intro g h₁ F' hk1 hFr hKeep hg hOff' B' X' T' en7 Ar7 Qf7 Ef7
       have N' : News g s.heap.objs.size h₁ [] := News.nil
       have hNew := new_of hg
       try dsimp only
       clear B F X T hke hOff)
    | (refine' enterC B F X T hke hOff ?hz ?k6 ?k7 ?k8 ?k9 ?kB ?kD ?c2 ?c3 ?c4 ?_
       (case k6 => exact (X.keeps F.keep) _ _ (by k_is))
       (case k7 => exact codeRec_of (X.keeps F.keep) (by k_is))
       (case hz => first | exact (fun _ h => absurd h List.not_mem_nil) | k_extra "M HZ")
       (case k8 => omega)
       (case k9 => first | exact BindsTo.of_eq rfl | exact binds_K (by k_in) rfl (by k_is) rfl rfl rfl | exact (fun M A E Q hq Γ p _ => wp_of_peek (X.keeps F.keep) hq _ (by rfl)) | fail "k_enter: no rule for these arguments")
       (case kB => exact rfl)
       (case kD => decide +kernel)
       (case c2 => exact rfl)
       (case c3 => exact rfl)
       (case c4 => exact rfl)
       intro g h₁ tk' cells' F' N' Y' hk1 hFr hKeep hg hOff' B' X' T' en7 Ar7 Qf7 Ef7
       first
       | (obtain ⟨oc1, hE', dc1⟩ := CellsAre.one Y'; subst hE')
       | (obtain ⟨oc1, oc2, hE', dc1, dc2⟩ := CellsAre.two Y'; subst hE')
       | (obtain ⟨oc1, oc2, oc3, hE', dc1, dc2, dc3⟩ := CellsAre.three Y'; subst hE')
       | (obtain ⟨oc1, oc2, oc3, oc4, hE', dc1, dc2, dc3, dc4⟩ := CellsAre.four Y'; subst hE')
       clear Y'
       (try simp only [List.cons_append, List.nil_append] at N')
       have hNew := new_of hg
       try dsimp only
       clear B F X T hke hOff)
    )
  trivial
set_option maxHeartbeats 8000000 in
theorem ctr_idm_pp {w : World} {p : Program} {loose : List Str} {mean : ExcName → Option Value} {mg mb : Str → Option Value} (a b : Int) (n : Nat) (ta tb : Tok) (cA cB : Addr) (ha : 0 < a) (hb : 0 < b) (hn : n = Builtin.Int.intBits b) (hn1 : 1 ≤ n) (hn2 : n ≤ 5800) (hab : Builtin.Int.intBits a ≤ 90000) (hkn : (Builtin.Int.intBits a + n - 1) / n < 100) :
    Ctr w (hd.heap_1 w.params) p loose mean mg mb 63 150 [44, 37] [.int a ta, .int b tb] (fun h => Hit cA cB h) (fun r h h' => Pair (Int.fdiv a b) (Int.fmod a b) r h h' ∧ Hit cA cB h') := by
  have hbm : Builtin.Int.intBits b ≤ 5800 := by omega
  k_with "M HZ" => (exact hPre.lt)
  k_extra "M ENTER"
  refine byG fun G9 hG9 => ?_
  obtain ⟨cB2, cA2⟩ := hPre.codes hg
  obtain ⟨hP, hP2, hCB, hCA⟩ := hPre
  refine hG9 ?_
  clear hG9 G9
  have h44 : 44 < s.heap.objs.size := Heap.lt_size hP
  have o44 := hOff' 44 (.head _)
  have o37 := hOff' 37 (.tail _ (.head _))
  have N2 := News.cons (News.one (hk1 _ _ hP2) o37) (hk1 _ _ hP) o44
  have OFF : Off [(44 : Addr), 37] g s.heap.objs.size := hOff'
  clear hg N' hCB hCA hP hP2
  k_with "call ref" => (refine hold ?_)
  k_steps
  all_goals (try (exfalso; omega))
  all_goals (try dsimp only)
  refine unhold ?_
  rename Fr _ _ _ _ => FZ
  rename News _ _ _ _ => NZ

  refine (ctr_dp a b n _ _ cA cB ha hb hn hn1 hn2 hab hkn).use B' FZ X' T' rfl OFF (by k_extra "M ROOM") (by k_extra "M UNITS") ⟨(NZ _ (.head _)).1, (NZ _ (.tail _ (.head _))).1, cB2.keeps FZ.keep, cA2.keeps FZ.keep⟩ ?_
  rintro r hA tkA FA KA hp95
  refine byG fun G9 hG9 => ?_
  obtain ⟨⟨u1, u2, t9, rfl, hm⟩, e44, e37, CB, CA⟩ := hp95
  refine hG9 ?_
  clear hG9 G9
  have NA := hm.news FZ (News.cons (News.one e37 o37) e44 o44)
  have lA := hm.ne NZ
  simp only [AllNe, and_true] at lA
  clear FZ NZ hm KA

  (repeat k_extra "M un")
  refine done_of (hret _ _ _ (hFr _ (hKeep _ _ _ (by assumption))) (hKeep _ _ _ (by assumption)) ?_)
  rename Fr _ _ _ _ => FZ
  rename News _ _ _ _ => NZ
  exact ⟨⟨_, _, _, rfl, MadeAt.of hNew NZ (.head _) (nin2 (neN (by omega)) (neN (by omega)))⟩, (NZ _ (.tail _ (.head _))).1, (NZ _ (.tail _ (.tail _ (.head _)))).1, cB2.keeps FZ.keep, cA2.keeps FZ.keep⟩

theorem enterR_C_idm_1 : True := by
  k_with_none
  k_with "M ne" => first | exact NeW.l (by with_reducible assumption) | exact NeW.r (by with_reducible assumption) | (refine neN ?_; (try dsimp only); omega)
  k_with "M bits" => first | with_reducible assumption | exact bits_pow2 (by omega)
  k_with "M mem" => first | exact List.Mem.head _ | exact mem1 | exact mem2 | exact mem3 | exact mem4 | exact mem5 | exact mem6 | exact mem7 | exact mem8 | exact mem9 | exact mem10 | exact mem11 | exact mem12 | exact mem13
  k_with "M nw" => (try simp only [AllNw, and_true]); (try dsimp only); (repeat' constructor) <;> first | with_reducible assumption | (refine NeW.of ?_; k_ne)
  k_with "M sub2" => repeat (first | exact List.forall_mem_nil _ | refine fcons ⟨_, by k_mem⟩ ?_)
  k_with "M off" => repeat (first | exact List.forall_mem_nil _ | refine fcons (nin1 (by (try dsimp only); k_ne)) ?_)
  k_with "M sub" => repeat (first | exact List.forall_mem_nil _ | (refine fcons ?k9w ?_; (case k9w => k_mem)))
  k_with "subscriptTail Name Slice ref ref" => refine' slice_all_led ?k9F ?k9N ?k9l ?k9z ?k9p ?k9q ?_ ?k9s ?k9t; (case k9F => k_asm); (case k9N => k_asm); (case k9l => k_mem); (case k9z => omega); (case k9p => kmk_part); (case k9q => kmk_part); (case k9s => with_unfolding_all rfl); (case k9t => kmk_pure); intro k9D k9h k9F k9N k9l1; (try k_lt k9l1); (try k_sweep)
  k_with "M same" => intro z h1 h2 h3; (try dsimp only); (repeat (first | refine same_if (by first | exact h1 | exact ne_ps h2 rfl | exact ne_st h3 rfl) ?_ | exact rfl | exact same_st h3 | exact same_kst h2 h3 | refine same_k (by repeat (first | exact List.forall_mem_nil _ | refine fcons (by first | exact h1 | exact ne_ps h2 rfl | exact ne_st h3 rfl) ?_)) ?_ | refine same_c (by repeat (first | exact nc_nil | refine nc_cons (by first | exact h1 | exact ne_ps h2 rfl | exact ne_st h3 rfl) ?_)) ?_))
  k_with "call builtin:list.append" => refine' append_led ?k9la ?k9lb ?k9lc ?k9ld ?_; (case k9la => k_asm); (case k9lb => k_asm); (case k9lc => k_upd); (case k9ld => omega); intro k9h k9F k9N; (try k_sweep)
  k_with "call builtin:list.reverse" => refine' reverse_led ?k9la ?k9lb ?k9lc ?k9ld ?_; (case k9la => k_asm); (case k9lb => k_asm); (case k9lc => k_upd); (case k9ld => omega); intro k9h k9F k9N; (try k_sweep)
  k_with "binaryOp LShift int int" => refine' lshift_bits ?k9la ?k9lb ?k9lc ?k9ld ?_; (case k9la => omega); (case k9lb => omega); (case k9lc => bits_by_make); (case k9ld => decide)
  k_with "inplaceOp LShift int int" => refine' ilshift_bits ?k9la ?k9lb ?k9lc ?k9ld ?_; (case k9la => omega); (case k9lb => omega); (case k9lc => bits_by_make); (case k9ld => decide)
  k_with "M ROOM" => first | omega | ktr_room | ((try dsimp only [Around.deeper, ktrTop]); omega)
  k_with "M UNITS" => first | omega | ((try dsimp only [Around.deeper, ktrTop]); omega) | ktr_units
  k_with "execs cons" => (try k_fold); with_reducible first | refine seqL ?_ | (refine seqV ?_; intro Q8 q8)
  k_with "M un" => with_reducible first | (refine seqVN (s := s1) (by assumption) ?_; intro tk8; try clear q8 Q8) | (refine seqVN (s := s) (by assumption) ?_; intro tk8; try clear q8 Q8) | refine seqVR (by assumption) ?_ | refine seqVM (by assumption) ?_ | refine seqVB (by assumption) ?_ | refine seqVC (by assumption) ?_
  k_with "eval Name" => k_here; k_dflt (refine' nameX_L ?k9F ?k9v ?_ ?k9a ?k9b; (case k9F => k_asm); (case k9a => exact Eq.refl _); (case k9b => exact Eq.refl (some NameKind.local)); (case k9v => exact Eq.refl (some _)); k_whole)
  k_with "M ENTER" => (
    unfold Ctr PR
    k_fill
    intro dp un gd cn cs aF ccd clF outer A₀ base h₀ L mF s Q E B F X T hke hOff hdp hun hPre hret
    first
    | (refine' enter B F X T hke hOff ?hz ?k6 ?k7 ?k8 ?k9 ?kB ?c5 ?c2 ?c3 ?c4 ?_
       (case k6 => exact (X.keeps F.keep) _ _ (by k_is))
       (case k7 => exact codeRec_of (X.keeps F.keep) (by k_is))
       (case hz => first | exact (fun _ h => absurd h List.not_mem_nil) | k_extra "M HZ")
       (case k8 => omega)
       (case k9 => first | exact BindsTo.of_eq rfl | exact binds_K (by k_in) rfl (by k_is) rfl rfl rfl | exact (fun M A E Q hq Γ p _ => wp_of_peek (X.keeps F.keep) hq _ (by rfl)) | fail "k_enter: no rule for these arguments")
       (case kB => exact locs rfl)
       (case c5 => decide)
       (case c2 => exact rfl)
       (case c3 => exact rfl)
       (case c4 => exact rfl)
       intro g h₁ F' hk1 hFr hKeep hg hOff' B' X' T' en7 Ar7 Qf7 Ef7
       have N' : News g s.heap.objs.size h₁ [] := News.nil
       have hNew := new_of hg
       try dsimp only
       clear B F X T hke hOff)
    | (refine' enterC B F X T hke hOff ?hz ?k6 ?k7 ?k8 ?k9 ?kB ?kD ?c2 ?c3 ?c4 ?_
       (case k6 => exact (X.keeps F.keep) _ _ (by k_is))
       (case k7 => exact codeRec_of (X.keeps F.keep) (by k_is))
       (case hz => first | exact (fun _ h => absurd h List.not_mem_nil) | k_extra "M HZ")
       (case k8 => omega)
       (case k9 => first | exact BindsTo.of_eq rfl | exact binds_K (by k_in) rfl (by k_is) rfl rfl rfl | exact (fun M A E Q hq Γ p _ => wp_of_peek (X.keeps F.keep) hq _ (by rfl)) | fail "k_enter: no rule for these arguments")
       (case kB => exact rfl)
       (case kD => decide +kernel)
       (case c2 => exact rfl)
       (case c3 => exact rfl)
       (case c4 => exact rfl)
       intro g h₁ tk' cells' F' N' Y' hk1 hFr hKeep hg hOff' B' X' T' en7 Ar7 Qf7 Ef7
       first
       | (obtain ⟨oc1, hE', dc1⟩ := CellsAre.one Y'; subst hE')
       | (obtain ⟨oc1, oc2, hE', dc1, dc2⟩ := CellsAre.two Y'; subst hE')
       | (obtain ⟨oc1, oc2, oc3, hE', dc1, dc2, dc3⟩ := CellsAre.three Y'; subst hE')
       | (obtain ⟨oc1, oc2, oc3, oc4, hE', dc1, dc2, dc3, dc4⟩ := CellsAre.four Y'; subst hE')
       clear Y'
       (try simp only [List.cons_append, List.nil_append] at N')
       have hNew := new_of hg
       try dsimp only
       clear B F X T hke hOff)
    )
  trivial
set_option maxHeartbeats 8000000 in
theorem ctr_idm_np {w : World} {p : Program} {loose : List Str} {mean : ExcName → Option Value} {mg mb : Str → Option Value} (a b : Int) (n : Nat) (ta tb : Tok) (cA cB : Addr) (ha : 0 < a) (hb : 0 < b) (hn : n = Builtin.Int.intBits b) (hn1 : 1 ≤ n) (hn2 : n ≤ 5800) (hab : Builtin.Int.intBits a ≤ 90000) (hkn : (Builtin.Int.intBits a + n - 1) / n < 100) :
    Ctr w (hd.heap_1 w.params) p loose mean mg mb 63 160 [44, 37] [.int (-1 - a) ta, .int b tb] (fun h => Hit cA cB h) (fun r h h' => Pair (Int.fdiv (-1 - a) b) (Int.fmod (-1 - a) b) r h h' ∧ Hit cA cB h') := by
  have hbm : Builtin.Int.intBits b ≤ 5800 := by omega
  have hb4 : Builtin.Int.intBits b ≤ 100000 := by omega
  have hmm : Builtin.Int.intBits (-1 - a) ≤ 100000 := by
    refine bits_mono (k := 90001) ?_ (by decide)
    have h1 := intBits_le_iff.mp hab
    refine intBits_le_iff.mpr ?_
    have h2 : 2 ^ 90001 = 2 * 2 ^ 90000 := Nat.pow_succ' ..
    omega
  k_with "M HZ" => (exact hPre.lt)
  k_extra "M ENTER"
  refine byG fun G9 hG9 => ?_
  obtain ⟨cB2, cA2⟩ := hPre.codes hg
  obtain ⟨hP, hP2, hCB, hCA⟩ := hPre
  refine hG9 ?_
  clear hG9 G9
  have h44 : 44 < s.heap.objs.size := Heap.lt_size hP
  have o44 := hOff' 44 (.head _)
  have o37 := hOff' 37 (.tail _ (.head _))
  have N2 := News.cons (News.one (hk1 _ _ hP2) o37) (hk1 _ _ hP) o44
  have OFF : Off [(44 : Addr), 37] g s.heap.objs.size := hOff'
  clear hg N' hCB hCA hP hP2
  k_with "call ref" => (refine hold ?_)
  k_steps
  all_goals (try (exfalso; omega))
  all_goals (try dsimp only)
  refine unhold ?_
  rename Fr _ _ _ _ => FZ
  rename News _ _ _ _ => NZ

  rw [show Builtin.bitNot (-1 - a) = a by unfold Builtin.bitNot; omega]
  refine (ctr_idm_pp a b n _ _ cA cB ha hb hn hn1 hn2 hab hkn).use B' FZ X' T' rfl OFF (by k_extra "M ROOM") (by k_extra "M UNITS") ⟨(NZ _ (.head _)).1, (NZ _ (.tail _ (.head _))).1, cB2.keeps FZ.keep, cA2.keeps FZ.keep⟩ ?_
  rintro r hA tkA FA KA hp95
  refine byG fun G9 hG9 => ?_
  obtain ⟨⟨u1, u2, t9, rfl, hm⟩, e44, e37, CB, CA⟩ := hp95
  refine hG9 ?_
  clear hG9 G9
  have NA := hm.news FZ (News.cons (News.one e37 o37) e44 o44)
  have lA := hm.ne NZ
  simp only [AllNe, and_true] at lA
  clear FZ NZ hm KA

  have hz := neg_fdiv (c := a) hb
  k_steps
  all_goals (try (exfalso; omega))
  all_goals (try dsimp only)
  (repeat k_extra "M un")
  refine done_of (hret _ _ _ (hFr _ (hKeep _ _ _ (by assumption))) (hKeep _ _ _ (by assumption)) ?_)
  rename Fr _ _ _ _ => FZ
  rename News _ _ _ _ => NZ

  rw [show Builtin.bitNot (Int.fdiv a b) = Int.fdiv (-1 - a) b by unfold Builtin.bitNot; omega, show b + Builtin.bitNot (Int.fmod a b) = Int.fmod (-1 - a) b by unfold Builtin.bitNot; omega] at NZ
  exact ⟨⟨_, _, _, rfl, MadeAt.of hNew NZ (.head _) (nin2 (neN (by omega)) (neN (by omega)))⟩, (NZ _ (.tail _ (.tail _ (.head _)))).1, (NZ _ (.tail _ (.tail _ (.tail _ (.head _))))).1, cB2.keeps FZ.keep, cA2.keeps FZ.keep⟩

theorem enterR_C_idm_2 : True := by
  k_with_none
  k_with "M ne" => first | exact NeW.l (by with_reducible assumption) | exact NeW.r (by with_reducible assumption) | (refine neN ?_; (try dsimp only); omega)
  k_with "M bits" => first | with_reducible assumption | exact bits_pow2 (by omega)
  k_with "M mem" => first | exact List.Mem.head _ | exact mem1 | exact mem2 | exact mem3 | exact mem4 | exact mem5 | exact mem6 | exact mem7 | exact mem8 | exact mem9 | exact mem10 | exact mem11 | exact mem12 | exact mem13
  k_with "M nw" => (try simp only [AllNw, and_true]); (try dsimp only); (repeat' constructor) <;> first | with_reducible assumption | (refine NeW.of ?_; k_ne)
  k_with "M sub2" => repeat (first | exact List.forall_mem_nil _ | refine fcons ⟨_, by k_mem⟩ ?_)
  k_with "M off" => repeat (first | exact List.forall_mem_nil _ | refine fcons (nin1 (by (try dsimp only); k_ne)) ?_)
  k_with "M sub" => repeat (first | exact List.forall_mem_nil _ | (refine fcons ?k9w ?_; (case k9w => k_mem)))
  k_with "subscriptTail Name Slice ref ref" => refine' slice_all_led ?k9F ?k9N ?k9l ?k9z ?k9p ?k9q ?_ ?k9s ?k9t; (case k9F => k_asm); (case k9N => k_asm); (case k9l => k_mem); (case k9z => omega); (case k9p => kmk_part); (case k9q => kmk_part); (case k9s => with_unfolding_all rfl); (case k9t => kmk_pure); intro k9D k9h k9F k9N k9l1; (try k_lt k9l1); (try k_sweep)
  k_with "M same" => intro z h1 h2 h3; (try dsimp only); (repeat (first | refine same_if (by first | exact h1 | exact ne_ps h2 rfl | exact ne_st h3 rfl) ?_ | exact rfl | exact same_st h3 | exact same_kst h2 h3 | refine same_k (by repeat (first | exact List.forall_mem_nil _ | refine fcons (by first | exact h1 | exact ne_ps h2 rfl | exact ne_st h3 rfl) ?_)) ?_ | refine same_c (by repeat (first | exact nc_nil | refine nc_cons (by first | exact h1 | exact ne_ps h2 rfl | exact ne_st h3 rfl) ?_)) ?_))
  k_with "call builtin:list.append" => refine' append_led ?k9la ?k9lb ?k9lc ?k9ld ?_; (case k9la => k_asm); (case k9lb => k_asm); (case k9lc => k_upd); (case k9ld => omega); intro k9h k9F k9N; (try k_sweep)
  k_with "call builtin:list.reverse" => refine' reverse_led ?k9la ?k9lb ?k9lc ?k9ld ?_; (case k9la => k_asm); (case k9lb => k_asm); (case k9lc => k_upd); (case k9ld => omega); intro k9h k9F k9N; (try k_sweep)
  k_with "binaryOp LShift int int" => refine' lshift_bits ?k9la ?k9lb ?k9lc ?k9ld ?_; (case k9la => omega); (case k9lb => omega); (case k9lc => bits_by_make); (case k9ld => decide)
  k_with "inplaceOp LShift int int" => refine' ilshift_bits ?k9la ?k9lb ?k9lc ?k9ld ?_; (case k9la => omega); (case k9lb => omega); (case k9lc => bits_by_make); (case k9ld => decide)
  k_with "M ROOM" => first | omega | ktr_room | ((try dsimp only [Around.deeper, ktrTop]); omega)
  k_with "M UNITS" => first | omega | ((try dsimp only [Around.deeper, ktrTop]); omega) | ktr_units
  k_with "execs cons" => (try k_fold); with_reducible first | refine seqL ?_ | (refine seqV ?_; intro Q8 q8)
  k_with "M un" => with_reducible first | (refine seqVN (s := s1) (by assumption) ?_; intro tk8; try clear q8 Q8) | (refine seqVN (s := s) (by assumption) ?_; intro tk8; try clear q8 Q8) | refine seqVR (by assumption) ?_ | refine seqVM (by assumption) ?_ | refine seqVB (by assumption) ?_ | refine seqVC (by assumption) ?_
  k_with "eval Name" => k_here; k_dflt (refine' nameX_L ?k9F ?k9v ?_ ?k9a ?k9b; (case k9F => k_asm); (case k9a => exact Eq.refl _); (case k9b => exact Eq.refl (some NameKind.local)); (case k9v => exact Eq.refl (some _)); k_whole)
  k_with "M ENTER" => (
    unfold Ctr PR
    k_fill
    intro dp un gd cn cs aF ccd clF outer A₀ base h₀ L mF s Q E B F X T hke hOff hdp hun hPre hret
    first
    | (refine' enter B F X T hke hOff ?hz ?k6 ?k7 ?k8 ?k9 ?kB ?c5 ?c2 ?c3 ?c4 ?_
       (case k6 => exact (X.keeps F.keep) _ _ (by k_is))
       (case k7 => exact codeRec_of (X.keeps F.keep) (by k_is))
       (case hz => first | exact (fun _ h => absurd h List.not_mem_nil) | k_extra "M HZ")
       (case k8 => omega)
       (case k9 => first | exact BindsTo.of_eq rfl | exact binds_K (by k_in) rfl (by k_is) rfl rfl rfl | exact (fun M A E Q hq Γ p _ => wp_of_peek (X.keeps F.keep) hq _ (by rfl)) | fail "k_enter: no rule for these arguments")
       (case kB => exact locs rfl)
       (case c5 => decide)
       (case c2 => exact rfl)
       (case c3 => exact rfl)
       (case c4 => exact rfl)
       intro g h₁ F' hk1 hFr hKeep hg hOff' B' X' T' en7 Ar7 Qf7 Ef7
       have N' : News g s.heap.objs.size h₁ [] := News.nil
       have hNew := new_of hg
       try dsimp only
       clear B F X T hke hOff)
    | (refine' enterC B F X T hke hOff ?hz ?k6 ?k7 ?k8 ?k9 ?kB ?kD ?c2 ?c3 ?c4 ?_
       (case k6 => exact (X.keeps F.keep) _ _ (by k_is))
       (case k7 => exact codeRec_of (X.keeps F.keep) (by k_is))
       (case hz => first | exact (fun _ h => absurd h List.not_mem_nil) | k_extra "M HZ")
       (case k8 => omega)
       (case k9 => first | exact BindsTo.of_eq rfl | exact binds_K (by k_in) rfl (by k_is) rfl rfl rfl | exact (fun M A E Q hq Γ p _ => wp_of_peek (X.keeps F.keep) hq _ (by rfl)) | fail "k_enter: no rule for these arguments")
       (case kB => exact rfl)
       (case kD => decide +kernel)
       (case c2 => exact rfl)
       (case c3 => exact rfl)
       (case c4 => exact rfl)
       intro g h₁ tk' cells' F' N' Y' hk1 hFr hKeep hg hOff' B' X' T' en7 Ar7 Qf7 Ef7
       first
       | (obtain ⟨oc1, hE', dc1⟩ := CellsAre.one Y'; subst hE')
       | (obtain ⟨oc1, oc2, hE', dc1, dc2⟩ := CellsAre.two Y'; subst hE')
       | (obtain ⟨oc1, oc2, oc3, hE', dc1, dc2, dc3⟩ := CellsAre.three Y'; subst hE')
       | (obtain ⟨oc1, oc2, oc3, oc4, hE', dc1, dc2, dc3, dc4⟩ := CellsAre.four Y'; subst hE')
       clear Y'
       (try simp only [List.cons_append, List.nil_append] at N')
       have hNew := new_of hg
       try dsimp only
       clear B F X T hke hOff)
    )
  trivial
set_option maxHeartbeats 8000000 in
theorem ctr_idm_xn {w : World} {p : Program} {loose : List Str} {mean : ExcName → Option Value} {mg mb : Str → Option Value} (a b : Int) (n : Nat) (ta tb : Tok) (cA cB : Addr) (ha : 0 < a) (hb : 0 < b) (hn : n = Builtin.Int.intBits b) (hn1 : 1 ≤ n) (hn2 : n ≤ 5800) (hab : Builtin.Int.intBits a ≤ 90000) (hkn : (Builtin.Int.intBits a + n - 1) / n < 100) :
    Ctr w (hd.heap_1 w.params) p loose mean mg mb 63 170 [44, 37] [.int (a + 1) ta, .int (-b) tb] (fun h => Hit cA cB h) (fun r h h' => Pair (Int.fdiv (a + 1) (-b)) (Int.fmod (a + 1) (-b)) r h h' ∧ Hit cA cB h') := by
  have hbm : Builtin.Int.intBits b ≤ 5800 := by omega
  k_with "M HZ" => (exact hPre.lt)
  k_extra "M ENTER"
  refine byG fun G9 hG9 => ?_
  obtain ⟨cB2, cA2⟩ := hPre.codes hg
  obtain ⟨hP, hP2, hCB, hCA⟩ := hPre
  refine hG9 ?_
  clear hG9 G9
  have h44 : 44 < s.heap.objs.size := Heap.lt_size hP
  have o44 := hOff' 44 (.head _)
  have o37 := hOff' 37 (.tail _ (.head _))
  have N2 := News.cons (News.one (hk1 _ _ hP2) o37) (hk1 _ _ hP) o44
  have OFF : Off [(44 : Addr), 37] g s.heap.objs.size := hOff'
  clear hg N' hCB hCA hP hP2
  k_with "call ref" => (refine hold ?_)
  k_steps
  all_goals (try (exfalso; omega))
  all_goals (try dsimp only)
  refine unhold ?_
  rename Fr _ _ _ _ => FZ
  rename News _ _ _ _ => NZ

  rw [show - - b = b by omega, show -(a + 1) = -1 - a by omega]
  refine (ctr_idm_np a b n _ _ cA cB ha hb hn hn1 hn2 hab hkn).use B' FZ X' T' rfl OFF (by k_extra "M ROOM") (by k_extra "M UNITS") ⟨(NZ _ (.head _)).1, (NZ _ (.tail _ (.head _))).1, cB2.keeps FZ.keep, cA2.keeps FZ.keep⟩ ?_
  rintro r hA tkA FA KA hp95
  refine byG fun G9 hG9 => ?_
  obtain ⟨⟨u1, u2, t9, rfl, hm⟩, e44, e37, CB, CA⟩ := hp95
  refine hG9 ?_
  clear hG9 G9
  have NA := hm.news FZ (News.cons (News.one e37 o37) e44 o44)
  have lA := hm.ne NZ
  simp only [AllNe, and_true] at lA
  clear FZ NZ hm KA

  have hz := fdivmod_neg (a + 1) b
  rw [show -(a + 1) = -1 - a by omega] at hz
  k_steps
  all_goals (try (exfalso; omega))
  all_goals (try dsimp only)
  (repeat k_extra "M un")
  refine done_of (hret _ _ _ (hFr _ (hKeep _ _ _ (by assumption))) (hKeep _ _ _ (by assumption)) ?_)
  rename Fr _ _ _ _ => FZ
  rename News _ _ _ _ => NZ

  rw [← hz.1, ← hz.2] at NZ
  exact ⟨⟨_, _, _, rfl, MadeAt.of hNew NZ (.head _) (nin2 (neN (by omega)) (neN (by omega)))⟩, (NZ _ (.tail _ (.tail _ (.head _)))).1, (NZ _ (.tail _ (.tail _ (.tail _ (.head _))))).1, cB2.keeps FZ.keep, cA2.keeps FZ.keep⟩
end

section
theorem hush_M12 : True := by
  k_with_none
  w_top off
  trivial
/-- a word's lowest n figures to the base q -/
noncomputable def wordZ (q : Int) (n : Nat) (x : Int) : List Int := (List.range n).map fun (k : Nat) => Int.fmod (Int.fdiv x (q ^ k)) q
noncomputable def seedZ (script : List Int) (i : Nat) : Int := [(13 : Int), 21, 1, 9].getD i 0 + (script ++ [0, 0, 0, 0]).getD i 0
/-- refs to lists that stand among the rows -/
noncomputable def Linked (refs : List Value) (rows : List (Addr × Obj)) (ml : List (List Int)) : Prop :=
  refs.length = ml.length ∧ ∀ (i : Nat) (one : List Int), ml[i]? = some one → ∃ a v k, refs[i]? = some (.ref a) ∧ (a, W.listOf (List.toArray v) k) ∈ rows ∧ IntsAre v one
theorem Linked.nil {rows : List (Addr × Obj)} : Linked [] rows [] := ⟨rfl, fun i one h => by simp at h⟩
theorem Linked.snoc {refs : List Value} {rows : List (Addr × Obj)} {ml : List (List Int)} (x : Linked refs rows ml) {a : Addr} {v : List Value} {k : Nat} {one : List Int} (h : IntsAre v one) :
    Linked (refs ++ [.ref a]) ((a, W.listOf (List.toArray v) k) :: rows) (ml ++ [one]) := by
  refine ⟨by simp [x.1], fun i o hi => ?_⟩
  by_cases hlt : i < ml.length
  · rw [List.getElem?_append_left hlt] at hi
    obtain ⟨b, v', k', h1, h2, h3⟩ := x.2 i o hi
    exact ⟨b, v', k', by rw [List.getElem?_append_left (by rw [x.1]; exact hlt)]; exact h1, .tail _ h2, h3⟩
  · rw [List.getElem?_append_right (by omega)] at hi
    have e : i - ml.length = 0 := by
      have := (List.getElem?_eq_some_iff.mp hi).1
      simp at this; omega
    rw [e] at hi
    cases hi
    exact ⟨a, v, k, by rw [List.getElem?_append_right (by rw [x.1]; omega), x.1, e]; rfl, .head _, h⟩
theorem with_law {h₀ h : Heap} {L a b5 b4 b3 b2 b1 : Addr} {oa o5 o4 o3 o2 o1 : Obj} {rest : List (Addr × Obj)} (_N : News h₀ L h ((a, oa) :: (b5, o5) :: (b4, o4) :: (b3, o3) :: (b2, o2) :: (b1, o1) :: rest)) {G : Prop}
    (k : ∀ a' o5' o4' o3' o2' o1', a' = a → o5' = o5 → o4' = o4 → o3' = o3 → o2' = o2 → o1' = o1 → G) : G := k _ _ _ _ _ _ rfl rfl rfl rfl rfl rfl
theorem pow_small {q : Int} (hq : 2 ≤ q ∧ q ≤ 3) {k : Nat} (hk : k ≤ 3) : (0 : Int) < q ^ k ∧ q ^ k ≤ 27 := by
  have e : q = 2 ∨ q = 3 := by omega
  have e2 : k = 0 ∨ k = 1 ∨ k = 2 ∨ k = 3 := by omega
  rcases e with rfl | rfl <;> rcases e2 with rfl | rfl | rfl | rfl <;> decide
theorem nwOfOff {D : Addr} : ∀ {l : List (Addr × Obj)}, LCg.Off1 D l → AllNw D l
  | [], _ => trivial
  | _ :: _, h => ⟨h.1, nwOfOff h.2⟩
theorem Linked.four {refs : List Value} {rows : List (Addr × Obj)} {f : Nat → List Int} (x : Linked refs rows ((List.range 4).map f)) :
    ∃ a0 a1 a2 a3 v0 v1 v2 v3 k0 k1 k2 k3, refs = [.ref a0, .ref a1, .ref a2, .ref a3] ∧ (a0, W.listOf (List.toArray v0) k0) ∈ rows ∧ (a1, W.listOf (List.toArray v1) k1) ∈ rows ∧ (a2, W.listOf (List.toArray v2) k2) ∈ rows ∧ (a3, W.listOf (List.toArray v3) k3) ∈ rows
      ∧ IntsAre v0 (f 0) ∧ IntsAre v1 (f 1) ∧ IntsAre v2 (f 2) ∧ IntsAre v3 (f 3) := by
  obtain ⟨hl, h⟩ := x
  have hl : refs.length = 4 := by simpa using hl
  obtain ⟨a0, v0, k0, e0, m0, i0⟩ := h 0 (f 0) rfl
  obtain ⟨a1, v1, k1, e1, m1, i1⟩ := h 1 (f 1) rfl
  obtain ⟨a2, v2, k2, e2, m2, i2⟩ := h 2 (f 2) rfl
  obtain ⟨a3, v3, k3, e3, m3, i3⟩ := h 3 (f 3) rfl
  refine ⟨a0, a1, a2, a3, v0, v1, v2, v3, k0, k1, k2, k3, ?_, m0, m1, m2, m3, i0, i1, i2, i3⟩
  refine List.ext_getElem? fun i => ?_
  rcases i with _ | _ | _ | _ | i
  · exact e0
  · exact e1
  · exact e2
  · exact e3
  · rw [List.getElem?_eq_none (by omega)]; rfl
theorem News.nwd {h₀ h : Heap} {L a b : Addr} {oa ob : Obj} {news : List (Addr × Obj)} (N : News h₀ L h news) (ha : (a, oa) ∈ news) (hb : (b, ob) ∈ news) (hc : oa.data ≠ ob.data) : NeW a b := fun e => by
  have h1 := (N _ ha).1
  have h2 := (N _ hb).1
  obtain rfl : a = b := e
  rw [h1] at h2
  cases h2
  exact hc rfl
theorem News.add {h₀ h : Heap} {L a : Addr} {o : Obj} {news rows : List (Addr × Obj)} (N : News h₀ L h news) (hr : ∀ p ∈ rows, p ∈ news) (hm : (a, o) ∈ rows) {l : List (Addr × Obj)} (M : News h₀ L h l) : News h₀ L h ((a, o) :: l) := fun p hp => by
  rcases List.mem_cons.mp hp with rfl | hp
  · exact N _ (hr _ hm)
  · exact M p hp
theorem wordZ_len (q : Int) (n : Nat) (x : Int) : (wordZ q n x).length = n := by unfold wordZ; rw [List.length_map, List.length_range]
theorem cell_seq {o : Obj} (h : ∃ v, o.data = Data.cell v) {its : Array Value} {k : Nat} : o.data ≠ (W.listOf its k).data := fun e => by
  obtain ⟨v, hv⟩ := h
  rw [hv] at e
  cases e
end

section
theorem hush_M13 : True := by
  k_with_none
  w_top off
  trivial
/-- the n figures of a code's number -/
noncomputable def figZ (n : Nat) (x : Int) : List Int := (List.range n).map fun (i : Nat) => x / 2 ^ (2 * i) % 2 ^ 2
theorem figZ_len (n : Nat) (x : Int) : (figZ n x).length = n := by unfold figZ; rw [List.length_map, List.length_range]
theorem d2i_get (k : Nat) : ∀ (ds : List Int), (∀ d ∈ ds, 0 ≤ d ∧ d < 2 ^ k) → ∀ i : Nat, d2i k ds / 2 ^ (k * i) % 2 ^ k = ds.getD i 0
  | [], _, i => by simp [d2i]
  | d :: ds, h, 0 => by
    have h1 := h d (.head _)
    rw [d2i, Nat.mul_zero, Int.pow_zero, Int.ediv_one, Int.add_mul_emod_self_left, Int.emod_eq_of_lt h1.1 h1.2]
    rfl
  | d :: ds, h, i + 1 => by
    have h1 := h d (.head _)
    have hP := two_pow_posI k
    rw [Nat.mul_succ, Nat.add_comm, Int.pow_add, ← Int.ediv_ediv_of_nonneg (Int.le_of_lt hP), d2i, Int.add_mul_ediv_left _ _ (Int.ne_of_gt hP), Int.ediv_eq_zero_of_lt h1.1 h1.2, Int.zero_add, d2i_get k ds (fun x hx => h x (.tail _ hx)) i]
    rfl
/-- a number whose n figures are below q -/
noncomputable def FigOk (q : Int) (n : Nat) (x : Int) : Prop := ∀ d ∈ figZ n x, 0 ≤ d ∧ d < q
theorem figOk_zero {q : Int} (hq : 2 ≤ q) (n : Nat) : FigOk q n 0 := by
  intro d hd
  obtain ⟨i, _, rfl⟩ := List.mem_map.mp hd
  simp
  omega
theorem figOk_new {q : Int} (hq : 2 ≤ q ∧ q ≤ 3) {n : Nat} {w : List Int} {x t : Int} : FigOk q n (newOf q w x t) := by
  intro d hd
  obtain ⟨i, _, rfl⟩ := List.mem_map.mp hd
  have hb : ∀ y ∈ ((List.range w.length).map fun (i : Nat) => Int.fmod (x / 2 ^ (2 * i) % 2 ^ 2 + t * w.getD i 0) q), 0 ≤ y ∧ y < q := by
    intro y hy
    obtain ⟨j, _, rfl⟩ := List.mem_map.mp hy
    exact (fdiv_fmod_facts (x / 2 ^ (2 * j) % 2 ^ 2 + t * w.getD j 0) q).2.2.1 (by omega)
  have hb4 : ∀ y ∈ ((List.range w.length).map fun (i : Nat) => Int.fmod (x / 2 ^ (2 * i) % 2 ^ 2 + t * w.getD i 0) q), 0 ≤ y ∧ y < 2 ^ 2 := fun y hy => by
    have := hb y hy
    have e : (2 : Int) ^ 2 = 4 := rfl
    omega
  unfold newOf
  rw [d2i_get 2 _ hb4 i, List.getD_eq_getElem?_getD]
  cases e : ((List.range w.length).map fun (i : Nat) => Int.fmod (x / 2 ^ (2 * i) % 2 ^ 2 + t * w.getD i 0) q)[i]? with
  | none => simp; omega
  | some y => exact hb y (List.mem_of_getElem? e)
theorem insU_mem {ns : List Int} {x y : Int} (h : y ∈ insU ns x) : y = x ∨ y ∈ ns := by
  unfold insU at h
  split at h
  · exact .inr h
  · exact ins_mem h
theorem loopT_fig {q : Int} (hq : 2 ≤ q ∧ q ≤ 3) {n : Nat} {w : List Int} {x : Int} {ns : List Int} (h : ∀ y ∈ ns, FigOk q n y) : ∀ k : Nat, ∀ y ∈ loopT q w x ns k, FigOk q n y
  | 0, y, hy => h y hy
  | k + 1, y, hy => by
    rw [loopT_succ] at hy
    rcases insU_mem hy with rfl | hy
    · exact figOk_new hq
    · exact loopT_fig hq h k y hy
theorem loopN_fig {q : Int} (hq : 2 ≤ q ∧ q ≤ 3) {n : Nat} {w : List Int} : ∀ (nums ns : List Int), (∀ y ∈ ns, FigOk q n y) → ∀ y ∈ loopN q w nums ns, FigOk q n y
  | [], ns, h => h
  | x :: nums, ns, h => loopN_fig hq nums _ (loopT_fig hq h _)
theorem codeL_fig {q : Int} (hq : 2 ≤ q ∧ q ≤ 3) {n : Nat} {w0 w1 : List Int} : ∀ y ∈ codeL q w0 w1, FigOk q n y := by
  have h0 : ∀ y ∈ loopN q w0 [0] [0], FigOk q n y := loopN_fig hq _ _ fun y hy => by rw [List.mem_singleton.mp hy]; exact figOk_zero hq.1 n
  exact loopN_fig hq _ _ h0
theorem loopT_keep {q : Int} (hq : 2 ≤ q ∧ q ≤ 3) {w : List Int} (hw : w.length ≤ 4) {x : Int} {ns : List Int} {m : Nat} (h : (∀ y ∈ ns, 0 ≤ y ∧ y < 256) ∧ ns.length ≤ m) : ∀ k : Nat, (∀ y ∈ loopT q w x ns k, 0 ≤ y ∧ y < 256) ∧ (loopT q w x ns k).length ≤ m + k
  | 0 => h
  | k + 1 => by
    have ih := loopT_keep hq hw (x := x) h k
    rw [loopT_succ]
    refine ⟨fun y hy => ?_, ?_⟩
    · rcases insU_mem hy with rfl | hy
      · exact newOf_bnd hq hw
      · exact ih.1 y hy
    · unfold insU
      have := ih.2
      split
      · omega
      · simp; omega
theorem loopN_keep {q : Int} (hq : 2 ≤ q ∧ q ≤ 3) {w : List Int} (hw : w.length ≤ 4) : ∀ (nums ns : List Int) (m : Nat), ((∀ y ∈ ns, 0 ≤ y ∧ y < 256) ∧ ns.length ≤ m) → (∀ y ∈ loopN q w nums ns, 0 ≤ y ∧ y < 256) ∧ (loopN q w nums ns).length ≤ m + 2 * nums.length
  | [], ns, m, h => h
  | x :: nums, ns, m, h => by
    have h1 := loopT_keep hq hw (x := x) h (q.toNat - 1)
    have := loopN_keep hq hw nums _ (m + 2) ⟨h1.1, by have := h1.2; omega⟩
    rw [List.length_cons, show loopN q w (x :: nums) ns = loopN q w nums (loopT q w x ns (q.toNat - 1)) from rfl]
    exact ⟨this.1, by have := this.2; omega⟩
theorem codeL_keep {q : Int} (hq : 2 ≤ q ∧ q ≤ 3) {w0 w1 : List Int} (h0 : w0.length ≤ 4) (h1 : w1.length ≤ 4) : (∀ y ∈ codeL q w0 w1, 0 ≤ y ∧ y < 256) ∧ (codeL q w0 w1).length ≤ 9 := by
  have a := loopN_keep hq h0 [0] [0] 1 ⟨fun y hy => by rw [List.mem_singleton.mp hy]; decide, Nat.le_refl _⟩
  have b := loopN_keep hq h1 (loopN q w0 [0] [0]) (loopN q w0 [0] [0]) 3 a
  have a2 : (loopN q w0 [0] [0]).length ≤ 3 := a.2
  refine ⟨b.1, ?_⟩
  have b2 : (loopN q w1 (loopN q w0 [0] [0]) (loopN q w0 [0] [0])).length ≤ 3 + 2 * (loopN q w0 [0] [0]).length := b.2
  show (loopN q w1 (loopN q w0 [0] [0]) (loopN q w0 [0] [0])).length ≤ 9
  omega
theorem i2d_take {x : Int} (h0 : 0 ≤ x) (h1 : x < 256) {n : Nat} (hn : n ≤ 4) : (i2d 2 ((Builtin.Int.intBits x + 2 - 1) / 2) x ++ [0, 0, 0, 0]).take n = figZ n x := by
  apply List.ext_getElem?
  intro i
  unfold figZ
  rw [List.getElem?_map]
  by_cases hi : i < n
  · rw [List.getElem?_take_of_lt hi, old_get h0 (lt_pow_digits (by decide) h0 rfl) (by omega), List.getElem?_range hi]
    rfl
  · rw [List.getElem?_eq_none (by simp; omega), List.getElem?_eq_none (by simp; omega)]
    rfl
set_option maxHeartbeats 8000000 in
theorem ctr_textq {w : World} {p : Program} {loose : List Str} {mean : ExcName → Option Value} {mg mb : Str → Option Value} (l : Addr) (v : List Value) (aa : List Int) (q : Int) (tx : Tok) (n : Nat) (hq : 2 ≤ q ∧ q ≤ 3) (hn : (n : Int) = 6 - q) (hlen : aa.length = n) (hb : ∀ d ∈ aa, 0 ≤ d ∧ d < q) :
    Ctr w (hd.heap_1 w.params) p loose mean mg mb 175 1 [] [.ref l, .int q tx] (fun h => h.IsList l v.toArray ∧ IntsAre v aa) (fun r _ _ => ∃ t, r = .str (textOf q aa) t) := by
  have hg : ∀ i, 0 ≤ aa.getD i 0 ∧ aa.getD i 0 < q := fun i => by
    rw [List.getD_eq_getElem?_getD]
    cases e : aa[i]? with
    | none => simp; omega
    | some d => exact hb d (List.mem_of_getElem? e)
  have e : q = 2 ∨ q = 3 := by omega
  rcases e with rfl | rfl
  · exact ctr_text2 l v aa tx (by omega) hg
  · exact ctr_text3 l v aa tx (by omega) hg
theorem wordZ_low {q : Int} (hq : 2 ≤ q ∧ q ≤ 3) {n : Nat} {x : Int} : ∀ d ∈ wordZ q n x, 0 ≤ d ∧ d < q := by
  intro d hd
  obtain ⟨i, _, rfl⟩ := List.mem_map.mp hd
  exact (fdiv_fmod_facts (Int.fdiv x (q ^ i)) q).2.2.1 (by omega)
end

section
theorem hush_M14 : True := by
  k_with_none
  w_top off
  trivial
theorem code_tabA {q : Str} {o : Obj} (h : CodeObj q o) {c : Addr} : o.data ≠ (tabObj (tripA c)).data := fun e => by
  obtain ⟨vs, t, e1, e2⟩ := h
  rw [e1] at e
  cases e
  cases e2
theorem code_tabB {q : Str} {o : Obj} (h : CodeObj q o) {c : Addr} : o.data ≠ (tabObj (tripB c)).data := fun e => by
  obtain ⟨vs, t, e1, e2⟩ := h
  rw [e1] at e
  cases e
  cases e2
theorem cell_code {o oc : Obj} (h : ∃ v, o.data = Data.cell v) {q : Str} (hc : CodeObj q oc) : o.data ≠ oc.data := fun e => by
  obtain ⟨v, hv⟩ := h
  obtain ⟨vs, t, e1, e2⟩ := hc
  rw [hv, e1] at e
  cases e
end

section
theorem hush_LawX : True := by
  k_with_none
  w_top off
  trivial
noncomputable def lawO (P : Params) : { o : Obj // (hd.heap_1 P).lookup 202 = some o } := by
  refine ⟨?o, ?h⟩
  case h => exact rfl
noncomputable def lawB (P : Params) : List Stmt := match (lawO P).1.data with | .func fd => (match fd.body with | .stmts b => b | _ => []) | _ => []
noncomputable def lawS (P : Params) : Scope := match (lawO P).1.data with | .func fd => fd.scope | _ => { kind := .function, names := [], isGenerator := false, isCoroutine := false }
noncomputable def lawN (P : Params) : Str := match (lawO P).1.data with | .func fd => fd.name | _ => Str.ofString ""
noncomputable def lawEnv (P : Params) (SZ fa : Addr) (cd : Value) : Env := envOfC (Str.ofString "law") (lawS P) SZ fa cd
noncomputable abbrev lawA (P : Params) (SZ fa : Addr) (cd : Value) : Around := callerA.deeper (lawEnv P SZ fa cd)
section
variable {M : Model} {A : Around} {env : Env} {E : Value → Shared → Prop} {s : Shared} {xs ys : List Stmt} {Q : Flow → Shared → Prop}
theorem execs_append (C : Shared → Prop) (h1 : wpAny M A (execs xs env) (Fin C) E s) (h2 : ∀ s', C s' → wpAny M A (execs ys env) Q E s') : wpAny M A (execs (xs ++ ys) env) Q E s := by
  intro Γ p hΓ
  have key : ∀ (xs : List Stmt) (p : Pos) (s : Shared), Sem.wp M Γ (execs xs env) (fun f _ s' => Fin C f s') (fun e _ s' => E e s') p s → Sem.wp M Γ (execs (xs ++ ys) env) (fun a _ s' => Q a s') (fun e _ s' => E e s') p s := by
    intro xs
    induction xs with
    | nil => exact fun p s h => h2 _ h.2 Γ p hΓ
    | cons st xs ih =>
      intro p s h
      rw [execs_cons, Sem.wp_bind'] at h
      rw [List.cons_append, execs_cons, Sem.wp_bind']
      refine Sem.wp_mono M Γ _ (fun f p' s' h' => ?_) (fun _ _ _ h' => h') _ _ h
      cases f with
      | next => exact ih _ _ h'
      | _ => exact absurd h'.1 (by intro e; cases e)
  exact key xs p s (h1 Γ p hΓ)
end
/-- the law's walk from its statement i on -/
noncomputable def LawAt (w : World) (SZ fa : Addr) (cd : Value) (i : Nat) (Q : Flow → Shared → Prop) (E : Value → Shared → Prop) (s : Shared) : Prop :=
  wpAny (model PR w) (lawA w.params SZ fa cd) (execs ((lawB w.params).drop i) (lawEnv w.params SZ fa cd)) Q E s
noncomputable def LawPart (w : World) (SZ fa : Addr) (cd : Value) (i k : Nat) (C : Shared → Prop) (s : Shared) : Prop :=
  wpAny (model PR w) (lawA w.params SZ fa cd) (execs (((lawB w.params).drop i).take k) (lawEnv w.params SZ fa cd)) (Fin C) (fun _ _ => False) s
theorem LawAt.split {w : World} {SZ fa : Addr} {cd : Value} {i : Nat} (k : Nat) {Q : Flow → Shared → Prop} {E : Value → Shared → Prop} {s : Shared} {C : Shared → Prop} (h1 : LawPart w SZ fa cd i k C s) (h2 : ∀ s', C s' → LawAt w SZ fa cd (i + k) Q E s') : LawAt w SZ fa cd i Q E s := by
  unfold LawAt
  rw [← List.take_append_drop k ((lawB w.params).drop i), List.drop_drop]
  exact execs_append C (wpAny_mono h1 (fun _ _ h => h) fun _ _ h => h.elim) h2
end

section
local macro_rules | `(tactic| k_all) => `(tactic| with_reducible assumption)

section
theorem hush_L1 : True := by
  k_with_none
  w_top off
  trivial
set_option genSizeOf false
set_option genInjectivity false

theorem rules_L1_0 : True := by
  k_with "M ne" => first | exact NeW.l (by with_reducible assumption) | exact NeW.r (by with_reducible assumption) | (refine neN ?_; (try dsimp only); omega)
  k_with "M bits" => first | with_reducible assumption | exact bits_pow2 (by omega)
  k_with "M mem" => first | exact List.Mem.head _ | exact mem1 | exact mem2 | exact mem3 | exact mem4 | exact mem5 | exact mem6 | exact mem7 | exact mem8 | exact mem9 | exact mem10 | exact mem11 | exact mem12 | exact mem13
  k_with "M nw" => (try simp only [AllNw, and_true]); (try dsimp only); (repeat' constructor) <;> first | with_reducible assumption | (refine NeW.of ?_; k_ne)
  k_with "M sub2" => repeat (first | exact List.forall_mem_nil _ | refine fcons ⟨_, by k_mem⟩ ?_)
  k_with "M off" => repeat (first | exact List.forall_mem_nil _ | refine fcons (nin1 (by (try dsimp only); k_ne)) ?_)
  k_with "M sub" => repeat (first | exact List.forall_mem_nil _ | (refine fcons ?k9w ?_; (case k9w => k_mem)))
  k_with "subscriptTail Name Slice ref ref" => refine' slice_all_led ?k9F ?k9N ?k9l ?k9z ?k9p ?k9q ?_ ?k9s ?k9t; (case k9F => k_asm); (case k9N => k_asm); (case k9l => k_mem); (case k9z => omega); (case k9p => kmk_part); (case k9q => kmk_part); (case k9s => with_unfolding_all rfl); (case k9t => kmk_pure); intro k9D k9h k9F k9N k9l1; (try k_lt k9l1); (try k_sweep)
  k_with "M same" => intro z h1 h2 h3; (try dsimp only); (repeat (first | refine same_if (by first | exact h1 | exact ne_ps h2 rfl | exact ne_st h3 rfl) ?_ | exact rfl | exact same_st h3 | exact same_kst h2 h3 | refine same_k (by repeat (first | exact List.forall_mem_nil _ | refine fcons (by first | exact h1 | exact ne_ps h2 rfl | exact ne_st h3 rfl) ?_)) ?_ | refine same_c (by repeat (first | exact nc_nil | refine nc_cons (by first | exact h1 | exact ne_ps h2 rfl | exact ne_st h3 rfl) ?_)) ?_))
  k_with "call builtin:list.append" => refine' append_led ?k9la ?k9lb ?k9lc ?k9ld ?_; (case k9la => k_asm); (case k9lb => k_asm); (case k9lc => k_upd); (case k9ld => omega); intro k9h k9F k9N; (try k_sweep)
  k_with "call builtin:list.reverse" => refine' reverse_led ?k9la ?k9lb ?k9lc ?k9ld ?_; (case k9la => k_asm); (case k9lb => k_asm); (case k9lc => k_upd); (case k9ld => omega); intro k9h k9F k9N; (try k_sweep)
  k_with "binaryOp LShift int int" => refine' lshift_bits ?k9la ?k9lb ?k9lc ?k9ld ?_; (case k9la => omega); (case k9lb => omega); (case k9lc => bits_by_make); (case k9ld => decide)
  k_with "inplaceOp LShift int int" => refine' ilshift_bits ?k9la ?k9lb ?k9lc ?k9ld ?_; (case k9la => omega); (case k9lb => omega); (case k9lc => bits_by_make); (case k9ld => decide)
  k_with "M ROOM" => first | omega | ktr_room | ((try dsimp only [Around.deeper, ktrTop]); omega)
  k_with "M UNITS" => first | omega | ((try dsimp only [Around.deeper, ktrTop]); omega) | ktr_units
  k_with "execs cons" => (try k_fold); with_reducible first | refine seqL ?_ | (refine seqV ?_; intro Q8 q8)
  k_with "M un" => with_reducible first | (refine seqVN (s := s1) (by assumption) ?_; intro tk8; try clear q8 Q8) | (refine seqVN (s := s) (by assumption) ?_; intro tk8; try clear q8 Q8) | refine seqVR (by assumption) ?_ | refine seqVM (by assumption) ?_ | refine seqVB (by assumption) ?_ | refine seqVC (by assumption) ?_
  k_with "eval Name" => k_here; k_dflt (refine' nameX_L ?k9F ?k9v ?_ ?k9a ?k9b; (case k9F => k_asm); (case k9a => exact Eq.refl _); (case k9b => exact Eq.refl (some NameKind.local)); (case k9v => exact Eq.refl (some _)); k_whole)
  k_with "M off2" => repeat (first | exact List.forall_mem_nil _ | refine fcons (nin2 (by (try dsimp only); k_ne) (by (try dsimp only); k_ne)) ?_)
  k_with "L OPEN" => dsimp only [lawA, lawEnv, lawB, lawS, lawO, List.drop, List.take]
  trivial
structure WdSt2 where
  refs : List Value
  k : Nat
  oX : Obj
  rows : List (Addr × Obj)
/-- what stands when the words stand -/
inductive CA (g : Heap) (SZ : Addr) (s1 : Shared) (script : List Int) (q : Int) (n : Nat) (s' : Shared) : Prop
  | mk (W0 : _) (k : _) (refs : _) (o5 : _) (o4 : _) (oX : _) (o2 : _) (o1 : _) (rows : _) (tt : _) (tq : _) (tn : _) (h9x0 : At g SZ s1 [(Str.ofString "total", .int script.sum tt), (Str.ofString "words", .ref W0)] ((W0, W.listOf (List.toArray refs) k) :: (SZ + 1 + 1 + 1 + 1 + 1, o5) :: (SZ + 1 + 1 + 1 + 1, o4) :: (SZ + 1 + 1 + 1, oX) :: (SZ + 1 + 1, o2) :: (SZ + 1, o1) :: (44, tabObj #[]) :: (37, tabObj #[]) :: rows) s') (h9x1 : Linked refs rows ((List.range 4).map fun i => wordZ q n (seedZ script i))) (h9x2 : (∃ v, oX.data = Data.cell v)) (h9x3 : (∃ v, o4.data = Data.cell v)) (h9x4 : (∃ v, o5.data = Data.cell v)) (h9x5 : o1.data = Data.cell (some (.int q tq))) (h9x6 : o2.data = Data.cell (some (.int (n : Int) tn))) : CA g SZ s1 script q n s'
set_option maxHeartbeats 8000000 in
theorem st_A {w : World} {p9 : Program} {lo9 : List Str} {me9 : ExcName → Option Value} {mg9 mb9 : Str → Option Value} {g base : Heap} {SZ : Nat} {fa : Addr} {cd : Value} {s1 : Shared} (KB : Below callerA base [] g) (XK : (hd.heap_1 w.params).In g) (TK : Top p9 lo9 me9 mg9 mb9 g) {Sl : Addr} {vs : List Value} {script : List Int} {o5 o4 o3 o2 o1 : Obj} {q : Int} {n : Nat} (gl : g.IsList Sl vs.toArray) (hscr : IntsAre vs script) (hsl : script.length ≤ 63) (hq : q = 3 - Int.fmod script.sum 2) (hn : (n : Int) = 6 - q)
    (h44 : 44 < SZ) (h37 : 37 < SZ) (d5 : o5.data = Data.cell none) (d4 : o4.data = Data.cell none) (d3 : o3.data = Data.cell none) (d2 : o2.data = Data.cell none) (d1 : o1.data = Data.cell none) {s' : Shared}
    (h0 : At g SZ s1 [(Str.ofString "script", .ref Sl)] [(SZ + 1 + 1 + 1 + 1 + 1, o5), (SZ + 1 + 1 + 1 + 1, o4), (SZ + 1 + 1 + 1, o3), (SZ + 1 + 1, o2), (SZ + 1, o1), (44, tabObj #[]), (37, tabObj #[])] s') :
    LawPart w SZ fa cd 0 5 (CA g SZ s1 script q n) s' := by
  unfold LawPart PR
  revert XK
  k_fill
  intro XK
  refine byG fun G9 hG9 => ?_
  obtain ⟨h, tk, m', rfl, FZ, NZ⟩ := h0
  refine hG9 ?_
  clear hG9 G9
  simp only [kstF_cons, kstF_nil] at FZ
  k_extra "L OPEN"
  have hq2 : 2 ≤ q ∧ q ≤ 3 := by have := (fdiv_fmod_facts script.sum 2).2.2.1 (by decide); omega
  have hn4 : 3 ≤ n ∧ n ≤ 4 := by omega
  k_with "exec For Name Name cons nil" => (refine hold ?_)
  k_with "exec For Name Call cons nil" => (refine hold ?_)
  k_with "exec For Name Subscript cons nil" => (refine hold ?_)
  k_steps
  refine unhold ?_
  rename Obj.data _ = Data.cell (some (Value.int (6 - _) _)) => dn
  rename Obj.data _ = Data.cell (some (Value.int (3 - _) _)) => dq
  rw [← hq] at dq dn
  rw [← hn] at dn
  rename Fr _ _ _ _ => FZ
  rename News _ _ _ _ => NZ
  refine with_law NZ fun W0 o5' o4' o3' o2' o1' e1 e2 e3 e4 e5 e6 => ?_
  subst e1 e2 e3 e4 e5 e6
  have hd3 : ∃ v, o3'.data = Data.cell v := ⟨_, d3⟩
  refine cutW (fun s' => ∃ k refs oX rows tt, At g SZ s1 [(Str.ofString "total", .int script.sum tt), (Str.ofString "words", .ref W0)] ((W0, W.listOf (List.toArray refs) k) :: (SZ + 1 + 1 + 1 + 1 + 1, o5') :: (SZ + 1 + 1 + 1 + 1, o4') :: (SZ + 1 + 1 + 1, oX) :: (SZ + 1 + 1, o2') :: (SZ + 1, o1') :: (44, tabObj #[]) :: (37, tabObj #[]) :: rows) s'
      ∧ Linked refs rows ((List.range 4).map fun i => wordZ q n (seedZ script i)) ∧ (∃ v, oX.data = Data.cell v)) ?_ ?_
  · refine for_local FZ rfl rfl (by intro _; rfl) (by passes_own) ?_
    k_with "M pyIter" => (refine hold ?_)
    k_steps
    refine unhold ?_
    rename Fr _ _ _ _ => FZ
    rename News _ _ _ _ => NZ
    rename IsRange _ _ _ _ _ _ _ _ => hrng
    refine' loop_range (σ := WdSt2) (h₀ := g) (n := 4) (fun c => (W0, W.listOf (List.toArray c.refs) c.k) :: (SZ + 1 + 1 + 1 + 1 + 1, o5') :: (SZ + 1 + 1 + 1 + 1, o4') :: (SZ + 1 + 1 + 1, c.oX) :: (SZ + 1 + 1, o2') :: (SZ + 1, o1') :: (44, tabObj #[]) :: (37, tabObj #[]) :: c.rows) (fun _ => []) []
      (fun i c => Linked c.refs c.rows ((List.range i).map fun i => wordZ q n (seedZ script i)) ∧ (∃ v, c.oX.data = Data.cell v) ∧ (∀ p ∈ c.rows, p.1 ≠ W0) ∧ (∀ p ∈ c.rows, p.1 ≠ SZ + 1 + 1 + 1)) ⟨[], 0, o3', []⟩ ?Rh ?Rr ?Rs ?Rz ?RF ?RN ?Rk ?Rp ?Rt ?Rd
    case RF => exact FZ
    case Rr => exact hrng
    case Rk => exact fun p hp => nomatch hp
    case RN => exact News.sub NZ (by k_extra "M sub")
    case Rh => rfl
    case Rs => decide
    case Rz => rfl
    case Rp => exact ⟨Linked.nil, hd3, (fun p hp => nomatch hp), (fun p hp => nomatch hp)⟩
    case Rt =>
      clear FZ NZ hrng hd3
      rintro ⟨refs, k, oX, rows⟩ i t u h tk I oI hi hp99 hIne FZ NZ
      refine byG fun G9 hG9 => ?_
      obtain ⟨hlk, ⟨vX, dX⟩, hr1, hr2⟩ := hp99
      refine hG9 ?_
      clear hG9 G9
      dsimp only at hlk dX hr1 hr2 hIne FZ NZ
      have hn1 := allNw_of hIne
      simp only [AllNw] at hn1
      refine byG fun G9 hG9 => ?_
      obtain ⟨y1, y2, y3, y4, y5, y6, y7, y8, y9⟩ := hn1
      refine hG9 ?_
      clear hG9 G9
      k_with "CompSrc" => (refine hold ?_)
      k_steps
      refine unhold ?_
      rename IsRange _ _ _ _ _ _ _ _ => hrng
      rename Obj.data _ = Data.cell (some (Value.int (_ + _) _)) => dx
      have hxi : List.getD [(13 : Int), 21, 1, 9] (Int.toNat (0 + (i : Int))) 0 + List.getD (script ++ [0, 0, 0, 0]) (Int.toNat (0 + (i : Int))) 0 = seedZ script i := by rw [Int.zero_add, Int.toNat_natCast]; rfl
      obtain ⟨xi, hxe⟩ : ∃ xi, xi = seedZ script i := ⟨_, rfl⟩
      rw [hxi, ← hxe] at dx
      have hzs : Builtin.Range.small 0 (n : Int) 1 = true := small_one (by omega) (by omega) (by omega) (by omega)
      have hzn : Builtin.Range.rangeSize 0 (n : Int) 1 = ((n : Nat) : Int) := rangeSize_nat _ _
      refine LCg.CompSrc.range (n := n) rfl (by assumption) (by assumption) hrng hzs hzn (by rw [sizeLine_eq]; omega) (fun g9 => comp_of (fun k v => ∃ t9, v = .int (Int.fmod (Int.fdiv xi (q ^ k)) q) t9) (fun _ nw => nw = _) ?_ ?_ rfl)
      · intro i9 v I9 oI9 C oC D9 m₂ h tk E' ys news hi9 hv hJ hC hx F N off ne
        obtain ⟨t9, rfl⟩ := hv
        subst hJ
        rw [Int.zero_add] at hx
        have hqp : (0 : Int) < q ^ i9 ∧ q ^ i9 ≤ 27 := pow_small hq2 (by omega)
        have hqe : q ^ ((i9 : Int)).toNat = q ^ i9 := by rw [Int.toNat_natCast]
        k_steps
        all_goals (try dsimp only)
        refine LCg.CompEnd.intro (by assumption) (by assumption) _ (fun p hp => hp) off trivial ⟨int_post ?_, rfl⟩
        rw [Int.toNat_natCast]
      · intro ys news hyl hys hnw D5 h tk F N off
        subst hnw
        have hS := intsAre_of n _ ys hyl hys
        have hrl : refs.length ≤ 4 := by rw [hlk.1, List.length_map, List.length_range]; omega
        have hoff := nwOfOff off
        simp only [AllNw] at hoff
        refine byG fun G9 hG9 => ?_
        obtain ⟨z1, z2, z3, z4, z5, z6, z7, z8, z9, z10, z11, z12, z13⟩ := hoff
        refine hG9 ?_
        clear hG9 G9
        k_steps
        rename Fr _ _ _ _ => FZ
        rename News _ _ _ _ => NZ
        (repeat k_extra "M un")
        dsimp only [Post1]
        refine' End1.intro ⟨refs ++ [Value.ref D5], k + 1, ?oX1, (D5, LCg.lst ys) :: rows⟩ FZ NZ ?hI1 ?hl1 ?hne1 (fun p hp => nomatch hp) ?hr1 ?hp1
        case hI1 => k_mem
        case hl1 =>
          (try dsimp only)
          k_extra "M sub"
          exact fun p hp => by repeat (first | exact hp | refine List.mem_cons_of_mem _ ?_)
        case hne1 =>
          (try dsimp only)
          refine AllNw.mem ?_
          simp only [AllNw]
          exact ⟨y1, y2, y3, y4, y5, y6, y7, y8, NeW.of z4.r, y9⟩
        case hr1 => k_extra "M same"
        case hp1 =>
          (try dsimp only)
          rw [List.range_succ, List.map_append, List.map_cons, List.map_nil, ← hxe]
          exact ⟨hlk.snoc hS, ⟨_, dx⟩, fcons z5.r hr1, fcons z8.r hr2⟩
    case Rd =>
      clear FZ NZ
      rintro ⟨refs, k, oX, rows⟩ u h tk hp94 FZ NZ
      refine byG fun G9 hG9 => ?_
      obtain ⟨hlk, dX, hr1, hr2⟩ := hp94
      refine hG9 ?_
      clear hG9 G9
      dsimp only at hlk dX FZ NZ
      refine' Fin.mk ⟨k, refs, oX, rows, _, At.of FZ NZ _, hlk, dX⟩
      all_goals (try (repeat (first | exact List.forall_mem_nil _ | refine fcons (by exact Eq.refl (some _)) ?_)))
  rintro s' hp91
  refine byG fun G9 hG9 => ?_
  obtain ⟨k, refs, oX, rows, tt, hat, hlk, dX⟩ := hp91
  refine hG9 ?_
  clear hG9 G9
  (try dsimp only)
  first | refine wpAny_execs_nil (Fin.mk ?_) | refine Fin.mk ?_
  exact ⟨W0, k, refs, o5', o4', oX, o2', o1', rows, tt, _, _, hat, hlk, dX, ⟨_, d4⟩, ⟨_, d5⟩, dq, dn⟩
end

section
theorem hush_L2 : True := by
  k_with_none
  w_top off
  trivial
set_option genSizeOf false
set_option genInjectivity false

theorem rules_L2_0 : True := by
  k_with "M ne" => first | exact NeW.l (by with_reducible assumption) | exact NeW.r (by with_reducible assumption) | (refine neN ?_; (try dsimp only); omega)
  k_with "M bits" => first | with_reducible assumption | exact bits_pow2 (by omega)
  k_with "M mem" => first | exact List.Mem.head _ | exact mem1 | exact mem2 | exact mem3 | exact mem4 | exact mem5 | exact mem6 | exact mem7 | exact mem8 | exact mem9 | exact mem10 | exact mem11 | exact mem12 | exact mem13
  k_with "M nw" => (try simp only [AllNw, and_true]); (try dsimp only); (repeat' constructor) <;> first | with_reducible assumption | (refine NeW.of ?_; k_ne)
  k_with "M sub2" => repeat (first | exact List.forall_mem_nil _ | refine fcons ⟨_, by k_mem⟩ ?_)
  k_with "M off" => repeat (first | exact List.forall_mem_nil _ | refine fcons (nin1 (by (try dsimp only); k_ne)) ?_)
  k_with "M sub" => repeat (first | exact List.forall_mem_nil _ | (refine fcons ?k9w ?_; (case k9w => k_mem)))
  k_with "subscriptTail Name Slice ref ref" => refine' slice_all_led ?k9F ?k9N ?k9l ?k9z ?k9p ?k9q ?_ ?k9s ?k9t; (case k9F => k_asm); (case k9N => k_asm); (case k9l => k_mem); (case k9z => omega); (case k9p => kmk_part); (case k9q => kmk_part); (case k9s => with_unfolding_all rfl); (case k9t => kmk_pure); intro k9D k9h k9F k9N k9l1; (try k_lt k9l1); (try k_sweep)
  k_with "M same" => intro z h1 h2 h3; (try dsimp only); (repeat (first | refine same_if (by first | exact h1 | exact ne_ps h2 rfl | exact ne_st h3 rfl) ?_ | exact rfl | exact same_st h3 | exact same_kst h2 h3 | refine same_k (by repeat (first | exact List.forall_mem_nil _ | refine fcons (by first | exact h1 | exact ne_ps h2 rfl | exact ne_st h3 rfl) ?_)) ?_ | refine same_c (by repeat (first | exact nc_nil | refine nc_cons (by first | exact h1 | exact ne_ps h2 rfl | exact ne_st h3 rfl) ?_)) ?_))
  k_with "call builtin:list.append" => refine' append_led ?k9la ?k9lb ?k9lc ?k9ld ?_; (case k9la => k_asm); (case k9lb => k_asm); (case k9lc => k_upd); (case k9ld => omega); intro k9h k9F k9N; (try k_sweep)
  k_with "call builtin:list.reverse" => refine' reverse_led ?k9la ?k9lb ?k9lc ?k9ld ?_; (case k9la => k_asm); (case k9lb => k_asm); (case k9lc => k_upd); (case k9ld => omega); intro k9h k9F k9N; (try k_sweep)
  k_with "binaryOp LShift int int" => refine' lshift_bits ?k9la ?k9lb ?k9lc ?k9ld ?_; (case k9la => omega); (case k9lb => omega); (case k9lc => bits_by_make); (case k9ld => decide)
  k_with "inplaceOp LShift int int" => refine' ilshift_bits ?k9la ?k9lb ?k9lc ?k9ld ?_; (case k9la => omega); (case k9lb => omega); (case k9lc => bits_by_make); (case k9ld => decide)
  k_with "M ROOM" => first | omega | ktr_room | ((try dsimp only [Around.deeper, ktrTop]); omega)
  k_with "M UNITS" => first | omega | ((try dsimp only [Around.deeper, ktrTop]); omega) | ktr_units
  k_with "execs cons" => (try k_fold); with_reducible first | refine seqL ?_ | (refine seqV ?_; intro Q8 q8)
  k_with "M un" => with_reducible first | (refine seqVN (s := s1) (by assumption) ?_; intro tk8; try clear q8 Q8) | (refine seqVN (s := s) (by assumption) ?_; intro tk8; try clear q8 Q8) | refine seqVR (by assumption) ?_ | refine seqVM (by assumption) ?_ | refine seqVB (by assumption) ?_ | refine seqVC (by assumption) ?_
  k_with "eval Name" => k_here; k_dflt (refine' nameX_L ?k9F ?k9v ?_ ?k9a ?k9b; (case k9F => k_asm); (case k9a => exact Eq.refl _); (case k9b => exact Eq.refl (some NameKind.local)); (case k9v => exact Eq.refl (some _)); k_whole)
  k_with "M off2" => repeat (first | exact List.forall_mem_nil _ | refine fcons (nin2 (by (try dsimp only); k_ne) (by (try dsimp only); k_ne)) ?_)
  k_with "L OPEN" => dsimp only [lawA, lawEnv, lawB, lawS, lawO, List.drop, List.take]
  trivial
structure BSt where
  W0 : Addr
  a0 : Addr
  a1 : Addr
  a2 : Addr
  a3 : Addr
  D : Addr
  cA : Addr
  cB : Addr
  k : Nat
  k0 : Nat
  k1 : Nat
  k2 : Nat
  k3 : Nat
  sp : Nat
  v0 : List Value
  v1 : List Value
  v2 : List Value
  v3 : List Value
  cv : Array Value
  oA : Obj
  oB : Obj
  o5 : Obj
  o4 : Obj
  oX : Obj
  o2 : Obj
  o1 : Obj
  tt : Tok
  tq : Tok
  tn : Tok
/-- words 2 and 3, the code's row, the tables' codes, the cells -/
noncomputable def BSt.led (c : BSt) (SZ : Nat) : List (Addr × Obj) := [(c.D, W.listOf c.cv c.sp), (c.cA, c.oA), (c.cB, c.oB), (44, tabObj (tripB c.cB)), (37, tabObj (tripA c.cA)), (c.a0, W.listOf (List.toArray c.v0) c.k0), (c.a1, W.listOf (List.toArray c.v1) c.k1), (c.a2, W.listOf (List.toArray c.v2) c.k2), (c.a3, W.listOf (List.toArray c.v3) c.k3),
  (c.W0, W.listOf (List.toArray [Value.ref c.a0, Value.ref c.a1, Value.ref c.a2, Value.ref c.a3]) c.k), (SZ + 1 + 1 + 1 + 1 + 1, c.o5), (SZ + 1 + 1 + 1 + 1, c.o4), (SZ + 1 + 1 + 1, c.oX), (SZ + 1 + 1, c.o2), (SZ + 1, c.o1)]
structure BSt.Ok (c : BSt) (script : List Int) (q : Int) (n : Nat) : Prop where
  i0 : IntsAre c.v0 (wordZ q n (seedZ script 0))
  i1 : IntsAre c.v1 (wordZ q n (seedZ script 1))
  i2 : IntsAre c.v2 (wordZ q n (seedZ script 2))
  i3 : IntsAre c.v3 (wordZ q n (seedZ script 3))
  hcv : IntsAre c.cv.toList (codeL q (wordZ q n (seedZ script 0)) (wordZ q n (seedZ script 1)))
  hcA : CodeObj qualA c.oA
  hcB : CodeObj qualB c.oB
  dX : ∃ v, c.oX.data = Data.cell v
  d4 : ∃ v, c.o4.data = Data.cell v
  d5 : ∃ v, c.o5.data = Data.cell v
  dq : c.o1.data = Data.cell (some (.int q c.tq))
  dn : c.o2.data = Data.cell (some (.int (n : Int) c.tn))
noncomputable def BSt.names (c : BSt) (script : List Int) : List (Str × Value) := [(Str.ofString "total", .int script.sum c.tt), (Str.ofString "words", .ref c.W0), (Str.ofString "code", .ref c.D)]
inductive CB (g : Heap) (SZ : Nat) (s1 : Shared) (script : List Int) (q : Int) (n : Nat) (s' : Shared) : Prop
  | mk (c : BSt) (h9x0 : At g SZ s1 (c.names script) (c.led SZ) s') (h9x1 : c.Ok script q n) : CB g SZ s1 script q n s'
set_option maxHeartbeats 8000000 in
theorem st_B {w : World} {p9 : Program} {lo9 : List Str} {me9 : ExcName → Option Value} {mg9 mb9 : Str → Option Value} {g base : Heap} {SZ : Nat} {fa : Addr} {cd : Value} {s1 : Shared} (KB : Below callerA base [] g) (XK : (hd.heap_1 w.params).In g) (TK : Top p9 lo9 me9 mg9 mb9 g) {script : List Int} {q : Int} {n : Nat} (hq2 : 2 ≤ q ∧ q ≤ 3) (hn4 : 3 ≤ n ∧ n ≤ 4) (h44 : 44 < SZ) (h37 : 37 < SZ) {s' : Shared} (h0 : CA g SZ s1 script q n s') :
    LawPart w SZ fa cd 5 1 (CB g SZ s1 script q n) s' := by
  unfold LawPart PR
  revert XK
  k_fill
  intro XK
  refine byG fun G9 hG9 => ?_
  obtain ⟨W0, k, refs, o5, o4, oX, o2, o1, rows, tt, tq, tn, ⟨h, tk, m', rfl, FZ, NZ⟩, hlk, dX, d4, d5, dq, dn⟩ := h0
  refine hG9 ?_
  clear hG9 G9
  simp only [kstF_cons, kstF_nil] at FZ
  k_extra "L OPEN"
  refine byG fun G9 hG9 => ?_
  obtain ⟨a0, a1, a2, a3, v0, v1, v2, v3, k0, k1, k2, k3, rfl, m0, m1, m2, m3, i0, i1, i2, i3⟩ := hlk.four
  refine hG9 ?_
  clear hG9 G9
  have hin : ∀ p ∈ rows, p ∈ (W0, W.listOf (List.toArray [Value.ref a0, Value.ref a1, Value.ref a2, Value.ref a3]) k) :: (SZ + 1 + 1 + 1 + 1 + 1, o5) :: (SZ + 1 + 1 + 1 + 1, o4) :: (SZ + 1 + 1 + 1, oX) :: (SZ + 1 + 1, o2) :: (SZ + 1, o1) :: (44, tabObj #[]) :: (37, tabObj #[]) :: rows :=
    fun p hp => by repeat (first | exact hp | refine List.mem_cons_of_mem _ ?_)
  have N8 := News.add NZ hin m0 (News.add NZ hin m1 (News.add NZ hin m2 (News.add NZ hin m3 (News.sub NZ (news' := [(W0, W.listOf (List.toArray [Value.ref a0, Value.ref a1, Value.ref a2, Value.ref a3]) k), (SZ + 1 + 1 + 1 + 1 + 1, o5), (SZ + 1 + 1 + 1 + 1, o4), (SZ + 1 + 1 + 1, oX), (SZ + 1 + 1, o2), (SZ + 1, o1), (44, tabObj #[]), (37, tabObj #[])]) (by k_extra "M sub")))))
  have oT : ∀ a ∈ [(44 : Addr), 37], g.get? a = none ∧ a ≠ SZ := fcons ⟨(NZ (44, _) (by k_mem)).2.2, (NZ (44, _) (by k_mem)).2.1⟩ (fcons ⟨(NZ (37, _) (by k_mem)).2.2, (NZ (37, _) (by k_mem)).2.1⟩ (List.forall_mem_nil _))
  clear NZ hlk m0 m1 m2 m3 hin
  k_with "subscriptTail Name Slice ref ref" => (refine hold ?_)
  k_with "call ref" => (refine hold ?_)
  k_steps
  refine unhold ?_
  refine' slice_upto_led (t := 0) (n := 2) ?zF ?zN ?zl ?zz ?zp ?zq ?_ ?zs ?zt
  case zF => k_asm
  case zN => k_asm
  case zl => k_mem
  case zz => exact (by decide : (4 : Nat) ≤ 100000)
  case zp => kmk_part
  case zq => kmk_part
  case zs => rfl
  case zt => intro _; rfl
  intro D2 h2 F2 N2 l2
  k_lt l2
  rw [show List.take 2 [Value.ref a0, Value.ref a1, Value.ref a2, Value.ref a3] = [Value.ref a0, Value.ref a1] from rfl] at N2
  k_steps
  refine unhold ?_
  rename Fr _ _ _ _ => FZ
  rename News _ _ _ _ => NZ
  refine (ctr_code D2 a0 a1 v0 v1 (wordZ q n (seedZ script 0)) (wordZ q n (seedZ script 1)) q _ n hq2 hn4.2 (by omega) (wordZ_len _ _ _) (wordZ_len _ _ _)).use KB FZ XK TK rfl oT (by k_extra "M ROOM") (by k_extra "M UNITS") ⟨(NZ (44, _) (by k_mem)).1, (NZ (37, _) (by k_mem)).1, ⟨_, (NZ (D2, _) (by k_mem)).1, rfl, _, rfl⟩, ⟨_, (NZ (a0, _) (by k_mem)).1, rfl, _, rfl⟩, ⟨_, (NZ (a1, _) (by k_mem)).1, rfl, _, rfl⟩, i0, i1⟩ ?_
  rintro r hA tkA FA KA hp95
  refine byG fun G9 hG9 => ?_
  obtain ⟨D, cv, sp, cA, oA, cB, oB, rfl, hmD, hcv, e44, e37, hmA, hmB, hcA, hcB⟩ := hp95
  refine hG9 ?_
  clear hG9 G9
  have t0 : NeW a0 44 := News.nw NZ (by k_mem) (by k_mem) (fun e => by cases e)
  have t1 : NeW a1 44 := News.nw NZ (by k_mem) (by k_mem) (fun e => by cases e)
  have t2 : NeW a2 44 := News.nw NZ (by k_mem) (by k_mem) (fun e => by cases e)
  have t3 : NeW a3 44 := News.nw NZ (by k_mem) (by k_mem) (fun e => by cases e)
  have t4 : NeW W0 44 := News.nw NZ (by k_mem) (by k_mem) (fun e => by cases e)
  have u0 : NeW a0 37 := News.nw NZ (by k_mem) (by k_mem) (fun e => by cases e)
  have u1 : NeW a1 37 := News.nw NZ (by k_mem) (by k_mem) (fun e => by cases e)
  have u2 : NeW a2 37 := News.nw NZ (by k_mem) (by k_mem) (fun e => by cases e)
  have u3 : NeW a3 37 := News.nw NZ (by k_mem) (by k_mem) (fun e => by cases e)
  have u4 : NeW W0 37 := News.nw NZ (by k_mem) (by k_mem) (fun e => by cases e)
  have NE := News.erase (News.erase (News.erase NZ 12) 11) 0
  dsimp only [List.eraseIdx] at NE
  have NR := hmD.news FZ (hmA.news FZ (hmB.news FZ (News.cons (News.cons (KA.news NE (by k_extra "M off2")) e37 (oT 37 (by decide))) e44 (oT 44 (by decide)))))
  clear FZ NZ NE KA hmD hmA hmB
  k_steps
  refine Fin.mk ⟨⟨W0, a0, a1, a2, a3, D, cA, cB, k, k0, k1, k2, k3, sp, v0, v1, v2, v3, cv, oA, oB, o5, o4, oX, o2, o1, tt, tq, tn⟩, ?_, i0, i1, i2, i3, hcv, hcA, hcB, dX, d4, d5, dq, dn⟩
  rename Fr _ _ _ _ => FZ
  rename News _ _ _ _ => NZ
  refine At.of FZ NZ ?_
  unfold BSt.names
  repeat (first | exact List.forall_mem_nil _ | refine fcons (by exact Eq.refl (some _)) ?_)
end

section
theorem hush_L3 : True := by
  k_with_none
  w_top off
  trivial
theorem rules_L3_0 : True := by
  k_with "M ne" => first | exact NeW.l (by with_reducible assumption) | exact NeW.r (by with_reducible assumption) | (refine neN ?_; (try dsimp only); omega)
  k_with "M bits" => first | with_reducible assumption | exact bits_pow2 (by omega)
  k_with "M mem" => first | exact List.Mem.head _ | exact mem1 | exact mem2 | exact mem3 | exact mem4 | exact mem5 | exact mem6 | exact mem7 | exact mem8 | exact mem9 | exact mem10 | exact mem11 | exact mem12 | exact mem13
  k_with "M nw" => (try simp only [AllNw, and_true]); (try dsimp only); (repeat' constructor) <;> first | with_reducible assumption | (refine NeW.of ?_; k_ne)
  k_with "M sub2" => repeat (first | exact List.forall_mem_nil _ | refine fcons ⟨_, by k_mem⟩ ?_)
  k_with "M off" => repeat (first | exact List.forall_mem_nil _ | refine fcons (nin1 (by (try dsimp only); k_ne)) ?_)
  k_with "M sub" => repeat (first | exact List.forall_mem_nil _ | (refine fcons ?k9w ?_; (case k9w => k_mem)))
  k_with "subscriptTail Name Slice ref ref" => refine' slice_all_led ?k9F ?k9N ?k9l ?k9z ?k9p ?k9q ?_ ?k9s ?k9t; (case k9F => k_asm); (case k9N => k_asm); (case k9l => k_mem); (case k9z => omega); (case k9p => kmk_part); (case k9q => kmk_part); (case k9s => with_unfolding_all rfl); (case k9t => kmk_pure); intro k9D k9h k9F k9N k9l1; (try k_lt k9l1); (try k_sweep)
  k_with "M same" => intro z h1 h2 h3; (try dsimp only); (repeat (first | refine same_if (by first | exact h1 | exact ne_ps h2 rfl | exact ne_st h3 rfl) ?_ | exact rfl | exact same_st h3 | exact same_kst h2 h3 | refine same_k (by repeat (first | exact List.forall_mem_nil _ | refine fcons (by first | exact h1 | exact ne_ps h2 rfl | exact ne_st h3 rfl) ?_)) ?_ | refine same_c (by repeat (first | exact nc_nil | refine nc_cons (by first | exact h1 | exact ne_ps h2 rfl | exact ne_st h3 rfl) ?_)) ?_))
  k_with "call builtin:list.append" => refine' append_led ?k9la ?k9lb ?k9lc ?k9ld ?_; (case k9la => k_asm); (case k9lb => k_asm); (case k9lc => k_upd); (case k9ld => omega); intro k9h k9F k9N; (try k_sweep)
  k_with "call builtin:list.reverse" => refine' reverse_led ?k9la ?k9lb ?k9lc ?k9ld ?_; (case k9la => k_asm); (case k9lb => k_asm); (case k9lc => k_upd); (case k9ld => omega); intro k9h k9F k9N; (try k_sweep)
  k_with "binaryOp LShift int int" => refine' lshift_bits ?k9la ?k9lb ?k9lc ?k9ld ?_; (case k9la => omega); (case k9lb => omega); (case k9lc => bits_by_make); (case k9ld => decide)
  k_with "inplaceOp LShift int int" => refine' ilshift_bits ?k9la ?k9lb ?k9lc ?k9ld ?_; (case k9la => omega); (case k9lb => omega); (case k9lc => bits_by_make); (case k9ld => decide)
  k_with "M ROOM" => first | omega | ktr_room | ((try dsimp only [Around.deeper, ktrTop]); omega)
  k_with "M UNITS" => first | omega | ((try dsimp only [Around.deeper, ktrTop]); omega) | ktr_units
  k_with "execs cons" => (try k_fold); with_reducible first | refine seqL ?_ | (refine seqV ?_; intro Q8 q8)
  k_with "M un" => with_reducible first | (refine seqVN (s := s1) (by assumption) ?_; intro tk8; try clear q8 Q8) | (refine seqVN (s := s) (by assumption) ?_; intro tk8; try clear q8 Q8) | refine seqVR (by assumption) ?_ | refine seqVM (by assumption) ?_ | refine seqVB (by assumption) ?_ | refine seqVC (by assumption) ?_
  k_with "eval Name" => k_here; k_dflt (refine' nameX_L ?k9F ?k9v ?_ ?k9a ?k9b; (case k9F => k_asm); (case k9a => exact Eq.refl _); (case k9b => exact Eq.refl (some NameKind.local)); (case k9v => exact Eq.refl (some _)); k_whole)
  k_with "M off2" => repeat (first | exact List.forall_mem_nil _ | refine fcons (nin2 (by (try dsimp only); k_ne) (by (try dsimp only); k_ne)) ?_)
  k_with "L OPEN" => dsimp only [lawA, lawEnv, lawB, lawS, lawO, List.drop, List.take]
  trivial
/-- and the code's texts -/
noncomputable def CC (g : Heap) (SZ : Nat) (s1 : Shared) (script : List Int) (q : Int) (n : Nat) (s' : Shared) : Prop := ∃ (c : BSt) (T : Addr) (tv : List Value) (kt : Nat), At g SZ s1 ((Str.ofString "texts", .ref T) :: c.names script) ((T, W.listOf (List.toArray tv) kt) :: c.led SZ) s' ∧ c.Ok script q n
  ∧ StrsH tv ((codeL q (wordZ q n (seedZ script 0)) (wordZ q n (seedZ script 1))).map fun x => textL q (figZ n x))
set_option maxHeartbeats 8000000 in
theorem st_C {w : World} {p9 : Program} {lo9 : List Str} {me9 : ExcName → Option Value} {mg9 mb9 : Str → Option Value} {g base : Heap} {SZ : Nat} {fa : Addr} {cd : Value} {s1 : Shared} (KB : Below callerA base [] g) (XK : (hd.heap_1 w.params).In g) (TK : Top p9 lo9 me9 mg9 mb9 g) {script : List Int} {q : Int} {n : Nat} (hq2 : 2 ≤ q ∧ q ≤ 3) (hn : (n : Int) = 6 - q) (h44 : 44 < SZ) (h37 : 37 < SZ) {s' : Shared} (h0 : CB g SZ s1 script q n s') :
    LawPart w SZ fa cd 6 1 (CC g SZ s1 script q n) s' := by
  unfold LawPart PR
  revert XK
  k_fill
  intro XK
  have hn4 : 3 ≤ n ∧ n ≤ 4 := by omega
  refine byG fun G9 hG9 => ?_
  obtain ⟨⟨W0, a0, a1, a2, a3, D, cA, cB, k, k0, k1, k2, k3, sp, v0, v1, v2, v3, cv, oA, oB, o5, o4, oX, o2, o1, tt, tq, tn⟩, ⟨h, tk, m', rfl, FZ, NZ⟩, hok⟩ := h0
  refine hG9 ?_
  clear hG9 G9
  have hok2 := hok
  refine byG fun G9 hG9 => ?_
  obtain ⟨i0, i1, i2, i3, hcv, hcA, hcB, dX, d4, d5, dq, dn⟩ := hok
  refine hG9 ?_
  clear hG9 G9
  unfold BSt.names at FZ
  unfold BSt.led at NZ
  simp only [kstF_cons, kstF_nil] at FZ
  dsimp only at FZ NZ i0 i1 i2 i3 hcv hcA hcB dX d4 d5 dq dn
  k_extra "L OPEN"
  have oT : ∀ a ∈ [(44 : Addr), 37], g.get? a = none ∧ a ≠ SZ := fcons ⟨(NZ (44, _) (by k_mem)).2.2, (NZ (44, _) (by k_mem)).2.1⟩ (fcons ⟨(NZ (37, _) (by k_mem)).2.2, (NZ (37, _) (by k_mem)).2.1⟩ (List.forall_mem_nil _))
  have hcD := codeL_keep hq2 (w0 := wordZ q n (seedZ script 0)) (w1 := wordZ q n (seedZ script 1)) (by rw [wordZ_len]; omega) (by rw [wordZ_len]; omega)
  have hcF := codeL_fig hq2 (n := n) (w0 := wordZ q n (seedZ script 0)) (w1 := wordZ q n (seedZ script 1))
  unfold CC
  generalize hcode : codeL q (wordZ q n (seedZ script 0)) (wordZ q n (seedZ script 1)) = code at *
  have g4 : NeW D 37 := News.nw NZ (by k_mem) (by k_mem) (fun e => by cases e)
  have g5 : NeW cA 37 := News.nwd NZ (by k_mem) (by k_mem) (code_tabA hcA)
  have g6 : NeW cB 37 := News.nwd NZ (by k_mem) (by k_mem) (code_tabA hcB)
  have u0 : NeW a0 37 := News.nw NZ (by k_mem) (by k_mem) (fun e => by cases e)
  have u1 : NeW a1 37 := News.nw NZ (by k_mem) (by k_mem) (fun e => by cases e)
  have u2 : NeW a2 37 := News.nw NZ (by k_mem) (by k_mem) (fun e => by cases e)
  have u3 : NeW a3 37 := News.nw NZ (by k_mem) (by k_mem) (fun e => by cases e)
  have u4 : NeW W0 37 := News.nw NZ (by k_mem) (by k_mem) (fun e => by cases e)
  k_with "CompSrc" => (refine hold ?_)
  k_steps
  refine unhold ?_
  have hcl := hcv.length
  have hcs : cv.size ≤ 9 := by
    have : cv.toList.length ≤ 9 := by rw [hcl]; exact hcD.2
    simpa using this
  refine LCg.CompSrc.ledger rfl (by assumption) NZ (by k_mem) (by rw [sizeLine_eq]; omega) (fun g9 => comp_of (fun i v => ∃ t9, v = .str (textOf q (figZ n (code.getD i 0))) t9) (fun _ nw => nw = _) ?_ ?_ rfl)
  · intro i9 v I9 oI9 C oC D9 m₂ h tk E' ys news hi9 hv hJ hC hx F N off ne
    subst hJ
    have hic : i9 < code.length := by rw [← hcl]; simpa using hi9
    obtain ⟨t8, hx8⟩ := hcv.get i9 code[i9] (List.getElem?_eq_getElem hic)
    rw [Array.getElem?_toList, hv] at hx8
    cases hx8
    have hxb := hcD.1 _ (List.getElem_mem hic)
    have hxf := hcF _ (List.getElem_mem hic)
    have hge : code.getD i9 0 = code[i9] := by rw [List.getD_eq_getElem?_getD, List.getElem?_eq_getElem hic]; rfl
    rw [hge]
    clear hge hv
    generalize code[i9] = x at *
    have hxbits : Builtin.Int.intBits x ≤ 8 := bits_lt hxb.1 hxb.2
    obtain ⟨f1, f2, f3⟩ := off.mem (37, tabObj (tripA cA)) (by k_mem)
    have g1 : NeW 37 I9 := NeW.of f1
    have g2 : NeW 37 C := NeW.of f2
    have g3 : NeW 37 D9 := NeW.of f3
    k_with_none
    k_with "M ne" => first | exact NeW.l (by with_reducible assumption) | exact NeW.r (by with_reducible assumption) | (refine neN ?_; (try dsimp only); omega)
    k_with "M bits" => first | with_reducible assumption | exact bits_pow2 (by omega)
    k_with "M mem" => first | exact List.Mem.head _ | exact mem1 | exact mem2 | exact mem3 | exact mem4 | exact mem5 | exact mem6 | exact mem7 | exact mem8 | exact mem9 | exact mem10 | exact mem11 | exact mem12 | exact mem13
    k_with "M nw" => (try simp only [AllNw, and_true]); (try dsimp only); (repeat' constructor) <;> first | with_reducible assumption | (refine NeW.of ?_; k_ne)
    k_with "M sub2" => repeat (first | exact List.forall_mem_nil _ | refine fcons ⟨_, by k_mem⟩ ?_)
    k_with "M off" => repeat (first | exact List.forall_mem_nil _ | refine fcons (nin1 (by (try dsimp only); k_ne)) ?_)
    k_with "M sub" => repeat (first | exact List.forall_mem_nil _ | (refine fcons ?k9w ?_; (case k9w => k_mem)))
    k_with "subscriptTail Name Slice ref ref" => refine' slice_all_led ?k9F ?k9N ?k9l ?k9z ?k9p ?k9q ?_ ?k9s ?k9t; (case k9F => k_asm); (case k9N => k_asm); (case k9l => k_mem); (case k9z => omega); (case k9p => kmk_part); (case k9q => kmk_part); (case k9s => with_unfolding_all rfl); (case k9t => kmk_pure); intro k9D k9h k9F k9N k9l1; (try k_lt k9l1); (try k_sweep)
    k_with "M same" => intro z h1 h2 h3; (try dsimp only); (repeat (first | refine same_if (by first | exact h1 | exact ne_ps h2 rfl | exact ne_st h3 rfl) ?_ | exact rfl | exact same_st h3 | exact same_kst h2 h3 | refine same_k (by repeat (first | exact List.forall_mem_nil _ | refine fcons (by first | exact h1 | exact ne_ps h2 rfl | exact ne_st h3 rfl) ?_)) ?_ | refine same_c (by repeat (first | exact nc_nil | refine nc_cons (by first | exact h1 | exact ne_ps h2 rfl | exact ne_st h3 rfl) ?_)) ?_))
    k_with "call builtin:list.append" => refine' append_led ?k9la ?k9lb ?k9lc ?k9ld ?_; (case k9la => k_asm); (case k9lb => k_asm); (case k9lc => k_upd); (case k9ld => omega); intro k9h k9F k9N; (try k_sweep)
    k_with "call builtin:list.reverse" => refine' reverse_led ?k9la ?k9lb ?k9lc ?k9ld ?_; (case k9la => k_asm); (case k9lb => k_asm); (case k9lc => k_upd); (case k9ld => omega); intro k9h k9F k9N; (try k_sweep)
    k_with "binaryOp LShift int int" => refine' lshift_bits ?k9la ?k9lb ?k9lc ?k9ld ?_; (case k9la => omega); (case k9lb => omega); (case k9lc => bits_by_make); (case k9ld => decide)
    k_with "inplaceOp LShift int int" => refine' ilshift_bits ?k9la ?k9lb ?k9lc ?k9ld ?_; (case k9la => omega); (case k9lb => omega); (case k9lc => bits_by_make); (case k9ld => decide)
    k_with "M ROOM" => first | omega | ktr_room | ((try dsimp only [Around.deeper, ktrTop]); omega)
    k_with "M UNITS" => first | omega | ((try dsimp only [Around.deeper, ktrTop]); omega) | ktr_units
    k_with "execs cons" => (try k_fold); with_reducible first | refine seqL ?_ | (refine seqV ?_; intro Q8 q8)
    k_with "M un" => with_reducible first | (refine seqVN (s := s1) (by assumption) ?_; intro tk8; try clear q8 Q8) | (refine seqVN (s := s) (by assumption) ?_; intro tk8; try clear q8 Q8) | refine seqVR (by assumption) ?_ | refine seqVM (by assumption) ?_ | refine seqVB (by assumption) ?_ | refine seqVC (by assumption) ?_
    k_with "eval Name" => k_here; k_dflt (refine' nameX_L ?k9F ?k9v ?_ ?k9a ?k9b; (case k9F => k_asm); (case k9a => exact Eq.refl _); (case k9b => exact Eq.refl (some NameKind.local)); (case k9v => exact Eq.refl (some _)); k_whole)
    k_with "M off2" => repeat (first | exact List.forall_mem_nil _ | refine fcons (nin2 (by (try dsimp only); k_ne) (by (try dsimp only); k_ne)) ?_)
    k_with "L OPEN" => dsimp only [lawA, lawEnv, lawB, lawS, lawO, List.drop, List.take]
    k_with "call ref" => (refine hold ?_)
    k_with "subscriptTail Name Slice ref ref" => (refine hold ?_)
    k_steps
    refine unhold ?_
    rename Fr _ _ _ _ => FZ
    rename News _ _ _ _ => NZ
    refine (ctr_i2d_1 x _ 2 _ cA hxb.1 (by decide) (by omega) (by omega)).use KB FZ XK TK rfl (Off.one (oT 37 (by decide)).1 (oT 37 (by decide)).2) (by k_extra "M ROOM") (by k_extra "M UNITS") ⟨(NZ (37, _) (by k_mem)).1, hcA.at (NZ (cA, oA) (by k_mem)).1⟩ ?_
    rintro r hA1 tkA FA KA hp95
    refine byG fun G9 hG9 => ?_
    obtain ⟨⟨d1, dv, rfl, hm1, hi1⟩, e37'⟩ := hp95
    refine hG9 ?_
    clear hG9 G9
    have NE := News.erase NZ 7
    dsimp only [List.eraseIdx] at NE
    have NR := hm1.news FZ (News.cons (KA.news NE (by k_extra "M off")) e37' (oT 37 (by decide)))
    have hodl : (i2d 2 ((Builtin.Int.intBits x + 2 - 1) / 2) x).length ≤ 4 := by rw [i2d_length]; omega
    have htake := i2d_take hxb.1 hxb.2 hn4.2
    generalize i2d 2 ((Builtin.Int.intBits x + 2 - 1) / 2) x = od at hi1 hodl htake
    clear FZ NZ NE KA hm1
    k_steps
    refine unhold ?_
    rename IntsAre _ (od ++ _) => how
    have howl := how.length
    rw [List.length_append] at howl
    refine' slice_upto_led (t := 0) (n := n) ?zF ?zN ?zl ?zz ?zp ?zq ?_ ?zs ?zt
    case zF => k_asm
    case zN => k_asm
    case zl => k_mem
    case zz => simp at howl ⊢; omega
    case zp => kmk_part
    case zq => kmk_part
    case zs => rfl
    case zt => intro _; rfl
    intro D2 h2 F2 N2 l2
    have hti := how.take n
    rw [htake] at hti
    k_steps
    refine unhold ?_
    rename Fr _ _ _ _ => FZ
    rename News _ _ _ _ => NZ
    refine (ctr_textq D2 _ (figZ n x) q _ n hq2 hn (figZ_len _ _) hxf).use KB FZ XK TK rfl Off.nil (by k_extra "M ROOM") (by k_extra "M UNITS") ⟨⟨_, (NZ (D2, _) (by k_mem)).1, rfl, _, rfl⟩, hti⟩ ?_
    rintro r hA2 tkA2 FA KA ⟨t9, rfl⟩
    have NA := KA.news0 NZ
    clear FZ NZ KA
    k_steps
    rename Fr _ _ _ _ => FZ
    rename News _ _ _ _ => NZ
    refine LCg.CompEnd.intro FZ NZ _ ?_ off ?_ ⟨⟨_, rfl⟩, rfl⟩
    · k_extra "M sub"
    · exact .inr ⟨_, by k_mem, rfl, _, rfl⟩
  · intro ys news hyl hys hnw D5 h tk F N off
    subst hnw
    (try dsimp only)
    first | refine wpAny_execs_nil (Fin.mk ?_) | refine Fin.mk ?_
    refine ⟨⟨W0, a0, a1, a2, a3, D, cA, cB, k, k0, k1, k2, k3, sp, v0, v1, v2, v3, cv, oA, oB, o5, o4, oX, o2, o1, tt, tq, tn⟩, D5, ys, ys.length, At.of F N ?_, hok2, ⟨?_⟩⟩
    · unfold BSt.names
      repeat (first | exact List.forall_mem_nil _ | refine fcons (by exact Eq.refl (some _)) ?_)
    · have hS := strsAre_of cv.size _ ys hyl hys
      have e : (code.map fun x => textL q (figZ n x)).map (fun y => (⟨y.toArray⟩ : Str)) = (List.range cv.size).map fun i => textOf q (figZ n (code.getD i 0)) := by
        have hl2 : cv.size = code.length := by rw [← hcl]; simp
        rw [hl2, List.map_map]
        apply List.ext_getElem?
        intro i
        simp only [List.getElem?_map]
        by_cases hi : i < code.length
        · rw [List.getElem?_range hi, List.getElem?_eq_getElem hi, Option.map_some, Option.map_some, List.getD_eq_getElem?_getD, List.getElem?_eq_getElem hi]
          rfl
        · rw [List.getElem?_eq_none (by omega), List.getElem?_eq_none (by simp; omega)]
          rfl
      rw [e]
      exact hS
end

section
theorem hush_L4 : True := by
  k_with_none
  w_top off
  trivial
set_option genSizeOf false
set_option genInjectivity false

theorem rules_L4_0 : True := by
  k_with "M ne" => first | exact NeW.l (by with_reducible assumption) | exact NeW.r (by with_reducible assumption) | (refine neN ?_; (try dsimp only); omega)
  k_with "M bits" => first | with_reducible assumption | exact bits_pow2 (by omega)
  k_with "M mem" => first | exact List.Mem.head _ | exact mem1 | exact mem2 | exact mem3 | exact mem4 | exact mem5 | exact mem6 | exact mem7 | exact mem8 | exact mem9 | exact mem10 | exact mem11 | exact mem12 | exact mem13
  k_with "M nw" => (try simp only [AllNw, and_true]); (try dsimp only); (repeat' constructor) <;> first | with_reducible assumption | (refine NeW.of ?_; k_ne)
  k_with "M sub2" => repeat (first | exact List.forall_mem_nil _ | refine fcons ⟨_, by k_mem⟩ ?_)
  k_with "M off" => repeat (first | exact List.forall_mem_nil _ | refine fcons (nin1 (by (try dsimp only); k_ne)) ?_)
  k_with "M sub" => repeat (first | exact List.forall_mem_nil _ | (refine fcons ?k9w ?_; (case k9w => k_mem)))
  k_with "subscriptTail Name Slice ref ref" => refine' slice_all_led ?k9F ?k9N ?k9l ?k9z ?k9p ?k9q ?_ ?k9s ?k9t; (case k9F => k_asm); (case k9N => k_asm); (case k9l => k_mem); (case k9z => omega); (case k9p => kmk_part); (case k9q => kmk_part); (case k9s => with_unfolding_all rfl); (case k9t => kmk_pure); intro k9D k9h k9F k9N k9l1; (try k_lt k9l1); (try k_sweep)
  k_with "M same" => intro z h1 h2 h3; (try dsimp only); (repeat (first | refine same_if (by first | exact h1 | exact ne_ps h2 rfl | exact ne_st h3 rfl) ?_ | exact rfl | exact same_st h3 | exact same_kst h2 h3 | refine same_k (by repeat (first | exact List.forall_mem_nil _ | refine fcons (by first | exact h1 | exact ne_ps h2 rfl | exact ne_st h3 rfl) ?_)) ?_ | refine same_c (by repeat (first | exact nc_nil | refine nc_cons (by first | exact h1 | exact ne_ps h2 rfl | exact ne_st h3 rfl) ?_)) ?_))
  k_with "call builtin:list.append" => refine' append_led ?k9la ?k9lb ?k9lc ?k9ld ?_; (case k9la => k_asm); (case k9lb => k_asm); (case k9lc => k_upd); (case k9ld => omega); intro k9h k9F k9N; (try k_sweep)
  k_with "call builtin:list.reverse" => refine' reverse_led ?k9la ?k9lb ?k9lc ?k9ld ?_; (case k9la => k_asm); (case k9lb => k_asm); (case k9lc => k_upd); (case k9ld => omega); intro k9h k9F k9N; (try k_sweep)
  k_with "binaryOp LShift int int" => refine' lshift_bits ?k9la ?k9lb ?k9lc ?k9ld ?_; (case k9la => omega); (case k9lb => omega); (case k9lc => bits_by_make); (case k9ld => decide)
  k_with "inplaceOp LShift int int" => refine' ilshift_bits ?k9la ?k9lb ?k9lc ?k9ld ?_; (case k9la => omega); (case k9lb => omega); (case k9lc => bits_by_make); (case k9ld => decide)
  k_with "M ROOM" => first | omega | ktr_room | ((try dsimp only [Around.deeper, ktrTop]); omega)
  k_with "M UNITS" => first | omega | ((try dsimp only [Around.deeper, ktrTop]); omega) | ktr_units
  k_with "execs cons" => (try k_fold); with_reducible first | refine seqL ?_ | (refine seqV ?_; intro Q8 q8)
  k_with "M un" => with_reducible first | (refine seqVN (s := s1) (by assumption) ?_; intro tk8; try clear q8 Q8) | (refine seqVN (s := s) (by assumption) ?_; intro tk8; try clear q8 Q8) | refine seqVR (by assumption) ?_ | refine seqVM (by assumption) ?_ | refine seqVB (by assumption) ?_ | refine seqVC (by assumption) ?_
  k_with "eval Name" => k_here; k_dflt (refine' nameX_L ?k9F ?k9v ?_ ?k9a ?k9b; (case k9F => k_asm); (case k9a => exact Eq.refl _); (case k9b => exact Eq.refl (some NameKind.local)); (case k9v => exact Eq.refl (some _)); k_whole)
  k_with "M off2" => repeat (first | exact List.forall_mem_nil _ | refine fcons (nin2 (by (try dsimp only); k_ne) (by (try dsimp only); k_ne)) ?_)
  k_with "L OPEN" => dsimp only [lawA, lawEnv, lawB, lawS, lawO, List.drop, List.take]
  trivial
/-- the words that fit both, of the first i -/
noncomputable def mateT (q : Int) (n : Nat) (w0 w1 : List Int) (i : Nat) : List (List Int) := ((List.range i).map fun (x : Nat) => wordZ q n (x : Int)).filter fun one => fitsL q one w0 && fitsL q one w1
theorem mateT_succ {q : Int} {n : Nat} {w0 w1 : List Int} {i : Nat} : mateT q n w0 w1 (i + 1) = mateT q n w0 w1 i ++ (if fitsL q (wordZ q n (i : Int)) w0 && fitsL q (wordZ q n (i : Int)) w1 then [wordZ q n (i : Int)] else []) := by
  unfold mateT
  rw [List.range_succ, List.map_append, List.filter_append, List.map_cons, List.map_nil, List.filter_cons, List.filter_nil]
theorem mateT_len {q : Int} {n : Nat} {w0 w1 : List Int} {i : Nat} : (mateT q n w0 w1 i).length ≤ i := by
  unfold mateT
  exact Nat.le_trans (List.length_filter_le _ _) (by rw [List.length_map, List.length_range]; exact Nat.le_refl _)
theorem wordZ_bnd {q : Int} (hq : 2 ≤ q ∧ q ≤ 3) {n : Nat} {x : Int} : ∀ d ∈ wordZ q n x, 0 ≤ d ∧ d < 3 := by
  intro d hd
  obtain ⟨i, _, rfl⟩ := List.mem_map.mp hd
  have := (fdiv_fmod_facts (Int.fdiv x (q ^ i)) q).2.2.1 (by omega)
  omega
theorem q_pow {q : Int} {n : Nat} (hq2 : 2 ≤ q ∧ q ≤ 3) (hn : (n : Int) = 6 - q) : q ^ n = ((q ^ n).toNat : Int) ∧ (q ^ n).toNat ≤ 27 := by
  have e : q = 2 ∨ q = 3 := by omega
  rcases e with rfl | rfl
  · obtain rfl : n = 4 := by omega
    decide
  · obtain rfl : n = 3 := by omega
    decide
/-- all rows are lists -/
noncomputable def RowsL (rows : List (Addr × Obj)) : Prop := ∀ p ∈ rows, ∃ v k, p.2 = W.listOf (List.toArray v) k
structure MSt where
  mv : List Value
  km : Nat
  oX : Obj
  rows : List (Addr × Obj)
/-- and the mate -/
inductive CD (g : Heap) (SZ : Nat) (s1 : Shared) (script : List Int) (q : Int) (n : Nat) (s' : Shared) : Prop
  | mk (c : BSt) (T : Addr) (tv : List Value) (kt : Nat) (M : Addr) (mv : List Value) (km : Nat) (rows : List (Addr × Obj)) (h9x0 : At g SZ s1 ((Str.ofString "mate", .ref M) :: (Str.ofString "texts", .ref T) :: c.names script) ((M, W.listOf (List.toArray mv) km) :: (T, W.listOf (List.toArray tv) kt) :: (c.led SZ ++ rows)) s') (h9x1 : c.Ok script q n) (h9x2 : StrsH tv ((codeL q (wordZ q n (seedZ script 0)) (wordZ q n (seedZ script 1))).map fun x => textL q (figZ n x))) (h9x3 : Linked mv rows (mateT q n (wordZ q n (seedZ script 0)) (wordZ q n (seedZ script 1)) (q ^ n).toNat)) (h9x4 : RowsL rows) : CD g SZ s1 script q n s'
set_option maxHeartbeats 8000000 in
theorem st_D {w : World} {p9 : Program} {lo9 : List Str} {me9 : ExcName → Option Value} {mg9 mb9 : Str → Option Value} {g base : Heap} {SZ : Nat} {fa : Addr} {cd : Value} {s1 : Shared} (KB : Below callerA base [] g) (XK : (hd.heap_1 w.params).In g) (TK : Top p9 lo9 me9 mg9 mb9 g) {script : List Int} {q : Int} {n : Nat} (hq2 : 2 ≤ q ∧ q ≤ 3) (hn : (n : Int) = 6 - q) (h44 : 44 < SZ) (h37 : 37 < SZ) {s' : Shared} (h0 : CC g SZ s1 script q n s') :
    LawPart w SZ fa cd 7 2 (CD g SZ s1 script q n) s' := by
  unfold LawPart PR
  revert XK
  k_fill
  intro XK
  have hn4 : 3 ≤ n ∧ n ≤ 4 := by omega
  refine byG fun G9 hG9 => ?_
  obtain ⟨⟨W0, a0, a1, a2, a3, D, cA, cB, k, k0, k1, k2, k3, sp, v0, v1, v2, v3, cv, oA, oB, o5, o4, oX, o2, o1, tt, tq, tn⟩, T, tv, kt, ⟨h, tk, m', rfl, FZ, NZ⟩, hok, hstr⟩ := h0
  obtain ⟨i0, i1, i2, i3, hcv, hcA, hcB, dX, d4, d5, dq, dn⟩ := hok
  refine hG9 ?_
  clear hG9 G9
  unfold BSt.names at FZ
  unfold BSt.led at NZ
  simp only [kstF_cons, kstF_nil] at FZ
  dsimp only at FZ NZ i0 i1 i2 i3 hcv hcA hcB dX d4 d5 dq dn
  k_extra "L OPEN"
  obtain ⟨hqe, hq27⟩ := q_pow hq2 hn
  have cX := fun {its : Array Value} {k : Nat} => cell_seq dX (its := its) (k := k)
  have y0 : NeW (SZ + 1 + 1 + 1) T := News.nwd NZ (by k_mem) (by k_mem) cX
  have y1 : NeW (SZ + 1 + 1 + 1) D := News.nwd NZ (by k_mem) (by k_mem) cX
  have y2 : NeW (SZ + 1 + 1 + 1) a0 := News.nwd NZ (by k_mem) (by k_mem) cX
  have y3 : NeW (SZ + 1 + 1 + 1) a1 := News.nwd NZ (by k_mem) (by k_mem) cX
  have y4 : NeW (SZ + 1 + 1 + 1) a2 := News.nwd NZ (by k_mem) (by k_mem) cX
  have y5 : NeW (SZ + 1 + 1 + 1) a3 := News.nwd NZ (by k_mem) (by k_mem) cX
  have y6 : NeW (SZ + 1 + 1 + 1) W0 := News.nwd NZ (by k_mem) (by k_mem) cX
  have y7 : NeW (SZ + 1 + 1 + 1) cA := News.nwd NZ (by k_mem) (by k_mem) (cell_code dX hcA)
  have y8 : NeW (SZ + 1 + 1 + 1) cB := News.nwd NZ (by k_mem) (by k_mem) (cell_code dX hcB)
  k_with "exec For Name Name cons nil" => ((rename Fr _ _ _ _ => lF'); (refine' For_turns lF' ?_))
  k_with "exec For Name Call cons nil" => ((rename Fr _ _ _ _ => lF'); (refine' For_turns lF' ?_))
  k_with "exec For Name Subscript cons nil" => ((rename Fr _ _ _ _ => lF'); (refine' For_turns lF' ?_))
  k_with "M pyIter" => (refine hold ?_)
  k_steps
  refine unhold ?_
  rename Fr _ _ _ _ => FZ
  rename News _ _ _ _ => NZ
  rename IsRange _ _ _ _ _ _ _ _ => hrng
  rw [Int.toNat_natCast, hqe] at hrng
  refine with_head NZ fun M o9 rest9 hD => ?_
  obtain ⟨rfl, -, -⟩ := hD
  refine' loop_rangeT (σ := MSt) (h₀ := g) (n := (q ^ n).toNat) (fun c => (M, W.listOf (List.toArray c.mv) c.km) :: (T, W.listOf (List.toArray tv) kt) :: (D, W.listOf cv sp) :: (cA, oA) :: (cB, oB) :: (44, tabObj (tripB cB)) :: (37, tabObj (tripA cA)) :: (a0, W.listOf (List.toArray v0) k0) :: (a1, W.listOf (List.toArray v1) k1) :: (a2, W.listOf (List.toArray v2) k2) :: (a3, W.listOf (List.toArray v3) k3) :: (W0, W.listOf (List.toArray [Value.ref a0, Value.ref a1, Value.ref a2, Value.ref a3]) k) :: (SZ + 1 + 1 + 1 + 1 + 1, o5) :: (SZ + 1 + 1 + 1 + 1, o4) :: (SZ + 1 + 1 + 1, c.oX) :: (SZ + 1 + 1, o2) :: (SZ + 1, o1) :: c.rows) (fun _ => []) [Str.ofString "one"]
    (fun i c => Linked c.mv c.rows (mateT q n (wordZ q n (seedZ script 0)) (wordZ q n (seedZ script 1)) i) ∧ (∃ v, c.oX.data = Data.cell v) ∧ (∀ p ∈ c.rows, p.1 ≠ M) ∧ (∀ p ∈ c.rows, p.1 ≠ SZ + 1 + 1 + 1) ∧ RowsL c.rows) ⟨[], 0, oX, []⟩ ?Rh ?Rr ?Rs ?Rz ?RF ?RN ?Rk ?Rp ?Rt ?Rd
  case RF => exact FZ
  case Rr => exact hrng
  case Rk => exact fun p hp => nomatch hp
  case RN => exact News.sub NZ (by k_extra "M sub")
  case Rh => rfl
  case Rs => exact small_one (by omega) (by omega) (by omega) (by omega)
  case Rz => exact rangeSize_nat _ _
  case Rp => exact ⟨Linked.nil, dX, (fun p hp => nomatch hp), (fun p hp => nomatch hp), (fun p hp => nomatch hp)⟩
  case Rt =>
    clear FZ NZ hrng cX dX
    rintro ⟨mv, km, oX, rows⟩ i t u h tk I oI hi hp99 hIne FZ NZ
    refine byG fun G9 hG9 => ?_
    obtain ⟨hlk, ⟨vX, dX⟩, hr1, hr2, hr3⟩ := hp99
    refine hG9 ?_
    clear hG9 G9
    dsimp only at hlk dX hr1 hr2 hIne FZ NZ
    have hn1 := allNw_of hIne
    simp only [AllNw] at hn1
    refine byG fun G9 hG9 => ?_
    obtain ⟨x1, x2, x3, x4, x5, x6, x7, x8, x9, x10, x11, x12, x13, x14, x15, x16, x17, x18⟩ := hn1
    refine hG9 ?_
    clear hG9 G9
    rw [Int.zero_add]
    have hml : mv.length ≤ 30 := by
      have := mateT_len (q := q) (n := n) (w0 := wordZ q n (seedZ script 0)) (w1 := wordZ q n (seedZ script 1)) (i := i)
      rw [hlk.1]
      omega
    k_with_none
    k_with "M ne" => first | exact NeW.l (by with_reducible assumption) | exact NeW.r (by with_reducible assumption) | (refine neN ?_; (try dsimp only); omega)
    k_with "M bits" => first | with_reducible assumption | exact bits_pow2 (by omega)
    k_with "M mem" => first | exact List.Mem.head _ | exact mem1 | exact mem2 | exact mem3 | exact mem4 | exact mem5 | exact mem6 | exact mem7 | exact mem8 | exact mem9 | exact mem10 | exact mem11 | exact mem12 | exact mem13
    k_with "M nw" => (try simp only [AllNw, and_true]); (try dsimp only); (repeat' constructor) <;> first | with_reducible assumption | (refine NeW.of ?_; k_ne)
    k_with "M sub2" => repeat (first | exact List.forall_mem_nil _ | refine fcons ⟨_, by k_mem⟩ ?_)
    k_with "M off" => repeat (first | exact List.forall_mem_nil _ | refine fcons (nin1 (by (try dsimp only); k_ne)) ?_)
    k_with "M sub" => repeat (first | exact List.forall_mem_nil _ | (refine fcons ?k9w ?_; (case k9w => k_mem)))
    k_with "subscriptTail Name Slice ref ref" => refine' slice_all_led ?k9F ?k9N ?k9l ?k9z ?k9p ?k9q ?_ ?k9s ?k9t; (case k9F => k_asm); (case k9N => k_asm); (case k9l => k_mem); (case k9z => omega); (case k9p => kmk_part); (case k9q => kmk_part); (case k9s => with_unfolding_all rfl); (case k9t => kmk_pure); intro k9D k9h k9F k9N k9l1; (try k_lt k9l1); (try k_sweep)
    k_with "M same" => intro z h1 h2 h3; (try dsimp only); (repeat (first | refine same_if (by first | exact h1 | exact ne_ps h2 rfl | exact ne_st h3 rfl) ?_ | exact rfl | exact same_st h3 | exact same_kst h2 h3 | refine same_k (by repeat (first | exact List.forall_mem_nil _ | refine fcons (by first | exact h1 | exact ne_ps h2 rfl | exact ne_st h3 rfl) ?_)) ?_ | refine same_c (by repeat (first | exact nc_nil | refine nc_cons (by first | exact h1 | exact ne_ps h2 rfl | exact ne_st h3 rfl) ?_)) ?_))
    k_with "call builtin:list.append" => refine' append_led ?k9la ?k9lb ?k9lc ?k9ld ?_; (case k9la => k_asm); (case k9lb => k_asm); (case k9lc => k_upd); (case k9ld => omega); intro k9h k9F k9N; (try k_sweep)
    k_with "call builtin:list.reverse" => refine' reverse_led ?k9la ?k9lb ?k9lc ?k9ld ?_; (case k9la => k_asm); (case k9lb => k_asm); (case k9lc => k_upd); (case k9ld => omega); intro k9h k9F k9N; (try k_sweep)
    k_with "binaryOp LShift int int" => refine' lshift_bits ?k9la ?k9lb ?k9lc ?k9ld ?_; (case k9la => omega); (case k9lb => omega); (case k9lc => bits_by_make); (case k9ld => decide)
    k_with "inplaceOp LShift int int" => refine' ilshift_bits ?k9la ?k9lb ?k9lc ?k9ld ?_; (case k9la => omega); (case k9lb => omega); (case k9lc => bits_by_make); (case k9ld => decide)
    k_with "M ROOM" => first | omega | ktr_room | ((try dsimp only [Around.deeper, ktrTop]); omega)
    k_with "M UNITS" => first | omega | ((try dsimp only [Around.deeper, ktrTop]); omega) | ktr_units
    k_with "execs cons" => (try k_fold); with_reducible first | refine seqL ?_ | (refine seqV ?_; intro Q8 q8)
    k_with "M un" => with_reducible first | (refine seqVN (s := s1) (by assumption) ?_; intro tk8; try clear q8 Q8) | (refine seqVN (s := s) (by assumption) ?_; intro tk8; try clear q8 Q8) | refine seqVR (by assumption) ?_ | refine seqVM (by assumption) ?_ | refine seqVB (by assumption) ?_ | refine seqVC (by assumption) ?_
    k_with "eval Name" => k_here; k_dflt (refine' nameX_L ?k9F ?k9v ?_ ?k9a ?k9b; (case k9F => k_asm); (case k9a => exact Eq.refl _); (case k9b => exact Eq.refl (some NameKind.local)); (case k9v => exact Eq.refl (some _)); k_whole)
    k_with "M off2" => repeat (first | exact List.forall_mem_nil _ | refine fcons (nin2 (by (try dsimp only); k_ne) (by (try dsimp only); k_ne)) ?_)
    k_with "L OPEN" => dsimp only [lawA, lawEnv, lawB, lawS, lawO, List.drop, List.take]
    k_with "CompSrc" => (refine hold ?_)
    k_steps
    refine unhold ?_
    rename IsRange _ _ _ _ _ _ _ _ => hrng
    rename Obj.data _ = Data.cell (some (Value.int (i : Int) _)) => dx
    have hzs : Builtin.Range.small 0 (n : Int) 1 = true := small_one (by omega) (by omega) (by omega) (by omega)
    have hzn : Builtin.Range.rangeSize 0 (n : Int) 1 = ((n : Nat) : Int) := rangeSize_nat _ _
    refine LCg.CompSrc.range (n := n) rfl (by assumption) (by assumption) hrng hzs hzn (by rw [sizeLine_eq]; omega) (fun g9 => comp_of (fun k v => ∃ t9, v = .int (Int.fmod (Int.fdiv (i : Int) (q ^ k)) q) t9) (fun _ nw => nw = _) ?_ ?_ rfl)
    · intro i9 v I9 oI9 C oC D9 m₂ h tk E' ys news hi9 hv hJ hC hx F N off ne
      obtain ⟨t9, rfl⟩ := hv
      subst hJ
      rw [Int.zero_add] at hx
      have hqp : (0 : Int) < q ^ i9 ∧ q ^ i9 ≤ 27 := pow_small hq2 (by omega)
      have hqe : q ^ ((i9 : Int)).toNat = q ^ i9 := by rw [Int.toNat_natCast]
      k_steps
      all_goals (try dsimp only)
      refine LCg.CompEnd.intro (by assumption) (by assumption) _ (fun p hp => hp) off trivial ⟨int_post ?_, rfl⟩
      rw [Int.toNat_natCast]
    · intro ys news hyl hys hnw D5 h tk F N off
      subst hnw
      have hS : IntsAre ys (wordZ q n (i : Int)) := intsAre_of n _ ys hyl hys
      have hoff := nwOfOff off
      simp only [AllNw] at hoff
      refine byG fun G9 hG9 => ?_
      obtain ⟨z1, z2, z3, z4, z5, z6, z7, z8, z9, z10, z11, z12, z13, z14, z15, z16, z17, z18, z19⟩ := hoff
      refine hG9 ?_
      clear hG9 G9
      k_with_none
      k_with "M ne" => first | exact NeW.l (by with_reducible assumption) | exact NeW.r (by with_reducible assumption) | (refine neN ?_; (try dsimp only); omega)
      k_with "M bits" => first | with_reducible assumption | exact bits_pow2 (by omega)
      k_with "M mem" => first | exact List.Mem.head _ | exact mem1 | exact mem2 | exact mem3 | exact mem4 | exact mem5 | exact mem6 | exact mem7 | exact mem8 | exact mem9 | exact mem10 | exact mem11 | exact mem12 | exact mem13
      k_with "M nw" => (try simp only [AllNw, and_true]); (try dsimp only); (repeat' constructor) <;> first | with_reducible assumption | (refine NeW.of ?_; k_ne)
      k_with "M sub2" => repeat (first | exact List.forall_mem_nil _ | refine fcons ⟨_, by k_mem⟩ ?_)
      k_with "M off" => repeat (first | exact List.forall_mem_nil _ | refine fcons (nin1 (by (try dsimp only); k_ne)) ?_)
      k_with "M sub" => repeat (first | exact List.forall_mem_nil _ | (refine fcons ?k9w ?_; (case k9w => k_mem)))
      k_with "subscriptTail Name Slice ref ref" => refine' slice_all_led ?k9F ?k9N ?k9l ?k9z ?k9p ?k9q ?_ ?k9s ?k9t; (case k9F => k_asm); (case k9N => k_asm); (case k9l => k_mem); (case k9z => omega); (case k9p => kmk_part); (case k9q => kmk_part); (case k9s => with_unfolding_all rfl); (case k9t => kmk_pure); intro k9D k9h k9F k9N k9l1; (try k_lt k9l1); (try k_sweep)
      k_with "M same" => intro z h1 h2 h3; (try dsimp only); (repeat (first | refine same_if (by first | exact h1 | exact ne_ps h2 rfl | exact ne_st h3 rfl) ?_ | exact rfl | exact same_st h3 | exact same_kst h2 h3 | refine same_k (by repeat (first | exact List.forall_mem_nil _ | refine fcons (by first | exact h1 | exact ne_ps h2 rfl | exact ne_st h3 rfl) ?_)) ?_ | refine same_c (by repeat (first | exact nc_nil | refine nc_cons (by first | exact h1 | exact ne_ps h2 rfl | exact ne_st h3 rfl) ?_)) ?_))
      k_with "call builtin:list.append" => refine' append_led ?k9la ?k9lb ?k9lc ?k9ld ?_; (case k9la => k_asm); (case k9lb => k_asm); (case k9lc => k_upd); (case k9ld => omega); intro k9h k9F k9N; (try k_sweep)
      k_with "call builtin:list.reverse" => refine' reverse_led ?k9la ?k9lb ?k9lc ?k9ld ?_; (case k9la => k_asm); (case k9lb => k_asm); (case k9lc => k_upd); (case k9ld => omega); intro k9h k9F k9N; (try k_sweep)
      k_with "binaryOp LShift int int" => refine' lshift_bits ?k9la ?k9lb ?k9lc ?k9ld ?_; (case k9la => omega); (case k9lb => omega); (case k9lc => bits_by_make); (case k9ld => decide)
      k_with "inplaceOp LShift int int" => refine' ilshift_bits ?k9la ?k9lb ?k9lc ?k9ld ?_; (case k9la => omega); (case k9lb => omega); (case k9lc => bits_by_make); (case k9ld => decide)
      k_with "M ROOM" => first | omega | ktr_room | ((try dsimp only [Around.deeper, ktrTop]); omega)
      k_with "M UNITS" => first | omega | ((try dsimp only [Around.deeper, ktrTop]); omega) | ktr_units
      k_with "execs cons" => (try k_fold); with_reducible first | refine seqL ?_ | (refine seqV ?_; intro Q8 q8)
      k_with "M un" => with_reducible first | (refine seqVN (s := s1) (by assumption) ?_; intro tk8; try clear q8 Q8) | (refine seqVN (s := s) (by assumption) ?_; intro tk8; try clear q8 Q8) | refine seqVR (by assumption) ?_ | refine seqVM (by assumption) ?_ | refine seqVB (by assumption) ?_ | refine seqVC (by assumption) ?_
      k_with "eval Name" => k_here; k_dflt (refine' nameX_L ?k9F ?k9v ?_ ?k9a ?k9b; (case k9F => k_asm); (case k9a => exact Eq.refl _); (case k9b => exact Eq.refl (some NameKind.local)); (case k9v => exact Eq.refl (some _)); k_whole)
      k_with "M off2" => repeat (first | exact List.forall_mem_nil _ | refine fcons (nin2 (by (try dsimp only); k_ne) (by (try dsimp only); k_ne)) ?_)
      k_with "L OPEN" => dsimp only [lawA, lawEnv, lawB, lawS, lawO, List.drop, List.take]
      k_with "call ref" => (refine hold ?_)
      k_steps
      refine unhold ?_
      rename Fr _ _ _ _ => FZ
      rename News _ _ _ _ => NZ
      refine (ctr_fits D5 a0 ys v0 (wordZ q n (i : Int)) (wordZ q n (seedZ script 0)) q _ (by rw [wordZ_len]; omega) (by rw [wordZ_len, wordZ_len]) (wordZ_bnd hq2) hq2).use KB FZ XK TK rfl Off.nil (by k_extra "M ROOM") (by k_extra "M UNITS") ⟨⟨_, (NZ (D5, _) (by k_mem)).1, rfl, _, rfl⟩, hS, ⟨_, (NZ (a0, _) (by k_mem)).1, rfl, _, rfl⟩, i0⟩ ?_
      rintro r hA1 tkA1 FA KA rfl
      have NA := KA.news0 NZ
      clear FZ NZ KA
      k_steps
      · refine unhold ?_
        rename Fr _ _ _ _ => FZ
        rename News _ _ _ _ => NZ
        rename (fitsL q _ _ = true) => hf0
        refine (ctr_fits D5 a1 ys v1 (wordZ q n (i : Int)) (wordZ q n (seedZ script 1)) q _ (by rw [wordZ_len]; omega) (by rw [wordZ_len, wordZ_len]) (wordZ_bnd hq2) hq2).use KB FZ XK TK rfl Off.nil (by k_extra "M ROOM") (by k_extra "M UNITS") ⟨⟨_, (NZ (D5, _) (by k_mem)).1, rfl, _, rfl⟩, hS, ⟨_, (NZ (a1, _) (by k_mem)).1, rfl, _, rfl⟩, i1⟩ ?_
        rintro r hA2 tkA2 FA KA rfl
        have NA := KA.news0 NZ
        clear FZ NZ KA
        k_steps
        · rename Fr _ _ _ _ => FZ
          rename News _ _ _ _ => NZ
          (repeat k_extra "M un")
          dsimp only [Post1]
          refine' End1.intro ⟨mv ++ [Value.ref D5], km + 1, ?oX1, (D5, LCg.lst ys) :: rows⟩ FZ NZ ?hI1 ?hl1 ?hne1 (fun p hp => nomatch hp) ?hr1 ?hp1
          case hI1 => k_mem
          case hl1 =>
            (try dsimp only)
            k_extra "M sub"
            exact fun p hp => by repeat (first | exact hp | refine List.mem_cons_of_mem _ ?_)
          case hne1 =>
            (try dsimp only)
            refine AllNw.mem ?_
            simp only [AllNw]
            exact ⟨x1, x2, x3, x4, x5, x6, x7, x8, x9, x10, x11, x12, x13, x14, x15, x16, x17, NeW.of z1.r, x18⟩
          case hr1 => k_extra "M same"
          case hp1 =>
            (try dsimp only)
            rw [mateT_succ, hf0, (show fitsL q (wordZ q n (i : Int)) (wordZ q n (seedZ script 1)) = true by assumption), Bool.and_self, if_pos rfl]
            exact ⟨hlk.snoc hS, ⟨_, dx⟩, fcons z2.r hr1, fcons z16.r hr2, fcons ⟨ys, _, rfl⟩ hr3⟩
        · rename Fr _ _ _ _ => FZ
          rename News _ _ _ _ => NZ
          (repeat k_extra "M un")
          dsimp only [Post1]
          refine' End1.intro ⟨mv, km, ?oX2, rows⟩ FZ NZ ?hI2 ?hl2 ?hne2 (fun p hp => nomatch hp) ?hr2 ?hp2
          case hI2 => k_mem
          case hl2 =>
            (try dsimp only)
            k_extra "M sub"
            exact fun p hp => by repeat (first | exact hp | refine List.mem_cons_of_mem _ ?_)
          case hne2 =>
            (try dsimp only)
            refine AllNw.mem ?_
            simp only [AllNw]
            exact ⟨x1, x2, x3, x4, x5, x6, x7, x8, x9, x10, x11, x12, x13, x14, x15, x16, x17, x18⟩
          case hr2 => k_extra "M same"
          case hp2 =>
            (try dsimp only)
            rw [mateT_succ, hf0, (show fitsL q (wordZ q n (i : Int)) (wordZ q n (seedZ script 1)) = false by assumption), Bool.and_false, if_neg (by decide), List.append_nil]
            exact ⟨hlk, ⟨_, dx⟩, hr1, hr2, hr3⟩
      · rename Fr _ _ _ _ => FZ
        rename News _ _ _ _ => NZ
        (repeat k_extra "M un")
        dsimp only [Post1]
        refine' End1.intro ⟨mv, km, ?oX3, rows⟩ FZ NZ ?hI3 ?hl3 ?hne3 (fun p hp => nomatch hp) ?hr3 ?hp3
        case hI3 => k_mem
        case hl3 =>
          (try dsimp only)
          k_extra "M sub"
          exact fun p hp => by repeat (first | exact hp | refine List.mem_cons_of_mem _ ?_)
        case hne3 =>
          (try dsimp only)
          refine AllNw.mem ?_
          simp only [AllNw]
          exact ⟨x1, x2, x3, x4, x5, x6, x7, x8, x9, x10, x11, x12, x13, x14, x15, x16, x17, x18⟩
        case hr3 => k_extra "M same"
        case hp3 =>
          (try dsimp only)
          rw [mateT_succ, (show fitsL q (wordZ q n (i : Int)) (wordZ q n (seedZ script 0)) = false by assumption), Bool.false_and, if_neg (by decide), List.append_nil]
          exact ⟨hlk, ⟨_, dx⟩, hr1, hr2, hr3⟩
  case Rd =>
    clear FZ NZ
    rintro ⟨mv, km, oX, rows⟩ u h tk hp94 FZ NZ
    refine byG fun G9 hG9 => ?_
    obtain ⟨hlk, dX, hr1, hr2, hr3⟩ := hp94
    refine hG9 ?_
    clear hG9 G9
    dsimp only at hlk dX FZ NZ
    (try dsimp only)
    first | refine wpAny_execs_nil (Fin.mk ?_) | refine Fin.mk ?_
    refine ⟨⟨W0, a0, a1, a2, a3, D, cA, cB, k, k0, k1, k2, k3, sp, v0, v1, v2, v3, cv, oA, oB, o5, o4, oX, o2, o1, tt, tq, tn⟩, T, tv, kt, M, mv, km, rows, At.of FZ NZ ?_, ⟨i0, i1, i2, i3, hcv, hcA, hcB, dX, d4, d5, dq, dn⟩, hstr, hlk, hr3⟩
    unfold BSt.names
    repeat (first | exact List.forall_mem_nil _ | refine fcons (by exact Eq.refl (some _)) ?_)
end

section
theorem hush_L5 : True := by
  k_with_none
  w_top off
  trivial
theorem rules_L5_0 : True := by
  k_with "M ne" => first | exact NeW.l (by with_reducible assumption) | exact NeW.r (by with_reducible assumption) | (refine neN ?_; (try dsimp only); omega)
  k_with "M bits" => first | with_reducible assumption | exact bits_pow2 (by omega)
  k_with "M mem" => first | exact List.Mem.head _ | exact mem1 | exact mem2 | exact mem3 | exact mem4 | exact mem5 | exact mem6 | exact mem7 | exact mem8 | exact mem9 | exact mem10 | exact mem11 | exact mem12 | exact mem13
  k_with "M nw" => (try simp only [AllNw, and_true]); (try dsimp only); (repeat' constructor) <;> first | with_reducible assumption | (refine NeW.of ?_; k_ne)
  k_with "M sub2" => repeat (first | exact List.forall_mem_nil _ | refine fcons ⟨_, by k_mem⟩ ?_)
  k_with "M off" => repeat (first | exact List.forall_mem_nil _ | refine fcons (nin1 (by (try dsimp only); k_ne)) ?_)
  k_with "M sub" => repeat (first | exact List.forall_mem_nil _ | (refine fcons ?k9w ?_; (case k9w => k_mem)))
  k_with "subscriptTail Name Slice ref ref" => refine' slice_all_led ?k9F ?k9N ?k9l ?k9z ?k9p ?k9q ?_ ?k9s ?k9t; (case k9F => k_asm); (case k9N => k_asm); (case k9l => k_mem); (case k9z => omega); (case k9p => kmk_part); (case k9q => kmk_part); (case k9s => with_unfolding_all rfl); (case k9t => kmk_pure); intro k9D k9h k9F k9N k9l1; (try k_lt k9l1); (try k_sweep)
  k_with "M same" => intro z h1 h2 h3; (try dsimp only); (repeat (first | refine same_if (by first | exact h1 | exact ne_ps h2 rfl | exact ne_st h3 rfl) ?_ | exact rfl | exact same_st h3 | exact same_kst h2 h3 | refine same_k (by repeat (first | exact List.forall_mem_nil _ | refine fcons (by first | exact h1 | exact ne_ps h2 rfl | exact ne_st h3 rfl) ?_)) ?_ | refine same_c (by repeat (first | exact nc_nil | refine nc_cons (by first | exact h1 | exact ne_ps h2 rfl | exact ne_st h3 rfl) ?_)) ?_))
  k_with "call builtin:list.append" => refine' append_led ?k9la ?k9lb ?k9lc ?k9ld ?_; (case k9la => k_asm); (case k9lb => k_asm); (case k9lc => k_upd); (case k9ld => omega); intro k9h k9F k9N; (try k_sweep)
  k_with "call builtin:list.reverse" => refine' reverse_led ?k9la ?k9lb ?k9lc ?k9ld ?_; (case k9la => k_asm); (case k9lb => k_asm); (case k9lc => k_upd); (case k9ld => omega); intro k9h k9F k9N; (try k_sweep)
  k_with "binaryOp LShift int int" => refine' lshift_bits ?k9la ?k9lb ?k9lc ?k9ld ?_; (case k9la => omega); (case k9lb => omega); (case k9lc => bits_by_make); (case k9ld => decide)
  k_with "inplaceOp LShift int int" => refine' ilshift_bits ?k9la ?k9lb ?k9lc ?k9ld ?_; (case k9la => omega); (case k9lb => omega); (case k9lc => bits_by_make); (case k9ld => decide)
  k_with "M ROOM" => first | omega | ktr_room | ((try dsimp only [Around.deeper, ktrTop]); omega)
  k_with "M UNITS" => first | omega | ((try dsimp only [Around.deeper, ktrTop]); omega) | ktr_units
  k_with "execs cons" => (try k_fold); with_reducible first | refine seqL ?_ | (refine seqV ?_; intro Q8 q8)
  k_with "M un" => with_reducible first | (refine seqVN (s := s1) (by assumption) ?_; intro tk8; try clear q8 Q8) | (refine seqVN (s := s) (by assumption) ?_; intro tk8; try clear q8 Q8) | refine seqVR (by assumption) ?_ | refine seqVM (by assumption) ?_ | refine seqVB (by assumption) ?_ | refine seqVC (by assumption) ?_
  k_with "eval Name" => k_here; k_dflt (refine' nameX_L ?k9F ?k9v ?_ ?k9a ?k9b; (case k9F => k_asm); (case k9a => exact Eq.refl _); (case k9b => exact Eq.refl (some NameKind.local)); (case k9v => exact Eq.refl (some _)); k_whole)
  k_with "M off2" => repeat (first | exact List.forall_mem_nil _ | refine fcons (nin2 (by (try dsimp only); k_ne) (by (try dsimp only); k_ne)) ?_)
  k_with "L OPEN" => dsimp only [lawA, lawEnv, lawB, lawS, lawO, List.drop, List.take]
  trivial
theorem rows_off {h₀ h : Heap} {L a : Addr} {o : Obj} {rows news : List (Addr × Obj)} (hr : RowsL rows) (d : ∃ v, o.data = Data.cell v) (N : News h₀ L h news) (hm : (a, o) ∈ news) (hin : ∀ p ∈ rows, p ∈ news) : ∀ p ∈ rows, p.1 ≠ a := fun p hp => by
  obtain ⟨v, k, e⟩ := hr p hp
  have h2 := hin p hp
  exact (News.nwd N hm (b := p.1) (ob := p.2) h2 (by rw [e]; exact cell_seq d)).r
noncomputable def spareZ (script : List Int) : Int := Int.fmod (Int.fdiv script.sum 2) 3
noncomputable def moreZ (script : List Int) : Int := Int.fmod (Int.fdiv script.sum 6) 3
/-- the ledger from the code on, the far cell set -/
noncomputable def CE (g : Heap) (SZ : Nat) (s1 : Shared) (script : List Int) (q : Int) (n : Nat) (s' : Shared) : Prop := ∃ (c : BSt) (T : Addr) (tv : List Value) (kt : Nat) (M : Addr) (mv : List Value) (km : Nat) (rows : List (Addr × Obj)) (tx ts tm tf : Tok),
  At g SZ s1 ((Str.ofString "text", .str (textOf q (wordZ q n (seedZ script 2))) tx) :: (Str.ofString "spare", .int (spareZ script) ts) :: (Str.ofString "more", .int (moreZ script) tm) :: (Str.ofString "mate", .ref M) :: (Str.ofString "texts", .ref T) :: c.names script) ((M, W.listOf (List.toArray mv) km) :: (T, W.listOf (List.toArray tv) kt) :: (c.led SZ ++ rows)) s' ∧ c.Ok script q n
  ∧ StrsH tv ((codeL q (wordZ q n (seedZ script 0)) (wordZ q n (seedZ script 1))).map fun x => textL q (figZ n x)) ∧ Linked mv rows (mateT q n (wordZ q n (seedZ script 0)) (wordZ q n (seedZ script 1)) (q ^ n).toNat) ∧ RowsL rows
  ∧ c.o4.data = Data.cell (some (.int ((n : Int) * (q - 1)) tf))
set_option maxHeartbeats 8000000 in
theorem st_E {w : World} {p9 : Program} {lo9 : List Str} {me9 : ExcName → Option Value} {mg9 mb9 : Str → Option Value} {g base : Heap} {SZ : Nat} {fa : Addr} {cd : Value} {s1 : Shared} (KB : Below callerA base [] g) (XK : (hd.heap_1 w.params).In g) (TK : Top p9 lo9 me9 mg9 mb9 g) {script : List Int} {q : Int} {n : Nat} (hq2 : 2 ≤ q ∧ q ≤ 3) (hn : (n : Int) = 6 - q) (h44 : 44 < SZ) (h37 : 37 < SZ)
    (hrot : levM (textL q (wordZ q n (seedZ script 2))) ((textL q (wordZ q n (seedZ script 2))).drop 1 ++ [(textL q (wordZ q n (seedZ script 2))).getD 0 0]) (3 + spareZ script) = 4) {s' : Shared} (h0 : CD g SZ s1 script q n s') :
    LawPart w SZ fa cd 9 5 (CE g SZ s1 script q n) s' := by
  unfold LawPart PR
  revert XK
  k_fill
  intro XK
  have hn4 : 3 ≤ n ∧ n ≤ 4 := by omega
  refine byG fun G9 hG9 => ?_
  obtain ⟨⟨W0, a0, a1, a2, a3, D, cA, cB, k, k0, k1, k2, k3, sp, v0, v1, v2, v3, cv, oA, oB, o5, o4, oX, o2, o1, tt, tq, tn⟩, T, tv, kt, M, mv, km, rows, ⟨h, tk, m', rfl, FZ, NZ⟩, ⟨i0, i1, i2, i3, hcv, hcA, hcB, dX, d4, d5, dq, dn⟩, hstr, hlk, hrL⟩ := h0
  refine hG9 ?_
  clear hG9 G9
  unfold BSt.names at FZ
  unfold BSt.led at NZ
  simp only [kstF_cons, kstF_nil] at FZ
  dsimp only [List.cons_append, List.nil_append] at FZ NZ
  dsimp only at i0 i1 i2 i3 hcv hcA hcB dX d4 d5 dq dn
  k_extra "L OPEN"
  have hsp := (fdiv_fmod_facts (Int.fdiv script.sum 2) 3).2.2.1 (by decide)
  have hmo := (fdiv_fmod_facts (Int.fdiv script.sum 6) 3).2.2.1 (by decide)
  have c4 := fun {its : Array Value} {k : Nat} => cell_seq d4 (its := its) (k := k)
  have yM : NeW (SZ + 1 + 1 + 1 + 1) M := News.nwd NZ (by k_mem) (by k_mem) c4
  have y0 : NeW (SZ + 1 + 1 + 1 + 1) T := News.nwd NZ (by k_mem) (by k_mem) c4
  have y1 : NeW (SZ + 1 + 1 + 1 + 1) D := News.nwd NZ (by k_mem) (by k_mem) c4
  have y2 : NeW (SZ + 1 + 1 + 1 + 1) a0 := News.nwd NZ (by k_mem) (by k_mem) c4
  have y3 : NeW (SZ + 1 + 1 + 1 + 1) a1 := News.nwd NZ (by k_mem) (by k_mem) c4
  have y4 : NeW (SZ + 1 + 1 + 1 + 1) a2 := News.nwd NZ (by k_mem) (by k_mem) c4
  have y5 : NeW (SZ + 1 + 1 + 1 + 1) a3 := News.nwd NZ (by k_mem) (by k_mem) c4
  have y6 : NeW (SZ + 1 + 1 + 1 + 1) W0 := News.nwd NZ (by k_mem) (by k_mem) c4
  have y7 : NeW (SZ + 1 + 1 + 1 + 1) cA := News.nwd NZ (by k_mem) (by k_mem) (cell_code d4 hcA)
  have y8 : NeW (SZ + 1 + 1 + 1 + 1) cB := News.nwd NZ (by k_mem) (by k_mem) (cell_code d4 hcB)
  have hr4 : ∀ p ∈ rows, p.1 ≠ SZ + 1 + 1 + 1 + 1 := rows_off hrL d4 NZ (by k_mem) (fun p hp => by repeat (first | exact hp | refine List.mem_cons_of_mem _ ?_))
  obtain ⟨v4, d4⟩ := d4
  have htl : (textL q (wordZ q n (seedZ script 2))).length = n := by rw [textL_len, wordZ_len]
  have hto : textOf q (wordZ q n (seedZ script 2)) = ⟨(textL q (wordZ q n (seedZ script 2))).toArray⟩ := rfl
  unfold CE
  rw [hto]
  generalize textL q (wordZ q n (seedZ script 2)) = tx at *
  k_with "call ref" => (refine hold ?_)
  k_steps
  refine unhold ?_
  rename Fr _ _ _ _ => FZ
  rename News _ _ _ _ => NZ
  refine (ctr_textq a2 v2 (wordZ q n (seedZ script 2)) q _ n hq2 hn (wordZ_len _ _ _) (wordZ_low hq2)).use KB FZ XK TK rfl Off.nil (by k_extra "M ROOM") (by k_extra "M UNITS") ⟨⟨_, (NZ (a2, _) (by k_mem)).1, rfl, _, rfl⟩, i2⟩ ?_
  rintro r hA2 tkA2 FA KA ⟨t9, rfl⟩
  have NA := KA.news0 NZ
  clear FZ NZ KA
  rw [hto]
  have htx : (⟨tx.toArray⟩ : Str).length = n := by rw [len_mk, htl]
  k_steps
  refine unhold ?_
  rename Fr _ _ _ _ => FZ
  rename News _ _ _ _ => NZ
  have hrs : Txt.slice ⟨tx.toArray⟩ (some 1) none ++ Txt.item ⟨tx.toArray⟩ 0 = ⟨(tx.drop 1 ++ [tx.getD 0 0]).toArray⟩ := by
    rw [sl_from (by omega) (by omega), item_at (by omega) (by omega)]
    exact app_mk _ _
  rw [hrs]
  refine (ctr_lev tx (tx.drop 1 ++ [tx.getD 0 0]) _ _ _ _ n htl (by rw [List.length_append, List.length_drop, htl, List.length_singleton]; omega) hn4.2 (by omega)).use KB FZ XK TK rfl Off.nil (by k_extra "M ROOM") (by k_extra "M UNITS") trivial ?_
  rintro r hA3 tkA3 FA KA ⟨t8, rfl⟩
  have NB := KA.news0 NZ
  clear FZ NZ KA
  rw [show 3 + Int.fmod (Int.fdiv script.sum 2) 3 = 3 + spareZ script from rfl, hrot]
  k_steps
  all_goals (try (exfalso; omega))
  rename Fr _ _ _ _ => FZ
  rename News _ _ _ _ => NZ
  rename Obj.data _ = Data.cell (some (Value.int ((n : Int) * (q - 1)) _)) => d4
  refine Fin.mk ⟨⟨W0, a0, a1, a2, a3, D, cA, cB, k, k0, k1, k2, k3, sp, v0, v1, v2, v3, cv, oA, oB, o5, _, oX, o2, o1, tt, tq, tn⟩, T, tv, kt, M, mv, km, rows, ?tx9, ?ts9, ?tm9, _, At.of FZ NZ ?nm9, ⟨i0, i1, i2, i3, hcv, hcA, hcB, dX, ⟨_, d4⟩, d5, dq, dn⟩, hstr, hlk, hrL, d4⟩
  case nm9 =>
    unfold BSt.names
    repeat (first | exact List.forall_mem_nil _ | refine fcons (by exact Eq.refl (some _)) ?_)
end

section
theorem hush_L6 : True := by
  k_with_none
  w_top off
  trivial
set_option genSizeOf false
set_option genInjectivity false

theorem rules_L6_0 : True := by
  k_with "M ne" => first | exact NeW.l (by with_reducible assumption) | exact NeW.r (by with_reducible assumption) | (refine neN ?_; (try dsimp only); omega)
  k_with "M bits" => first | with_reducible assumption | exact bits_pow2 (by omega)
  k_with "M mem" => first | exact List.Mem.head _ | exact mem1 | exact mem2 | exact mem3 | exact mem4 | exact mem5 | exact mem6 | exact mem7 | exact mem8 | exact mem9 | exact mem10 | exact mem11 | exact mem12 | exact mem13
  k_with "M nw" => (try simp only [AllNw, and_true]); (try dsimp only); (repeat' constructor) <;> first | with_reducible assumption | (refine NeW.of ?_; k_ne)
  k_with "M sub2" => repeat (first | exact List.forall_mem_nil _ | refine fcons ⟨_, by k_mem⟩ ?_)
  k_with "M off" => repeat (first | exact List.forall_mem_nil _ | refine fcons (nin1 (by (try dsimp only); k_ne)) ?_)
  k_with "M sub" => repeat (first | exact List.forall_mem_nil _ | (refine fcons ?k9w ?_; (case k9w => k_mem)))
  k_with "subscriptTail Name Slice ref ref" => refine' slice_all_led ?k9F ?k9N ?k9l ?k9z ?k9p ?k9q ?_ ?k9s ?k9t; (case k9F => k_asm); (case k9N => k_asm); (case k9l => k_mem); (case k9z => omega); (case k9p => kmk_part); (case k9q => kmk_part); (case k9s => with_unfolding_all rfl); (case k9t => kmk_pure); intro k9D k9h k9F k9N k9l1; (try k_lt k9l1); (try k_sweep)
  k_with "M same" => intro z h1 h2 h3; (try dsimp only); (repeat (first | refine same_if (by first | exact h1 | exact ne_ps h2 rfl | exact ne_st h3 rfl) ?_ | exact rfl | exact same_st h3 | exact same_kst h2 h3 | refine same_k (by repeat (first | exact List.forall_mem_nil _ | refine fcons (by first | exact h1 | exact ne_ps h2 rfl | exact ne_st h3 rfl) ?_)) ?_ | refine same_c (by repeat (first | exact nc_nil | refine nc_cons (by first | exact h1 | exact ne_ps h2 rfl | exact ne_st h3 rfl) ?_)) ?_))
  k_with "call builtin:list.append" => refine' append_led ?k9la ?k9lb ?k9lc ?k9ld ?_; (case k9la => k_asm); (case k9lb => k_asm); (case k9lc => k_upd); (case k9ld => omega); intro k9h k9F k9N; (try k_sweep)
  k_with "call builtin:list.reverse" => refine' reverse_led ?k9la ?k9lb ?k9lc ?k9ld ?_; (case k9la => k_asm); (case k9lb => k_asm); (case k9lc => k_upd); (case k9ld => omega); intro k9h k9F k9N; (try k_sweep)
  k_with "binaryOp LShift int int" => refine' lshift_bits ?k9la ?k9lb ?k9lc ?k9ld ?_; (case k9la => omega); (case k9lb => omega); (case k9lc => bits_by_make); (case k9ld => decide)
  k_with "inplaceOp LShift int int" => refine' ilshift_bits ?k9la ?k9lb ?k9lc ?k9ld ?_; (case k9la => omega); (case k9lb => omega); (case k9lc => bits_by_make); (case k9ld => decide)
  k_with "M ROOM" => first | omega | ktr_room | ((try dsimp only [Around.deeper, ktrTop]); omega)
  k_with "M UNITS" => first | omega | ((try dsimp only [Around.deeper, ktrTop]); omega) | ktr_units
  k_with "execs cons" => (try k_fold); with_reducible first | refine seqL ?_ | (refine seqV ?_; intro Q8 q8)
  k_with "M un" => with_reducible first | (refine seqVN (s := s1) (by assumption) ?_; intro tk8; try clear q8 Q8) | (refine seqVN (s := s) (by assumption) ?_; intro tk8; try clear q8 Q8) | refine seqVR (by assumption) ?_ | refine seqVM (by assumption) ?_ | refine seqVB (by assumption) ?_ | refine seqVC (by assumption) ?_
  k_with "eval Name" => k_here; k_dflt (refine' nameX_L ?k9F ?k9v ?_ ?k9a ?k9b; (case k9F => k_asm); (case k9a => exact Eq.refl _); (case k9b => exact Eq.refl (some NameKind.local)); (case k9v => exact Eq.refl (some _)); k_whole)
  k_with "M off2" => repeat (first | exact List.forall_mem_nil _ | refine fcons (nin2 (by (try dsimp only); k_ne) (by (try dsimp only); k_ne)) ?_)
  k_with "L OPEN" => dsimp only [lawA, lawEnv, lawB, lawS, lawO, List.drop, List.take]
  trivial
/-- places that differ -/
noncomputable def hamZ (a b : List Int) : Nat := ((a.zip b).filter fun p => p.1 != p.2).length
noncomputable def distZ (q : Int) (a b : List Int) : Nat := (q - 1).toNat * hamZ a b
noncomputable def ddZ (q : Int) (n : Nat) (script : List Int) (j : Nat) : List Nat := (codeL q (wordZ q n (seedZ script 0)) (wordZ q n (seedZ script 1))).map fun x => distZ q (wordZ q n (seedZ script j)) (figZ n x)
noncomputable def str3 (q : Int) (n : Nat) (script : List Int) : List Nat := leadS [] (ddZ q n script 2) ++ List.replicate (spareZ script).toNat 32 ++ [120, 9, 32]
noncomputable def str4 (q : Int) (n : Nat) (script : List Int) : List Nat := leadS (List.replicate (Int.fdiv (moreZ script) 2).toNat 9) (ddZ q n script 3) ++ List.replicate (spareZ script + Int.fmod (moreZ script) 2).toNat 32 ++ [120, 9, 32]
structure WsO where
  x : Addr
  dx : Addr
  tn : Addr
  tc : Addr
  t1 : Tok
  t2 : Tok
  t3 : Tok
  t4 : Tok
  t5 : Tok
  v1 : Value
  v2 : Value
  v3 : Value
  v5 : Value
  tb : Tok
  cv : List Value
noncomputable def WsO.led (P : Params) (S : List Nat) (o : WsO) : List (Addr × Obj) := [(o.x, instObj 152 o.dx), (o.dx, wsD P o.t1 o.t2 o.t3 o.t4 o.t5 o.v1 o.v2 o.v3 (.ref o.tn) o.v5), (o.tn, { cls := .type "tuple", data := .seq #[.ref o.tc, .int (wsGo S [] 0 0 0).2.1 o.tb] }), (o.tc, { cls := .type "tuple", data := .seq o.cv.toArray })]
theorem empty_is : Str.ofString "" = ⟨[].toArray⟩ := by decide +kernel
theorem mul_tab (d : Nat) : Txt.mul (Str.ofString "\t") (d : Int) = ⟨(List.replicate d 9).toArray⟩ := by
  rw [tab_is]
  unfold Txt.mul
  by_cases h0 : (d : Int) < 1
  · have e : d = 0 := by omega
    subst e
    rfl
  · rw [if_neg h0]
    by_cases h1 : d = 1
    · subst h1
      rfl
    · have e1 : (((d : Int) == 1) || (⟨[9].toArray⟩ : Str).length == 0) = false := by
        have : ¬ (d : Int) = 1 := by omega
        simp [this, Str.length]
      rw [if_neg (by rw [e1]; decide), Int.toNat_natCast]
      have := rep_nat 9 d #[]
      simp only at this ⊢
      rw [this]
      simp
theorem dd_at {q : Int} {n : Nat} {script : List Int} {j : Nat} {bound : Int} (h : ∀ x ∈ codeL q (wordZ q n (seedZ script 0)) (wordZ q n (seedZ script 1)), levM (textL q (wordZ q n (seedZ script j))) (textL q (figZ n x)) bound = (distZ q (wordZ q n (seedZ script j)) (figZ n x) : Int) ∧ distZ q (wordZ q n (seedZ script j)) (figZ n x) ≤ 8) :
    ∀ (i d : Nat) (y : List Nat), (ddZ q n script j)[i]? = some d → ((codeL q (wordZ q n (seedZ script 0)) (wordZ q n (seedZ script 1))).map fun x => textL q (figZ n x))[i]? = some y → levM (textL q (wordZ q n (seedZ script j))) y bound = (d : Int) ∧ d ≤ 8 := by
  intro i d y h1 h2
  unfold ddZ at h1
  rw [List.getElem?_map] at h1 h2
  cases e : (codeL q (wordZ q n (seedZ script 0)) (wordZ q n (seedZ script 1)))[i]? with
  | none => rw [e] at h1; cases h1
  | some x =>
    rw [e] at h1 h2
    cases h1
    cases h2
    exact h x (List.mem_of_getElem? e)
/-- and both leads -/
inductive CF (w : World) (g : Heap) (SZ : Nat) (s1 : Shared) (script : List Int) (q : Int) (n : Nat) (s' : Shared) : Prop
  | mk (c : BSt) (M : Addr) (mv : List Value) (km : Nat) (rows : List (Addr × Obj)) (x3 x4 : WsO) (tm tf : Tok) (h9x0 : At g SZ s1 ((Str.ofString "fourth", .ref x4.x) :: (Str.ofString "third", .ref x3.x) :: (Str.ofString "more", .int (moreZ script) tm) :: (Str.ofString "mate", .ref M) :: c.names script) (x4.led w.params (str4 q n script) ++ (x3.led w.params (str3 q n script) ++ ((M, W.listOf (List.toArray mv) km) :: (c.led SZ ++ rows)))) s') (h9x1 : c.Ok script q n) (h9x2 : Linked mv rows (mateT q n (wordZ q n (seedZ script 0)) (wordZ q n (seedZ script 1)) (q ^ n).toNat)) (h9x3 : RowsL rows) (h9x4 : c.o4.data = Data.cell (some (.int ((n : Int) * (q - 1)) tf))) (h9x5 : IntsAre x3.cv (wsGo (str3 q n script) [] 0 0 0).1) (h9x6 : IntsAre x4.cv (wsGo (str4 q n script) [] 0 0 0).1) : CF w g SZ s1 script q n s'
set_option maxHeartbeats 8000000 in
theorem st_F {w : World} {p9 : Program} {lo9 : List Str} {me9 : ExcName → Option Value} {mg9 mb9 : Str → Option Value} {g base : Heap} {SZ : Nat} {fa : Addr} {cd : Value} {s1 : Shared} (KB : Below callerA base [] g) (XK : (hd.heap_1 w.params).In g) (TK : Top p9 lo9 me9 mg9 mb9 g) {script : List Int} {q : Int} {n : Nat} (hq2 : 2 ≤ q ∧ q ≤ 3) (hn : (n : Int) = 6 - q) (h44 : 44 < SZ) (h37 : 37 < SZ)
    (hd : ∀ j, j = 2 ∨ j = 3 → ∀ x ∈ codeL q (wordZ q n (seedZ script 0)) (wordZ q n (seedZ script 1)), levM (textL q (wordZ q n (seedZ script j))) (textL q (figZ n x)) ((n : Int) * (q - 1) - 1 + spareZ script) = (distZ q (wordZ q n (seedZ script j)) (figZ n x) : Int) ∧ distZ q (wordZ q n (seedZ script j)) (figZ n x) ≤ 8) {s' : Shared} (h0 : CE g SZ s1 script q n s') :
    LawPart w SZ fa cd 14 3 (CF w g SZ s1 script q n) s' := by
  unfold LawPart PR
  revert XK
  k_fill
  intro XK
  have hn4 : 3 ≤ n ∧ n ≤ 4 := by omega
  refine byG fun G9 hG9 => ?_
  obtain ⟨⟨W0, a0, a1, a2, a3, D, cA, cB, k, k0, k1, k2, k3, sp, v0, v1, v2, v3, cv, oA, oB, o5, o4, oX, o2, o1, tt, tq, tn⟩, T, tv, kt, M, mv, km, rows, tx, ts, tm, tf, ⟨h, tk, m', rfl, FZ, NZ⟩, ⟨i0, i1, i2, i3, hcv, hcA, hcB, dX, d4', d5, dq, dn⟩, hstr, hlk, hrL, d4⟩ := h0
  refine hG9 ?_
  clear hG9 G9
  unfold BSt.names at FZ
  unfold BSt.led at NZ
  simp only [kstF_cons, kstF_nil] at FZ
  dsimp only [List.cons_append, List.nil_append] at FZ NZ
  dsimp only at i0 i1 i2 i3 hcv hcA hcB dX d4 d4' d5 dq dn
  k_extra "L OPEN"
  have hsp : 0 ≤ spareZ script ∧ spareZ script < 3 := (fdiv_fmod_facts (Int.fdiv script.sum 2) 3).2.2.1 (by decide)
  have hmo : 0 ≤ moreZ script ∧ moreZ script < 3 := (fdiv_fmod_facts (Int.fdiv script.sum 6) 3).2.2.1 (by decide)
  have hmo2 : 0 ≤ Int.fdiv (moreZ script) 2 ∧ Int.fdiv (moreZ script) 2 ≤ 1 := by
    have e : moreZ script = 0 ∨ moreZ script = 1 ∨ moreZ script = 2 := by omega
    rcases e with e | e | e <;> rw [e] <;> decide
  have hmo3 : 0 ≤ Int.fmod (moreZ script) 2 ∧ Int.fmod (moreZ script) 2 < 2 := (fdiv_fmod_facts (moreZ script) 2).2.2.1 (by decide)
  have hfar : 3 ≤ (n : Int) * (q - 1) ∧ (n : Int) * (q - 1) ≤ 6 := by
    have e : q = 2 ∨ q = 3 := by omega
    rcases e with rfl | rfl
    · obtain rfl : n = 4 := by omega
      decide
    · obtain rfl : n = 3 := by omega
      decide
  have hcD := codeL_keep hq2 (w0 := wordZ q n (seedZ script 0)) (w1 := wordZ q n (seedZ script 1)) (by rw [wordZ_len]; omega) (by rw [wordZ_len]; omega)
  have hd2 := hd 2 (.inl rfl)
  have hd3 := hd 3 (.inr rfl)
  have hto : ∀ j, textOf q (wordZ q n (seedZ script j)) = ⟨(textL q (wordZ q n (seedZ script j))).toArray⟩ := fun j => rfl
  have htl : ∀ j, (textL q (wordZ q n (seedZ script j))).length = n := fun j => by rw [textL_len, wordZ_len]
  rw [hto] at FZ
  k_with "call ref" => (refine hold ?_)
  k_steps
  refine unhold ?_
  rename Fr _ _ _ _ => FZ
  rename News _ _ _ _ => NZ
  have hbe : Txt.mul (Str.ofString " ") (spareZ script) = ⟨(List.replicate (spareZ script).toNat 32).toArray⟩ := by
    have := mul_blank (spareZ script).toNat
    rwa [show (((spareZ script).toNat : Nat) : Int) = spareZ script by omega] at this
  have htt : ∀ y ∈ (codeL q (wordZ q n (seedZ script 0)) (wordZ q n (seedZ script 1))).map fun x => textL q (figZ n x), y.length = n := fun y hy => by
    obtain ⟨x, _, rfl⟩ := List.mem_map.mp hy
    rw [textL_len, figZ_len]
  have hdl : ∀ j, (ddZ q n script j).length = ((codeL q (wordZ q n (seedZ script 0)) (wordZ q n (seedZ script 1))).map fun x => textL q (figZ n x)).length := fun j => by unfold ddZ; rw [List.length_map, List.length_map]
  have hd9 : ∀ j, (ddZ q n script j).length ≤ 9 := fun j => by rw [hdl, List.length_map]; exact hcD.2
  rw [empty_is, hbe]
  refine (ctr_lead T tv _ [] (List.replicate (spareZ script).toNat 32) _ _ _ _ _ ((n : Int) * (q - 1) - 1 + spareZ script) n (ddZ q n script 2) hn4.2 (htl 2) htt (by omega) (hdl 2) (hd9 2) (dd_at hd2) (by decide) (by rw [List.length_replicate]; omega)).use KB FZ XK TK rfl Off.nil (by k_extra "M ROOM") (by k_extra "M UNITS") ⟨⟨_, (NZ (T, _) (by k_mem)).1, rfl, _, rfl⟩, hstr⟩ ?_
  rintro r hA3 tkA3 FA KA hp95
  refine byG fun G9 hG9 => ?_
  obtain ⟨x3, dx3, tn3, tc3, p1, p2, p3, p4, p5, z1, z2, z3, z5, tb3, cv3, rfl, m1, m2, m3, m4, hc3⟩ := hp95
  refine hG9 ?_
  clear hG9 G9
  have NB := m1.news FZ (m2.news FZ (m3.news FZ (m4.news FZ (KA.news0 NZ))))
  clear FZ NZ KA m1 m2 m3 m4
  k_steps
  refine unhold ?_
  rename Fr _ _ _ _ => FZ
  rename News _ _ _ _ => NZ
  refine (ctr_textq a3 v3 (wordZ q n (seedZ script 3)) q _ n hq2 hn (wordZ_len _ _ _) (wordZ_low hq2)).use KB FZ XK TK rfl Off.nil (by k_extra "M ROOM") (by k_extra "M UNITS") ⟨⟨_, (NZ (a3, _) (by k_mem)).1, rfl, _, rfl⟩, i3⟩ ?_
  rintro r hA2 tkA2 FA KA ⟨t9, rfl⟩
  have NA := KA.news0 NZ
  clear FZ NZ KA
  rw [hto]
  k_steps
  refine unhold ?_
  rename Fr _ _ _ _ => FZ
  rename News _ _ _ _ => NZ
  have hah : Txt.mul (Str.ofString "\t") (Int.fdiv (moreZ script) 2) = ⟨(List.replicate (Int.fdiv (moreZ script) 2).toNat 9).toArray⟩ := by
    have := mul_tab (Int.fdiv (moreZ script) 2).toNat
    rwa [show (((Int.fdiv (moreZ script) 2).toNat : Nat) : Int) = Int.fdiv (moreZ script) 2 by omega] at this
  have hbe4 : Txt.mul (Str.ofString " ") (spareZ script + Int.fmod (moreZ script) 2) = ⟨(List.replicate (spareZ script + Int.fmod (moreZ script) 2).toNat 32).toArray⟩ := by
    have := mul_blank (spareZ script + Int.fmod (moreZ script) 2).toNat
    rwa [show (((spareZ script + Int.fmod (moreZ script) 2).toNat : Nat) : Int) = spareZ script + Int.fmod (moreZ script) 2 by omega] at this
  rw [hah, hbe4]
  refine (ctr_lead T tv _ (List.replicate (Int.fdiv (moreZ script) 2).toNat 9) (List.replicate (spareZ script + Int.fmod (moreZ script) 2).toNat 32) _ _ _ _ _ ((n : Int) * (q - 1) - 1 + spareZ script) n (ddZ q n script 3) hn4.2 (htl 3) htt (by omega) (hdl 3) (hd9 3) (dd_at hd3) (by rw [List.length_replicate]; omega) (by rw [List.length_replicate]; omega)).use KB FZ XK TK rfl Off.nil (by k_extra "M ROOM") (by k_extra "M UNITS") ⟨⟨_, (NZ (T, _) (by k_mem)).1, rfl, _, rfl⟩, hstr⟩ ?_
  rintro r hA4 tkA4 FA KA hp95
  refine byG fun G9 hG9 => ?_
  obtain ⟨x4, dx4, tn4, tc4, r1, r2, r3, r4, r5, w1, w2, w3, w5, tb4, cv4, rfl, m1, m2, m3, m4, hc4⟩ := hp95
  refine hG9 ?_
  clear hG9 G9
  have NC := m1.news FZ (m2.news FZ (m3.news FZ (m4.news FZ (KA.news0 NZ))))
  clear FZ NZ KA m1 m2 m3 m4
  k_steps
  rename Fr _ _ _ _ => FZ
  rename News _ _ _ _ => NZ
  refine Fin.mk ⟨⟨W0, a0, a1, a2, a3, D, cA, cB, k, k0, k1, k2, k3, sp, v0, v1, v2, v3, cv, oA, oB, o5, o4, oX, o2, o1, tt, tq, tn⟩, M, mv, km, rows, ⟨x3, dx3, tn3, tc3, p1, p2, p3, p4, p5, z1, z2, z3, z5, tb3, cv3⟩, ⟨x4, dx4, tn4, tc4, r1, r2, r3, r4, r5, w1, w2, w3, w5, tb4, cv4⟩, tm, tf, At.of FZ (News.sub NZ ?sb9) ?nm9, ⟨i0, i1, i2, i3, hcv, hcA, hcB, dX, ⟨_, d4⟩, d5, dq, dn⟩, hlk, hrL, d4, hc3, hc4⟩
  case nm9 =>
    unfold BSt.names
    repeat (first | exact List.forall_mem_nil _ | refine fcons (by exact Eq.refl (some _)) ?_)
  case sb9 =>
    unfold WsO.led BSt.led
    dsimp only [List.cons_append, List.nil_append]
    k_extra "M sub"
    exact fun p hp => by repeat (first | exact hp | refine List.mem_cons_of_mem _ ?_)
end

section
theorem hush_L7 : True := by
  k_with_none
  w_top off
  trivial
theorem rules_L7_0 : True := by
  k_with "M ne" => first | exact NeW.l (by with_reducible assumption) | exact NeW.r (by with_reducible assumption) | (refine neN ?_; (try dsimp only); omega)
  k_with "M bits" => first | with_reducible assumption | exact bits_pow2 (by omega)
  k_with "M mem" => first | exact List.Mem.head _ | exact mem1 | exact mem2 | exact mem3 | exact mem4 | exact mem5 | exact mem6 | exact mem7 | exact mem8 | exact mem9 | exact mem10 | exact mem11 | exact mem12 | exact mem13
  k_with "M nw" => (try simp only [AllNw, and_true]); (try dsimp only); (repeat' constructor) <;> first | with_reducible assumption | (refine NeW.of ?_; k_ne)
  k_with "M sub2" => repeat (first | exact List.forall_mem_nil _ | refine fcons ⟨_, by k_mem⟩ ?_)
  k_with "M off" => repeat (first | exact List.forall_mem_nil _ | refine fcons (nin1 (by (try dsimp only); k_ne)) ?_)
  k_with "M sub" => repeat (first | exact List.forall_mem_nil _ | (refine fcons ?k9w ?_; (case k9w => k_mem)))
  k_with "subscriptTail Name Slice ref ref" => refine' slice_all_led ?k9F ?k9N ?k9l ?k9z ?k9p ?k9q ?_ ?k9s ?k9t; (case k9F => k_asm); (case k9N => k_asm); (case k9l => k_mem); (case k9z => omega); (case k9p => kmk_part); (case k9q => kmk_part); (case k9s => with_unfolding_all rfl); (case k9t => kmk_pure); intro k9D k9h k9F k9N k9l1; (try k_lt k9l1); (try k_sweep)
  k_with "M same" => intro z h1 h2 h3; (try dsimp only); (repeat (first | refine same_if (by first | exact h1 | exact ne_ps h2 rfl | exact ne_st h3 rfl) ?_ | exact rfl | exact same_st h3 | exact same_kst h2 h3 | refine same_k (by repeat (first | exact List.forall_mem_nil _ | refine fcons (by first | exact h1 | exact ne_ps h2 rfl | exact ne_st h3 rfl) ?_)) ?_ | refine same_c (by repeat (first | exact nc_nil | refine nc_cons (by first | exact h1 | exact ne_ps h2 rfl | exact ne_st h3 rfl) ?_)) ?_))
  k_with "call builtin:list.append" => refine' append_led ?k9la ?k9lb ?k9lc ?k9ld ?_; (case k9la => k_asm); (case k9lb => k_asm); (case k9lc => k_upd); (case k9ld => omega); intro k9h k9F k9N; (try k_sweep)
  k_with "call builtin:list.reverse" => refine' reverse_led ?k9la ?k9lb ?k9lc ?k9ld ?_; (case k9la => k_asm); (case k9lb => k_asm); (case k9lc => k_upd); (case k9ld => omega); intro k9h k9F k9N; (try k_sweep)
  k_with "binaryOp LShift int int" => refine' lshift_bits ?k9la ?k9lb ?k9lc ?k9ld ?_; (case k9la => omega); (case k9lb => omega); (case k9lc => bits_by_make); (case k9ld => decide)
  k_with "inplaceOp LShift int int" => refine' ilshift_bits ?k9la ?k9lb ?k9lc ?k9ld ?_; (case k9la => omega); (case k9lb => omega); (case k9lc => bits_by_make); (case k9ld => decide)
  k_with "M ROOM" => first | omega | ktr_room | ((try dsimp only [Around.deeper, ktrTop]); omega)
  k_with "M UNITS" => first | omega | ((try dsimp only [Around.deeper, ktrTop]); omega) | ktr_units
  k_with "execs cons" => (try k_fold); with_reducible first | refine seqL ?_ | (refine seqV ?_; intro Q8 q8)
  k_with "M un" => with_reducible first | (refine seqVN (s := s1) (by assumption) ?_; intro tk8; try clear q8 Q8) | (refine seqVN (s := s) (by assumption) ?_; intro tk8; try clear q8 Q8) | refine seqVR (by assumption) ?_ | refine seqVM (by assumption) ?_ | refine seqVB (by assumption) ?_ | refine seqVC (by assumption) ?_
  k_with "eval Name" => k_here; k_dflt (refine' nameX_L ?k9F ?k9v ?_ ?k9a ?k9b; (case k9F => k_asm); (case k9a => exact Eq.refl _); (case k9b => exact Eq.refl (some NameKind.local)); (case k9v => exact Eq.refl (some _)); k_whole)
  k_with "M off2" => repeat (first | exact List.forall_mem_nil _ | refine fcons (nin2 (by (try dsimp only); k_ne) (by (try dsimp only); k_ne)) ?_)
  k_with "L OPEN" => dsimp only [lawA, lawEnv, lawB, lawS, lawO, List.drop, List.take]
  trivial
noncomputable def widthZ (script : List Int) : Int := 8 + Int.fmod script.sum 50 + (if Int.fmod (Int.fdiv script.sum 50) 8 = 3 then 1040 else 0)
noncomputable def baseZ (script : List Int) : Int := 2 ^ (widthZ script).toNat
noncomputable def unitZ (script : List Int) : Int := baseZ script ^ 4 + 1
noncomputable def mateZ (q : Int) (n : Nat) (script : List Int) : List (List Int) := mateT q n (wordZ q n (seedZ script 0)) (wordZ q n (seedZ script 1)) (q ^ n).toNat
noncomputable def weighedZ (q : Int) (n : Nat) (script : List Int) (j : Nat) : Int := sumZ (mateZ q n script) (wordZ q n (seedZ script j)) q (baseZ script ^ (q - 1).toNat)
noncomputable def bottomZ (q : Int) (n : Nat) (script : List Int) : Int := (q - 1) * ((mateZ q n script).length : Int) * unitZ script
noncomputable def drawnZ (q : Int) (n : Nat) (script : List Int) : Int := Int.fmod (script.sum * Int.fdiv (bottomZ q n script) 7 + 1000) (bottomZ q n script)
noncomputable def topZ (q : Int) (n : Nat) (script : List Int) : Int := weighedZ q n script 2 * unitZ script + drawnZ q n script
/-- what stands from the leads on; the further names ps -/
inductive CGp (w : World) (g : Heap) (SZ : Nat) (s1 : Shared) (script : List Int) (q : Int) (n : Nat) (ps : List (Str × Value)) (s' : Shared) : Prop
  | mk (c : BSt) (M : Addr) (mv : List Value) (km : Nat) (rows : List (Addr × Obj)) (x3 x4 : WsO) (tm tf : Tok) (h9x0 : At g SZ s1 (ps ++ ((Str.ofString "fourth", .ref x4.x) :: (Str.ofString "third", .ref x3.x) :: (Str.ofString "more", .int (moreZ script) tm) :: (Str.ofString "mate", .ref M) :: c.names script)) (x4.led w.params (str4 q n script) ++ (x3.led w.params (str3 q n script) ++ ((M, W.listOf (List.toArray mv) km) :: (c.led SZ ++ rows)))) s') (h9x1 : c.Ok script q n) (h9x2 : Linked mv rows (mateZ q n script)) (h9x3 : RowsL rows) (h9x4 : c.o4.data = Data.cell (some (.int ((n : Int) * (q - 1)) tf))) (h9x5 : IntsAre x3.cv (wsGo (str3 q n script) [] 0 0 0).1) (h9x6 : IntsAre x4.cv (wsGo (str4 q n script) [] 0 0 0).1) : CGp w g SZ s1 script q n ps s'
set_option maxHeartbeats 8000000 in
theorem st_G {w : World} {p9 : Program} {lo9 : List Str} {me9 : ExcName → Option Value} {mg9 mb9 : Str → Option Value} {g base : Heap} {SZ : Nat} {fa : Addr} {cd : Value} {s1 : Shared} (KB : Below callerA base [] g) (XK : (hd.heap_1 w.params).In g) (TK : Top p9 lo9 me9 mg9 mb9 g) {script : List Int} {q : Int} {n : Nat} (hq2 : 2 ≤ q ∧ q ≤ 3) (hn : (n : Int) = 6 - q) (h44 : 44 < SZ) (h37 : 37 < SZ) {s' : Shared} (h0 : CF w g SZ s1 script q n s') :
    LawPart w SZ fa cd 17 2 (fun s => ∃ tw, CGp w g SZ s1 script q n [(Str.ofString "width", .int (widthZ script) tw)] s) s' := by
  unfold LawPart PR
  revert XK
  k_fill
  intro XK
  refine byG fun G9 hG9 => ?_
  obtain ⟨⟨W0, a0, a1, a2, a3, D, cA, cB, k, k0, k1, k2, k3, sp, v0, v1, v2, v3, cv, oA, oB, o5, o4, oX, o2, o1, tt, tq, tn⟩, M, mv, km, rows, x3, x4, tm, tf, ⟨h, tk, m', rfl, FZ, NZ⟩, hok, hlk, hrL, d4, hc3, hc4⟩ := h0
  refine hG9 ?_
  clear hG9 G9
  unfold BSt.names at FZ
  simp only [kstF_cons, kstF_nil] at FZ
  obtain ⟨led, hled⟩ : ∃ l, l = x4.led w.params (str4 q n script) ++ (x3.led w.params (str3 q n script) ++ ((M, W.listOf (List.toArray mv) km) :: (BSt.led ⟨W0, a0, a1, a2, a3, D, cA, cB, k, k0, k1, k2, k3, sp, v0, v1, v2, v3, cv, oA, oB, o5, o4, oX, o2, o1, tt, tq, tn⟩ SZ ++ rows))) := ⟨_, rfl⟩
  rw [← hled] at NZ
  k_extra "L OPEN"
  k_steps
  all_goals (rename Fr _ _ _ _ => FZ)
  all_goals (rename News _ _ _ _ => NZ)
  all_goals (rw [hled] at NZ)
  · rename (_ = (3 : Int)) => h3
    refine Fin.mk ⟨?tw1, ⟨W0, a0, a1, a2, a3, D, cA, cB, k, k0, k1, k2, k3, sp, v0, v1, v2, v3, cv, oA, oB, o5, o4, oX, o2, o1, tt, tq, tn⟩, M, mv, km, rows, x3, x4, tm, tf, At.of FZ NZ ?nm1, hok, hlk, hrL, d4, hc3, hc4⟩
    case nm1 =>
      unfold BSt.names widthZ
      rw [if_pos h3]
      repeat (first | exact List.forall_mem_nil _ | refine fcons (by exact Eq.refl (some _)) ?_)
  · rename (_ ≠ (3 : Int)) => h3
    refine Fin.mk ⟨?tw2, ⟨W0, a0, a1, a2, a3, D, cA, cB, k, k0, k1, k2, k3, sp, v0, v1, v2, v3, cv, oA, oB, o5, o4, oX, o2, o1, tt, tq, tn⟩, M, mv, km, rows, x3, x4, tm, tf, At.of FZ NZ ?nm2, hok, hlk, hrL, d4, hc3, hc4⟩
    case nm2 =>
      unfold BSt.names widthZ
      rw [if_neg h3, Int.add_zero]
      repeat (first | exact List.forall_mem_nil _ | refine fcons (by exact Eq.refl (some _)) ?_)
end

section
theorem hush_L8 : True := by
  k_with_none
  w_top off
  trivial
theorem rules_L8_0 : True := by
  k_with "M ne" => first | exact NeW.l (by with_reducible assumption) | exact NeW.r (by with_reducible assumption) | (refine neN ?_; (try dsimp only); omega)
  k_with "M bits" => first | with_reducible assumption | exact bits_pow2 (by omega)
  k_with "M mem" => first | exact List.Mem.head _ | exact mem1 | exact mem2 | exact mem3 | exact mem4 | exact mem5 | exact mem6 | exact mem7 | exact mem8 | exact mem9 | exact mem10 | exact mem11 | exact mem12 | exact mem13
  k_with "M nw" => (try simp only [AllNw, and_true]); (try dsimp only); (repeat' constructor) <;> first | with_reducible assumption | (refine NeW.of ?_; k_ne)
  k_with "M sub2" => repeat (first | exact List.forall_mem_nil _ | refine fcons ⟨_, by k_mem⟩ ?_)
  k_with "M off" => repeat (first | exact List.forall_mem_nil _ | refine fcons (nin1 (by (try dsimp only); k_ne)) ?_)
  k_with "M sub" => repeat (first | exact List.forall_mem_nil _ | (refine fcons ?k9w ?_; (case k9w => k_mem)))
  k_with "subscriptTail Name Slice ref ref" => refine' slice_all_led ?k9F ?k9N ?k9l ?k9z ?k9p ?k9q ?_ ?k9s ?k9t; (case k9F => k_asm); (case k9N => k_asm); (case k9l => k_mem); (case k9z => omega); (case k9p => kmk_part); (case k9q => kmk_part); (case k9s => with_unfolding_all rfl); (case k9t => kmk_pure); intro k9D k9h k9F k9N k9l1; (try k_lt k9l1); (try k_sweep)
  k_with "M same" => intro z h1 h2 h3; (try dsimp only); (repeat (first | refine same_if (by first | exact h1 | exact ne_ps h2 rfl | exact ne_st h3 rfl) ?_ | exact rfl | exact same_st h3 | exact same_kst h2 h3 | refine same_k (by repeat (first | exact List.forall_mem_nil _ | refine fcons (by first | exact h1 | exact ne_ps h2 rfl | exact ne_st h3 rfl) ?_)) ?_ | refine same_c (by repeat (first | exact nc_nil | refine nc_cons (by first | exact h1 | exact ne_ps h2 rfl | exact ne_st h3 rfl) ?_)) ?_))
  k_with "call builtin:list.append" => refine' append_led ?k9la ?k9lb ?k9lc ?k9ld ?_; (case k9la => k_asm); (case k9lb => k_asm); (case k9lc => k_upd); (case k9ld => omega); intro k9h k9F k9N; (try k_sweep)
  k_with "call builtin:list.reverse" => refine' reverse_led ?k9la ?k9lb ?k9lc ?k9ld ?_; (case k9la => k_asm); (case k9lb => k_asm); (case k9lc => k_upd); (case k9ld => omega); intro k9h k9F k9N; (try k_sweep)
  k_with "binaryOp LShift int int" => refine' lshift_bits ?k9la ?k9lb ?k9lc ?k9ld ?_; (case k9la => omega); (case k9lb => omega); (case k9lc => bits_by_make); (case k9ld => decide)
  k_with "inplaceOp LShift int int" => refine' ilshift_bits ?k9la ?k9lb ?k9lc ?k9ld ?_; (case k9la => omega); (case k9lb => omega); (case k9lc => bits_by_make); (case k9ld => decide)
  k_with "M ROOM" => first | omega | ktr_room | ((try dsimp only [Around.deeper, ktrTop]); omega)
  k_with "M UNITS" => first | omega | ((try dsimp only [Around.deeper, ktrTop]); omega) | ktr_units
  k_with "execs cons" => (try k_fold); with_reducible first | refine seqL ?_ | (refine seqV ?_; intro Q8 q8)
  k_with "M un" => with_reducible first | (refine seqVN (s := s1) (by assumption) ?_; intro tk8; try clear q8 Q8) | (refine seqVN (s := s) (by assumption) ?_; intro tk8; try clear q8 Q8) | refine seqVR (by assumption) ?_ | refine seqVM (by assumption) ?_ | refine seqVB (by assumption) ?_ | refine seqVC (by assumption) ?_
  k_with "eval Name" => k_here; k_dflt (refine' nameX_L ?k9F ?k9v ?_ ?k9a ?k9b; (case k9F => k_asm); (case k9a => exact Eq.refl _); (case k9b => exact Eq.refl (some NameKind.local)); (case k9v => exact Eq.refl (some _)); k_whole)
  k_with "M off2" => repeat (first | exact List.forall_mem_nil _ | refine fcons (nin2 (by (try dsimp only); k_ne) (by (try dsimp only); k_ne)) ?_)
  k_with "L OPEN" => dsimp only [lawA, lawEnv, lawB, lawS, lawO, List.drop, List.take]
  k_with "binaryOp Pow int int" => refine' pow_eq (m := 3000) ?k9rb ?k9rc ?k9rd ?k9re ?k9rf ?_; (case k9rb => with_reducible assumption); (case k9rc => omega); (case k9rd => omega); (case k9re => with_reducible assumption); (case k9rf => decide)
  k_with "binaryOp Mult int int" => refine' mul_eq ?k9rb ?k9rc ?_; (case k9rb => with_reducible assumption); (case k9rc => with_reducible assumption)
  trivial
theorem rows_at {g h : Heap} {L : Addr} {mv : List Value} {rows news : List (Addr × Obj)} {ml : List (List Int)} (hlk : Linked mv rows ml) (N : News g L h news) (hin : ∀ p ∈ rows, p ∈ news) : RowsAt h mv ml :=
  ⟨hlk.1, fun i one hi => by
    obtain ⟨a, v, k, e1, e2, e3⟩ := hlk.2 i one hi
    exact ⟨a, v, e1, ⟨_, (N _ (hin _ e2)).1, rfl, _, rfl⟩, e3⟩⟩
theorem mateZ_all {q : Int} {n : Nat} {script : List Int} (hq : 2 ≤ q ∧ q ≤ 3) : ∀ one ∈ mateZ q n script, one.length = n ∧ ∀ d ∈ one, 0 ≤ d ∧ d < 3 := by
  intro one h
  unfold mateZ mateT at h
  obtain ⟨x, _, rfl⟩ := List.mem_map.mp (List.mem_filter.mp h).1
  exact ⟨wordZ_len _ _ _, wordZ_bnd hq⟩
set_option maxHeartbeats 8000000 in
theorem st_H {w : World} {p9 : Program} {lo9 : List Str} {me9 : ExcName → Option Value} {mg9 mb9 : Str → Option Value} {g base : Heap} {SZ : Nat} {fa : Addr} {cd : Value} {s1 : Shared} (KB : Below callerA base [] g) (XK : (hd.heap_1 w.params).In g) (TK : Top p9 lo9 me9 mg9 mb9 g) {script : List Int} {q : Int} {n : Nat} (hq2 : 2 ≤ q ∧ q ≤ 3) (hn : (n : Int) = 6 - q) (h44 : 44 < SZ) (h37 : 37 < SZ) (hsb : Builtin.Int.intBits script.sum ≤ 2100000) (hwb : Builtin.Int.intBits (weighedZ q n script 2) ≤ 20000) (hm1 : 1 ≤ (mateZ q n script).length) {tw : Tok} {s' : Shared} (h0 : CGp w g SZ s1 script q n [(Str.ofString "width", .int (widthZ script) tw)] s') :
    LawPart w SZ fa cd 19 6 (fun s => ∃ tw t2 t3 t4 t5 t6, CGp w g SZ s1 script q n [(Str.ofString "top", .int (topZ q n script) t6), (Str.ofString "drawn", .int (drawnZ q n script) t5), (Str.ofString "bottom", .int (bottomZ q n script) t4), (Str.ofString "weighed", .int (weighedZ q n script 2) t3), (Str.ofString "base", .int (baseZ script) t2), (Str.ofString "width", .int (widthZ script) tw)] s) s' := by
  unfold LawPart PR
  revert XK
  k_fill
  intro XK
  have hn4 : 3 ≤ n ∧ n ≤ 4 := by omega
  refine byG fun G9 hG9 => ?_
  obtain ⟨⟨W0, a0, a1, a2, a3, D, cA, cB, k, k0, k1, k2, k3, sp, v0, v1, v2, v3, cv, oA, oB, o5, o4, oX, o2, o1, tt, tq, tn⟩, M, mv, km, rows, x3, x4, tm, tf, ⟨h, tk, m', rfl, FZ, NZ⟩, hok, hlk, hrL, d4, hc3, hc4⟩ := h0
  refine hG9 ?_
  clear hG9 G9
  have hok2 := hok
  refine byG fun G9 hG9 => ?_
  obtain ⟨i0, i1, i2, i3, hcv, hcA, hcB, dX, d4', d5, dq, dn⟩ := hok
  refine hG9 ?_
  clear hG9 G9
  unfold BSt.names at FZ
  unfold BSt.led WsO.led at NZ
  simp only [List.cons_append, List.nil_append, kstF_cons, kstF_nil] at FZ
  dsimp only [List.cons_append, List.nil_append] at NZ
  dsimp only at i0 i1 i2 i3 hcv hcA hcB dX d4 d4' d5 dq dn
  k_extra "L OPEN"
  obtain ⟨hqe, hq27⟩ := q_pow hq2 hn
  have hwd : 8 ≤ widthZ script ∧ widthZ script ≤ 1097 := by
    have := (fdiv_fmod_facts script.sum 50).2.2.1 (by decide)
    unfold widthZ
    split <;> omega
  have hml : mv.length ≤ 27 := by rw [hlk.1]; exact Nat.le_trans mateT_len hq27
  have hbB : Builtin.Int.intBits ((2 : Int) ^ (widthZ script).toNat) ≤ 3000 := bits_mono (intBits_pow_le (m := 2) (by decide +kernel) _) (by omega)
  have hbp : (0 : Int) < 2 ^ (widthZ script).toNat := two_pow_posI _
  obtain ⟨B4, hB4⟩ : ∃ v, ((2 : Int) ^ (widthZ script).toNat) ^ (4 : Int).toNat = v := ⟨_, rfl⟩
  obtain ⟨X, hX⟩ : ∃ v, ((2 : Int) ^ (widthZ script).toNat) ^ (q - 1).toNat = v := ⟨_, rfl⟩
  obtain ⟨mq, hmq⟩ : ∃ v, (q - 1) * (mv.length : Int) = v := ⟨_, rfl⟩
  obtain ⟨bo, hbo⟩ : ∃ v, mq * (B4 + 1) = v := ⟨_, rfl⟩
  obtain ⟨wz, hwz⟩ : ∃ v, sumZ (mateZ q n script) (wordZ q n (seedZ script 2)) q X = v := ⟨_, rfl⟩
  k_with "call ref" => (refine hold ?_)
  k_steps
  refine unhold ?_
  rename Fr _ _ _ _ => FZ
  rename News _ _ _ _ => NZ
  have hX0 : 0 < X := by rw [← hX]; exact Int.pow_pos hbp
  have hXb : Builtin.Int.intBits X ≤ 2300 := by
    have e : X = 2 ^ ((widthZ script).toNat * (q - 1).toNat) := by rw [← hX, ← Int.pow_mul]
    have hle : (widthZ script).toNat * (q - 1).toNat ≤ 1097 * 2 := Nat.mul_le_mul (by omega) (by omega)
    have h2 : X ≤ 2 ^ 2194 := by rw [e]; exact pow2_mono hle
    have h3 : (2 : Int) ^ 2194 < 2 ^ 2195 := by rw [Int.pow_succ]; have := two_pow_posI 2194; omega
    exact bits_mono (bits_lt (k := 2195) (by omega) (by omega)) (by decide)
  refine (ctr_sum M a2 mv v2 (mateZ q n script) (wordZ q n (seedZ script 2)) q X _ _ n hq2 hn4.2 (wordZ_len _ _ _) (mateZ_all hq2) (by rw [← hlk.1]; omega) hX0 hXb).use KB FZ XK TK rfl Off.nil (by k_extra "M ROOM") (by k_extra "M UNITS") ⟨⟨_, (NZ (M, _) (by k_mem)).1, rfl, _, rfl⟩, rows_at hlk NZ (fun p hp => by repeat (first | exact hp | refine List.mem_cons_of_mem _ ?_)), ⟨_, (NZ (a2, _) (by k_mem)).1, rfl, _, rfl⟩, i2⟩ ?_
  rintro r hA2 tkA2 FA KA ⟨t9, rfl⟩
  have NA := KA.news0 NZ
  clear FZ NZ KA
  rw [hwz]
  have hmqe : mq = (q - 1) * ((mateZ q n script).length : Int) := by rw [← hmq, hlk.1]
  have hmq0 : 0 < mq ∧ mq ≤ 54 := by
    rw [← hmq]
    have : 1 ≤ mv.length := by rw [hlk.1]; exact hm1
    have e : q = 2 ∨ q = 3 := by omega
    rcases e with rfl | rfl <;> omega
  have hB40 : 0 < B4 := by rw [← hB4]; exact Int.pow_pos hbp
  have hB4b : Builtin.Int.intBits B4 ≤ 4392 := by
    have e : B4 = 2 ^ ((widthZ script).toNat * 4) := by rw [← hB4, ← Int.pow_mul]; rfl
    have h2 : B4 ≤ 2 ^ 4388 := by rw [e]; exact pow2_mono (by omega)
    have h3 : (2 : Int) ^ 4388 < 2 ^ 4389 := by rw [Int.pow_succ]; have := two_pow_posI 4388; omega
    exact bits_mono (bits_lt (k := 4389) (by omega) (by omega)) (by decide)
  have hUb : Builtin.Int.intBits (B4 + 1) ≤ 4393 := by
    have := lt_of_bits hB4b
    refine bits_lt (by omega) ?_
    rw [show (2 : Int) ^ 4393 = 2 ^ 4392 * 2 from by rw [← Int.pow_succ]]
    omega
  have hm1' : IntMulOk (q - 1) (mv.length : Int) := IntMulOk.of_left (intBits_le_64 (by omega) (by omega))
  have hm2' : IntMulOk mq (B4 + 1) := IntMulOk.of_left (intBits_le_64 (by omega) (by omega))
  have hbo0 : 0 < bo := by rw [← hbo]; exact Int.mul_pos hmq0.1 (by omega)
  have hbob : Builtin.Int.intBits bo ≤ 5000 := by
    rw [← hbo]
    exact Nat.le_trans (intBits_mul_le (bits_lt (k := 6) (by omega) (by omega)) hUb) (by decide)
  obtain ⟨tb, htb⟩ : ∃ v, script.sum * Int.fdiv bo 7 = v := ⟨_, rfl⟩
  obtain ⟨wu, hwu⟩ : ∃ v, wz * (B4 + 1) = v := ⟨_, rfl⟩
  have h7 : 0 ≤ Int.fdiv bo 7 ∧ Int.fdiv bo 7 ≤ bo := by
    have := fdiv_fmod_facts bo 7
    have h1 := this.1
    have h2 := this.2.2.1 (by decide)
    omega
  have hm3' : IntMulOk script.sum (Int.fdiv bo 7) := IntMulOk.of_le hsb (bits_lt (k := 5000) h7.1 (Int.lt_of_le_of_lt h7.2 (lt_of_bits hbob))) (by decide)
  have hwzb : Builtin.Int.intBits wz ≤ 20000 := by
    rw [← hwz, ← hX]
    exact hwb
  have hm4' : IntMulOk wz (B4 + 1) := IntMulOk.of_le hwzb hUb (by decide)
  k_steps
  rename News _ _ _ _ => NZ
  refine len_led NZ (by k_mem) rfl (by omega) fun t7 tk7 => ?_
  k_steps
  have huZ : unitZ script = B4 + 1 := by
    unfold unitZ baseZ
    rw [← hB4]
    rfl
  have hbZ : bottomZ q n script = bo := by
    unfold bottomZ
    rw [huZ, ← hmqe, hbo]
  have hwZ : weighedZ q n script 2 = wz := by
    rw [← hwz, ← hX]
    rfl
  have hdZ : drawnZ q n script = Int.fmod (tb + 1000) bo := by
    unfold drawnZ
    rw [hbZ, htb]
  have htZ : topZ q n script = wu + Int.fmod (tb + 1000) bo := by
    unfold topZ
    rw [hdZ, hwZ, huZ, hwu]
  rw [htZ, hdZ, hbZ, hwZ]
  rename Fr _ _ _ _ => FZ
  rename News _ _ _ _ => NZ
  refine Fin.mk ⟨tw, ?t2, ?t3, ?t4, ?t5, ?t6, ⟨W0, a0, a1, a2, a3, D, cA, cB, k, k0, k1, k2, k3, sp, v0, v1, v2, v3, cv, oA, oB, o5, o4, oX, o2, o1, tt, tq, tn⟩, M, mv, km, rows, x3, x4, tm, tf, At.of FZ (News.sub NZ ?sb9) ?nm9, hok2, hlk, hrL, d4, hc3, hc4⟩
  case nm9 =>
    unfold BSt.names baseZ
    repeat (first | exact List.forall_mem_nil _ | refine fcons (by exact Eq.refl (some _)) ?_)
  case sb9 =>
    unfold WsO.led BSt.led
    dsimp only [List.cons_append, List.nil_append]
    k_extra "M sub"
    exact fun p hp => by repeat (first | exact hp | refine List.mem_cons_of_mem _ ?_)
end

section
theorem hush_L9 : True := by
  k_with_none
  w_top off
  trivial
set_option genSizeOf false
set_option genInjectivity false

theorem rules_L9_0 : True := by
  k_with "M ne" => first | exact NeW.l (by with_reducible assumption) | exact NeW.r (by with_reducible assumption) | (refine neN ?_; (try dsimp only); omega)
  k_with "M bits" => first | with_reducible assumption | exact bits_pow2 (by omega)
  k_with "M mem" => first | exact List.Mem.head _ | exact mem1 | exact mem2 | exact mem3 | exact mem4 | exact mem5 | exact mem6 | exact mem7 | exact mem8 | exact mem9 | exact mem10 | exact mem11 | exact mem12 | exact mem13
  k_with "M nw" => (try simp only [AllNw, and_true]); (try dsimp only); (repeat' constructor) <;> first | with_reducible assumption | (refine NeW.of ?_; k_ne)
  k_with "M sub2" => repeat (first | exact List.forall_mem_nil _ | refine fcons ⟨_, by k_mem⟩ ?_)
  k_with "M off" => repeat (first | exact List.forall_mem_nil _ | refine fcons (nin1 (by (try dsimp only); k_ne)) ?_)
  k_with "M sub" => repeat (first | exact List.forall_mem_nil _ | (refine fcons ?k9w ?_; (case k9w => k_mem)))
  k_with "subscriptTail Name Slice ref ref" => refine' slice_all_led ?k9F ?k9N ?k9l ?k9z ?k9p ?k9q ?_ ?k9s ?k9t; (case k9F => k_asm); (case k9N => k_asm); (case k9l => k_mem); (case k9z => omega); (case k9p => kmk_part); (case k9q => kmk_part); (case k9s => with_unfolding_all rfl); (case k9t => kmk_pure); intro k9D k9h k9F k9N k9l1; (try k_lt k9l1); (try k_sweep)
  k_with "M same" => intro z h1 h2 h3; (try dsimp only); (repeat (first | refine same_if (by first | exact h1 | exact ne_ps h2 rfl | exact ne_st h3 rfl) ?_ | exact rfl | exact same_st h3 | exact same_kst h2 h3 | refine same_k (by repeat (first | exact List.forall_mem_nil _ | refine fcons (by first | exact h1 | exact ne_ps h2 rfl | exact ne_st h3 rfl) ?_)) ?_ | refine same_c (by repeat (first | exact nc_nil | refine nc_cons (by first | exact h1 | exact ne_ps h2 rfl | exact ne_st h3 rfl) ?_)) ?_))
  k_with "call builtin:list.append" => refine' append_led ?k9la ?k9lb ?k9lc ?k9ld ?_; (case k9la => k_asm); (case k9lb => k_asm); (case k9lc => k_upd); (case k9ld => omega); intro k9h k9F k9N; (try k_sweep)
  k_with "call builtin:list.reverse" => refine' reverse_led ?k9la ?k9lb ?k9lc ?k9ld ?_; (case k9la => k_asm); (case k9lb => k_asm); (case k9lc => k_upd); (case k9ld => omega); intro k9h k9F k9N; (try k_sweep)
  k_with "binaryOp LShift int int" => refine' lshift_bits ?k9la ?k9lb ?k9lc ?k9ld ?_; (case k9la => omega); (case k9lb => omega); (case k9lc => bits_by_make); (case k9ld => decide)
  k_with "inplaceOp LShift int int" => refine' ilshift_bits ?k9la ?k9lb ?k9lc ?k9ld ?_; (case k9la => omega); (case k9lb => omega); (case k9lc => bits_by_make); (case k9ld => decide)
  k_with "M ROOM" => first | omega | ktr_room | ((try dsimp only [Around.deeper, ktrTop]); omega)
  k_with "M UNITS" => first | omega | ((try dsimp only [Around.deeper, ktrTop]); omega) | ktr_units
  k_with "execs cons" => (try k_fold); with_reducible first | refine seqL ?_ | (refine seqV ?_; intro Q8 q8)
  k_with "M un" => with_reducible first | (refine seqVN (s := s1) (by assumption) ?_; intro tk8; try clear q8 Q8) | (refine seqVN (s := s) (by assumption) ?_; intro tk8; try clear q8 Q8) | refine seqVR (by assumption) ?_ | refine seqVM (by assumption) ?_ | refine seqVB (by assumption) ?_ | refine seqVC (by assumption) ?_
  k_with "eval Name" => k_here; k_dflt (refine' nameX_L ?k9F ?k9v ?_ ?k9a ?k9b; (case k9F => k_asm); (case k9a => exact Eq.refl _); (case k9b => exact Eq.refl (some NameKind.local)); (case k9v => exact Eq.refl (some _)); k_whole)
  k_with "M off2" => repeat (first | exact List.forall_mem_nil _ | refine fcons (nin2 (by (try dsimp only); k_ne) (by (try dsimp only); k_ne)) ?_)
  k_with "L OPEN" => dsimp only [lawA, lawEnv, lawB, lawS, lawO, List.drop, List.take]
  trivial
/-- the plain facts of the division -/
structure DivOk (q : Int) (n : Nat) (script : List Int) (S : Int) : Prop where
  hT : 0 < topZ q n script
  hB : 0 < bottomZ q n script
  hb1 : 1 ≤ Builtin.Int.intBits (bottomZ q n script)
  hb2 : Builtin.Int.intBits (bottomZ q n script) ≤ 5800
  hab : Builtin.Int.intBits (topZ q n script) ≤ 80000
  hkn : Builtin.Int.intBits (topZ q n script) ≤ 20 * Builtin.Int.intBits (bottomZ q n script)
  hq : Int.fdiv (topZ q n script) (bottomZ q n script) = S
  hr : Int.fmod (topZ q n script) (bottomZ q n script) = drawnZ q n script
theorem inst_ne {o : Obj} (d : ∃ v, o.data = Data.cell v) {C dx : Addr} : o.data ≠ (instObj C dx).data := fun e => by
  obtain ⟨v, hv⟩ := d
  rw [hv] at e
  cases e
theorem wsD_ne {o : Obj} (d : ∃ v, o.data = Data.cell v) {P : Params} {t1 t2 t3 t4 t5 : Tok} {v1 v2 v3 v4 v5 : Value} : o.data ≠ (wsD P t1 t2 t3 t4 t5 v1 v2 v3 v4 v5).data := fun e => by
  obtain ⟨v, hv⟩ := d
  rw [hv] at e
  cases e
theorem tup_ne {o : Obj} (d : ∃ v, o.data = Data.cell v) {vs : Array Value} : o.data ≠ ({ cls := .type "tuple", data := .seq vs } : Obj).data := fun e => by
  obtain ⟨v, hv⟩ := d
  rw [hv] at e
  cases e
theorem News.tabs {g h h' : Heap} {L : Addr} {news : List (Addr × Obj)} {o44 o37 : Obj} (N : News g L h news) (K : KeepBut [44, 37] h h') (e44 : h'.get? 44 = some o44) (e37 : h'.get? 37 = some o37) (m44 : ((44 : Addr), o44) ∈ news) (m37 : ((37 : Addr), o37) ∈ news) : News g L h' news := fun p hp => by
  refine ⟨?_, (N p hp).2⟩
  by_cases h1 : p.1 = 44
  · have e1 := (N p hp).1
    have e2 := (N _ m44).1
    rw [h1] at e1 ⊢
    rw [e1] at e2
    rw [e44]
    exact e2.symm
  · by_cases h2 : p.1 = 37
    · have e1 := (N p hp).1
      have e2 := (N _ m37).1
      rw [h2] at e1 ⊢
      rw [e1] at e2
      rw [e37]
      exact e2.symm
    · refine K _ _ (N p hp).1 fun hm => ?_
      rcases List.mem_cons.mp hm with hm | hm
      · exact h1 hm
      · exact h2 (List.mem_singleton.mp hm)
noncomputable abbrev mainN (script : List Int) (q : Int) (n : Nat) (t1 t2 t3 t4 t5 t6 : Tok) : List (Str × Value) := [(Str.ofString "top", .int (topZ q n script) t6), (Str.ofString "drawn", .int (drawnZ q n script) t5), (Str.ofString "bottom", .int (bottomZ q n script) t4), (Str.ofString "weighed", .int (weighedZ q n script 2) t3), (Str.ofString "base", .int (baseZ script) t2), (Str.ofString "width", .int (widthZ script) t1)]
/-- the same, the counts' cell set; nx: further objects -/
inductive CI (w : World) (g : Heap) (SZ : Nat) (s1 : Shared) (script : List Int) (q : Int) (n : Nat) (ps : List (Str × Value)) (nx : List (Addr × Obj)) (s' : Shared) : Prop
  | mk (c : BSt) (M : Addr) (mv : List Value) (km : Nat) (rows : List (Addr × Obj)) (x3 x4 : WsO) (tm tf : Tok) (h9x0 : At g SZ s1 (ps ++ ((Str.ofString "fourth", .ref x4.x) :: (Str.ofString "third", .ref x3.x) :: (Str.ofString "more", .int (moreZ script) tm) :: (Str.ofString "mate", .ref M) :: c.names script)) (nx ++ (x4.led w.params (str4 q n script) ++ (x3.led w.params (str3 q n script) ++ ((M, W.listOf (List.toArray mv) km) :: (c.led SZ ++ rows))))) s') (h9x1 : c.Ok script q n) (h9x2 : Linked mv rows (mateZ q n script)) (h9x3 : RowsL rows) (h9x4 : c.o4.data = Data.cell (some (.int ((n : Int) * (q - 1)) tf))) (h9x5 : c.o5.data = Data.cell (some (.ref x3.tc))) (h9x6 : IntsAre x3.cv (wsGo (str3 q n script) [] 0 0 0).1) (h9x7 : IntsAre x4.cv (wsGo (str4 q n script) [] 0 0 0).1) : CI w g SZ s1 script q n ps nx s'
set_option maxHeartbeats 8000000 in
theorem st_I {w : World} {p9 : Program} {lo9 : List Str} {me9 : ExcName → Option Value} {mg9 mb9 : Str → Option Value} {g base : Heap} {SZ : Nat} {fa : Addr} {cd : Value} {s1 : Shared} (KB : Below callerA base [] g) (XK : (hd.heap_1 w.params).In g) (TK : Top p9 lo9 me9 mg9 mb9 g) {script : List Int} {q : Int} {n : Nat} (hq2 : 2 ≤ q ∧ q ≤ 3) (hn : (n : Int) = 6 - q) (h44 : 44 < SZ) (h37 : 37 < SZ) {S : Int} (hdv : DivOk q n script S) {t1 t2 t3 t4 t5 t6 : Tok} {s' : Shared} (h0 : CGp w g SZ s1 script q n (mainN script q n t1 t2 t3 t4 t5 t6) s') :
    LawPart w SZ fa cd 25 2 (fun s => ∃ t1 t2 t3 t4 t5 t6 t7 t8, CI w g SZ s1 script q n ((Str.ofString "quotient", .int S t7) :: (Str.ofString "rest", .int (drawnZ q n script) t8) :: mainN script q n t1 t2 t3 t4 t5 t6) [] s) s' := by
  unfold LawPart PR
  revert XK
  k_fill
  intro XK
  refine byG fun G9 hG9 => ?_
  obtain ⟨⟨W0, a0, a1, a2, a3, D, cA, cB, k, k0, k1, k2, k3, sp, v0, v1, v2, v3, cv, oA, oB, o5, o4, oX, o2, o1, tt, tq, tn⟩, M, mv, km, rows, x3, x4, tm, tf, ⟨h, tk, m', rfl, FZ, NZ⟩, hok, hlk, hrL, d4, hc3, hc4⟩ := h0
  obtain ⟨i0, i1, i2, i3, hcv, hcA, hcB, dX, d4', d5, dq, dn⟩ := hok
  obtain ⟨hT, hB, hb1, hb2, hab, hkn, hqv, hrv⟩ := hdv
  refine hG9 ?_
  clear hG9 G9
  unfold BSt.names mainN at FZ
  unfold BSt.led WsO.led at NZ
  simp only [List.cons_append, List.nil_append, kstF_cons, kstF_nil] at FZ
  dsimp only [List.cons_append, List.nil_append] at NZ
  dsimp only at i0 i1 i2 i3 hcv hcA hcB dX d4 d4' d5 dq dn
  k_extra "L OPEN"
  have oT : ∀ a ∈ [(44 : Addr), 37], g.get? a = none ∧ a ≠ SZ := fcons ⟨(NZ (44, _) (by k_mem)).2.2, (NZ (44, _) (by k_mem)).2.1⟩ (fcons ⟨(NZ (37, _) (by k_mem)).2.2, (NZ (37, _) (by k_mem)).2.1⟩ (List.forall_mem_nil _))
  k_with "call ref" => (refine hold ?_)
  k_steps
  refine unhold ?_
  rename Fr _ _ _ _ => FZ
  rename News _ _ _ _ => NZ
  have hdig : (Builtin.Int.intBits (topZ q n script) + Builtin.Int.intBits (bottomZ q n script) - 1) / Builtin.Int.intBits (bottomZ q n script) < 100 := by
    refine (Nat.div_lt_iff_lt_mul (by omega)).mpr ?_
    omega
  refine (ctr_idm_pp (topZ q n script) (bottomZ q n script) _ _ _ cA cB hT hB rfl hb1 hb2 (by omega) hdig).use KB FZ XK TK rfl oT (by k_extra "M ROOM") (by k_extra "M UNITS") ⟨(NZ (44, _) (by k_mem)).1, (NZ (37, _) (by k_mem)).1, hcB.at (NZ (cB, _) (by k_mem)).1, hcA.at (NZ (cA, _) (by k_mem)).1⟩ ?_
  rintro r hA2 tkA2 FA KA ⟨hpair, hhit⟩
  refine byG fun G9 hG9 => ?_
  obtain ⟨u1, u2, t9, rfl, hm⟩ := hpair
  refine hG9 ?_
  clear hG9 G9
  have NB := hm.news FZ (News.tabs NZ KA hhit.1 hhit.2.1 (by k_mem) (by k_mem))
  have cc := fun {its : Array Value} {k : Nat} => cell_seq d5 (its := its) (k := k)
  have nt9 := allNw_of (AllNe.mem (hm.ne NZ))
  simp only [AllNw] at nt9
  rw [hqv, hrv] at NB
  clear FZ NZ KA hm hhit
  have b1 : NeW (SZ + 1 + 1 + 1 + 1 + 1) x4.x := News.nwd NB (by k_mem) (by k_mem) (inst_ne d5)
  have b2 : NeW (SZ + 1 + 1 + 1 + 1 + 1) x4.dx := News.nwd NB (by k_mem) (by k_mem) (wsD_ne d5)
  have b3 : NeW (SZ + 1 + 1 + 1 + 1 + 1) x4.tn := News.nwd NB (by k_mem) (by k_mem) (tup_ne d5)
  have b4 : NeW (SZ + 1 + 1 + 1 + 1 + 1) x4.tc := News.nwd NB (by k_mem) (by k_mem) (tup_ne d5)
  have b5 : NeW (SZ + 1 + 1 + 1 + 1 + 1) x3.x := News.nwd NB (by k_mem) (by k_mem) (inst_ne d5)
  have b6 : NeW (SZ + 1 + 1 + 1 + 1 + 1) x3.dx := News.nwd NB (by k_mem) (by k_mem) (wsD_ne d5)
  have b7 : NeW (SZ + 1 + 1 + 1 + 1 + 1) x3.tn := News.nwd NB (by k_mem) (by k_mem) (tup_ne d5)
  have b8 : NeW (SZ + 1 + 1 + 1 + 1 + 1) x3.tc := News.nwd NB (by k_mem) (by k_mem) (tup_ne d5)
  have b9 : NeW (SZ + 1 + 1 + 1 + 1 + 1) M := News.nwd NB (by k_mem) (by k_mem) cc
  have b10 : NeW (SZ + 1 + 1 + 1 + 1 + 1) D := News.nwd NB (by k_mem) (by k_mem) cc
  have b11 : NeW (SZ + 1 + 1 + 1 + 1 + 1) a0 := News.nwd NB (by k_mem) (by k_mem) cc
  have b12 : NeW (SZ + 1 + 1 + 1 + 1 + 1) a1 := News.nwd NB (by k_mem) (by k_mem) cc
  have b13 : NeW (SZ + 1 + 1 + 1 + 1 + 1) a2 := News.nwd NB (by k_mem) (by k_mem) cc
  have b14 : NeW (SZ + 1 + 1 + 1 + 1 + 1) a3 := News.nwd NB (by k_mem) (by k_mem) cc
  have b15 : NeW (SZ + 1 + 1 + 1 + 1 + 1) W0 := News.nwd NB (by k_mem) (by k_mem) cc
  have b16 : NeW (SZ + 1 + 1 + 1 + 1 + 1) cA := News.nwd NB (by k_mem) (by k_mem) (cell_code d5 hcA)
  have b17 : NeW (SZ + 1 + 1 + 1 + 1 + 1) cB := News.nwd NB (by k_mem) (by k_mem) (cell_code d5 hcB)
  have b18 : NeW (SZ + 1 + 1 + 1 + 1 + 1) t9 := News.nwd NB (by k_mem) (by k_mem) (tup_ne d5)
  have br : ∀ p ∈ rows, p.1 ≠ SZ + 1 + 1 + 1 + 1 + 1 := rows_off hrL d5 NB (by k_mem) (fun p hp => by repeat (first | exact hp | refine List.mem_cons_of_mem _ ?_))
  obtain ⟨v5, d5⟩ := d5
  k_steps
  rename Fr _ _ _ _ => FZ
  rename News _ _ _ _ => NZ
  rename Obj.data _ = Data.cell (some (Value.ref _)) => d5'
  refine Fin.mk ⟨t1, t2, t3, t4, t5, t6, ?t7, ?t8, ⟨W0, a0, a1, a2, a3, D, cA, cB, k, k0, k1, k2, k3, sp, v0, v1, v2, v3, cv, oA, oB, _, o4, oX, o2, o1, tt, tq, tn⟩, M, mv, km, rows, x3, x4, tm, tf, At.of FZ (News.sub NZ ?sb9) ?nm9, ⟨i0, i1, i2, i3, hcv, hcA, hcB, dX, d4', ⟨_, d5'⟩, dq, dn⟩, hlk, hrL, d4, d5', hc3, hc4⟩
  case nm9 =>
    unfold BSt.names mainN
    repeat (first | exact List.forall_mem_nil _ | refine fcons (by exact Eq.refl (some _)) ?_)
  case sb9 =>
    unfold WsO.led BSt.led
    dsimp only [List.cons_append, List.nil_append]
    k_extra "M sub"
    exact fun p hp => by repeat (first | exact hp | refine List.mem_cons_of_mem _ ?_)
end

section
theorem hush_L10 : True := by
  k_with_none
  w_top off
  trivial
theorem rules_L10_0 : True := by
  k_with "M ne" => first | exact NeW.l (by with_reducible assumption) | exact NeW.r (by with_reducible assumption) | (refine neN ?_; (try dsimp only); omega)
  k_with "M bits" => first | with_reducible assumption | exact bits_pow2 (by omega)
  k_with "M mem" => first | exact List.Mem.head _ | exact mem1 | exact mem2 | exact mem3 | exact mem4 | exact mem5 | exact mem6 | exact mem7 | exact mem8 | exact mem9 | exact mem10 | exact mem11 | exact mem12 | exact mem13
  k_with "M nw" => (try simp only [AllNw, and_true]); (try dsimp only); (repeat' constructor) <;> first | with_reducible assumption | (refine NeW.of ?_; k_ne)
  k_with "M sub2" => repeat (first | exact List.forall_mem_nil _ | refine fcons ⟨_, by k_mem⟩ ?_)
  k_with "M off" => repeat (first | exact List.forall_mem_nil _ | refine fcons (nin1 (by (try dsimp only); k_ne)) ?_)
  k_with "M sub" => repeat (first | exact List.forall_mem_nil _ | (refine fcons ?k9w ?_; (case k9w => k_mem)))
  k_with "subscriptTail Name Slice ref ref" => refine' slice_all_led ?k9F ?k9N ?k9l ?k9z ?k9p ?k9q ?_ ?k9s ?k9t; (case k9F => k_asm); (case k9N => k_asm); (case k9l => k_mem); (case k9z => omega); (case k9p => kmk_part); (case k9q => kmk_part); (case k9s => with_unfolding_all rfl); (case k9t => kmk_pure); intro k9D k9h k9F k9N k9l1; (try k_lt k9l1); (try k_sweep)
  k_with "M same" => intro z h1 h2 h3; (try dsimp only); (repeat (first | refine same_if (by first | exact h1 | exact ne_ps h2 rfl | exact ne_st h3 rfl) ?_ | exact rfl | exact same_st h3 | exact same_kst h2 h3 | refine same_k (by repeat (first | exact List.forall_mem_nil _ | refine fcons (by first | exact h1 | exact ne_ps h2 rfl | exact ne_st h3 rfl) ?_)) ?_ | refine same_c (by repeat (first | exact nc_nil | refine nc_cons (by first | exact h1 | exact ne_ps h2 rfl | exact ne_st h3 rfl) ?_)) ?_))
  k_with "call builtin:list.append" => refine' append_led ?k9la ?k9lb ?k9lc ?k9ld ?_; (case k9la => k_asm); (case k9lb => k_asm); (case k9lc => k_upd); (case k9ld => omega); intro k9h k9F k9N; (try k_sweep)
  k_with "call builtin:list.reverse" => refine' reverse_led ?k9la ?k9lb ?k9lc ?k9ld ?_; (case k9la => k_asm); (case k9lb => k_asm); (case k9lc => k_upd); (case k9ld => omega); intro k9h k9F k9N; (try k_sweep)
  k_with "binaryOp LShift int int" => refine' lshift_bits ?k9la ?k9lb ?k9lc ?k9ld ?_; (case k9la => omega); (case k9lb => omega); (case k9lc => bits_by_make); (case k9ld => decide)
  k_with "inplaceOp LShift int int" => refine' ilshift_bits ?k9la ?k9lb ?k9lc ?k9ld ?_; (case k9la => omega); (case k9lb => omega); (case k9lc => bits_by_make); (case k9ld => decide)
  k_with "M ROOM" => first | omega | ktr_room | ((try dsimp only [Around.deeper, ktrTop]); omega)
  k_with "M UNITS" => first | omega | ((try dsimp only [Around.deeper, ktrTop]); omega) | ktr_units
  k_with "execs cons" => (try k_fold); with_reducible first | refine seqL ?_ | (refine seqV ?_; intro Q8 q8)
  k_with "M un" => with_reducible first | (refine seqVN (s := s1) (by assumption) ?_; intro tk8; try clear q8 Q8) | (refine seqVN (s := s) (by assumption) ?_; intro tk8; try clear q8 Q8) | refine seqVR (by assumption) ?_ | refine seqVM (by assumption) ?_ | refine seqVB (by assumption) ?_ | refine seqVC (by assumption) ?_
  k_with "eval Name" => k_here; k_dflt (refine' nameX_L ?k9F ?k9v ?_ ?k9a ?k9b; (case k9F => k_asm); (case k9a => exact Eq.refl _); (case k9b => exact Eq.refl (some NameKind.local)); (case k9v => exact Eq.refl (some _)); k_whole)
  k_with "M off2" => repeat (first | exact List.forall_mem_nil _ | refine fcons (nin2 (by (try dsimp only); k_ne) (by (try dsimp only); k_ne)) ?_)
  k_with "L OPEN" => dsimp only [lawA, lawEnv, lawB, lawS, lawO, List.drop, List.take]
  trivial
noncomputable def cntZ (q : Int) (n : Nat) (script : List Int) : List Int := (wsGo (str3 q n script) [] 0 0 0).1
noncomputable def farZ (q : Int) (n : Nat) : Int := (n : Int) * (q - 1)
noncomputable def figsZ (q : Int) (n : Nat) (script : List Int) : List Int := (List.range ((farZ q n) + 1).toNat).map fun (k : Nat) => (cntZ q n script).getD (farZ q n - (k : Int)).toNat 0
/-- without the last naughts -/
noncomputable def stripZ (l : List Int) : List Int := (l.reverse.dropWhile (· == 0)).reverse
theorem stripZ_pop {l : List Int} (h : l ≠ []) (h0 : l.getLast h = 0) : stripZ l.dropLast = stripZ l := by
  unfold stripZ
  have e := List.dropLast_concat_getLast h
  conv => rhs; rw [← e, h0]
  rw [List.reverse_append, List.reverse_singleton, List.singleton_append, List.dropWhile_cons]
  rfl
theorem stripZ_end {l : List Int} (h : l ≠ []) (h0 : l.getLast h ≠ 0) : stripZ l = l := by
  unfold stripZ
  have e := List.dropLast_concat_getLast h
  rw [← e, List.reverse_append, List.reverse_singleton, List.singleton_append, List.dropWhile_cons]
  have : ((l.getLast h) == 0) = false := by simpa using h0
  rw [this]
  simp
theorem last_getD {l : List Int} (h : l ≠ []) : l.getD (Int.toNat (-1 + (l.length : Int))) 0 = l.getLast h := by
  have hp : 0 < l.length := List.length_pos_iff.mpr h
  rw [show Int.toNat (-1 + (l.length : Int)) = l.length - 1 by omega, List.getD_eq_getElem?_getD, List.getElem?_eq_getElem (by omega), List.getLast_eq_getElem]
  rfl
noncomputable def CJ (w : World) (g : Heap) (SZ : Nat) (s1 : Shared) (script : List Int) (q : Int) (n : Nat) (S : Int) (s' : Shared) : Prop := ∃ t1 t2 t3 t4 t5 t6 t7 t8 F0 fv kf, CI w g SZ s1 script q n ((Str.ofString "figures", .ref F0) :: (Str.ofString "quotient", .int S t7) :: (Str.ofString "rest", .int (drawnZ q n script) t8) :: mainN script q n t1 t2 t3 t4 t5 t6) [(F0, W.listOf (List.toArray fv) kf)] s' ∧ IntsAre fv (stripZ (figsZ q n script))
set_option maxHeartbeats 8000000 in
theorem st_J {w : World} {p9 : Program} {lo9 : List Str} {me9 : ExcName → Option Value} {mg9 mb9 : Str → Option Value} {g base : Heap} {SZ : Nat} {fa : Addr} {cd : Value} {s1 : Shared} (KB : Below callerA base [] g) (XK : (hd.heap_1 w.params).In g) (TK : Top p9 lo9 me9 mg9 mb9 g) {script : List Int} {q : Int} {n : Nat} (hq2 : 2 ≤ q ∧ q ≤ 3) (hn : (n : Int) = 6 - q) (h44 : 44 < SZ) (h37 : 37 < SZ) (hcl9 : (cntZ q n script).length ≤ 100) {S : Int} {s' : Shared} {t1 t2 t3 t4 t5 t6 t7 t8 : Tok} (h0 : CI w g SZ s1 script q n ((Str.ofString "quotient", .int S t7) :: (Str.ofString "rest", .int (drawnZ q n script) t8) :: mainN script q n t1 t2 t3 t4 t5 t6) [] s') :
    LawPart w SZ fa cd 27 2 (CJ w g SZ s1 script q n S) s' := by
  unfold LawPart PR
  revert XK
  k_fill
  intro XK
  have hfar : 3 ≤ farZ q n ∧ farZ q n ≤ 6 := by
    unfold farZ
    have e : q = 2 ∨ q = 3 := by omega
    rcases e with rfl | rfl
    · obtain rfl : n = 4 := by omega
      decide
    · obtain rfl : n = 3 := by omega
      decide
  refine byG fun G9 hG9 => ?_
  obtain ⟨⟨W0, a0, a1, a2, a3, D, cA, cB, k, k0, k1, k2, k3, sp, v0, v1, v2, v3, cv, oA, oB, o5, o4, oX, o2, o1, tt, tq, tn⟩, M, mv, km, rows, x3, x4, tm, tf, ⟨h, tk, m', rfl, FZ, NZ⟩, hok, hlk, hrL, d4, d5, hc3, hc4⟩ := h0
  refine hG9 ?_
  clear hG9 G9
  have hok2 := hok
  refine byG fun G9 hG9 => ?_
  obtain ⟨i0, i1, i2, i3, hcv, hcA, hcB, dX, d4', d5', dq, dn⟩ := hok
  refine hG9 ?_
  clear hG9 G9
  unfold BSt.names mainN at FZ
  unfold BSt.led WsO.led at NZ
  simp only [List.cons_append, List.nil_append, kstF_cons, kstF_nil] at FZ
  dsimp only [List.cons_append, List.nil_append] at NZ
  dsimp only at i0 i1 i2 i3 hcv hcA hcB dX d4 d4' d5 d5' dq dn
  have d4o := d4
  rw [show (n : Int) * (q - 1) = farZ q n from rfl] at d4
  k_extra "L OPEN"
  have hc3' : IntsAre x3.cv (cntZ q n script) := hc3
  have hcl := hc3'.length
  unfold CJ
  obtain ⟨far, hfe⟩ : ∃ f, f = farZ q n := ⟨_, rfl⟩
  obtain ⟨cl, hce⟩ : ∃ c, c = cntZ q n script := ⟨_, rfl⟩
  rw [← hfe] at d4 hfar
  rw [← hce] at hc3' hcl hcl9
  k_with "CompSrc" => (refine hold ?_)
  k_steps
  refine unhold ?_
  rename IsRange _ _ _ _ _ _ _ _ => hrng
  obtain ⟨fn, hfn⟩ : ∃ f : Nat, (f : Int) = far + 1 := ⟨(far + 1).toNat, by omega⟩
  rw [← hfn] at hrng
  have hzs : Builtin.Range.small 0 (fn : Int) 1 = true := small_one (by omega) (by omega) (by omega) (by omega)
  have hzn : Builtin.Range.rangeSize 0 (fn : Int) 1 = ((fn : Nat) : Int) := rangeSize_nat _ _
  refine LCg.CompSrc.range (n := fn) rfl (by assumption) (by assumption) hrng hzs hzn (by rw [sizeLine_eq]; omega) (fun g9 => comp_of (fun k v => ∃ t9, v = .int (cl.getD (far - (k : Int)).toNat 0) t9) (fun _ nw => nw = _) ?_ ?_ rfl)
  · intro i9 v I9 oI9 C oC D9 m₂ h tk E' ys news hi9 hv hJ hC hx F N off ne
    obtain ⟨t9, rfl⟩ := hv
    subst hJ
    rw [Int.zero_add] at hx
    k_with_none
    k_with "M ne" => first | exact NeW.l (by with_reducible assumption) | exact NeW.r (by with_reducible assumption) | (refine neN ?_; (try dsimp only); omega)
    k_with "M bits" => first | with_reducible assumption | exact bits_pow2 (by omega)
    k_with "M mem" => first | exact List.Mem.head _ | exact mem1 | exact mem2 | exact mem3 | exact mem4 | exact mem5 | exact mem6 | exact mem7 | exact mem8 | exact mem9 | exact mem10 | exact mem11 | exact mem12 | exact mem13
    k_with "M nw" => (try simp only [AllNw, and_true]); (try dsimp only); (repeat' constructor) <;> first | with_reducible assumption | (refine NeW.of ?_; k_ne)
    k_with "M sub2" => repeat (first | exact List.forall_mem_nil _ | refine fcons ⟨_, by k_mem⟩ ?_)
    k_with "M off" => repeat (first | exact List.forall_mem_nil _ | refine fcons (nin1 (by (try dsimp only); k_ne)) ?_)
    k_with "M sub" => repeat (first | exact List.forall_mem_nil _ | (refine fcons ?k9w ?_; (case k9w => k_mem)))
    k_with "subscriptTail Name Slice ref ref" => refine' slice_all_led ?k9F ?k9N ?k9l ?k9z ?k9p ?k9q ?_ ?k9s ?k9t; (case k9F => k_asm); (case k9N => k_asm); (case k9l => k_mem); (case k9z => omega); (case k9p => kmk_part); (case k9q => kmk_part); (case k9s => with_unfolding_all rfl); (case k9t => kmk_pure); intro k9D k9h k9F k9N k9l1; (try k_lt k9l1); (try k_sweep)
    k_with "M same" => intro z h1 h2 h3; (try dsimp only); (repeat (first | refine same_if (by first | exact h1 | exact ne_ps h2 rfl | exact ne_st h3 rfl) ?_ | exact rfl | exact same_st h3 | exact same_kst h2 h3 | refine same_k (by repeat (first | exact List.forall_mem_nil _ | refine fcons (by first | exact h1 | exact ne_ps h2 rfl | exact ne_st h3 rfl) ?_)) ?_ | refine same_c (by repeat (first | exact nc_nil | refine nc_cons (by first | exact h1 | exact ne_ps h2 rfl | exact ne_st h3 rfl) ?_)) ?_))
    k_with "call builtin:list.append" => refine' append_led ?k9la ?k9lb ?k9lc ?k9ld ?_; (case k9la => k_asm); (case k9lb => k_asm); (case k9lc => k_upd); (case k9ld => omega); intro k9h k9F k9N; (try k_sweep)
    k_with "call builtin:list.reverse" => refine' reverse_led ?k9la ?k9lb ?k9lc ?k9ld ?_; (case k9la => k_asm); (case k9lb => k_asm); (case k9lc => k_upd); (case k9ld => omega); intro k9h k9F k9N; (try k_sweep)
    k_with "binaryOp LShift int int" => refine' lshift_bits ?k9la ?k9lb ?k9lc ?k9ld ?_; (case k9la => omega); (case k9lb => omega); (case k9lc => bits_by_make); (case k9ld => decide)
    k_with "inplaceOp LShift int int" => refine' ilshift_bits ?k9la ?k9lb ?k9lc ?k9ld ?_; (case k9la => omega); (case k9lb => omega); (case k9lc => bits_by_make); (case k9ld => decide)
    k_with "M ROOM" => first | omega | ktr_room | ((try dsimp only [Around.deeper, ktrTop]); omega)
    k_with "M UNITS" => first | omega | ((try dsimp only [Around.deeper, ktrTop]); omega) | ktr_units
    k_with "execs cons" => (try k_fold); with_reducible first | refine seqL ?_ | (refine seqV ?_; intro Q8 q8)
    k_with "M un" => with_reducible first | (refine seqVN (s := s1) (by assumption) ?_; intro tk8; try clear q8 Q8) | (refine seqVN (s := s) (by assumption) ?_; intro tk8; try clear q8 Q8) | refine seqVR (by assumption) ?_ | refine seqVM (by assumption) ?_ | refine seqVB (by assumption) ?_ | refine seqVC (by assumption) ?_
    k_with "eval Name" => k_here; k_dflt (refine' nameX_L ?k9F ?k9v ?_ ?k9a ?k9b; (case k9F => k_asm); (case k9a => exact Eq.refl _); (case k9b => exact Eq.refl (some NameKind.local)); (case k9v => exact Eq.refl (some _)); k_whole)
    k_with "M off2" => repeat (first | exact List.forall_mem_nil _ | refine fcons (nin2 (by (try dsimp only); k_ne) (by (try dsimp only); k_ne)) ?_)
    k_with "L OPEN" => dsimp only [lawA, lawEnv, lawB, lawS, lawO, List.drop, List.take]
    k_steps
    all_goals (refine LCgL.ld_built (by k_asm) (by k_asm) (by k_asm) (by k_is) (by boot_fast) (by decide) ?_)
    k_steps
    rename News _ _ _ _ => NZ
    refine len_tuple (items := x3.cv.toArray) ⟨_, (NZ (x3.tc, _) (by k_mem)).1, rfl, _, rfl⟩ (by simp; omega) ?_
    rw [List.size_toArray, hcl]
    k_steps
    · refine LCg.CompEnd.intro (by assumption) (by assumption) _ (fun p hp => hp) off trivial ⟨int_post ?_, rfl⟩
      rfl
    · refine LCg.CompEnd.intro (by assumption) (by assumption) _ (fun p hp => hp) off trivial ⟨int_post ?_, rfl⟩
      rw [List.getD_eq_getElem?_getD, List.getElem?_eq_none (by omega)]
      rfl
  · intro ys news hyl hys hnw D5 h tk F N off
    subst hnw
    have hS := intsAre_of fn _ ys hyl hys
    have hfg : (List.range fn).map (fun (k : Nat) => cl.getD (far - (k : Int)).toNat 0) = figsZ q n script := by
      unfold figsZ
      rw [← hce, ← hfe, show (far + 1).toNat = fn by omega]
    rw [hfg] at hS
    have hfl : (figsZ q n script).length ≤ 7 := by rw [← hfg, List.length_map, List.length_range]; omega
    have hoff := nwOfOff off
    (try dsimp only)
    (try k_extra "M un")
    with_reducible first | refine seqL ?_ | (refine seqV ?_; intro Q8 q8)
    refine ksw_while (σ := List Value × List Int × Nat) (fun c => (D5, W.listOf (List.toArray c.1) c.2.2) :: _) (fun _ => []) (fun _ => True) [] (fun c => IntsAre c.1 c.2.1 ∧ stripZ c.2.1 = stripZ (figsZ q n script) ∧ c.2.1.length ≤ 7) (fun c => c.2.1.length) (ys, figsZ q n script, ys.length) F N trivial (fun p hp => nomatch hp) ⟨hS, rfl, hfl⟩ ?_ (by passes_own)
    refine sp3 ?_
    rintro fv fns kf u h tk - hp95 FZ NZ
    refine byG fun G9 hG9 => ?_
    obtain ⟨hfi, hst, hl7⟩ := hp95
    refine hG9 ?_
    clear hG9 G9
    dsimp only at hfi hst hl7 FZ NZ
    (try simp only [kstF_nil] at FZ)
    have hfvl := hfi.length
    clear F N
    k_with_none
    k_with "M ne" => first | exact NeW.l (by with_reducible assumption) | exact NeW.r (by with_reducible assumption) | (refine neN ?_; (try dsimp only); omega)
    k_with "M bits" => first | with_reducible assumption | exact bits_pow2 (by omega)
    k_with "M mem" => first | exact List.Mem.head _ | exact mem1 | exact mem2 | exact mem3 | exact mem4 | exact mem5 | exact mem6 | exact mem7 | exact mem8 | exact mem9 | exact mem10 | exact mem11 | exact mem12 | exact mem13
    k_with "M nw" => (try simp only [AllNw, and_true]); (try dsimp only); (repeat' constructor) <;> first | with_reducible assumption | (refine NeW.of ?_; k_ne)
    k_with "M sub2" => repeat (first | exact List.forall_mem_nil _ | refine fcons ⟨_, by k_mem⟩ ?_)
    k_with "M off" => repeat (first | exact List.forall_mem_nil _ | refine fcons (nin1 (by (try dsimp only); k_ne)) ?_)
    k_with "M sub" => repeat (first | exact List.forall_mem_nil _ | (refine fcons ?k9w ?_; (case k9w => k_mem)))
    k_with "subscriptTail Name Slice ref ref" => refine' slice_all_led ?k9F ?k9N ?k9l ?k9z ?k9p ?k9q ?_ ?k9s ?k9t; (case k9F => k_asm); (case k9N => k_asm); (case k9l => k_mem); (case k9z => omega); (case k9p => kmk_part); (case k9q => kmk_part); (case k9s => with_unfolding_all rfl); (case k9t => kmk_pure); intro k9D k9h k9F k9N k9l1; (try k_lt k9l1); (try k_sweep)
    k_with "M same" => intro z h1 h2 h3; (try dsimp only); (repeat (first | refine same_if (by first | exact h1 | exact ne_ps h2 rfl | exact ne_st h3 rfl) ?_ | exact rfl | exact same_st h3 | exact same_kst h2 h3 | refine same_k (by repeat (first | exact List.forall_mem_nil _ | refine fcons (by first | exact h1 | exact ne_ps h2 rfl | exact ne_st h3 rfl) ?_)) ?_ | refine same_c (by repeat (first | exact nc_nil | refine nc_cons (by first | exact h1 | exact ne_ps h2 rfl | exact ne_st h3 rfl) ?_)) ?_))
    k_with "call builtin:list.append" => refine' append_led ?k9la ?k9lb ?k9lc ?k9ld ?_; (case k9la => k_asm); (case k9lb => k_asm); (case k9lc => k_upd); (case k9ld => omega); intro k9h k9F k9N; (try k_sweep)
    k_with "call builtin:list.reverse" => refine' reverse_led ?k9la ?k9lb ?k9lc ?k9ld ?_; (case k9la => k_asm); (case k9lb => k_asm); (case k9lc => k_upd); (case k9ld => omega); intro k9h k9F k9N; (try k_sweep)
    k_with "binaryOp LShift int int" => refine' lshift_bits ?k9la ?k9lb ?k9lc ?k9ld ?_; (case k9la => omega); (case k9lb => omega); (case k9lc => bits_by_make); (case k9ld => decide)
    k_with "inplaceOp LShift int int" => refine' ilshift_bits ?k9la ?k9lb ?k9lc ?k9ld ?_; (case k9la => omega); (case k9lb => omega); (case k9lc => bits_by_make); (case k9ld => decide)
    k_with "M ROOM" => first | omega | ktr_room | ((try dsimp only [Around.deeper, ktrTop]); omega)
    k_with "M UNITS" => first | omega | ((try dsimp only [Around.deeper, ktrTop]); omega) | ktr_units
    k_with "execs cons" => (try k_fold); with_reducible first | refine seqL ?_ | (refine seqV ?_; intro Q8 q8)
    k_with "M un" => with_reducible first | (refine seqVN (s := s1) (by assumption) ?_; intro tk8; try clear q8 Q8) | (refine seqVN (s := s) (by assumption) ?_; intro tk8; try clear q8 Q8) | refine seqVR (by assumption) ?_ | refine seqVM (by assumption) ?_ | refine seqVB (by assumption) ?_ | refine seqVC (by assumption) ?_
    k_with "eval Name" => k_here; k_dflt (refine' nameX_L ?k9F ?k9v ?_ ?k9a ?k9b; (case k9F => k_asm); (case k9a => exact Eq.refl _); (case k9b => exact Eq.refl (some NameKind.local)); (case k9v => exact Eq.refl (some _)); k_whole)
    k_with "M off2" => repeat (first | exact List.forall_mem_nil _ | refine fcons (nin2 (by (try dsimp only); k_ne) (by (try dsimp only); k_ne)) ?_)
    k_with "L OPEN" => dsimp only [lawA, lawEnv, lawB, lawS, lawO, List.drop, List.take]
    k_steps
    · rename (0 < fns.length) => hpos
      rename (List.getD fns _ 0 = 0) => hl0
      have hall := AllNw.mem hoff
      clear hoff
      k_with "KswPost" => (refine hold ?_)
      k_steps
      refine unhold ?_
      dsimp only [KswPost]
      rename Fr _ _ _ _ => FZ
      rename News _ _ _ _ => NZ
      rename IntsAre (List.dropLast fv) _ => hfi2
      have hne : fns ≠ [] := List.length_pos_iff.mp hpos
      have hdl : fns.dropLast.length = fns.length - 1 := List.length_dropLast
      refine ksw_end (fv.dropLast, fns.dropLast, kf + 1) FZ NZ ?sb9 trivial (fun p hp => nomatch hp) ?sm9 ⟨hfi2, (stripZ_pop hne ((last_getD hne).symm.trans hl0)).trans hst, by dsimp only; omega⟩ (by dsimp only; omega)
      case sm9 => exact fun z _ _ => by first | rfl | simp
      case sb9 =>
        (try dsimp only)
        k_extra "M sub"
        exact fun p hp => by repeat (first | exact hp | refine List.mem_cons_of_mem _ ?_)
    · rename Fr _ _ _ _ => FZ
      rename News _ _ _ _ => NZ
      refine Fin.mk ⟨t1, t2, t3, t4, t5, t6, t7, t8, D5, fv, kf, ⟨⟨W0, a0, a1, a2, a3, D, cA, cB, k, k0, k1, k2, k3, sp, v0, v1, v2, v3, cv, oA, oB, o5, o4, oX, o2, o1, tt, tq, tn⟩, M, mv, km, rows, x3, x4, tm, tf, At.of FZ (News.sub NZ ?sb1) ?nm1, hok2, hlk, hrL, d4o, d5, hc3, hc4⟩, ?ft1⟩
      case nm1 =>
        unfold BSt.names mainN
        repeat (first | exact List.forall_mem_nil _ | refine fcons (by exact Eq.refl (some _)) ?_)
      case sb1 =>
        unfold WsO.led BSt.led
        dsimp only [List.cons_append, List.nil_append]
        k_extra "M sub"
        exact fun p hp => by repeat (first | exact hp | refine List.mem_cons_of_mem _ ?_)
      case ft1 =>
        rw [← hst]
        rename (List.getD fns _ 0 ≠ 0) => hl0
        have hne : fns ≠ [] := fun e => by rw [e] at hl0; simp at hl0
        rw [stripZ_end hne (fun e => hl0 ((last_getD hne).trans e))]
        exact hfi
    · rename Fr _ _ _ _ => FZ
      rename News _ _ _ _ => NZ
      refine Fin.mk ⟨t1, t2, t3, t4, t5, t6, t7, t8, D5, fv, kf, ⟨⟨W0, a0, a1, a2, a3, D, cA, cB, k, k0, k1, k2, k3, sp, v0, v1, v2, v3, cv, oA, oB, o5, o4, oX, o2, o1, tt, tq, tn⟩, M, mv, km, rows, x3, x4, tm, tf, At.of FZ (News.sub NZ ?sb2) ?nm2, hok2, hlk, hrL, d4o, d5, hc3, hc4⟩, ?ft2⟩
      case nm2 =>
        unfold BSt.names mainN
        repeat (first | exact List.forall_mem_nil _ | refine fcons (by exact Eq.refl (some _)) ?_)
      case sb2 =>
        unfold WsO.led BSt.led
        dsimp only [List.cons_append, List.nil_append]
        k_extra "M sub"
        exact fun p hp => by repeat (first | exact hp | refine List.mem_cons_of_mem _ ?_)
      case ft2 =>
        rw [← hst]
        have hne : fns = [] := List.eq_nil_of_length_eq_zero (by omega)
        rw [hne] at hfi ⊢
        exact hfi
end

section
theorem hush_L11 : True := by
  k_with_none
  w_top off
  trivial
set_option genSizeOf false
set_option genInjectivity false

theorem rules_L11_0 : True := by
  k_with "M ne" => first | exact NeW.l (by with_reducible assumption) | exact NeW.r (by with_reducible assumption) | (refine neN ?_; (try dsimp only); omega)
  k_with "M bits" => first | with_reducible assumption | exact bits_pow2 (by omega)
  k_with "M mem" => first | exact List.Mem.head _ | exact mem1 | exact mem2 | exact mem3 | exact mem4 | exact mem5 | exact mem6 | exact mem7 | exact mem8 | exact mem9 | exact mem10 | exact mem11 | exact mem12 | exact mem13
  k_with "M nw" => (try simp only [AllNw, and_true]); (try dsimp only); (repeat' constructor) <;> first | with_reducible assumption | (refine NeW.of ?_; k_ne)
  k_with "M sub2" => repeat (first | exact List.forall_mem_nil _ | refine fcons ⟨_, by k_mem⟩ ?_)
  k_with "M off" => repeat (first | exact List.forall_mem_nil _ | refine fcons (nin1 (by (try dsimp only); k_ne)) ?_)
  k_with "M sub" => repeat (first | exact List.forall_mem_nil _ | (refine fcons ?k9w ?_; (case k9w => k_mem)))
  k_with "subscriptTail Name Slice ref ref" => refine' slice_all_led ?k9F ?k9N ?k9l ?k9z ?k9p ?k9q ?_ ?k9s ?k9t; (case k9F => k_asm); (case k9N => k_asm); (case k9l => k_mem); (case k9z => omega); (case k9p => kmk_part); (case k9q => kmk_part); (case k9s => with_unfolding_all rfl); (case k9t => kmk_pure); intro k9D k9h k9F k9N k9l1; (try k_lt k9l1); (try k_sweep)
  k_with "M same" => intro z h1 h2 h3; (try dsimp only); (repeat (first | refine same_if (by first | exact h1 | exact ne_ps h2 rfl | exact ne_st h3 rfl) ?_ | exact rfl | exact same_st h3 | exact same_kst h2 h3 | refine same_k (by repeat (first | exact List.forall_mem_nil _ | refine fcons (by first | exact h1 | exact ne_ps h2 rfl | exact ne_st h3 rfl) ?_)) ?_ | refine same_c (by repeat (first | exact nc_nil | refine nc_cons (by first | exact h1 | exact ne_ps h2 rfl | exact ne_st h3 rfl) ?_)) ?_))
  k_with "call builtin:list.append" => refine' append_led ?k9la ?k9lb ?k9lc ?k9ld ?_; (case k9la => k_asm); (case k9lb => k_asm); (case k9lc => k_upd); (case k9ld => omega); intro k9h k9F k9N; (try k_sweep)
  k_with "call builtin:list.reverse" => refine' reverse_led ?k9la ?k9lb ?k9lc ?k9ld ?_; (case k9la => k_asm); (case k9lb => k_asm); (case k9lc => k_upd); (case k9ld => omega); intro k9h k9F k9N; (try k_sweep)
  k_with "binaryOp LShift int int" => refine' lshift_bits ?k9la ?k9lb ?k9lc ?k9ld ?_; (case k9la => omega); (case k9lb => omega); (case k9lc => bits_by_make); (case k9ld => decide)
  k_with "inplaceOp LShift int int" => refine' ilshift_bits ?k9la ?k9lb ?k9lc ?k9ld ?_; (case k9la => omega); (case k9lb => omega); (case k9lc => bits_by_make); (case k9ld => decide)
  k_with "M ROOM" => first | omega | ktr_room | ((try dsimp only [Around.deeper, ktrTop]); omega)
  k_with "M UNITS" => first | omega | ((try dsimp only [Around.deeper, ktrTop]); omega) | ktr_units
  k_with "execs cons" => (try k_fold); with_reducible first | refine seqL ?_ | (refine seqV ?_; intro Q8 q8)
  k_with "M un" => with_reducible first | (refine seqVN (s := s1) (by assumption) ?_; intro tk8; try clear q8 Q8) | (refine seqVN (s := s) (by assumption) ?_; intro tk8; try clear q8 Q8) | refine seqVR (by assumption) ?_ | refine seqVM (by assumption) ?_ | refine seqVB (by assumption) ?_ | refine seqVC (by assumption) ?_
  k_with "eval Name" => k_here; k_dflt (refine' nameX_L ?k9F ?k9v ?_ ?k9a ?k9b; (case k9F => k_asm); (case k9a => exact Eq.refl _); (case k9b => exact Eq.refl (some NameKind.local)); (case k9v => exact Eq.refl (some _)); k_whole)
  k_with "M off2" => repeat (first | exact List.forall_mem_nil _ | refine fcons (nin2 (by (try dsimp only); k_ne) (by (try dsimp only); k_ne)) ?_)
  k_with "L OPEN" => dsimp only [lawA, lawEnv, lawB, lawS, lawO, List.drop, List.take]
  trivial
/-- the plain facts of the quotient's figures -/
structure FigsOk (q : Int) (n : Nat) (script : List Int) (S : Int) : Prop where
  h0 : 0 ≤ S
  hb : Builtin.Int.intBits S ≤ 90000
  hk : (Builtin.Int.intBits S + (widthZ script).toNat - 1) / (widthZ script).toNat ≤ 100
  hf : i2d (widthZ script).toNat ((Builtin.Int.intBits S + (widthZ script).toNat - 1) / (widthZ script).toNat) S = stripZ (figsZ q n script)
theorem width_is (script : List Int) : 8 ≤ widthZ script ∧ widthZ script ≤ 1097 := by
  have := (fdiv_fmod_facts script.sum 50).2.2.1 (by decide)
  unfold widthZ
  split <;> omega
theorem News.tab1 {g h h' : Heap} {L : Addr} {news : List (Addr × Obj)} {o37 : Obj} (N : News g L h news) (K : KeepBut [37] h h') (e37 : h'.get? 37 = some o37) (m37 : ((37 : Addr), o37) ∈ news) : News g L h' news := fun p hp => by
  refine ⟨?_, (N p hp).2⟩
  by_cases h2 : p.1 = 37
  · have e1 := (N p hp).1
    have e2 := (N _ m37).1
    rw [h2] at e1 ⊢
    rw [e1] at e2
    rw [e37]
    exact e2.symm
  · exact K _ _ (N p hp).1 fun hm => h2 (List.mem_singleton.mp hm)
noncomputable abbrev restN (script : List Int) (q : Int) (n : Nat) (S : Int) (t1 t2 t3 t4 t5 t6 t7 t8 : Tok) : List (Str × Value) := (Str.ofString "quotient", .int S t7) :: (Str.ofString "rest", .int (drawnZ q n script) t8) :: mainN script q n t1 t2 t3 t4 t5 t6
inductive CK (w : World) (g : Heap) (SZ : Nat) (s1 : Shared) (script : List Int) (q : Int) (n : Nat) (S : Int) (s' : Shared) : Prop
  | mk (t1 : _) (t2 : _) (t3 : _) (t4 : _) (t5 : _) (t6 : _) (t7 : _) (t8 : _) (h9x0 : CI w g SZ s1 script q n (restN script q n S t1 t2 t3 t4 t5 t6 t7 t8) [] s') : CK w g SZ s1 script q n S s'
set_option maxHeartbeats 8000000 in
theorem st_K {w : World} {p9 : Program} {lo9 : List Str} {me9 : ExcName → Option Value} {mg9 mb9 : Str → Option Value} {g base : Heap} {SZ : Nat} {fa : Addr} {cd : Value} {s1 : Shared} (KB : Below callerA base [] g) (XK : (hd.heap_1 w.params).In g) (TK : Top p9 lo9 me9 mg9 mb9 g) {script : List Int} {q : Int} {n : Nat} (hq2 : 2 ≤ q ∧ q ≤ 3) (hn : (n : Int) = 6 - q) (h44 : 44 < SZ) (h37 : 37 < SZ) {S : Int} (hfo : FigsOk q n script S) {s' : Shared} (h0 : CJ w g SZ s1 script q n S s') :
    LawPart w SZ fa cd 29 1 (CK w g SZ s1 script q n S) s' := by
  unfold LawPart PR
  revert XK
  k_fill
  intro XK
  refine byG fun G9 hG9 => ?_
  obtain ⟨t1, t2, t3, t4, t5, t6, t7, t8, F0, fv, kf, ⟨⟨W0, a0, a1, a2, a3, D, cA, cB, k, k0, k1, k2, k3, sp, v0, v1, v2, v3, cv, oA, oB, o5, o4, oX, o2, o1, tt, tq, tn⟩, M, mv, km, rows, x3, x4, tm, tf, ⟨h, tk, m', rfl, FZ, NZ⟩, hok, hlk, hrL, d4, d5, hc3, hc4⟩, hfv⟩ := h0
  refine hG9 ?_
  clear hG9 G9
  have hok2 := hok
  refine byG fun G9 hG9 => ?_
  obtain ⟨i0, i1, i2, i3, hcv, hcA, hcB, dX, d4', d5', dq, dn⟩ := hok
  obtain ⟨hS0, hSb, hSk, hSf⟩ := hfo
  refine hG9 ?_
  clear hG9 G9
  have hwd := width_is script
  unfold BSt.names mainN at FZ
  unfold BSt.led WsO.led at NZ
  simp only [List.cons_append, List.nil_append, kstF_cons, kstF_nil] at FZ
  dsimp only [List.cons_append, List.nil_append] at NZ
  dsimp only at hcA hcB
  k_extra "L OPEN"
  obtain ⟨wn, hwn⟩ : ∃ m : Nat, (m : Int) = widthZ script := ⟨(widthZ script).toNat, by omega⟩
  have hwt : (widthZ script).toNat = wn := by omega
  rw [hwt] at hSk hSf
  have oT : g.get? 37 = none ∧ (37 : Addr) ≠ SZ := ⟨(NZ (37, _) (by k_mem)).2.2, (NZ (37, _) (by k_mem)).2.1⟩
  k_with "call ref" => (refine hold ?_)
  k_steps
  all_goals (try (exfalso; omega))
  refine unhold ?_
  rename Fr _ _ _ _ => FZ
  rename News _ _ _ _ => NZ
  rw [← hwn]
  refine (ctr_i2d_1 S _ wn _ cA hS0 (by omega) (by omega) hSk).use KB FZ XK TK rfl (Off.one oT.1 oT.2) (by k_extra "M ROOM") (by k_extra "M UNITS") ⟨(NZ (37, _) (by k_mem)).1, hcA.at (NZ (cA, _) (by k_mem)).1⟩ ?_
  rintro r hA2 tkA2 FA KA hp95
  refine byG fun G9 hG9 => ?_
  obtain ⟨⟨d1, dv, rfl, hm, hdi⟩, e37⟩ := hp95
  refine hG9 ?_
  clear hG9 G9
  have NB := hm.news FZ (News.tab1 NZ KA e37 (by k_mem))
  clear FZ NZ KA hm
  rw [hSf] at hdi
  have hfl : (stripZ (figsZ q n script)).length ≤ 100 := by rw [← hSf, i2d_length]; exact hSk
  k_steps
  rename Fr _ _ _ _ => FZ
  rename News _ _ _ _ => NZ
  refine Fin.mk ⟨t1, t2, t3, t4, t5, t6, t7, t8, ⟨W0, a0, a1, a2, a3, D, cA, cB, k, k0, k1, k2, k3, sp, v0, v1, v2, v3, cv, oA, oB, o5, o4, oX, o2, o1, tt, tq, tn⟩, M, mv, km, rows, x3, x4, tm, tf, At.of FZ (News.sub NZ ?sb9) ?nm9, hok2, hlk, hrL, d4, d5, hc3, hc4⟩
  case nm9 =>
    unfold BSt.names restN mainN
    rw [← hwn]
    repeat (first | exact List.forall_mem_nil _ | refine fcons (by exact Eq.refl (some _)) ?_)
  case sb9 =>
    unfold WsO.led BSt.led
    dsimp only [List.cons_append, List.nil_append]
    k_extra "M sub"
    exact fun p hp => by repeat (first | exact hp | refine List.mem_cons_of_mem _ ?_)
end

section
theorem hush_L12 : True := by
  k_with_none
  w_top off
  trivial
theorem rules_L12_0 : True := by
  k_with "M ne" => first | exact NeW.l (by with_reducible assumption) | exact NeW.r (by with_reducible assumption) | (refine neN ?_; (try dsimp only); omega)
  k_with "M bits" => first | with_reducible assumption | exact bits_pow2 (by omega)
  k_with "M mem" => first | exact List.Mem.head _ | exact mem1 | exact mem2 | exact mem3 | exact mem4 | exact mem5 | exact mem6 | exact mem7 | exact mem8 | exact mem9 | exact mem10 | exact mem11 | exact mem12 | exact mem13
  k_with "M nw" => (try simp only [AllNw, and_true]); (try dsimp only); (repeat' constructor) <;> first | with_reducible assumption | (refine NeW.of ?_; k_ne)
  k_with "M sub2" => repeat (first | exact List.forall_mem_nil _ | refine fcons ⟨_, by k_mem⟩ ?_)
  k_with "M off" => repeat (first | exact List.forall_mem_nil _ | refine fcons (nin1 (by (try dsimp only); k_ne)) ?_)
  k_with "M sub" => repeat (first | exact List.forall_mem_nil _ | (refine fcons ?k9w ?_; (case k9w => k_mem)))
  k_with "subscriptTail Name Slice ref ref" => refine' slice_all_led ?k9F ?k9N ?k9l ?k9z ?k9p ?k9q ?_ ?k9s ?k9t; (case k9F => k_asm); (case k9N => k_asm); (case k9l => k_mem); (case k9z => omega); (case k9p => kmk_part); (case k9q => kmk_part); (case k9s => with_unfolding_all rfl); (case k9t => kmk_pure); intro k9D k9h k9F k9N k9l1; (try k_lt k9l1); (try k_sweep)
  k_with "M same" => intro z h1 h2 h3; (try dsimp only); (repeat (first | refine same_if (by first | exact h1 | exact ne_ps h2 rfl | exact ne_st h3 rfl) ?_ | exact rfl | exact same_st h3 | exact same_kst h2 h3 | refine same_k (by repeat (first | exact List.forall_mem_nil _ | refine fcons (by first | exact h1 | exact ne_ps h2 rfl | exact ne_st h3 rfl) ?_)) ?_ | refine same_c (by repeat (first | exact nc_nil | refine nc_cons (by first | exact h1 | exact ne_ps h2 rfl | exact ne_st h3 rfl) ?_)) ?_))
  k_with "call builtin:list.append" => refine' append_led ?k9la ?k9lb ?k9lc ?k9ld ?_; (case k9la => k_asm); (case k9lb => k_asm); (case k9lc => k_upd); (case k9ld => omega); intro k9h k9F k9N; (try k_sweep)
  k_with "call builtin:list.reverse" => refine' reverse_led ?k9la ?k9lb ?k9lc ?k9ld ?_; (case k9la => k_asm); (case k9lb => k_asm); (case k9lc => k_upd); (case k9ld => omega); intro k9h k9F k9N; (try k_sweep)
  k_with "binaryOp LShift int int" => refine' lshift_bits ?k9la ?k9lb ?k9lc ?k9ld ?_; (case k9la => omega); (case k9lb => omega); (case k9lc => bits_by_make); (case k9ld => decide)
  k_with "inplaceOp LShift int int" => refine' ilshift_bits ?k9la ?k9lb ?k9lc ?k9ld ?_; (case k9la => omega); (case k9lb => omega); (case k9lc => bits_by_make); (case k9ld => decide)
  k_with "M ROOM" => first | omega | ktr_room | ((try dsimp only [Around.deeper, ktrTop]); omega)
  k_with "M UNITS" => first | omega | ((try dsimp only [Around.deeper, ktrTop]); omega) | ktr_units
  k_with "execs cons" => (try k_fold); with_reducible first | refine seqL ?_ | (refine seqV ?_; intro Q8 q8)
  k_with "M un" => with_reducible first | (refine seqVN (s := s1) (by assumption) ?_; intro tk8; try clear q8 Q8) | (refine seqVN (s := s) (by assumption) ?_; intro tk8; try clear q8 Q8) | refine seqVR (by assumption) ?_ | refine seqVM (by assumption) ?_ | refine seqVB (by assumption) ?_ | refine seqVC (by assumption) ?_
  k_with "eval Name" => k_here; k_dflt (refine' nameX_L ?k9F ?k9v ?_ ?k9a ?k9b; (case k9F => k_asm); (case k9a => exact Eq.refl _); (case k9b => exact Eq.refl (some NameKind.local)); (case k9v => exact Eq.refl (some _)); k_whole)
  k_with "M off2" => repeat (first | exact List.forall_mem_nil _ | refine fcons (nin2 (by (try dsimp only); k_ne) (by (try dsimp only); k_ne)) ?_)
  k_with "L OPEN" => dsimp only [lawA, lawEnv, lawB, lawS, lawO, List.drop, List.take]
  trivial
theorem DivOk.neg {q : Int} {n : Nat} {script : List Int} {S : Int} (h : DivOk q n script S) : Int.fdiv (-1 - topZ q n script) (bottomZ q n script) = -S - 1 ∧ Int.fmod (-1 - topZ q n script) (bottomZ q n script) = bottomZ q n script - 1 - drawnZ q n script := by
  have f := fdiv_fmod_facts (topZ q n script) (bottomZ q n script)
  have e := f.1
  have b := f.2.2.1 h.hB
  rw [h.hq, h.hr] at e
  rw [h.hr] at b
  have := fdivmod_of (x := -1 - topZ q n script) (y := bottomZ q n script) (q := -S - 1) (r := bottomZ q n script - 1 - drawnZ q n script) h.hB (by rw [← e, Int.sub_mul, Int.neg_mul]; omega) (by omega) (by omega)
  exact ⟨this.1.symm, this.2.symm⟩
theorem DivOk.neg2 {q : Int} {n : Nat} {script : List Int} {S : Int} (h : DivOk q n script S) : Int.fdiv (topZ q n script + 1) (-bottomZ q n script) = -S - 1 ∧ Int.fmod (topZ q n script + 1) (-bottomZ q n script) = drawnZ q n script + 1 - bottomZ q n script := by
  have e1 : Int.fdiv (topZ q n script + 1) (-bottomZ q n script) = -S - 1 := by
    rw [← h.neg.1, show -1 - topZ q n script = -(topZ q n script + 1) by omega]
    have := Int.neg_fdiv_neg (-(topZ q n script + 1)) (bottomZ q n script)
    rw [Int.neg_neg] at this
    exact this
  refine ⟨e1, ?_⟩
  have f := (fdiv_fmod_facts (topZ q n script + 1) (-bottomZ q n script)).1
  have f2 := (fdiv_fmod_facts (topZ q n script) (bottomZ q n script)).1
  rw [e1] at f
  rw [h.hq, h.hr] at f2
  rw [Int.sub_mul, Int.neg_mul, Int.mul_neg] at f
  omega
set_option maxHeartbeats 8000000 in
theorem st_L {w : World} {p9 : Program} {lo9 : List Str} {me9 : ExcName → Option Value} {mg9 mb9 : Str → Option Value} {g base : Heap} {SZ : Nat} {fa : Addr} {cd : Value} {s1 : Shared} (KB : Below callerA base [] g) (XK : (hd.heap_1 w.params).In g) (TK : Top p9 lo9 me9 mg9 mb9 g) {script : List Int} {q : Int} {n : Nat} (hq2 : 2 ≤ q ∧ q ≤ 3) (hn : (n : Int) = 6 - q) (h44 : 44 < SZ) (h37 : 37 < SZ) {S : Int} (hdv : DivOk q n script S) {s' : Shared} (h0 : CK w g SZ s1 script q n S s') :
    LawPart w SZ fa cd 30 2 (CK w g SZ s1 script q n S) s' := by
  unfold LawPart PR
  revert XK
  k_fill
  intro XK
  refine byG fun G9 hG9 => ?_
  obtain ⟨t1, t2, t3, t4, t5, t6, t7, t8, ⟨W0, a0, a1, a2, a3, D, cA, cB, k, k0, k1, k2, k3, sp, v0, v1, v2, v3, cv, oA, oB, o5, o4, oX, o2, o1, tt, tq, tn⟩, M, mv, km, rows, x3, x4, tm, tf, ⟨h, tk, m', rfl, FZ, NZ⟩, hok, hlk, hrL, d4, d5, hc3, hc4⟩ := h0
  refine hG9 ?_
  clear hG9 G9
  have hok2 := hok
  refine byG fun G9 hG9 => ?_
  obtain ⟨i0, i1, i2, i3, hcv, hcA, hcB, dX, d4', d5', dq, dn⟩ := hok
  refine hG9 ?_
  clear hG9 G9
  have hn1 := hdv.neg
  have hn2 := hdv.neg2
  refine byG fun G9 hG9 => ?_
  obtain ⟨hT, hB, hb1, hb2, hab, hkn, hqv, hrv⟩ := hdv
  refine hG9 ?_
  clear hG9 G9
  unfold BSt.names restN mainN at FZ
  unfold BSt.led WsO.led at NZ
  simp only [List.cons_append, List.nil_append, kstF_cons, kstF_nil] at FZ
  dsimp only [List.cons_append, List.nil_append] at NZ
  dsimp only at hcA hcB
  k_extra "L OPEN"
  have oT : ∀ a ∈ [(44 : Addr), 37], g.get? a = none ∧ a ≠ SZ := fcons ⟨(NZ (44, _) (by k_mem)).2.2, (NZ (44, _) (by k_mem)).2.1⟩ (fcons ⟨(NZ (37, _) (by k_mem)).2.2, (NZ (37, _) (by k_mem)).2.1⟩ (List.forall_mem_nil _))
  have hdig : (Builtin.Int.intBits (topZ q n script) + Builtin.Int.intBits (bottomZ q n script) - 1) / Builtin.Int.intBits (bottomZ q n script) < 100 := by
    refine (Nat.div_lt_iff_lt_mul (by omega)).mpr ?_
    omega
  k_with "call ref" => (refine hold ?_)
  k_steps
  refine unhold ?_
  rename Fr _ _ _ _ => FZ
  rename News _ _ _ _ => NZ
  rw [show -topZ q n script - 1 = -1 - topZ q n script by omega]
  refine (ctr_idm_np (topZ q n script) (bottomZ q n script) _ _ _ cA cB hT hB rfl hb1 hb2 (by omega) hdig).use KB FZ XK TK rfl oT (by k_extra "M ROOM") (by k_extra "M UNITS") ⟨(NZ (44, _) (by k_mem)).1, (NZ (37, _) (by k_mem)).1, hcB.at (NZ (cB, _) (by k_mem)).1, hcA.at (NZ (cA, _) (by k_mem)).1⟩ ?_
  rintro r hA2 tkA2 FA KA hp95
  refine byG fun G9 hG9 => ?_
  obtain ⟨⟨u1, u2, p9, rfl, hm⟩, hhit⟩ := hp95
  refine hG9 ?_
  clear hG9 G9
  have NB := hm.news FZ (News.tabs NZ KA hhit.1 hhit.2.1 (by k_mem) (by k_mem))
  clear FZ NZ KA hm hhit
  rw [hn1.1, hn1.2] at NB
  k_steps
  refine unhold ?_
  rename Fr _ _ _ _ => FZ
  rename News _ _ _ _ => NZ
  refine (ctr_idm_xn (topZ q n script) (bottomZ q n script) _ _ _ cA cB hT hB rfl hb1 hb2 (by omega) hdig).use KB FZ XK TK rfl oT (by k_extra "M ROOM") (by k_extra "M UNITS") ⟨(NZ (44, _) (by k_mem)).1, (NZ (37, _) (by k_mem)).1, hcB.at (NZ (cB, _) (by k_mem)).1, hcA.at (NZ (cA, _) (by k_mem)).1⟩ ?_
  rintro r hA3 tkA3 FA KA hp95
  refine byG fun G9 hG9 => ?_
  obtain ⟨⟨u3, u4, p10, rfl, hm⟩, hhit⟩ := hp95
  refine hG9 ?_
  clear hG9 G9
  have NC := hm.news FZ (News.tabs NZ KA hhit.1 hhit.2.1 (by k_mem) (by k_mem))
  clear FZ NZ KA hm hhit
  rw [hn2.1, hn2.2] at NC
  k_steps
  rename Fr _ _ _ _ => FZ
  rename News _ _ _ _ => NZ
  refine Fin.mk ⟨t1, t2, t3, t4, t5, t6, t7, t8, ⟨W0, a0, a1, a2, a3, D, cA, cB, k, k0, k1, k2, k3, sp, v0, v1, v2, v3, cv, oA, oB, o5, o4, oX, o2, o1, tt, tq, tn⟩, M, mv, km, rows, x3, x4, tm, tf, At.of FZ (News.sub NZ ?sb9) ?nm9, hok2, hlk, hrL, d4, d5, hc3, hc4⟩
  case nm9 =>
    unfold BSt.names restN mainN
    repeat (first | exact List.forall_mem_nil _ | refine fcons (by exact Eq.refl (some _)) ?_)
  case sb9 =>
    unfold WsO.led BSt.led
    dsimp only [List.cons_append, List.nil_append]
    k_extra "M sub"
    exact fun p hp => by repeat (first | exact hp | refine List.mem_cons_of_mem _ ?_)
end

section
theorem hush_L13 : True := by
  k_with_none
  w_top off
  trivial
theorem rules_L13_0 : True := by
  k_with "M ne" => first | exact NeW.l (by with_reducible assumption) | exact NeW.r (by with_reducible assumption) | (refine neN ?_; (try dsimp only); omega)
  k_with "M bits" => first | with_reducible assumption | exact bits_pow2 (by omega)
  k_with "M mem" => first | exact List.Mem.head _ | exact mem1 | exact mem2 | exact mem3 | exact mem4 | exact mem5 | exact mem6 | exact mem7 | exact mem8 | exact mem9 | exact mem10 | exact mem11 | exact mem12 | exact mem13
  k_with "M nw" => (try simp only [AllNw, and_true]); (try dsimp only); (repeat' constructor) <;> first | with_reducible assumption | (refine NeW.of ?_; k_ne)
  k_with "M sub2" => repeat (first | exact List.forall_mem_nil _ | refine fcons ⟨_, by k_mem⟩ ?_)
  k_with "M off" => repeat (first | exact List.forall_mem_nil _ | refine fcons (nin1 (by (try dsimp only); k_ne)) ?_)
  k_with "M sub" => repeat (first | exact List.forall_mem_nil _ | (refine fcons ?k9w ?_; (case k9w => k_mem)))
  k_with "subscriptTail Name Slice ref ref" => refine' slice_all_led ?k9F ?k9N ?k9l ?k9z ?k9p ?k9q ?_ ?k9s ?k9t; (case k9F => k_asm); (case k9N => k_asm); (case k9l => k_mem); (case k9z => omega); (case k9p => kmk_part); (case k9q => kmk_part); (case k9s => with_unfolding_all rfl); (case k9t => kmk_pure); intro k9D k9h k9F k9N k9l1; (try k_lt k9l1); (try k_sweep)
  k_with "M same" => intro z h1 h2 h3; (try dsimp only); (repeat (first | refine same_if (by first | exact h1 | exact ne_ps h2 rfl | exact ne_st h3 rfl) ?_ | exact rfl | exact same_st h3 | exact same_kst h2 h3 | refine same_k (by repeat (first | exact List.forall_mem_nil _ | refine fcons (by first | exact h1 | exact ne_ps h2 rfl | exact ne_st h3 rfl) ?_)) ?_ | refine same_c (by repeat (first | exact nc_nil | refine nc_cons (by first | exact h1 | exact ne_ps h2 rfl | exact ne_st h3 rfl) ?_)) ?_))
  k_with "call builtin:list.append" => refine' append_led ?k9la ?k9lb ?k9lc ?k9ld ?_; (case k9la => k_asm); (case k9lb => k_asm); (case k9lc => k_upd); (case k9ld => omega); intro k9h k9F k9N; (try k_sweep)
  k_with "call builtin:list.reverse" => refine' reverse_led ?k9la ?k9lb ?k9lc ?k9ld ?_; (case k9la => k_asm); (case k9lb => k_asm); (case k9lc => k_upd); (case k9ld => omega); intro k9h k9F k9N; (try k_sweep)
  k_with "binaryOp LShift int int" => refine' lshift_bits ?k9la ?k9lb ?k9lc ?k9ld ?_; (case k9la => omega); (case k9lb => omega); (case k9lc => bits_by_make); (case k9ld => decide)
  k_with "inplaceOp LShift int int" => refine' ilshift_bits ?k9la ?k9lb ?k9lc ?k9ld ?_; (case k9la => omega); (case k9lb => omega); (case k9lc => bits_by_make); (case k9ld => decide)
  k_with "M ROOM" => first | omega | ktr_room | ((try dsimp only [Around.deeper, ktrTop]); omega)
  k_with "M UNITS" => first | omega | ((try dsimp only [Around.deeper, ktrTop]); omega) | ktr_units
  k_with "execs cons" => (try k_fold); with_reducible first | refine seqL ?_ | (refine seqV ?_; intro Q8 q8)
  k_with "M un" => with_reducible first | (refine seqVN (s := s1) (by assumption) ?_; intro tk8; try clear q8 Q8) | (refine seqVN (s := s) (by assumption) ?_; intro tk8; try clear q8 Q8) | refine seqVR (by assumption) ?_ | refine seqVM (by assumption) ?_ | refine seqVB (by assumption) ?_ | refine seqVC (by assumption) ?_
  k_with "eval Name" => k_here; k_dflt (refine' nameX_L ?k9F ?k9v ?_ ?k9a ?k9b; (case k9F => k_asm); (case k9a => exact Eq.refl _); (case k9b => exact Eq.refl (some NameKind.local)); (case k9v => exact Eq.refl (some _)); k_whole)
  k_with "M off2" => repeat (first | exact List.forall_mem_nil _ | refine fcons (nin2 (by (try dsimp only); k_ne) (by (try dsimp only); k_ne)) ?_)
  k_with "L OPEN" => dsimp only [lawA, lawEnv, lawB, lawS, lawO, List.drop, List.take]
  k_with "binaryOp Pow int int" => refine' pow_eq (m := 3000) ?k9rb ?k9rc ?k9rd ?k9re ?k9rf ?_; (case k9rb => with_reducible assumption); (case k9rc => omega); (case k9rd => omega); (case k9re => with_reducible assumption); (case k9rf => decide)
  trivial
noncomputable def CM (w : World) (g : Heap) (SZ : Nat) (s1 : Shared) (script : List Int) (q : Int) (n : Nat) (S : Int) (s' : Shared) : Prop := ∃ t1 t2 t3 t4 t5 t6 t7 t8, CI w g SZ s1 script q n ((Str.ofString "alike", .bool (weighedZ q n script 2 == weighedZ q n script 3)) :: restN script q n S t1 t2 t3 t4 t5 t6 t7 t8) [] s'
set_option maxHeartbeats 8000000 in
theorem st_M {w : World} {p9 : Program} {lo9 : List Str} {me9 : ExcName → Option Value} {mg9 mb9 : Str → Option Value} {g base : Heap} {SZ : Nat} {fa : Addr} {cd : Value} {s1 : Shared} (KB : Below callerA base [] g) (XK : (hd.heap_1 w.params).In g) (TK : Top p9 lo9 me9 mg9 mb9 g) {script : List Int} {q : Int} {n : Nat} (hq2 : 2 ≤ q ∧ q ≤ 3) (hn : (n : Int) = 6 - q) (h44 : 44 < SZ) (h37 : 37 < SZ) {S : Int} {s' : Shared} (h0 : CK w g SZ s1 script q n S s') :
    LawPart w SZ fa cd 32 1 (CM w g SZ s1 script q n S) s' := by
  unfold LawPart PR
  revert XK
  k_fill
  intro XK
  have hn4 : 3 ≤ n ∧ n ≤ 4 := by omega
  refine byG fun G9 hG9 => ?_
  obtain ⟨t1, t2, t3, t4, t5, t6, t7, t8, ⟨W0, a0, a1, a2, a3, D, cA, cB, k, k0, k1, k2, k3, sp, v0, v1, v2, v3, cv, oA, oB, o5, o4, oX, o2, o1, tt, tq, tn⟩, M, mv, km, rows, x3, x4, tm, tf, ⟨h, tk, m', rfl, FZ, NZ⟩, hok, hlk, hrL, d4, d5, hc3, hc4⟩ := h0
  refine hG9 ?_
  clear hG9 G9
  have hok2 := hok
  refine byG fun G9 hG9 => ?_
  obtain ⟨i0, i1, i2, i3, hcv, hcA, hcB, dX, d4', d5', dq, dn⟩ := hok
  refine hG9 ?_
  clear hG9 G9
  unfold BSt.names restN mainN at FZ
  unfold BSt.led WsO.led at NZ
  simp only [List.cons_append, List.nil_append, kstF_cons, kstF_nil] at FZ
  dsimp only [List.cons_append, List.nil_append] at NZ
  dsimp only at hcA hcB i0 i1 i2 i3 dq dn
  k_extra "L OPEN"
  obtain ⟨hqe, hq27⟩ := q_pow hq2 hn
  have hwd := width_is script
  have hml : mv.length ≤ 27 := by rw [hlk.1]; exact Nat.le_trans mateT_len hq27
  have hbB : Builtin.Int.intBits (baseZ script) ≤ 3000 := bits_mono (intBits_pow_le (m := 2) (by decide +kernel) _) (by omega)
  have hbp : (0 : Int) < baseZ script := two_pow_posI _
  obtain ⟨X, hX⟩ : ∃ v, (baseZ script) ^ (q - 1).toNat = v := ⟨_, rfl⟩
  obtain ⟨wz, hwz⟩ : ∃ v, sumZ (mateZ q n script) (wordZ q n (seedZ script 3)) q X = v := ⟨_, rfl⟩
  have hX0 : 0 < X := by rw [← hX]; exact Int.pow_pos hbp
  have hXb : Builtin.Int.intBits X ≤ 2300 := by
    have e : X = 2 ^ ((widthZ script).toNat * (q - 1).toNat) := by rw [← hX]; unfold baseZ; rw [← Int.pow_mul]
    have hle : (widthZ script).toNat * (q - 1).toNat ≤ 1097 * 2 := Nat.mul_le_mul (by omega) (by omega)
    have h2 : X ≤ 2 ^ 2194 := by rw [e]; exact pow2_mono hle
    have h3 : (2 : Int) ^ 2194 < 2 ^ 2195 := by rw [Int.pow_succ]; have := two_pow_posI 2194; omega
    exact bits_mono (bits_lt (k := 2195) (by omega) (by omega)) (by decide)
  have hw3 : weighedZ q n script 3 = wz := by
    rw [← hwz, ← hX]
    rfl
  unfold CM
  rw [hw3]
  k_with "call ref" => (refine hold ?_)
  k_steps
  refine unhold ?_
  rename Fr _ _ _ _ => FZ
  rename News _ _ _ _ => NZ
  refine (ctr_sum M a3 mv v3 (mateZ q n script) (wordZ q n (seedZ script 3)) q X _ _ n hq2 hn4.2 (wordZ_len _ _ _) (mateZ_all hq2) (by rw [← hlk.1]; omega) hX0 hXb).use KB FZ XK TK rfl Off.nil (by k_extra "M ROOM") (by k_extra "M UNITS") ⟨⟨_, (NZ (M, _) (by k_mem)).1, rfl, _, rfl⟩, rows_at hlk NZ (fun p hp => by repeat (first | exact hp | refine List.mem_cons_of_mem _ ?_)), ⟨_, (NZ (a3, _) (by k_mem)).1, rfl, _, rfl⟩, i3⟩ ?_
  rintro r hA2 tkA2 FA KA ⟨t9, rfl⟩
  have NA := KA.news0 NZ
  clear FZ NZ KA
  rw [hwz]
  k_steps
  rename Fr _ _ _ _ => FZ
  rename News _ _ _ _ => NZ
  refine Fin.mk ⟨t1, t2, t3, t4, t5, t6, t7, t8, ⟨W0, a0, a1, a2, a3, D, cA, cB, k, k0, k1, k2, k3, sp, v0, v1, v2, v3, cv, oA, oB, o5, o4, oX, o2, o1, tt, tq, tn⟩, M, mv, km, rows, x3, x4, tm, tf, At.of FZ (News.sub NZ ?sb9) ?nm9, hok2, hlk, hrL, d4, d5, hc3, hc4⟩
  case nm9 =>
    unfold BSt.names restN mainN
    repeat (first | exact List.forall_mem_nil _ | refine fcons (by exact Eq.refl (some _)) ?_)
  case sb9 =>
    unfold WsO.led BSt.led
    dsimp only [List.cons_append, List.nil_append]
    k_extra "M sub"
    exact fun p hp => by repeat (first | exact hp | refine List.mem_cons_of_mem _ ?_)
end

section
theorem hush_L14 : True := by
  k_with_none
  w_top off
  trivial
local macro_rules | `(tactic| k_room) => `(tactic| k_extra "M room")
theorem rules_L14_0 : True := by
  k_with "M ne" => first | exact NeW.l (by with_reducible assumption) | exact NeW.r (by with_reducible assumption) | (refine neN ?_; (try dsimp only); omega)
  k_with "M bits" => first | with_reducible assumption | exact bits_pow2 (by omega)
  k_with "M mem" => first | exact List.Mem.head _ | exact mem1 | exact mem2 | exact mem3 | exact mem4 | exact mem5 | exact mem6 | exact mem7 | exact mem8 | exact mem9 | exact mem10 | exact mem11 | exact mem12 | exact mem13
  k_with "M room" => (try simp only [depth_mark, depth_under_make, depth_under_kw, depth_in1, depth_deeper, depth_caller]); first | decide | omega | ktr_room
  k_with "M nw" => (try simp only [AllNw, and_true]); (try dsimp only); (repeat' constructor) <;> first | with_reducible assumption | (refine NeW.of ?_; k_ne)
  k_with "M sub2" => repeat (first | exact List.forall_mem_nil _ | refine fcons ⟨_, by k_mem⟩ ?_)
  k_with "M off" => repeat (first | exact List.forall_mem_nil _ | refine fcons (nin1 (by (try dsimp only); k_ne)) ?_)
  k_with "M sub" => repeat (first | exact List.forall_mem_nil _ | (refine fcons ?k9w ?_; (case k9w => k_mem)))
  k_with "subscriptTail Name Slice ref ref" => refine' slice_all_led ?k9F ?k9N ?k9l ?k9z ?k9p ?k9q ?_ ?k9s ?k9t; (case k9F => k_asm); (case k9N => k_asm); (case k9l => k_mem); (case k9z => omega); (case k9p => kmk_part); (case k9q => kmk_part); (case k9s => with_unfolding_all rfl); (case k9t => kmk_pure); intro k9D k9h k9F k9N k9l1; (try k_lt k9l1); (try k_sweep)
  k_with "M same" => intro z h1 h2 h3; (try dsimp only); (repeat (first | refine same_if (by first | exact h1 | exact ne_ps h2 rfl | exact ne_st h3 rfl) ?_ | exact rfl | exact same_st h3 | exact same_kst h2 h3 | refine same_k (by repeat (first | exact List.forall_mem_nil _ | refine fcons (by first | exact h1 | exact ne_ps h2 rfl | exact ne_st h3 rfl) ?_)) ?_ | refine same_c (by repeat (first | exact nc_nil | refine nc_cons (by first | exact h1 | exact ne_ps h2 rfl | exact ne_st h3 rfl) ?_)) ?_))
  k_with "call builtin:list.append" => refine' append_led ?k9la ?k9lb ?k9lc ?k9ld ?_; (case k9la => k_asm); (case k9lb => k_asm); (case k9lc => k_upd); (case k9ld => omega); intro k9h k9F k9N; (try k_sweep)
  k_with "call builtin:list.reverse" => refine' reverse_led ?k9la ?k9lb ?k9lc ?k9ld ?_; (case k9la => k_asm); (case k9lb => k_asm); (case k9lc => k_upd); (case k9ld => omega); intro k9h k9F k9N; (try k_sweep)
  k_with "binaryOp LShift int int" => refine' lshift_bits ?k9la ?k9lb ?k9lc ?k9ld ?_; (case k9la => omega); (case k9lb => omega); (case k9lc => bits_by_make); (case k9ld => decide)
  k_with "inplaceOp LShift int int" => refine' ilshift_bits ?k9la ?k9lb ?k9lc ?k9ld ?_; (case k9la => omega); (case k9lb => omega); (case k9lc => bits_by_make); (case k9ld => decide)
  k_with "M ROOM" => first | omega | ktr_room | ((try dsimp only [Around.deeper, ktrTop]); omega)
  k_with "M UNITS" => first | omega | ((try dsimp only [Around.deeper, ktrTop]); omega) | ktr_units
  k_with "execs cons" => (try k_fold); with_reducible first | refine seqL ?_ | (refine seqV ?_; intro Q8 q8)
  k_with "M un" => with_reducible first | (refine seqVN (s := s1) (by assumption) ?_; intro tk8; try clear q8 Q8) | (refine seqVN (s := s) (by assumption) ?_; intro tk8; try clear q8 Q8) | refine seqVR (by assumption) ?_ | refine seqVM (by assumption) ?_ | refine seqVB (by assumption) ?_ | refine seqVC (by assumption) ?_
  k_with "eval Name" => k_here; k_dflt (refine' nameX_L ?k9F ?k9v ?_ ?k9a ?k9b; (case k9F => k_asm); (case k9a => exact Eq.refl _); (case k9b => exact Eq.refl (some NameKind.local)); (case k9v => exact Eq.refl (some _)); k_whole)
  k_with "M off2" => repeat (first | exact List.forall_mem_nil _ | refine fcons (nin2 (by (try dsimp only); k_ne) (by (try dsimp only); k_ne)) ?_)
  k_with "L OPEN" => dsimp only [lawA, lawEnv, lawB, lawS, lawO, List.drop, List.take]
  trivial
theorem reads_ints {h : Heap} : ∀ {vs : List Value} {ns : List Int}, IntsAre vs ns → ReadsAll h vs (ns.map PyData.int) []
  | _, _, .nil => .nil
  | _, _, .cons i t r => .cons (as := []) (bs := []) (.int i t) (reads_ints r)
theorem reads_norm {h : Heap} {tn tc : Addr} {b : Int} {tb : Tok} {cv : List Value} {c : List Int} (e1 : h.get? tn = some { cls := .type "tuple", data := .seq #[.ref tc, .int b tb] }) (e2 : h.get? tc = some { cls := .type "tuple", data := .seq cv.toArray }) (hi : IntsAre cv c) :
    Reads h (.ref tn) (.tuple [.tuple (c.map PyData.int), .int b]) [] :=
  .tuple e1 rfl rfl (.cons (as := []) (bs := []) (.tuple e2 rfl rfl (by rw [List.toList_toArray]; exact reads_ints hi)) (.cons (as := []) (bs := []) (.int b tb) .nil))
theorem norm_shaped (c : List Int) (b : Int) : PySem.SeqAt.shaped (.tuple [.tuple (c.map PyData.int), .int b]) = true := by
  simp [PySem.SeqAt.shaped, PyData.canLay0, PyData.canLayAll0, PyData.depth, PyData.depthAll, PySem.W.ke_canLayAll0, PySem.W.ke_depthAll]
theorem norm_eqv (c3 c4 : List Int) (b3 b4 : Int) : PyData.eqv (.tuple [.tuple (c3.map PyData.int), .int b3]) (.tuple [.tuple (c4.map PyData.int), .int b4]) = (decide (c3 = c4) && b3 == b4) := by
  simp [PyData.eqv, PyData.eqvAll, PySem.W.ked_eqvAll]
set_option maxHeartbeats 8000000 in
theorem st_N {w : World} {p9 : Program} {lo9 : List Str} {me9 : ExcName → Option Value} {mg9 mb9 : Str → Option Value} {g base : Heap} {SZ : Nat} {fa : Addr} {cd : Value} {s1 : Shared} (KB : Below callerA base [] g) (XK : (hd.heap_1 w.params).In g) (TK : Top p9 lo9 me9 mg9 mb9 g) {script : List Int} {q : Int} {n : Nat} (hq2 : 2 ≤ q ∧ q ≤ 3) (hn : (n : Int) = 6 - q) (h44 : 44 < SZ) (h37 : 37 < SZ) {S : Int} {Q : Flow → Shared → Prop} {E : Value → Shared → Prop} {s' : Shared}
    (heq : ((wsGo (str3 q n script) [] 0 0 0).1 = (wsGo (str4 q n script) [] 0 0 0).1 ∧ (wsGo (str3 q n script) [] 0 0 0).2.1 = (wsGo (str4 q n script) [] 0 0 0).2.1) ↔ (weighedZ q n script 2 = weighedZ q n script 3 ∧ moreZ script = 0))
    (hfin : ∀ h' tk' m' cA cB oA oB, Fr g SZ h' m' → News g SZ h' [(44, tabObj (tripB cB)), (37, tabObj (tripA cA)), (cA, oA), (cB, oB)] → CodeObj qualA oA → CodeObj qualB oB → Q (.ret (.bool true)) { s1 with heap := h', toks := tk' })
    (h0 : CM w g SZ s1 script q n S s') : LawAt w SZ fa cd 33 Q E s' := by
  unfold LawAt PR
  revert XK
  k_fill
  intro XK
  refine byG fun G9 hG9 => ?_
  obtain ⟨t1, t2, t3, t4, t5, t6, t7, t8, ⟨W0, a0, a1, a2, a3, D, cA, cB, k, k0, k1, k2, k3, sp, v0, v1, v2, v3, cv, oA, oB, o5, o4, oX, o2, o1, tt, tq, tn⟩, M, mv, km, rows, x3, x4, tm, tf, ⟨h, tk, m', rfl, FZ, NZ⟩, hok, hlk, hrL, d4, d5, hc3, hc4⟩ := h0
  obtain ⟨i0, i1, i2, i3, hcv, hcA, hcB, dX, d4', d5', dq, dn⟩ := hok
  refine hG9 ?_
  clear hG9 G9
  unfold BSt.names restN mainN at FZ
  unfold BSt.led WsO.led at NZ
  simp only [List.cons_append, List.nil_append, kstF_cons, kstF_nil] at FZ
  dsimp only [List.cons_append, List.nil_append] at NZ
  dsimp only at hcA hcB i0 i1 i2 i3 dq dn
  k_extra "L OPEN"
  generalize (wsGo (str3 q n script) [] 0 0 0).1 = c3 at *
  generalize (wsGo (str4 q n script) [] 0 0 0).1 = c4 at *
  generalize (wsGo (str3 q n script) [] 0 0 0).2.1 = b3 at *
  generalize (wsGo (str4 q n script) [] 0 0 0).2.1 = b4 at *
  k_steps
  rename News _ _ _ _ => NZ
  refine eq_dataH (reads_norm (NZ (x3.tn, _) (by k_mem)).1 (NZ (x3.tc, _) (by k_mem)).1 hc3) (reads_norm (NZ (x4.tn, _) (by k_mem)).1 (NZ (x4.tc, _) (by k_mem)).1 hc4) (norm_shaped _ _) (norm_shaped _ _) (by ke_room) ?_
  rw [norm_eqv]
  k_steps
  · rename (weighedZ q n script 2 = weighedZ q n script 3) => ha
    have e : ((decide (c3 = c4) && b3 == b4) == (moreZ script == 0)) = true := by
      have e2 : (decide (c3 = c4) && b3 == b4) = (moreZ script == 0) := by
        rw [Bool.eq_iff_iff]
        simp only [Bool.and_eq_true, decide_eq_true_eq, beq_iff_eq]
        exact heq.trans ⟨fun h => h.2, fun h => ⟨ha, h⟩⟩
      rw [e2, beq_self_eq_true]
    rw [e]
    rename Fr _ _ _ _ => FZ
    rename News _ _ _ _ => NZ
    exact hfin _ _ _ cA cB oA oB FZ (News.sub NZ (by k_extra "M sub")) hcA hcB
  · rename (weighedZ q n script 2 ≠ weighedZ q n script 3) => ha
    have e : ((decide (c3 = c4) && b3 == b4) == (weighedZ q n script 2 == weighedZ q n script 3)) = true := by
      have e2 : (decide (c3 = c4) && b3 == b4) = (weighedZ q n script 2 == weighedZ q n script 3) := by
        rw [Bool.eq_iff_iff]
        simp only [Bool.and_eq_true, decide_eq_true_eq, beq_iff_eq]
        exact heq.trans ⟨fun h => h.1, fun h => absurd h ha⟩
      rw [e2, beq_self_eq_true]
    rw [e]
    rename Fr _ _ _ _ => FZ
    rename News _ _ _ _ => NZ
    exact hfin _ _ _ cA cB oA oB FZ (News.sub NZ (by k_extra "M sub")) hcA hcB
end

section
theorem hush_L15 : True := by
  k_with_none
  w_top off
  trivial
set_option genSizeOf false
set_option genInjectivity false

theorem rules_L15_0 : True := by
  k_with "M ne" => first | exact NeW.l (by with_reducible assumption) | exact NeW.r (by with_reducible assumption) | (refine neN ?_; (try dsimp only); omega)
  k_with "M bits" => first | with_reducible assumption | exact bits_pow2 (by omega)
  k_with "M mem" => first | exact List.Mem.head _ | exact mem1 | exact mem2 | exact mem3 | exact mem4 | exact mem5 | exact mem6 | exact mem7 | exact mem8 | exact mem9 | exact mem10 | exact mem11 | exact mem12 | exact mem13
  k_with "M nw" => (try simp only [AllNw, and_true]); (try dsimp only); (repeat' constructor) <;> first | with_reducible assumption | (refine NeW.of ?_; k_ne)
  k_with "M sub2" => repeat (first | exact List.forall_mem_nil _ | refine fcons ⟨_, by k_mem⟩ ?_)
  k_with "M off" => repeat (first | exact List.forall_mem_nil _ | refine fcons (nin1 (by (try dsimp only); k_ne)) ?_)
  k_with "M sub" => repeat (first | exact List.forall_mem_nil _ | (refine fcons ?k9w ?_; (case k9w => k_mem)))
  k_with "subscriptTail Name Slice ref ref" => refine' slice_all_led ?k9F ?k9N ?k9l ?k9z ?k9p ?k9q ?_ ?k9s ?k9t; (case k9F => k_asm); (case k9N => k_asm); (case k9l => k_mem); (case k9z => omega); (case k9p => kmk_part); (case k9q => kmk_part); (case k9s => with_unfolding_all rfl); (case k9t => kmk_pure); intro k9D k9h k9F k9N k9l1; (try k_lt k9l1); (try k_sweep)
  k_with "M same" => intro z h1 h2 h3; (try dsimp only); (repeat (first | refine same_if (by first | exact h1 | exact ne_ps h2 rfl | exact ne_st h3 rfl) ?_ | exact rfl | exact same_st h3 | exact same_kst h2 h3 | refine same_k (by repeat (first | exact List.forall_mem_nil _ | refine fcons (by first | exact h1 | exact ne_ps h2 rfl | exact ne_st h3 rfl) ?_)) ?_ | refine same_c (by repeat (first | exact nc_nil | refine nc_cons (by first | exact h1 | exact ne_ps h2 rfl | exact ne_st h3 rfl) ?_)) ?_))
  k_with "call builtin:list.append" => refine' append_led ?k9la ?k9lb ?k9lc ?k9ld ?_; (case k9la => k_asm); (case k9lb => k_asm); (case k9lc => k_upd); (case k9ld => omega); intro k9h k9F k9N; (try k_sweep)
  k_with "call builtin:list.reverse" => refine' reverse_led ?k9la ?k9lb ?k9lc ?k9ld ?_; (case k9la => k_asm); (case k9lb => k_asm); (case k9lc => k_upd); (case k9ld => omega); intro k9h k9F k9N; (try k_sweep)
  k_with "binaryOp LShift int int" => refine' lshift_bits ?k9la ?k9lb ?k9lc ?k9ld ?_; (case k9la => omega); (case k9lb => omega); (case k9lc => bits_by_make); (case k9ld => decide)
  k_with "inplaceOp LShift int int" => refine' ilshift_bits ?k9la ?k9lb ?k9lc ?k9ld ?_; (case k9la => omega); (case k9lb => omega); (case k9lc => bits_by_make); (case k9ld => decide)
  k_with "M ROOM" => first | omega | ktr_room | ((try dsimp only [Around.deeper, ktrTop]); omega)
  k_with "M UNITS" => first | omega | ((try dsimp only [Around.deeper, ktrTop]); omega) | ktr_units
  k_with "execs cons" => (try k_fold); with_reducible first | refine seqL ?_ | (refine seqV ?_; intro Q8 q8)
  k_with "M un" => with_reducible first | (refine seqVN (s := s1) (by assumption) ?_; intro tk8; try clear q8 Q8) | (refine seqVN (s := s) (by assumption) ?_; intro tk8; try clear q8 Q8) | refine seqVR (by assumption) ?_ | refine seqVM (by assumption) ?_ | refine seqVB (by assumption) ?_ | refine seqVC (by assumption) ?_
  k_with "eval Name" => k_here; k_dflt (refine' nameX_L ?k9F ?k9v ?_ ?k9a ?k9b; (case k9F => k_asm); (case k9a => exact Eq.refl _); (case k9b => exact Eq.refl (some NameKind.local)); (case k9v => exact Eq.refl (some _)); k_whole)
  k_with "M off2" => repeat (first | exact List.forall_mem_nil _ | refine fcons (nin2 (by (try dsimp only); k_ne) (by (try dsimp only); k_ne)) ?_)
  k_with "L OPEN" => dsimp only [lawA, lawEnv, lawB, lawS, lawO, List.drop, List.take]
  trivial
/-- the plain law: what is left when the walk is done -/
structure Plain (script : List Int) (q : Int) (n : Nat) (S : Int) : Prop where
  hrot : levM (textL q (wordZ q n (seedZ script 2))) ((textL q (wordZ q n (seedZ script 2))).drop 1 ++ [(textL q (wordZ q n (seedZ script 2))).getD 0 0]) (3 + spareZ script) = 4
  hd : ∀ j, j = 2 ∨ j = 3 → ∀ x ∈ codeL q (wordZ q n (seedZ script 0)) (wordZ q n (seedZ script 1)), levM (textL q (wordZ q n (seedZ script j))) (textL q (figZ n x)) ((n : Int) * (q - 1) - 1 + spareZ script) = (distZ q (wordZ q n (seedZ script j)) (figZ n x) : Int) ∧ distZ q (wordZ q n (seedZ script j)) (figZ n x) ≤ 8
  hwb : Builtin.Int.intBits (weighedZ q n script 2) ≤ 20000
  hm1 : 1 ≤ (mateZ q n script).length
  hdv : DivOk q n script S
  hcl : (cntZ q n script).length ≤ 100
  hfo : FigsOk q n script S
  heq : ((wsGo (str3 q n script) [] 0 0 0).1 = (wsGo (str4 q n script) [] 0 0 0).1 ∧ (wsGo (str3 q n script) [] 0 0 0).2.1 = (wsGo (str4 q n script) [] 0 0 0).2.1) ↔ (weighedZ q n script 2 = weighedZ q n script 3 ∧ moreZ script = 0)
theorem law_walk {w : World} {p9 : Program} {lo9 : List Str} {me9 : ExcName → Option Value} {mg9 mb9 : Str → Option Value} {g base : Heap} {SZ : Nat} {fa : Addr} {cd : Value} {s1 : Shared} (KB : Below callerA base [] g) (XK : (hd.heap_1 w.params).In g) (TK : Top p9 lo9 me9 mg9 mb9 g) {Sl : Addr} {vs : List Value} {script : List Int} {o5 o4 o3 o2 o1 : Obj} {q : Int} {n : Nat} {S : Int} (gl : g.IsList Sl vs.toArray) (hscr : IntsAre vs script) (hsl : script.length ≤ 63) (hsb : Builtin.Int.intBits script.sum ≤ 2100000) (hq : q = 3 - Int.fmod script.sum 2) (hn : (n : Int) = 6 - q)
    (h44 : 44 < SZ) (h37 : 37 < SZ) (d5 : o5.data = Data.cell none) (d4 : o4.data = Data.cell none) (d3 : o3.data = Data.cell none) (d2 : o2.data = Data.cell none) (d1 : o1.data = Data.cell none) (P : Plain script q n S) {Q : Flow → Shared → Prop} {E : Value → Shared → Prop} {s' : Shared}
    (h0 : At g SZ s1 [(Str.ofString "script", .ref Sl)] [(SZ + 1 + 1 + 1 + 1 + 1, o5), (SZ + 1 + 1 + 1 + 1, o4), (SZ + 1 + 1 + 1, o3), (SZ + 1 + 1, o2), (SZ + 1, o1), (44, tabObj #[]), (37, tabObj #[])] s')
    (hfin : ∀ h' tk' m' cA cB oA oB, Fr g SZ h' m' → News g SZ h' [(44, tabObj (tripB cB)), (37, tabObj (tripA cA)), (cA, oA), (cB, oB)] → CodeObj qualA oA → CodeObj qualB oB → Q (.ret (.bool true)) { s1 with heap := h', toks := tk' }) :
    LawAt w SZ fa cd 0 Q E s' := by
  have hq2 : 2 ≤ q ∧ q ≤ 3 := by have := (fdiv_fmod_facts script.sum 2).2.2.1 (by decide); omega
  refine LawAt.split 5 (st_A KB XK TK gl hscr hsl hq hn h44 h37 d5 d4 d3 d2 d1 h0) fun _ hA => ?_
  refine LawAt.split 1 (st_B KB XK TK hq2 (by omega) h44 h37 hA) fun _ hB => ?_
  refine LawAt.split 1 (st_C KB XK TK hq2 hn h44 h37 hB) fun _ hC => ?_
  refine LawAt.split 2 (st_D KB XK TK hq2 hn h44 h37 hC) fun _ hD => ?_
  refine LawAt.split 5 (st_E KB XK TK hq2 hn h44 h37 P.hrot hD) fun _ hE => ?_
  refine LawAt.split 3 (st_F KB XK TK hq2 hn h44 h37 P.hd hE) fun _ hF => ?_
  refine LawAt.split 2 (st_G KB XK TK hq2 hn h44 h37 hF) fun _ hG => ?_
  obtain ⟨tw, hG⟩ := hG
  refine LawAt.split 6 (st_H KB XK TK hq2 hn h44 h37 hsb P.hwb P.hm1 hG) fun _ hH => ?_
  obtain ⟨t1, t2, t3, t4, t5, t6, hH⟩ := hH
  refine LawAt.split 2 (st_I KB XK TK hq2 hn h44 h37 P.hdv hH) fun _ hI => ?_
  obtain ⟨t1, t2, t3, t4, t5, t6, t7, t8, hI⟩ := hI
  refine LawAt.split 2 (st_J KB XK TK hq2 hn h44 h37 P.hcl hI) fun _ hJ => ?_
  refine LawAt.split 1 (st_K KB XK TK hq2 hn h44 h37 P.hfo hJ) fun _ hK => ?_
  refine LawAt.split 2 (st_L KB XK TK hq2 hn h44 h37 P.hdv hK) fun _ hL => ?_
  refine LawAt.split 1 (st_M KB XK TK hq2 hn h44 h37 hL) fun _ hM => ?_
  exact st_N KB XK TK hq2 hn h44 h37 P.heq hfin hM
end

section
theorem hush_L16 : True := by
  k_with_none
  w_top off
  trivial
theorem rules_L16_0 : True := by
  k_with "M ne" => first | exact NeW.l (by with_reducible assumption) | exact NeW.r (by with_reducible assumption) | (refine neN ?_; (try dsimp only); omega)
  k_with "M bits" => first | with_reducible assumption | exact bits_pow2 (by omega)
  k_with "M mem" => first | exact List.Mem.head _ | exact mem1 | exact mem2 | exact mem3 | exact mem4 | exact mem5 | exact mem6 | exact mem7 | exact mem8 | exact mem9 | exact mem10 | exact mem11 | exact mem12 | exact mem13
  k_with "M nw" => (try simp only [AllNw, and_true]); (try dsimp only); (repeat' constructor) <;> first | with_reducible assumption | (refine NeW.of ?_; k_ne)
  k_with "M sub2" => repeat (first | exact List.forall_mem_nil _ | refine fcons ⟨_, by k_mem⟩ ?_)
  k_with "M off" => repeat (first | exact List.forall_mem_nil _ | refine fcons (nin1 (by (try dsimp only); k_ne)) ?_)
  k_with "M sub" => repeat (first | exact List.forall_mem_nil _ | (refine fcons ?k9w ?_; (case k9w => k_mem)))
  k_with "subscriptTail Name Slice ref ref" => refine' slice_all_led ?k9F ?k9N ?k9l ?k9z ?k9p ?k9q ?_ ?k9s ?k9t; (case k9F => k_asm); (case k9N => k_asm); (case k9l => k_mem); (case k9z => omega); (case k9p => kmk_part); (case k9q => kmk_part); (case k9s => with_unfolding_all rfl); (case k9t => kmk_pure); intro k9D k9h k9F k9N k9l1; (try k_lt k9l1); (try k_sweep)
  k_with "M same" => intro z h1 h2 h3; (try dsimp only); (repeat (first | refine same_if (by first | exact h1 | exact ne_ps h2 rfl | exact ne_st h3 rfl) ?_ | exact rfl | exact same_st h3 | exact same_kst h2 h3 | refine same_k (by repeat (first | exact List.forall_mem_nil _ | refine fcons (by first | exact h1 | exact ne_ps h2 rfl | exact ne_st h3 rfl) ?_)) ?_ | refine same_c (by repeat (first | exact nc_nil | refine nc_cons (by first | exact h1 | exact ne_ps h2 rfl | exact ne_st h3 rfl) ?_)) ?_))
  k_with "call builtin:list.append" => refine' append_led ?k9la ?k9lb ?k9lc ?k9ld ?_; (case k9la => k_asm); (case k9lb => k_asm); (case k9lc => k_upd); (case k9ld => omega); intro k9h k9F k9N; (try k_sweep)
  k_with "call builtin:list.reverse" => refine' reverse_led ?k9la ?k9lb ?k9lc ?k9ld ?_; (case k9la => k_asm); (case k9lb => k_asm); (case k9lc => k_upd); (case k9ld => omega); intro k9h k9F k9N; (try k_sweep)
  k_with "binaryOp LShift int int" => refine' lshift_bits ?k9la ?k9lb ?k9lc ?k9ld ?_; (case k9la => omega); (case k9lb => omega); (case k9lc => bits_by_make); (case k9ld => decide)
  k_with "inplaceOp LShift int int" => refine' ilshift_bits ?k9la ?k9lb ?k9lc ?k9ld ?_; (case k9la => omega); (case k9lb => omega); (case k9lc => bits_by_make); (case k9ld => decide)
  k_with "M ROOM" => first | omega | ktr_room | ((try dsimp only [Around.deeper, ktrTop]); omega)
  k_with "M UNITS" => first | omega | ((try dsimp only [Around.deeper, ktrTop]); omega) | ktr_units
  k_with "execs cons" => (try k_fold); with_reducible first | refine seqL ?_ | (refine seqV ?_; intro Q8 q8)
  k_with "M un" => with_reducible first | (refine seqVN (s := s1) (by assumption) ?_; intro tk8; try clear q8 Q8) | (refine seqVN (s := s) (by assumption) ?_; intro tk8; try clear q8 Q8) | refine seqVR (by assumption) ?_ | refine seqVM (by assumption) ?_ | refine seqVB (by assumption) ?_ | refine seqVC (by assumption) ?_
  k_with "eval Name" => k_here; k_dflt (refine' nameX_L ?k9F ?k9v ?_ ?k9a ?k9b; (case k9F => k_asm); (case k9a => exact Eq.refl _); (case k9b => exact Eq.refl (some NameKind.local)); (case k9v => exact Eq.refl (some _)); k_whole)
  k_with "M off2" => repeat (first | exact List.forall_mem_nil _ | refine fcons (nin2 (by (try dsimp only); k_ne) (by (try dsimp only); k_ne)) ?_)
  k_with "L OPEN" => dsimp only [lawA, lawEnv, lawB, lawS, lawO, List.drop, List.take]
  trivial
set_option maxHeartbeats 8000000 in
theorem law_of (HP : ∀ (script : List Int) (q : Int) (n : Nat), q = 3 - Int.fmod script.sum 2 → (n : Int) = 6 - q → ∃ S, Plain script q n S) (HS : ∀ script : List Int, PyData.layable0 (PyData.list (script.map PyData.int)) = true → Builtin.Int.intBits script.sum ≤ 2100000) : PySem.Challenge.rw_tv0052_01.Holds := by
  refine Mine.hd ?_
  w_strict (
    k_go0
    rename World => w
    rename List Int => script
    rename IntsAre _ script => hscr
    rename Below _ _ _ _ => KB
    rename Fr _ _ _ _ => FZ
    rename News _ _ _ _ => NZ
    rename Shared => s1
    have XK : (hd.heap_1 w.params).In (ghostOf s1.heap [(48, 44), (41, 37)]) := by k_asm
    obtain ⟨p9, lo9, me9, mg9, mb9, TK⟩ : ∃ p lo me mg mb, Top p lo me mg mb (ghostOf s1.heap [(48, 44), (41, 37)]) := ⟨_, _, _, _, _, by k_asm⟩
    rename Heap.IsList (ghostOf _ _) _ _ => gl
    rename PyData.layable0 _ = true => hlay
    obtain ⟨q, hq⟩ : ∃ q, q = 3 - Int.fmod (List.sum script) 2 := ⟨_, rfl⟩
    obtain ⟨n, hn⟩ : ∃ n : Nat, (n : Int) = 6 - q := ⟨(6 - q).toNat, by have := (fdiv_fmod_facts script.sum 2).2.2.1 (by decide); omega⟩
    obtain ⟨S, P⟩ := HP script q n hq hn
    refine law_walk (s1 := s1) KB XK TK gl hscr (by omega) (HS script hlay) hq hn (by omega) (by omega) (by assumption) (by assumption) (by assumption) (by assumption) (by assumption) P (At.of FZ NZ ?hh) ?hf
    case hh => refine List.forall_mem_singleton.mpr (by rfl)
    case hf =>
      intro h' tk' m' cA cB oA oB FZ2 NZ2 hcA hcB
      refine And.intro ?_ ⟨⟨_, (NZ2 (44, _) (.head _)).1⟩, ⟨_, (NZ2 (37, _) (.tail _ (.head _))).1⟩, trivial⟩
      (try dsimp only)
      first | (k_end; wrow_close) | wrow_close | k_end)
end

end

section
theorem hush_P1 : True := by
  k_with_none
  w_top off
  trivial
theorem sum_bits : ∀ l : List Int, Builtin.Int.intBits l.sum ≤ PyData.weightAll (l.map PyData.int)
  | [] => by decide
  | x :: xs => by
    have ih := sum_bits xs
    have h1 : Builtin.Int.intBits x ≤ PyData.weight (.int x) := by
      simp only [PyData.weight, Builtin.Int.intBits]
      exact Nat.le_refl _
    rw [List.sum_cons, List.map_cons, PyData.weightAll]
    generalize PyData.weight (.int x) = a at *
    generalize PyData.weightAll (xs.map PyData.int) = b at *
    have e1 := intBits_le_iff.mp h1
    have e2 := intBits_le_iff.mp ih
    refine intBits_le_iff.mpr ?_
    have e3 : (x + xs.sum).natAbs ≤ x.natAbs + xs.sum.natAbs := Int.natAbs_add_le _ _
    have e4 : 2 ^ a ≤ 2 ^ (a + b) := Nat.pow_le_pow_right (by decide) (by omega)
    have e5 : 2 ^ b ≤ 2 ^ (a + b) := Nat.pow_le_pow_right (by decide) (by omega)
    rw [show a + 1 + b = (a + b) + 1 by omega, Nat.pow_succ]
    omega
theorem HS (script : List Int) (h : PyData.layable0 (PyData.list (script.map PyData.int)) = true) : Builtin.Int.intBits script.sum ≤ 2100000 := by
  have h2 : (PyData.canLay0 (PyData.list (script.map PyData.int)) && decide (PyData.depth (PyData.list (script.map PyData.int)) ≤ 64) && decide (PyData.weight (PyData.list (script.map PyData.int)) ≤ 2 ^ 20)) = true := h
  rw [Bool.and_eq_true, decide_eq_true_eq] at h2
  have h3 := h2.2
  rw [PyData.weight] at h3
  have := sum_bits script
  have e : (2 : Nat) ^ 20 = 1048576 := by decide
  omega
end

section
theorem hush_P2 : True := by
  k_with_none
  w_top off
  trivial
/-- all words of n figures below q -/
noncomputable def allW (q : Nat) : Nat → List (List Int)
  | 0 => [[]]
  | n + 1 => (List.range q).flatMap fun (d : Nat) => (allW q n).map fun l => (d : Int) :: l
theorem allW_mem {q : Nat} : ∀ (n : Nat) (l : List Int), l.length = n → (∀ d ∈ l, 0 ≤ d ∧ d < (q : Int)) → l ∈ allW q n
  | 0, l, h, _ => by rw [List.length_eq_zero_iff.mp h]; exact .head _
  | n + 1, [], h, _ => by simp at h
  | n + 1, d :: l, h, hb => by
    obtain ⟨h0, h1⟩ := hb d (.head _)
    obtain ⟨k, rfl⟩ := Int.eq_ofNat_of_zero_le h0
    exact List.mem_flatMap.mpr ⟨k, List.mem_range.mpr (Int.ofNat_lt.mp h1), List.mem_map.mpr ⟨l, allW_mem n l (by simpa using h) fun x hx => hb x (.tail _ hx), rfl⟩⟩
theorem allW_len {q : Nat} : ∀ (n : Nat) (l : List Int), l ∈ allW q n → l.length = n
  | 0, l, h => by rw [List.mem_singleton.mp h]; rfl
  | n + 1, l, h => by
    obtain ⟨d, _, h⟩ := List.mem_flatMap.mp h
    obtain ⟨l', h9, rfl⟩ := List.mem_map.mp h
    rw [List.length_cons, allW_len n l' h9]
noncomputable def letters : List Nat := [97, 98, 99, 100, 101, 102, 103, 104, 105, 65, 66, 67, 68]
noncomputable def lowN (c : Nat) : Nat := if c < 97 then c + 32 else c
noncomputable def subL (c d : Nat) : Int := if c = d then 0 else if lowN c = lowN d then 1 else 2
theorem lower_at : ∀ c ∈ letters, Txt.lower ⟨#[c]⟩ = ⟨#[lowN c]⟩ := by decide +kernel
theorem one_inj {a b : Nat} : (⟨#[a]⟩ : Str) = ⟨#[b]⟩ ↔ a = b := ⟨fun e => by injection e with e; injection e with e; injection e, fun e => by rw [e]⟩
theorem subN_eq {c d : Nat} (hc : c ∈ letters) (hd : d ∈ letters) : subN c d = subL c d := by
  unfold subN costS subL
  rw [lower_at c hc, lower_at d hd]
  simp only [one_inj]
noncomputable def stepF (a : List Nat) (bc : Nat) (st : Int × Int × Int × List Int) (i : Nat) : Int × Int × Int × List Int :=
  let sub := st.1 + subL bc (a.getD i 0)
  let d := st.2.2.2.getD i 0
  let r := min (min st.2.1 d + 2) sub
  (d, r, (if r < st.2.2.1 then r else st.2.2.1), st.2.2.2.set i r)
noncomputable def rowF (a : List Nat) (bc : Nat) (bi : Int) (row : List Int) (k : Nat) : Int × Int × Int × List Int := (List.range k).foldl (stepF a bc) (bi * 2, bi * 2, 9223372036854775807, row)
noncomputable def levGoF (a : List Nat) (mc : Int) : List Nat → Nat → List Int → Int → Int
  | [], _, _, res => res
  | bc :: bs, bi, row, _ =>
    let st := rowF a bc bi row a.length
    if st.2.2.1 > mc then mc + 1 else levGoF a mc bs (bi + 1) st.2.2.2 st.2.1
noncomputable def levF (xs ys : List Nat) (mc : Int) : Int :=
  if xs = ys then 0 else
    let as := xs.drop (cpl xs ys)
    let bs := ys.drop (cpl xs ys)
    let r := cpl as.reverse bs.reverse
    let a := as.take (as.length - r)
    let b := bs.take (bs.length - r)
    levGoF a mc b 0 ((List.range a.length).map fun (i : Nat) => 2 + (i : Int) * 2) 0
theorem rowF_succ (a : List Nat) (bc : Nat) (bi : Int) (row : List Int) (k : Nat) : rowF a bc bi row (k + 1) = stepF a bc (rowF a bc bi row k) k := by
  unfold rowF
  rw [List.range_succ, List.foldl_append]
  rfl
theorem rowF_eq {a : List Nat} {bc : Nat} (ha : ∀ x ∈ a, x ∈ letters) (hb : bc ∈ letters) (bi : Int) (row : List Int) : ∀ k, k ≤ a.length → rowN a bc bi row k = rowF a bc bi row k
  | 0, _ => rfl
  | k + 1, h => by
    rw [rowN_succ, rowF_succ, rowF_eq ha hb bi row k (by omega)]
    have e : a.getD k 0 ∈ letters := by
      rw [List.getD_eq_getElem?_getD, List.getElem?_eq_getElem (by omega)]
      exact ha _ (List.getElem_mem _)
    unfold stepI stepF
    rw [subN_eq hb e]
theorem levGoF_eq {a : List Nat} {mc : Int} (ha : ∀ x ∈ a, x ∈ letters) : ∀ (b : List Nat), (∀ x ∈ b, x ∈ letters) → ∀ (bi : Nat) (row : List Int) (res : Int), levGo a mc b bi row res = levGoF a mc b bi row res
  | [], _, _, _, _ => rfl
  | bc :: bs, hb, bi, row, res => by
    rw [levGo, levGoF, rowF_eq ha (hb bc (.head _)) _ _ _ (Nat.le_refl _)]
    simp only [levGoF_eq ha bs (fun x hx => hb x (.tail _ hx))]
theorem levF_eq {xs ys : List Nat} {mc : Int} (hx : ∀ x ∈ xs, x ∈ letters) (hy : ∀ x ∈ ys, x ∈ letters) : levM xs ys mc = levF xs ys mc := by
  unfold levM levF
  split
  · rfl
  · exact levGoF_eq (fun x h => hx x (List.mem_of_mem_drop (List.mem_of_mem_take h))) _ (fun x h => hy x (List.mem_of_mem_drop (List.mem_of_mem_take h))) _ _ _
theorem signs_letters : ∀ q, ∀ c ∈ signsOf q, c ∈ letters := by
  intro q
  unfold signsOf
  split <;> decide
theorem letters2 : ∀ a ∈ allW 2 4, ∀ c ∈ textL 2 a, c ∈ letters := by decide +kernel
theorem letters3 : ∀ a ∈ allW 3 3, ∀ c ∈ textL 3 a, c ∈ letters := by decide +kernel
theorem rot2 : ∀ a ∈ allW 2 4, ∀ sp ∈ [(0 : Int), 1, 2], levF (textL 2 a) ((textL 2 a).drop 1 ++ [(textL 2 a).getD 0 0]) (3 + sp) = 4 := by decide +kernel
theorem rot3 : ∀ a ∈ allW 3 3, ∀ sp ∈ [(0 : Int), 1, 2], levF (textL 3 a) ((textL 3 a).drop 1 ++ [(textL 3 a).getD 0 0]) (3 + sp) = 4 := by decide +kernel
end

section
theorem hush_P3 : True := by
  k_with_none
  w_top off
  trivial
theorem dist2 : ∀ a ∈ allW 2 4, ∀ b ∈ allW 2 4, ∀ sp ∈ [(0 : Int), 1, 2], levF (textL 2 a) (textL 2 b) (3 + sp) = (distZ 2 a b : Int) ∧ distZ 2 a b ≤ 8 := by decide +kernel
theorem dist3 : ∀ a ∈ allW 3 3, ∀ b ∈ allW 3 3, ∀ sp ∈ [(0 : Int), 1, 2], levF (textL 3 a) (textL 3 b) (5 + sp) = (distZ 3 a b : Int) ∧ distZ 3 a b ≤ 8 := by decide +kernel
theorem wordZ_mem2 (x : Int) : wordZ 2 4 x ∈ allW 2 4 := allW_mem 4 _ (wordZ_len 2 4 x) (wordZ_low (by decide))
theorem wordZ_mem3 (x : Int) : wordZ 3 3 x ∈ allW 3 3 := allW_mem 3 _ (wordZ_len 3 3 x) (wordZ_low (by decide))
theorem figZ_mem2 {w0 w1 : List Int} {x : Int} (h : x ∈ codeL 2 w0 w1) : figZ 4 x ∈ allW 2 4 := allW_mem 4 _ (figZ_len 4 x) (codeL_fig (by decide) x h)
theorem figZ_mem3 {w0 w1 : List Int} {x : Int} (h : x ∈ codeL 3 w0 w1) : figZ 3 x ∈ allW 3 3 := allW_mem 3 _ (figZ_len 3 x) (codeL_fig (by decide) x h)
theorem spare_mem (script : List Int) : spareZ script ∈ [(0 : Int), 1, 2] := by
  have := (fdiv_fmod_facts (Int.fdiv script.sum 2) 3).2.2.1 (by decide)
  simp only [List.mem_cons, List.not_mem_nil, or_false]
  unfold spareZ
  omega
theorem rotW2 {a : List Int} (h : a ∈ allW 2 4) (script : List Int) : levM (textL 2 a) ((textL 2 a).drop 1 ++ [(textL 2 a).getD 0 0]) (3 + spareZ script) = 4 := by
  have hl := letters2 a h
  rw [levF_eq hl fun c hc => ?_]
  · exact rot2 a h _ (spare_mem script)
  · rcases List.mem_append.mp hc with h1 | h1
    · exact hl c (List.mem_of_mem_drop h1)
    · rw [List.mem_singleton.mp h1]
      refine hl _ ?_
      have e : (textL 2 a).length = 4 := by unfold textL; rw [List.length_map, List.length_range, allW_len _ _ h]
      rw [List.getD_eq_getElem?_getD, List.getElem?_eq_getElem (by omega)]
      exact List.getElem_mem _
theorem rotW3 {a : List Int} (h : a ∈ allW 3 3) (script : List Int) : levM (textL 3 a) ((textL 3 a).drop 1 ++ [(textL 3 a).getD 0 0]) (3 + spareZ script) = 4 := by
  have hl := letters3 a h
  rw [levF_eq hl fun c hc => ?_]
  · exact rot3 a h _ (spare_mem script)
  · rcases List.mem_append.mp hc with h1 | h1
    · exact hl c (List.mem_of_mem_drop h1)
    · rw [List.mem_singleton.mp h1]
      refine hl _ ?_
      have e : (textL 3 a).length = 3 := by unfold textL; rw [List.length_map, List.length_range, allW_len _ _ h]
      rw [List.getD_eq_getElem?_getD, List.getElem?_eq_getElem (by omega)]
      exact List.getElem_mem _
/-- the two seats of q and n -/
theorem qn_cases {script : List Int} {q : Int} {n : Nat} (hq : q = 3 - Int.fmod script.sum 2) (hn : (n : Int) = 6 - q) : (q = 2 ∧ n = 4) ∨ (q = 3 ∧ n = 3) := by
  have := (fdiv_fmod_facts script.sum 2).2.2.1 (by decide)
  omega
theorem hrotP {script : List Int} {q : Int} {n : Nat} (h : (q = 2 ∧ n = 4) ∨ (q = 3 ∧ n = 3)) : levM (textL q (wordZ q n (seedZ script 2))) ((textL q (wordZ q n (seedZ script 2))).drop 1 ++ [(textL q (wordZ q n (seedZ script 2))).getD 0 0]) (3 + spareZ script) = 4 := by
  rcases h with ⟨rfl, rfl⟩ | ⟨rfl, rfl⟩
  · exact rotW2 (wordZ_mem2 _) script
  · exact rotW3 (wordZ_mem3 _) script
theorem hdP {script : List Int} {q : Int} {n : Nat} (h : (q = 2 ∧ n = 4) ∨ (q = 3 ∧ n = 3)) (j : Nat) {w0 w1 : List Int} : ∀ x ∈ codeL q w0 w1, levM (textL q (wordZ q n (seedZ script j))) (textL q (figZ n x)) ((n : Int) * (q - 1) - 1 + spareZ script) = (distZ q (wordZ q n (seedZ script j)) (figZ n x) : Int) ∧ distZ q (wordZ q n (seedZ script j)) (figZ n x) ≤ 8 := by
  intro x hx
  rcases h with ⟨rfl, rfl⟩ | ⟨rfl, rfl⟩
  · have h1 := wordZ_mem2 (seedZ script j)
    have h2 := figZ_mem2 hx
    rw [levF_eq (letters2 _ h1) (letters2 _ h2)]
    exact dist2 _ h1 _ h2 _ (spare_mem script)
  · have h1 := wordZ_mem3 (seedZ script j)
    have h2 := figZ_mem3 hx
    rw [levF_eq (letters3 _ h1) (letters3 _ h2)]
    exact dist3 _ h1 _ h2 _ (spare_mem script)
end

section
theorem hush_P4 : True := by
  k_with_none
  w_top off
  trivial
/-- a polynomial by its coefficients -/
noncomputable def ev (X : Int) : List Int → Int
  | [] => 0
  | a :: l => a + X * ev X l
noncomputable def addP : List Int → List Int → List Int
  | [], l => l
  | a :: l, [] => a :: l
  | a :: l, b :: m => (a + b) :: addP l m
theorem ev_add (X : Int) : ∀ a b : List Int, ev X (addP a b) = ev X a + ev X b
  | [], l => by rw [addP, ev, Int.zero_add]
  | a :: l, [] => by rw [addP, ev, ev, Int.add_zero]
  | a :: l, b :: m => by rw [addP, ev, ev, ev, ev_add X l m, Int.mul_add]; omega
noncomputable def scaP (k : Int) (l : List Int) : List Int := l.map (k * ·)
theorem ev_sca (X k : Int) : ∀ l : List Int, ev X (scaP k l) = k * ev X l
  | [] => by simp [scaP, ev]
  | a :: l => by
    have := ev_sca X k l
    unfold scaP at this ⊢
    rw [List.map_cons, ev, ev, this]
    grind
noncomputable def monP (k : Int) (e : Nat) : List Int := List.replicate e 0 ++ [k]
theorem ev_mon (X k : Int) : ∀ e : Nat, ev X (monP k e) = k * X ^ e
  | 0 => by simp [monP, ev]
  | e + 1 => by
    have := ev_mon X k e
    unfold monP at this ⊢
    rw [List.replicate_succ, List.cons_append, ev, this]
    grind
noncomputable def sumP (f : α → List Int) : List α → List Int
  | [] => []
  | a :: l => addP (f a) (sumP f l)
theorem ev_sum (X : Int) (f : α → List Int) (g : α → Int) : ∀ l : List α, (∀ a ∈ l, ev X (f a) = g a) → ev X (sumP f l) = (l.map g).sum
  | [], _ => rfl
  | a :: l, h => by rw [sumP, ev_add, h a (.head _), ev_sum X f g l fun x hx => h x (.tail _ hx), List.map_cons, List.sum_cons]
noncomputable def wds2 : List (List Int) := [[0, 0, 0, 0], [1, 0, 0, 0], [0, 1, 0, 0], [1, 1, 0, 0], [0, 0, 1, 0], [1, 0, 1, 0], [0, 1, 1, 0], [1, 1, 1, 0], [0, 0, 0, 1], [1, 0, 0, 1], [0, 1, 0, 1], [1, 1, 0, 1], [0, 0, 1, 1], [1, 0, 1, 1], [0, 1, 1, 1], [1, 1, 1, 1]]
noncomputable def tA2 : List (List Int × List (List Int)) := [([0], [[0, 0, 0, 0], [1, 0, 0, 0], [0, 1, 0, 0], [1, 1, 0, 0], [0, 0, 1, 0], [1, 0, 1, 0], [0, 1, 1, 0], [1, 1, 1, 0], [0, 0, 0, 1], [1, 0, 0, 1], [0, 1, 0, 1], [1, 1, 0, 1], [0, 0, 1, 1], [1, 0, 1, 1], [0, 1, 1, 1], [1, 1, 1, 1]]),
  ([0, 1], [[0, 0, 0, 0], [0, 1, 0, 0], [0, 0, 1, 0], [0, 1, 1, 0], [0, 0, 0, 1], [0, 1, 0, 1], [0, 0, 1, 1], [0, 1, 1, 1]]),
  ([0, 4], [[0, 0, 0, 0], [1, 0, 0, 0], [0, 0, 1, 0], [1, 0, 1, 0], [0, 0, 0, 1], [1, 0, 0, 1], [0, 0, 1, 1], [1, 0, 1, 1]]),
  ([0, 5], [[0, 0, 0, 0], [1, 1, 0, 0], [0, 0, 1, 0], [1, 1, 1, 0], [0, 0, 0, 1], [1, 1, 0, 1], [0, 0, 1, 1], [1, 1, 1, 1]]),
  ([0, 16], [[0, 0, 0, 0], [1, 0, 0, 0], [0, 1, 0, 0], [1, 1, 0, 0], [0, 0, 0, 1], [1, 0, 0, 1], [0, 1, 0, 1], [1, 1, 0, 1]]),
  ([0, 17], [[0, 0, 0, 0], [0, 1, 0, 0], [1, 0, 1, 0], [1, 1, 1, 0], [0, 0, 0, 1], [0, 1, 0, 1], [1, 0, 1, 1], [1, 1, 1, 1]]),
  ([0, 20], [[0, 0, 0, 0], [1, 0, 0, 0], [0, 1, 1, 0], [1, 1, 1, 0], [0, 0, 0, 1], [1, 0, 0, 1], [0, 1, 1, 1], [1, 1, 1, 1]]),
  ([0, 21], [[0, 0, 0, 0], [1, 1, 0, 0], [1, 0, 1, 0], [0, 1, 1, 0], [0, 0, 0, 1], [1, 1, 0, 1], [1, 0, 1, 1], [0, 1, 1, 1]]),
  ([0, 64], [[0, 0, 0, 0], [1, 0, 0, 0], [0, 1, 0, 0], [1, 1, 0, 0], [0, 0, 1, 0], [1, 0, 1, 0], [0, 1, 1, 0], [1, 1, 1, 0]]),
  ([0, 65], [[0, 0, 0, 0], [0, 1, 0, 0], [0, 0, 1, 0], [0, 1, 1, 0], [1, 0, 0, 1], [1, 1, 0, 1], [1, 0, 1, 1], [1, 1, 1, 1]]),
  ([0, 68], [[0, 0, 0, 0], [1, 0, 0, 0], [0, 0, 1, 0], [1, 0, 1, 0], [0, 1, 0, 1], [1, 1, 0, 1], [0, 1, 1, 1], [1, 1, 1, 1]]),
  ([0, 69], [[0, 0, 0, 0], [1, 1, 0, 0], [0, 0, 1, 0], [1, 1, 1, 0], [1, 0, 0, 1], [0, 1, 0, 1], [1, 0, 1, 1], [0, 1, 1, 1]]),
  ([0, 80], [[0, 0, 0, 0], [1, 0, 0, 0], [0, 1, 0, 0], [1, 1, 0, 0], [0, 0, 1, 1], [1, 0, 1, 1], [0, 1, 1, 1], [1, 1, 1, 1]]),
  ([0, 81], [[0, 0, 0, 0], [0, 1, 0, 0], [1, 0, 1, 0], [1, 1, 1, 0], [1, 0, 0, 1], [1, 1, 0, 1], [0, 0, 1, 1], [0, 1, 1, 1]]),
  ([0, 84], [[0, 0, 0, 0], [1, 0, 0, 0], [0, 1, 1, 0], [1, 1, 1, 0], [0, 1, 0, 1], [1, 1, 0, 1], [0, 0, 1, 1], [1, 0, 1, 1]]),
  ([0, 85], [[0, 0, 0, 0], [1, 1, 0, 0], [1, 0, 1, 0], [0, 1, 1, 0], [1, 0, 0, 1], [0, 1, 0, 1], [0, 0, 1, 1], [1, 1, 1, 1]])]
noncomputable def tB2 : List (List Int × List (List Int)) := [([0], [[0, 0, 0, 0], [1, 0, 0, 0], [0, 1, 0, 0], [1, 1, 0, 0], [0, 0, 1, 0], [1, 0, 1, 0], [0, 1, 1, 0], [1, 1, 1, 0], [0, 0, 0, 1], [1, 0, 0, 1], [0, 1, 0, 1], [1, 1, 0, 1], [0, 0, 1, 1], [1, 0, 1, 1], [0, 1, 1, 1], [1, 1, 1, 1]]),
  ([0, 1], [[0, 0, 0, 0], [0, 1, 0, 0], [0, 0, 1, 0], [0, 1, 1, 0], [0, 0, 0, 1], [0, 1, 0, 1], [0, 0, 1, 1], [0, 1, 1, 1]]),
  ([0, 4], [[0, 0, 0, 0], [1, 0, 0, 0], [0, 0, 1, 0], [1, 0, 1, 0], [0, 0, 0, 1], [1, 0, 0, 1], [0, 0, 1, 1], [1, 0, 1, 1]]),
  ([0, 5], [[0, 0, 0, 0], [1, 1, 0, 0], [0, 0, 1, 0], [1, 1, 1, 0], [0, 0, 0, 1], [1, 1, 0, 1], [0, 0, 1, 1], [1, 1, 1, 1]]),
  ([0, 16], [[0, 0, 0, 0], [1, 0, 0, 0], [0, 1, 0, 0], [1, 1, 0, 0], [0, 0, 0, 1], [1, 0, 0, 1], [0, 1, 0, 1], [1, 1, 0, 1]]),
  ([0, 17], [[0, 0, 0, 0], [0, 1, 0, 0], [1, 0, 1, 0], [1, 1, 1, 0], [0, 0, 0, 1], [0, 1, 0, 1], [1, 0, 1, 1], [1, 1, 1, 1]]),
  ([0, 20], [[0, 0, 0, 0], [1, 0, 0, 0], [0, 1, 1, 0], [1, 1, 1, 0], [0, 0, 0, 1], [1, 0, 0, 1], [0, 1, 1, 1], [1, 1, 1, 1]]),
  ([0, 21], [[0, 0, 0, 0], [1, 1, 0, 0], [1, 0, 1, 0], [0, 1, 1, 0], [0, 0, 0, 1], [1, 1, 0, 1], [1, 0, 1, 1], [0, 1, 1, 1]]),
  ([0, 64], [[0, 0, 0, 0], [1, 0, 0, 0], [0, 1, 0, 0], [1, 1, 0, 0], [0, 0, 1, 0], [1, 0, 1, 0], [0, 1, 1, 0], [1, 1, 1, 0]]),
  ([0, 65], [[0, 0, 0, 0], [0, 1, 0, 0], [0, 0, 1, 0], [0, 1, 1, 0], [1, 0, 0, 1], [1, 1, 0, 1], [1, 0, 1, 1], [1, 1, 1, 1]]),
  ([0, 68], [[0, 0, 0, 0], [1, 0, 0, 0], [0, 0, 1, 0], [1, 0, 1, 0], [0, 1, 0, 1], [1, 1, 0, 1], [0, 1, 1, 1], [1, 1, 1, 1]]),
  ([0, 69], [[0, 0, 0, 0], [1, 1, 0, 0], [0, 0, 1, 0], [1, 1, 1, 0], [1, 0, 0, 1], [0, 1, 0, 1], [1, 0, 1, 1], [0, 1, 1, 1]]),
  ([0, 80], [[0, 0, 0, 0], [1, 0, 0, 0], [0, 1, 0, 0], [1, 1, 0, 0], [0, 0, 1, 1], [1, 0, 1, 1], [0, 1, 1, 1], [1, 1, 1, 1]]),
  ([0, 81], [[0, 0, 0, 0], [0, 1, 0, 0], [1, 0, 1, 0], [1, 1, 1, 0], [1, 0, 0, 1], [1, 1, 0, 1], [0, 0, 1, 1], [0, 1, 1, 1]]),
  ([0, 84], [[0, 0, 0, 0], [1, 0, 0, 0], [0, 1, 1, 0], [1, 1, 1, 0], [0, 1, 0, 1], [1, 1, 0, 1], [0, 0, 1, 1], [1, 0, 1, 1]]),
  ([0, 85], [[0, 0, 0, 0], [1, 1, 0, 0], [1, 0, 1, 0], [0, 1, 1, 0], [1, 0, 0, 1], [0, 1, 0, 1], [0, 0, 1, 1], [1, 1, 1, 1]]),
  ([0, 1, 4, 5], [[0, 0, 0, 0], [0, 0, 1, 0], [0, 0, 0, 1], [0, 0, 1, 1]]),
  ([0, 1, 16, 17], [[0, 0, 0, 0], [0, 1, 0, 0], [0, 0, 0, 1], [0, 1, 0, 1]]),
  ([0, 1, 20, 21], [[0, 0, 0, 0], [0, 1, 1, 0], [0, 0, 0, 1], [0, 1, 1, 1]]),
  ([0, 1, 64, 65], [[0, 0, 0, 0], [0, 1, 0, 0], [0, 0, 1, 0], [0, 1, 1, 0]]),
  ([0, 1, 68, 69], [[0, 0, 0, 0], [0, 0, 1, 0], [0, 1, 0, 1], [0, 1, 1, 1]]),
  ([0, 1, 80, 81], [[0, 0, 0, 0], [0, 1, 0, 0], [0, 0, 1, 1], [0, 1, 1, 1]]),
  ([0, 1, 84, 85], [[0, 0, 0, 0], [0, 1, 1, 0], [0, 1, 0, 1], [0, 0, 1, 1]]),
  ([0, 4, 16, 20], [[0, 0, 0, 0], [1, 0, 0, 0], [0, 0, 0, 1], [1, 0, 0, 1]]),
  ([0, 4, 17, 21], [[0, 0, 0, 0], [1, 0, 1, 0], [0, 0, 0, 1], [1, 0, 1, 1]]),
  ([0, 4, 64, 68], [[0, 0, 0, 0], [1, 0, 0, 0], [0, 0, 1, 0], [1, 0, 1, 0]]),
  ([0, 4, 65, 69], [[0, 0, 0, 0], [0, 0, 1, 0], [1, 0, 0, 1], [1, 0, 1, 1]]),
  ([0, 4, 80, 84], [[0, 0, 0, 0], [1, 0, 0, 0], [0, 0, 1, 1], [1, 0, 1, 1]]),
  ([0, 4, 81, 85], [[0, 0, 0, 0], [1, 0, 1, 0], [1, 0, 0, 1], [0, 0, 1, 1]]),
  ([0, 5, 16, 21], [[0, 0, 0, 0], [1, 1, 0, 0], [0, 0, 0, 1], [1, 1, 0, 1]]),
  ([0, 5, 17, 20], [[0, 0, 0, 0], [1, 1, 1, 0], [0, 0, 0, 1], [1, 1, 1, 1]]),
  ([0, 5, 64, 69], [[0, 0, 0, 0], [1, 1, 0, 0], [0, 0, 1, 0], [1, 1, 1, 0]]),
  ([0, 5, 65, 68], [[0, 0, 0, 0], [0, 0, 1, 0], [1, 1, 0, 1], [1, 1, 1, 1]]),
  ([0, 5, 80, 85], [[0, 0, 0, 0], [1, 1, 0, 0], [0, 0, 1, 1], [1, 1, 1, 1]]),
  ([0, 5, 81, 84], [[0, 0, 0, 0], [1, 1, 1, 0], [1, 1, 0, 1], [0, 0, 1, 1]]),
  ([0, 16, 64, 80], [[0, 0, 0, 0], [1, 0, 0, 0], [0, 1, 0, 0], [1, 1, 0, 0]]),
  ([0, 16, 65, 81], [[0, 0, 0, 0], [0, 1, 0, 0], [1, 0, 0, 1], [1, 1, 0, 1]]),
  ([0, 16, 68, 84], [[0, 0, 0, 0], [1, 0, 0, 0], [0, 1, 0, 1], [1, 1, 0, 1]]),
  ([0, 16, 69, 85], [[0, 0, 0, 0], [1, 1, 0, 0], [1, 0, 0, 1], [0, 1, 0, 1]]),
  ([0, 17, 64, 81], [[0, 0, 0, 0], [0, 1, 0, 0], [1, 0, 1, 0], [1, 1, 1, 0]]),
  ([0, 17, 65, 80], [[0, 0, 0, 0], [0, 1, 0, 0], [1, 0, 1, 1], [1, 1, 1, 1]]),
  ([0, 17, 68, 85], [[0, 0, 0, 0], [1, 0, 1, 0], [0, 1, 0, 1], [1, 1, 1, 1]]),
  ([0, 17, 69, 84], [[0, 0, 0, 0], [1, 1, 1, 0], [0, 1, 0, 1], [1, 0, 1, 1]]),
  ([0, 20, 64, 84], [[0, 0, 0, 0], [1, 0, 0, 0], [0, 1, 1, 0], [1, 1, 1, 0]]),
  ([0, 20, 65, 85], [[0, 0, 0, 0], [0, 1, 1, 0], [1, 0, 0, 1], [1, 1, 1, 1]]),
  ([0, 20, 68, 80], [[0, 0, 0, 0], [1, 0, 0, 0], [0, 1, 1, 1], [1, 1, 1, 1]]),
  ([0, 20, 69, 81], [[0, 0, 0, 0], [1, 1, 1, 0], [1, 0, 0, 1], [0, 1, 1, 1]]),
  ([0, 21, 64, 85], [[0, 0, 0, 0], [1, 1, 0, 0], [1, 0, 1, 0], [0, 1, 1, 0]]),
  ([0, 21, 65, 84], [[0, 0, 0, 0], [0, 1, 1, 0], [1, 1, 0, 1], [1, 0, 1, 1]]),
  ([0, 21, 68, 81], [[0, 0, 0, 0], [1, 0, 1, 0], [1, 1, 0, 1], [0, 1, 1, 1]]),
  ([0, 21, 69, 80], [[0, 0, 0, 0], [1, 1, 0, 0], [1, 0, 1, 1], [0, 1, 1, 1]])]
noncomputable def tab2 : Nat → List Int
  | 0 => [1, 4, 6, 4, 1]
  | 1 => [-1, -2, 0, 2, 1]
  | 2 => [1, 0, -2, 0, 1]
  | 3 => [-1, 2, 0, -2, 1]
  | _ => [1, -4, 6, -4, 1]
noncomputable def wds3 : List (List Int) := [[0, 0, 0], [1, 0, 0], [2, 0, 0], [0, 1, 0], [1, 1, 0], [2, 1, 0], [0, 2, 0], [1, 2, 0], [2, 2, 0], [0, 0, 1], [1, 0, 1], [2, 0, 1], [0, 1, 1], [1, 1, 1], [2, 1, 1], [0, 2, 1], [1, 2, 1], [2, 2, 1], [0, 0, 2], [1, 0, 2], [2, 0, 2], [0, 1, 2], [1, 1, 2], [2, 1, 2], [0, 2, 2], [1, 2, 2], [2, 2, 2]]
noncomputable def tA3 : List (List Int × List (List Int)) := [([0], [[0, 0, 0], [1, 0, 0], [2, 0, 0], [0, 1, 0], [1, 1, 0], [2, 1, 0], [0, 2, 0], [1, 2, 0], [2, 2, 0], [0, 0, 1], [1, 0, 1], [2, 0, 1], [0, 1, 1], [1, 1, 1], [2, 1, 1], [0, 2, 1], [1, 2, 1], [2, 2, 1], [0, 0, 2], [1, 0, 2], [2, 0, 2], [0, 1, 2], [1, 1, 2], [2, 1, 2], [0, 2, 2], [1, 2, 2], [2, 2, 2]]),
  ([0, 1, 2], [[0, 0, 0], [0, 1, 0], [0, 2, 0], [0, 0, 1], [0, 1, 1], [0, 2, 1], [0, 0, 2], [0, 1, 2], [0, 2, 2]]),
  ([0, 4, 8], [[0, 0, 0], [1, 0, 0], [2, 0, 0], [0, 0, 1], [1, 0, 1], [2, 0, 1], [0, 0, 2], [1, 0, 2], [2, 0, 2]]),
  ([0, 5, 10], [[0, 0, 0], [2, 1, 0], [1, 2, 0], [0, 0, 1], [2, 1, 1], [1, 2, 1], [0, 0, 2], [2, 1, 2], [1, 2, 2]]),
  ([0, 6, 9], [[0, 0, 0], [1, 1, 0], [2, 2, 0], [0, 0, 1], [1, 1, 1], [2, 2, 1], [0, 0, 2], [1, 1, 2], [2, 2, 2]]),
  ([0, 16, 32], [[0, 0, 0], [1, 0, 0], [2, 0, 0], [0, 1, 0], [1, 1, 0], [2, 1, 0], [0, 2, 0], [1, 2, 0], [2, 2, 0]]),
  ([0, 17, 34], [[0, 0, 0], [0, 1, 0], [0, 2, 0], [2, 0, 1], [2, 1, 1], [2, 2, 1], [1, 0, 2], [1, 1, 2], [1, 2, 2]]),
  ([0, 18, 33], [[0, 0, 0], [0, 1, 0], [0, 2, 0], [1, 0, 1], [1, 1, 1], [1, 2, 1], [2, 0, 2], [2, 1, 2], [2, 2, 2]]),
  ([0, 20, 40], [[0, 0, 0], [1, 0, 0], [2, 0, 0], [0, 2, 1], [1, 2, 1], [2, 2, 1], [0, 1, 2], [1, 1, 2], [2, 1, 2]]),
  ([0, 21, 42], [[0, 0, 0], [2, 1, 0], [1, 2, 0], [2, 0, 1], [1, 1, 1], [0, 2, 1], [1, 0, 2], [0, 1, 2], [2, 2, 2]]),
  ([0, 22, 41], [[0, 0, 0], [1, 1, 0], [2, 2, 0], [1, 0, 1], [2, 1, 1], [0, 2, 1], [2, 0, 2], [0, 1, 2], [1, 2, 2]]),
  ([0, 24, 36], [[0, 0, 0], [1, 0, 0], [2, 0, 0], [0, 1, 1], [1, 1, 1], [2, 1, 1], [0, 2, 2], [1, 2, 2], [2, 2, 2]]),
  ([0, 25, 38], [[0, 0, 0], [1, 1, 0], [2, 2, 0], [2, 0, 1], [0, 1, 1], [1, 2, 1], [1, 0, 2], [2, 1, 2], [0, 2, 2]]),
  ([0, 26, 37], [[0, 0, 0], [2, 1, 0], [1, 2, 0], [1, 0, 1], [0, 1, 1], [2, 2, 1], [2, 0, 2], [1, 1, 2], [0, 2, 2]])]
noncomputable def tB3 : List (List Int × List (List Int)) := [([0], [[0, 0, 0], [1, 0, 0], [2, 0, 0], [0, 1, 0], [1, 1, 0], [2, 1, 0], [0, 2, 0], [1, 2, 0], [2, 2, 0], [0, 0, 1], [1, 0, 1], [2, 0, 1], [0, 1, 1], [1, 1, 1], [2, 1, 1], [0, 2, 1], [1, 2, 1], [2, 2, 1], [0, 0, 2], [1, 0, 2], [2, 0, 2], [0, 1, 2], [1, 1, 2], [2, 1, 2], [0, 2, 2], [1, 2, 2], [2, 2, 2]]),
  ([0, 1, 2], [[0, 0, 0], [0, 1, 0], [0, 2, 0], [0, 0, 1], [0, 1, 1], [0, 2, 1], [0, 0, 2], [0, 1, 2], [0, 2, 2]]),
  ([0, 4, 8], [[0, 0, 0], [1, 0, 0], [2, 0, 0], [0, 0, 1], [1, 0, 1], [2, 0, 1], [0, 0, 2], [1, 0, 2], [2, 0, 2]]),
  ([0, 5, 10], [[0, 0, 0], [2, 1, 0], [1, 2, 0], [0, 0, 1], [2, 1, 1], [1, 2, 1], [0, 0, 2], [2, 1, 2], [1, 2, 2]]),
  ([0, 6, 9], [[0, 0, 0], [1, 1, 0], [2, 2, 0], [0, 0, 1], [1, 1, 1], [2, 2, 1], [0, 0, 2], [1, 1, 2], [2, 2, 2]]),
  ([0, 16, 32], [[0, 0, 0], [1, 0, 0], [2, 0, 0], [0, 1, 0], [1, 1, 0], [2, 1, 0], [0, 2, 0], [1, 2, 0], [2, 2, 0]]),
  ([0, 17, 34], [[0, 0, 0], [0, 1, 0], [0, 2, 0], [2, 0, 1], [2, 1, 1], [2, 2, 1], [1, 0, 2], [1, 1, 2], [1, 2, 2]]),
  ([0, 18, 33], [[0, 0, 0], [0, 1, 0], [0, 2, 0], [1, 0, 1], [1, 1, 1], [1, 2, 1], [2, 0, 2], [2, 1, 2], [2, 2, 2]]),
  ([0, 20, 40], [[0, 0, 0], [1, 0, 0], [2, 0, 0], [0, 2, 1], [1, 2, 1], [2, 2, 1], [0, 1, 2], [1, 1, 2], [2, 1, 2]]),
  ([0, 21, 42], [[0, 0, 0], [2, 1, 0], [1, 2, 0], [2, 0, 1], [1, 1, 1], [0, 2, 1], [1, 0, 2], [0, 1, 2], [2, 2, 2]]),
  ([0, 22, 41], [[0, 0, 0], [1, 1, 0], [2, 2, 0], [1, 0, 1], [2, 1, 1], [0, 2, 1], [2, 0, 2], [0, 1, 2], [1, 2, 2]]),
  ([0, 24, 36], [[0, 0, 0], [1, 0, 0], [2, 0, 0], [0, 1, 1], [1, 1, 1], [2, 1, 1], [0, 2, 2], [1, 2, 2], [2, 2, 2]]),
  ([0, 25, 38], [[0, 0, 0], [1, 1, 0], [2, 2, 0], [2, 0, 1], [0, 1, 1], [1, 2, 1], [1, 0, 2], [2, 1, 2], [0, 2, 2]]),
  ([0, 26, 37], [[0, 0, 0], [2, 1, 0], [1, 2, 0], [1, 0, 1], [0, 1, 1], [2, 2, 1], [2, 0, 2], [1, 1, 2], [0, 2, 2]]),
  ([0, 1, 2, 4, 5, 6, 8, 9, 10], [[0, 0, 0], [0, 0, 1], [0, 0, 2]]),
  ([0, 1, 2, 16, 17, 18, 32, 33, 34], [[0, 0, 0], [0, 1, 0], [0, 2, 0]]),
  ([0, 1, 2, 20, 21, 22, 40, 41, 42], [[0, 0, 0], [0, 2, 1], [0, 1, 2]]),
  ([0, 1, 2, 24, 25, 26, 36, 37, 38], [[0, 0, 0], [0, 1, 1], [0, 2, 2]]),
  ([0, 4, 8, 16, 20, 24, 32, 36, 40], [[0, 0, 0], [1, 0, 0], [2, 0, 0]]),
  ([0, 4, 8, 17, 21, 25, 34, 38, 42], [[0, 0, 0], [2, 0, 1], [1, 0, 2]]),
  ([0, 4, 8, 18, 22, 26, 33, 37, 41], [[0, 0, 0], [1, 0, 1], [2, 0, 2]]),
  ([0, 5, 10, 16, 21, 26, 32, 37, 42], [[0, 0, 0], [2, 1, 0], [1, 2, 0]]),
  ([0, 5, 10, 17, 22, 24, 34, 36, 41], [[0, 0, 0], [2, 1, 1], [1, 2, 2]]),
  ([0, 5, 10, 18, 20, 25, 33, 38, 40], [[0, 0, 0], [1, 2, 1], [2, 1, 2]]),
  ([0, 6, 9, 16, 22, 25, 32, 38, 41], [[0, 0, 0], [1, 1, 0], [2, 2, 0]]),
  ([0, 6, 9, 17, 20, 26, 34, 37, 40], [[0, 0, 0], [2, 2, 1], [1, 1, 2]]),
  ([0, 6, 9, 18, 21, 24, 33, 36, 42], [[0, 0, 0], [1, 1, 1], [2, 2, 2]])]
noncomputable def tab3 : Nat → List Int
  | 0 => [8, 12, 6, 1]
  | 1 => [-4, 0, 3, 1]
  | 2 => [2, -3, 0, 1]
  | _ => [-1, 3, -3, 1]
noncomputable def trm (q : Int) (tab : Nat → List Int) (v one : List Int) : List Int := scaP (if fitsL q one v then q - 1 else -1) (tab (othersN one))
theorem tab2_ok (X : Int) : ∀ j, j ≤ 4 → ev X (tab2 j) = (X - 1) ^ j * (X + 2 - 1) ^ (4 - j)
  | 0, _ | 1, _ | 2, _ | 3, _ | 4, _ => by simp only [tab2, ev]; grind
theorem tab3_ok (X : Int) : ∀ j, j ≤ 3 → ev X (tab3 j) = (X - 1) ^ j * (X + 3 - 1) ^ (3 - j)
  | 0, _ | 1, _ | 2, _ | 3, _ => by simp only [tab3, ev]; grind
theorem trm_ok {q : Int} {n : Nat} {tab : Nat → List Int} {X : Int} (ht : ∀ j, j ≤ n → ev X (tab j) = (X - 1) ^ j * (X + q - 1) ^ (n - j)) {v one : List Int} (h : one.length = n) : ev X (trm q tab v one) = termZ v q X one := by
  have ho : othersN one ≤ n := by rw [← h]; exact List.length_filter_le ..
  unfold trm termZ partZ
  rw [ev_sca, ht _ ho, h]
  by_cases e : fitsL q one v
  · rw [if_pos e, if_pos e]
  · rw [if_neg e, if_neg e]
    omega
/-- what the code's words tell -/
noncomputable def codS (n : Nat) (v code : List Int) (X : Int) : Int := (code.map fun x => X ^ (n - hamZ v (figZ n x))).sum
noncomputable def codP (n : Nat) (v code : List Int) : List Int := sumP (fun x => monP 1 (n - hamZ v (figZ n x))) code
theorem codP_ok (n : Nat) (v code : List Int) (X : Int) : ev X (codP n v code) = codS n v code X := ev_sum X _ _ _ fun x _ => by rw [ev_mon, Int.one_mul]
theorem wds2_is : (List.range 16).map (fun (x : Nat) => wordZ 2 4 (x : Int)) = wds2 := by decide +kernel
theorem wds3_is : (List.range 27).map (fun (x : Nat) => wordZ 3 3 (x : Int)) = wds3 := by decide +kernel
theorem all2 : ∀ a ∈ allW 2 4, a ∈ wds2 := by decide +kernel
theorem all3 : ∀ a ∈ allW 3 3, a ∈ wds3 := by decide +kernel
theorem sA2 : ∀ w ∈ wds2, (loopN 2 w [0] [0], wds2.filter fun one => fitsL 2 one w) ∈ tA2 := by decide +kernel
theorem sA3 : ∀ w ∈ wds3, (loopN 3 w [0] [0], wds3.filter fun one => fitsL 3 one w) ∈ tA3 := by decide +kernel
theorem sB2 : ∀ r ∈ tA2, ∀ w ∈ wds2, (loopN 2 w r.1 r.1, r.2.filter fun one => fitsL 2 one w) ∈ tB2 := by decide +kernel
theorem sB3 : ∀ r ∈ tA3, ∀ w ∈ wds3, (loopN 3 w r.1 r.1, r.2.filter fun one => fitsL 3 one w) ∈ tB3 := by decide +kernel
theorem sC2 : ∀ r ∈ tB2, ∀ v ∈ wds2, sumP (trm 2 tab2 v) r.2 = addP [0, 0, 0, 0, 0] (scaP (1 * r.2.length) (codP 4 v r.1)) := by decide +kernel
theorem sC3 : ∀ r ∈ tB3, ∀ v ∈ wds3, sumP (trm 3 tab3 v) r.2 = addP [0, 0, 0, 0] (scaP (2 * r.2.length) (codP 3 v r.1)) := by decide +kernel
theorem sD2 : ∀ r ∈ tB2, 1 ≤ r.2.length ∧ r.2.length ≤ 16 ∧ 1 ≤ r.1.length ∧ ∀ one ∈ r.2, one.length = 4 := by decide +kernel
theorem sD3 : ∀ r ∈ tB3, 1 ≤ r.2.length ∧ r.2.length ≤ 27 ∧ 1 ≤ r.1.length ∧ ∀ one ∈ r.2, one.length = 3 := by decide +kernel
end

section
theorem hush_P5 : True := by
  k_with_none
  w_top off
  trivial
theorem mac2 {r : List Int × List (List Int)} (hr : r ∈ tB2) {v : List Int} (hv : v ∈ wds2) (X : Int) : sumZ r.2 v 2 X = (2 - 1) * (r.2.length : Int) * codS 4 v r.1 X := by
  have h1 := congrArg (ev X) (sC2 r hr v hv)
  rw [ev_add, ev_sca, codP_ok, ev_sum X _ (termZ v 2 X) _ fun one h => trm_ok (tab2_ok X) ((sD2 r hr).2.2.2 one h)] at h1
  simp only [ev, Int.mul_zero, Int.zero_add] at h1
  exact h1
theorem mac3 {r : List Int × List (List Int)} (hr : r ∈ tB3) {v : List Int} (hv : v ∈ wds3) (X : Int) : sumZ r.2 v 3 X = (3 - 1) * (r.2.length : Int) * codS 3 v r.1 X := by
  have h1 := congrArg (ev X) (sC3 r hr v hv)
  rw [ev_add, ev_sca, codP_ok, ev_sum X _ (termZ v 3 X) _ fun one h => trm_ok (tab3_ok X) ((sD3 r hr).2.2.2 one h)] at h1
  simp only [ev, Int.mul_zero, Int.zero_add] at h1
  exact h1
theorem tables2 {w0 w1 : List Int} (h0 : w0 ∈ wds2) (h1 : w1 ∈ wds2) : (codeL 2 w0 w1, mateT 2 4 w0 w1 16) ∈ tB2 := by
  have h2 := sB2 _ (sA2 w0 h0) w1 h1
  rw [List.filter_filter, ← wds2_is] at h2
  unfold codeL mateT
  simp only [Bool.and_comm] at h2 ⊢
  exact h2
theorem tables3 {w0 w1 : List Int} (h0 : w0 ∈ wds3) (h1 : w1 ∈ wds3) : (codeL 3 w0 w1, mateT 3 3 w0 w1 27) ∈ tB3 := by
  have h2 := sB3 _ (sA3 w0 h0) w1 h1
  rw [List.filter_filter, ← wds3_is] at h2
  unfold codeL mateT
  simp only [Bool.and_comm] at h2 ⊢
  exact h2
/-- the quotient -/
noncomputable def quoZ (q : Int) (n : Nat) (script : List Int) (j : Nat) : Int := codS n (wordZ q n (seedZ script j)) (codeL q (wordZ q n (seedZ script 0)) (wordZ q n (seedZ script 1))) (baseZ script ^ (q - 1).toNat)
theorem macZ {script : List Int} {q : Int} {n : Nat} (h : (q = 2 ∧ n = 4) ∨ (q = 3 ∧ n = 3)) : (1 ≤ (mateZ q n script).length ∧ (mateZ q n script).length ≤ 27 ∧ 1 ≤ (codeL q (wordZ q n (seedZ script 0)) (wordZ q n (seedZ script 1))).length) ∧ ∀ j, weighedZ q n script j = (q - 1) * ((mateZ q n script).length : Int) * quoZ q n script j := by
  rcases h with ⟨rfl, rfl⟩ | ⟨rfl, rfl⟩
  · have hr := tables2 (all2 _ (wordZ_mem2 (seedZ script 0))) (all2 _ (wordZ_mem2 (seedZ script 1)))
    have hd := sD2 _ hr
    have e : mateZ 2 4 script = mateT 2 4 (wordZ 2 4 (seedZ script 0)) (wordZ 2 4 (seedZ script 1)) 16 := rfl
    rw [e]
    refine ⟨⟨hd.1, Nat.le_trans hd.2.1 (by decide), hd.2.2.1⟩, fun j => ?_⟩
    unfold weighedZ quoZ
    rw [e]
    exact mac2 hr (all2 _ (wordZ_mem2 (seedZ script j))) _
  · have hr := tables3 (all3 _ (wordZ_mem3 (seedZ script 0))) (all3 _ (wordZ_mem3 (seedZ script 1)))
    have hd := sD3 _ hr
    have e : mateZ 3 3 script = mateT 3 3 (wordZ 3 3 (seedZ script 0)) (wordZ 3 3 (seedZ script 1)) 27 := rfl
    rw [e]
    refine ⟨⟨hd.1, Nat.le_trans hd.2.1 (by decide), hd.2.2.1⟩, fun j => ?_⟩
    unfold weighedZ quoZ
    rw [e]
    exact mac3 hr (all3 _ (wordZ_mem3 (seedZ script j))) _
end

section
theorem hush_P6 : True := by
  k_with_none
  w_top off
  trivial
noncomputable def cntD (dd : List Nat) (c : List Int) : List Int := dd.foldl (fun c (d : Nat) => incC c (d : Int)) c
theorem getD_append_zero (c : List Int) (k j : Nat) : (c ++ List.replicate k (0 : Int)).getD j 0 = c.getD j 0 := by
  simp only [List.getD_eq_getElem?_getD, List.getElem?_append, List.getElem?_replicate]
  split
  · rfl
  · rename_i h
    rw [List.getElem?_eq_none (Nat.le_of_not_lt h)]
    split <;> rfl
theorem incC_length (c : List Int) (b : Nat) : (incC c b).length = max c.length (b + 1) := by
  unfold incC
  rw [List.length_set]
  split
  · rename_i h
    rw [List.length_append, List.length_replicate]
    omega
  · rename_i h
    omega
theorem incC_get (c : List Int) (b j : Nat) : (incC c b).getD j 0 = c.getD j 0 + (if b = j then 1 else 0) := by
  have hl : (incC c b).length = max c.length (b + 1) := incC_length c b
  have key : ∀ c' : List Int, (∀ i, c'.getD i 0 = c.getD i 0) → b < c'.length → (c'.set b (c'.getD b 0 + 1)).getD j 0 = c.getD j 0 + (if b = j then 1 else 0) := by
    intro c' h1 h2
    rw [List.getD_eq_getElem?_getD, List.getElem?_set]
    split
    · rename_i e
      subst e
      rw [Option.getD_some, h1]
    · rename_i e
      rw [← List.getD_eq_getElem?_getD, h1, Int.add_zero]
  unfold incC
  rw [Int.toNat_natCast]
  split
  · rename_i h
    exact key _ (fun i => getD_append_zero _ _ _) (by rw [List.length_append, List.length_replicate]; omega)
  · rename_i h
    exact key _ (fun i => rfl) (by omega)
theorem cntD_get (j : Nat) : ∀ (dd : List Nat) (c : List Int), (cntD dd c).getD j 0 = c.getD j 0 + (dd.count j : Int)
  | [], c => by simp [cntD]
  | d :: dd, c => by
    have := cntD_get j dd (incC c d)
    unfold cntD at this ⊢
    rw [List.foldl_cons, this, incC_get, List.count_cons]
    by_cases e : d = j
    · subst e; simp; omega
    · rw [if_neg e, if_neg (by simpa using e)]; simp
/-- its last is not nought -/
noncomputable def Tight (c : List Int) : Prop := (∀ j, 0 ≤ c.getD j 0) ∧ ∀ j, j + 1 = c.length → c.getD j 0 ≠ 0
theorem Tight.inc {c : List Int} (h : Tight c) (b : Nat) : Tight (incC c b) := by
  refine ⟨fun j => ?_, fun j hj => ?_⟩
  · rw [incC_get]
    have := h.1 j
    split <;> omega
  · rw [incC_length] at hj
    rw [incC_get]
    have h0 := h.1 j
    by_cases e : b = j
    · rw [if_pos e]; omega
    · rw [if_neg e]
      have := h.2 j (by omega)
      omega
theorem Tight.cnt : ∀ (dd : List Nat) {c : List Int}, Tight c → Tight (cntD dd c)
  | [], _, h => h
  | d :: dd, _, h => Tight.cnt dd (h.inc d)
theorem Tight.nil : Tight [] := ⟨fun j => by simp, fun j h => by simp at h⟩
theorem getD_none {c : List Int} {j : Nat} (h : c.length ≤ j) : c.getD j 0 = 0 := by
  rw [List.getD_eq_getElem?_getD, List.getElem?_eq_none h]; rfl
theorem Tight.ext {a b : List Int} (ha : Tight a) (hb : Tight b) (h : ∀ j, a.getD j 0 = b.getD j 0) : a = b := by
  have hl : a.length = b.length := by
    rcases Nat.lt_trichotomy a.length b.length with h1 | h1 | h1
    · exact absurd (by rw [← h]; exact getD_none (by omega)) (hb.2 (b.length - 1) (by omega))
    · exact h1
    · exact absurd (by rw [h]; exact getD_none (by omega)) (ha.2 (a.length - 1) (by omega))
  refine List.ext_getElem hl fun i h1 h2 => ?_
  have := h i
  rw [List.getD_eq_getElem?_getD, List.getD_eq_getElem?_getD, List.getElem?_eq_getElem h1, List.getElem?_eq_getElem h2] at this
  exact this
theorem cntD_eq {d e : List Nat} : cntD d [] = cntD e [] ↔ ∀ j, d.count j = e.count j := by
  constructor
  · intro h j
    have h1 := cntD_get j d []
    rw [h, cntD_get j e []] at h1
    omega
  · intro h
    refine (Tight.nil.cnt d).ext (Tight.nil.cnt e) fun j => ?_
    rw [cntD_get, cntD_get, h j]
theorem cntD_len {m : Nat} : ∀ (dd : List Nat) (c : List Int), (∀ d ∈ dd, d ≤ m) → c.length ≤ m + 1 → (cntD dd c).length ≤ m + 1
  | [], _, _, h => h
  | d :: dd, c, h, hc => cntD_len dd _ (fun x hx => h x (.tail _ hx)) (by have := h d (.head _); rw [incC_length]; omega)
theorem ws_blank (r : List Nat) (c : List Int) : ∀ (d : Nat) (b n nt : Int), wsGo (List.replicate d 32 ++ r) c b n nt = wsGo r c (b + d) (n + d) nt
  | 0, b, n, nt => by simp
  | d + 1, b, n, nt => by
    rw [List.replicate_succ, List.cons_append, wsGo, if_pos rfl, ws_blank r c d, show b + 1 + (d : Int) = b + ((d + 1 : Nat) : Int) by omega, show n + 1 + (d : Int) = n + ((d + 1 : Nat) : Int) by omega]
theorem ws_lead (r : List Nat) : ∀ (dd : List Nat) (c : List Int) (n nt : Int), ∃ n' nt', wsGo ((dd.flatMap fun d => List.replicate d 32 ++ [9]) ++ r) c 0 n nt = wsGo r (cntD dd c) 0 n' nt'
  | [], c, n, nt => ⟨n, nt, rfl⟩
  | d :: dd, c, n, nt => by
    obtain ⟨n', nt', h⟩ := ws_lead r dd (incC c d) (n + d + 1) (nt + 1)
    refine ⟨n', nt', ?_⟩
    rw [List.flatMap_cons, List.append_assoc, List.append_assoc, ws_blank, List.singleton_append, wsGo, if_neg (by decide), if_pos rfl, Int.zero_add, h]
    rfl
theorem ws_tabs (r : List Nat) : ∀ (m : Nat) (c : List Int) (n nt : Int), ∃ n' nt', wsGo (List.replicate m 9 ++ r) c 0 n nt = wsGo r (cntD (List.replicate m 0) c) 0 n' nt'
  | 0, c, n, nt => ⟨n, nt, rfl⟩
  | m + 1, c, n, nt => by
    obtain ⟨n', nt', h⟩ := ws_tabs r m (incC c 0) (n + 1) (nt + 1)
    refine ⟨n', nt', ?_⟩
    rw [List.replicate_succ, List.cons_append, wsGo, if_neg (by decide), if_pos rfl, h]
    rfl
theorem ws_all (m : Nat) (dd : List Nat) (sp : Nat) : (wsGo (leadS (List.replicate m 9) dd ++ List.replicate sp 32 ++ [120, 9, 32]) [] 0 0 0).1 = cntD (List.replicate m 0 ++ dd) [] ∧ (wsGo (leadS (List.replicate m 9) dd ++ List.replicate sp 32 ++ [120, 9, 32]) [] 0 0 0).2.1 = (sp : Int) := by
  unfold leadS
  rw [List.append_assoc, List.append_assoc]
  obtain ⟨n1, t1, h1⟩ := ws_tabs ((dd.flatMap fun d => List.replicate d 32 ++ [9]) ++ (List.replicate sp 32 ++ [120, 9, 32])) m [] 0 0
  obtain ⟨n2, t2, h2⟩ := ws_lead (List.replicate sp 32 ++ [120, 9, 32]) dd (cntD (List.replicate m 0) []) n1 t1
  rw [h1, h2, ws_blank, wsGo, if_neg (by decide), if_neg (by decide)]
  refine ⟨?_, by simp⟩
  unfold cntD
  rw [List.foldl_append]
theorem d2i_add (n : Nat) (f g : α → Int) : ∀ l : List α, d2i n (l.map fun k => f k + g k) = d2i n (l.map f) + d2i n (l.map g)
  | [] => rfl
  | a :: l => by
    rw [List.map_cons, List.map_cons, List.map_cons, d2i, d2i, d2i, d2i_add n f g l, Int.mul_add]
    omega
theorem d2i_zero (n : Nat) : ∀ l : List α, d2i n (l.map fun _ => (0 : Int)) = 0
  | [] => rfl
  | a :: l => by rw [List.map_cons, d2i, d2i_zero n l]; simp
theorem d2i_unit (n i : Nat) : ∀ N : Nat, d2i n ((List.range N).map fun k => if k = i then (1 : Int) else 0) = if i < N then 2 ^ (n * i) else 0
  | 0 => rfl
  | N + 1 => by
    rw [List.range_succ, List.map_append, d2i_append, d2i_unit n i N, List.length_map, List.length_range, List.map_singleton, d2i, d2i, Int.mul_zero, Int.add_zero]
    rcases Nat.lt_trichotomy i N with h | h | h
    · rw [if_pos h, if_neg (by omega), if_pos (by omega)]; simp
    · subst h
      rw [if_neg (Nat.lt_irrefl _), if_pos rfl, if_pos (by omega)]; simp
    · rw [if_neg (by omega), if_neg (by omega), if_neg (by omega)]; simp
/-- the figures of the counts -/
noncomputable def figsD (far : Nat) (dd : List Nat) : List Int := (List.range (far + 1)).map fun k => (dd.count (far - k) : Int)
theorem figsD_sum (n far : Nat) : ∀ dd : List Nat, (∀ d ∈ dd, d ≤ far) → d2i n (figsD far dd) = (dd.map fun d => (2 : Int) ^ (n * (far - d))).sum
  | [], _ => by unfold figsD; simp only [List.count_nil]; exact d2i_zero n _
  | d :: dd, h => by
    have ih := figsD_sum n far dd fun x hx => h x (.tail _ hx)
    have hd := h d (.head _)
    have e : figsD far (d :: dd) = (List.range (far + 1)).map fun k => (dd.count (far - k) : Int) + (if k = far - d then (1 : Int) else 0) := by
      unfold figsD
      refine List.map_congr_left fun k hk => ?_
      have hk := List.mem_range.mp hk
      rw [List.count_cons]
      by_cases e : k = far - d
      · rw [if_pos e, if_pos (by rw [beq_iff_eq]; omega)]; rfl
      · rw [if_neg e, if_neg (by rw [beq_iff_eq]; omega)]; simp
    rw [e, d2i_add, d2i_unit, if_pos (by omega)]
    unfold figsD at ih
    rw [ih, List.map_cons, List.sum_cons, Int.add_comm]
end

section
theorem hush_P7 : True := by
  k_with_none
  w_top off
  trivial
theorem i2d_d2i (n : Nat) : ∀ l : List Int, (∀ x ∈ l, 0 ≤ x ∧ x < 2 ^ n) → i2d n l.length (d2i n l) = l
  | [], _ => rfl
  | x :: l, h => by
    obtain ⟨h0, h1⟩ := h x (.head _)
    have hp := two_pow_posI n
    rw [List.length_cons, i2d, d2i, Int.add_mul_emod_self_left, Int.emod_eq_of_lt h0 h1, Int.add_mul_ediv_left _ _ (by omega), Int.ediv_eq_zero_of_lt h0 h1, Int.zero_add, i2d_d2i n l fun y hy => h y (.tail _ hy)]
theorem d2i_snoc (n : Nat) {l : List Int} (h : l ≠ []) : d2i n l = d2i n l.dropLast + 2 ^ (n * (l.length - 1)) * l.getLast h := by
  have e := d2i_append n l.dropLast [l.getLast h]
  rw [List.dropLast_concat_getLast h, List.length_dropLast] at e
  rw [e]
  simp [d2i]
theorem strip_figs {n : Nat} (hn : 1 ≤ n) : ∀ (k : Nat) (l : List Int), l.length = k → (∀ x ∈ l, 0 ≤ x ∧ x < 2 ^ n) → 0 < d2i n l → i2d n ((Builtin.Int.intBits (d2i n l) + n - 1) / n) (d2i n l) = stripZ l
  | 0, l, hl, _, h => by rw [List.length_eq_zero_iff.mp hl] at h; exact absurd h (Int.lt_irrefl 0)
  | k + 1, l, hl, hb, h => by
    have hne : l ≠ [] := by intro e; rw [e] at hl; simp at hl
    by_cases hz : l.getLast hne = 0
    · have e := d2i_snoc n hne
      rw [hz, Int.mul_zero, Int.add_zero] at e
      rw [← stripZ_pop hne hz, e]
      rw [e] at h
      exact strip_figs hn k l.dropLast (by rw [List.length_dropLast]; omega) (fun x hx => hb x (List.dropLast_subset l hx)) h
    · rw [stripZ_end hne hz]
      have hB := d2i_bound n l hb
      have h1 := bits_lt hB.1 hB.2
      have h2 : n * (l.length - 1) < Builtin.Int.intBits (d2i n l) := by
        rcases Nat.lt_or_ge (n * (l.length - 1)) (Builtin.Int.intBits (d2i n l)) with h3 | h3
        · exact h3
        · have h4 := lt_of_bits h3
          have h5 := d2i_snoc n hne
          have h6 := (d2i_bound n l.dropLast fun x hx => hb x (List.dropLast_subset l hx)).1
          have h7 := (hb _ (List.getLast_mem hne)).1
          have h8 : (2 : Int) ^ (n * (l.length - 1)) * 1 ≤ 2 ^ (n * (l.length - 1)) * l.getLast hne := Int.mul_le_mul_of_nonneg_left (by omega) (Int.le_of_lt (two_pow_posI _))
          omega
      have e : (Builtin.Int.intBits (d2i n l) + n - 1) / n = l.length := by
        rw [hl] at h1 h2 ⊢
        rw [Nat.add_sub_cancel] at h2
        have : n * (k + 1) = n * k + n := Nat.mul_succ n k
        rw [Nat.div_eq_iff (by omega)]
        constructor
        · rw [Nat.mul_comm]; omega
        · rw [Nat.mul_comm]; omega
      rw [e]
      exact i2d_d2i n l hb
theorem sum_pos : ∀ l : List Int, (∀ x ∈ l, 0 < x) → 1 ≤ l.length → 0 < l.sum
  | [], _, h => absurd h (by decide)
  | [x], h, _ => by have := h x (.head _); simpa using this
  | x :: y :: l, h, _ => by
    have h1 := h x (.head _)
    have h2 := sum_pos (y :: l) (fun z hz => h z (.tail _ hz)) (by simp)
    rw [List.sum_cons]
    omega
section
variable {script : List Int} {q : Int} {n : Nat}
theorem hamZ_le (a b : List Int) : hamZ a b ≤ a.length := by
  unfold hamZ
  refine Nat.le_trans (List.length_filter_le ..) ?_
  rw [List.length_zip]
  exact Nat.min_le_left ..
noncomputable abbrev farD (q : Int) (n : Nat) : Nat := n * (q - 1).toNat
theorem dist_le {a b : List Int} (h : a.length = n) : distZ q a b ≤ farD q n := by
  unfold distZ farD
  rw [Nat.mul_comm]
  exact Nat.mul_le_mul_right _ (h ▸ hamZ_le a b)
theorem dd_le (j : Nat) : ∀ d ∈ ddZ q n script j, d ≤ farD q n := by
  intro d hd
  obtain ⟨x, _, rfl⟩ := List.mem_map.mp hd
  exact dist_le (wordZ_len _ _ _)
theorem dd_len (j : Nat) : (ddZ q n script j).length = (codeL q (wordZ q n (seedZ script 0)) (wordZ q n (seedZ script 1))).length := List.length_map ..
theorem quo_is (_h : (q = 2 ∧ n = 4) ∨ (q = 3 ∧ n = 3)) (j : Nat) : quoZ q n script j = d2i (widthZ script).toNat (figsD (farD q n) (ddZ q n script j)) := by
  rw [figsD_sum _ _ _ (dd_le j)]
  unfold quoZ codS ddZ
  rw [List.map_map]
  congr 1
  refine List.map_congr_left fun x _ => ?_
  show _ = (2 : Int) ^ _
  unfold baseZ
  rw [← Int.pow_mul, ← Int.pow_mul]
  congr 1
  show _ = _ * (farD q n - distZ q (wordZ q n (seedZ script j)) (figZ n x))
  unfold farD distZ
  rw [Nat.mul_comm n, ← Nat.mul_sub]
theorem width_nat (script : List Int) : widthZ script = ((widthZ script).toNat : Int) ∧ 8 ≤ (widthZ script).toNat ∧ (widthZ script).toNat ≤ 1097 := by
  have := width_is script
  omega
theorem code_le (h : (q = 2 ∧ n = 4) ∨ (q = 3 ∧ n = 3)) : (codeL q (wordZ q n (seedZ script 0)) (wordZ q n (seedZ script 1))).length ≤ 9 := by
  refine (codeL_keep (by omega) ?_ ?_).2 <;> rw [wordZ_len] <;> omega
theorem figsD_low (far : Nat) (dd : List Nat) {W : Nat} (hW : 8 ≤ W) (hd : dd.length ≤ 9) : ∀ x ∈ figsD far dd, 0 ≤ x ∧ x < 2 ^ W := by
  intro x hx
  obtain ⟨k, _, rfl⟩ := List.mem_map.mp hx
  have h1 : dd.count (far - k) ≤ dd.length := List.count_le_length
  have h2 := pow2_mono hW
  have h3 : (2 : Int) ^ 8 = 256 := by decide
  omega
theorem figsD_len (far : Nat) (dd : List Nat) : (figsD far dd).length = far + 1 := by unfold figsD; rw [List.length_map, List.length_range]
theorem quo_pos (h : (q = 2 ∧ n = 4) ∨ (q = 3 ∧ n = 3)) (j : Nat) : 0 < quoZ q n script j := by
  unfold quoZ codS
  refine sum_pos _ (fun x hx => ?_) ?_
  · obtain ⟨y, _, rfl⟩ := List.mem_map.mp hx
    exact Int.pow_pos (Int.pow_pos (two_pow_posI _))
  · rw [List.length_map]
    exact (macZ h).1.2.2
theorem far_le (h : (q = 2 ∧ n = 4) ∨ (q = 3 ∧ n = 3)) : farD q n ≤ 6 ∧ farZ q n = (farD q n : Int) := by
  rcases h with ⟨rfl, rfl⟩ | ⟨rfl, rfl⟩ <;> decide
theorem quo_lt (h : (q = 2 ∧ n = 4) ∨ (q = 3 ∧ n = 3)) (j : Nat) : quoZ q n script j < 2 ^ ((widthZ script).toNat * 7) := by
  have hw := width_nat script
  have h1 := (d2i_bound (widthZ script).toNat (figsD (farD q n) (ddZ q n script j)) (figsD_low _ _ hw.2.1 (by rw [dd_len]; exact code_le h))).2
  rw [quo_is h]
  refine Int.lt_of_lt_of_le h1 (pow2_mono (Nat.mul_le_mul_left _ ?_))
  rw [figsD_len]
  have := (far_le h).1
  omega
theorem cntZ_is : cntZ q n script = cntD (ddZ q n script 2) [] := by
  have := (ws_all 0 (ddZ q n script 2) (spareZ script).toNat).1
  exact this
theorem figsZ_is (h : (q = 2 ∧ n = 4) ∨ (q = 3 ∧ n = 3)) : figsZ q n script = figsD (farD q n) (ddZ q n script 2) := by
  unfold figsZ figsD
  rw [(far_le h).2, show ((farD q n : Int) + 1).toNat = farD q n + 1 by omega]
  refine List.map_congr_left fun k hk => ?_
  rw [cntZ_is, cntD_get, show ((farD q n : Int) - (k : Int)).toNat = farD q n - k by omega]
  simp
theorem hclP (h : (q = 2 ∧ n = 4) ∨ (q = 3 ∧ n = 3)) : (cntZ q n script).length ≤ 100 := by
  rw [cntZ_is]
  have h1 := cntD_len (m := farD q n) (ddZ q n script 2) [] (dd_le 2) (by simp)
  have := (far_le h).1
  omega
theorem hfoP (h : (q = 2 ∧ n = 4) ∨ (q = 3 ∧ n = 3)) : FigsOk q n script (quoZ q n script 2) := by
  have hw := width_nat script
  have h0 := quo_pos (script := script) h 2
  have hb := bits_lt (Int.le_of_lt h0) (quo_lt h 2)
  refine ⟨Int.le_of_lt h0, by omega, ?_, ?_⟩
  · exact Nat.div_le_of_le_mul (by omega)
  · rw [figsZ_is h]
    rw [quo_is h] at h0 ⊢
    exact strip_figs (by omega) _ _ rfl (figsD_low _ _ hw.2.1 (by rw [dd_len]; exact code_le h)) h0
end
end

section
theorem hush_P8 : True := by
  k_with_none
  w_top off
  trivial
section
variable {script : List Int} {q : Int} {n : Nat}
theorem bits_gt {x : Int} {k : Nat} (h : (2 : Int) ^ k ≤ x) : k < Builtin.Int.intBits x := by
  rcases Nat.lt_or_ge k (Builtin.Int.intBits x) with h1 | h1
  · exact h1
  · have := lt_of_bits h1
    omega
/-- the divisor's factor -/
theorem fac_is (h : (q = 2 ∧ n = 4) ∨ (q = 3 ∧ n = 3)) : 1 ≤ (q - 1) * ((mateZ q n script).length : Int) ∧ (q - 1) * ((mateZ q n script).length : Int) ≤ 54 := by
  have := (macZ (script := script) h).1
  rcases h with ⟨rfl, rfl⟩ | ⟨rfl, rfl⟩ <;> omega
theorem unit_is : unitZ script = 2 ^ ((widthZ script).toNat * 4) + 1 := by
  unfold unitZ baseZ
  rw [← Int.pow_mul]
theorem weigh_is (h : (q = 2 ∧ n = 4) ∨ (q = 3 ∧ n = 3)) : weighedZ q n script 2 < 2 ^ ((widthZ script).toNat * 7 + 6) := by
  have h1 := quo_lt (script := script) h 2
  have h0 := quo_pos (script := script) h 2
  have hf := fac_is (script := script) h
  rw [(macZ h).2 2, Int.pow_add]
  have e1 : (2 : Int) ^ 6 = 64 := by decide
  rw [e1]
  have e2 := Int.mul_le_mul_of_nonneg_right hf.2 (Int.le_of_lt h0)
  omega
theorem weigh_pos (h : (q = 2 ∧ n = 4) ∨ (q = 3 ∧ n = 3)) : 0 < weighedZ q n script 2 := by
  rw [(macZ h).2 2]
  have hf := fac_is (script := script) h
  exact Int.mul_pos (by omega) (quo_pos h 2)
theorem hwbP (h : (q = 2 ∧ n = 4) ∨ (q = 3 ∧ n = 3)) : Builtin.Int.intBits (weighedZ q n script 2) ≤ 20000 := by
  have := bits_lt (Int.le_of_lt (weigh_pos (script := script) h)) (weigh_is h)
  have := width_nat script
  omega
theorem bottom_is (h : (q = 2 ∧ n = 4) ∨ (q = 3 ∧ n = 3)) : (2 : Int) ^ ((widthZ script).toNat * 4) ≤ bottomZ q n script ∧ bottomZ q n script < 2 ^ ((widthZ script).toNat * 4 + 7) := by
  have hf := fac_is (script := script) h
  unfold bottomZ
  rw [unit_is, Int.pow_add]
  have e1 : (2 : Int) ^ 7 = 128 := by decide
  rw [e1]
  have hp := two_pow_posI ((widthZ script).toNat * 4)
  generalize (2 : Int) ^ ((widthZ script).toNat * 4) = P at *
  have e2 := Int.mul_le_mul_of_nonneg_right hf.2 (show 0 ≤ P + 1 by omega)
  have e3 := Int.mul_le_mul_of_nonneg_right hf.1 (show 0 ≤ P + 1 by omega)
  omega
theorem hdvP (h : (q = 2 ∧ n = 4) ∨ (q = 3 ∧ n = 3)) : DivOk q n script (quoZ q n script 2) := by
  have hB := bottom_is (script := script) h
  have hw := width_nat script
  have hp := two_pow_posI ((widthZ script).toNat * 4)
  have hB0 : 0 < bottomZ q n script := by omega
  have h0 := quo_pos (script := script) h 2
  have h1 := quo_lt (script := script) h 2
  have hd : 0 ≤ drawnZ q n script ∧ drawnZ q n script < bottomZ q n script := by
    have := (fdiv_fmod_facts (script.sum * Int.fdiv (bottomZ q n script) 7 + 1000) (bottomZ q n script)).2.2.1 hB0
    unfold drawnZ
    omega
  have hT : quoZ q n script 2 * bottomZ q n script + drawnZ q n script = topZ q n script := by
    unfold topZ
    rw [(macZ h).2 2]
    show _ * ((q - 1) * ((mateZ q n script).length : Int) * unitZ script) + _ = _
    grind
  have hdm := fdivmod_of hB0 hT hd.1 hd.2
  have hT0 : 0 < topZ q n script := by
    have := Int.mul_pos h0 hB0
    omega
  have hT2 : topZ q n script < 2 ^ ((widthZ script).toNat * 7 + ((widthZ script).toNat * 4 + 7)) := by
    rw [Int.pow_add]
    have e1 : (quoZ q n script 2 + 1) * bottomZ q n script ≤ 2 ^ ((widthZ script).toNat * 7) * bottomZ q n script := Int.mul_le_mul_of_nonneg_right (by omega) (Int.le_of_lt hB0)
    have e2 : (2 : Int) ^ ((widthZ script).toNat * 7) * bottomZ q n script ≤ 2 ^ ((widthZ script).toNat * 7) * 2 ^ ((widthZ script).toNat * 4 + 7) := Int.mul_le_mul_of_nonneg_left (Int.le_of_lt hB.2) (Int.le_of_lt (two_pow_posI _))
    rw [Int.add_mul, Int.one_mul] at e1
    omega
  have hb1 := bits_gt hB.1
  have hb2 := bits_lt (Int.le_of_lt hB0) hB.2
  have hb3 := bits_lt (Int.le_of_lt hT0) hT2
  exact ⟨hT0, hB0, by omega, by omega, by omega, by omega, hdm.1.symm, hdm.2.symm⟩
theorem heq0 (h : (q = 2 ∧ n = 4) ∨ (q = 3 ∧ n = 3)) : cntD (ddZ q n script 2) [] = cntD (ddZ q n script 3) [] ↔ weighedZ q n script 2 = weighedZ q n script 3 := by
  have hw := width_nat script
  have hf := fac_is (script := script) h
  have e1 : weighedZ q n script 2 = weighedZ q n script 3 ↔ quoZ q n script 2 = quoZ q n script 3 := by
    rw [(macZ h).2 2, (macZ h).2 3]
    exact ⟨fun e => Int.eq_of_mul_eq_mul_left (by omega) e, fun e => by rw [e]⟩
  rw [e1, quo_is h, quo_is h, cntD_eq]
  constructor
  · intro hc
    congr 1
    unfold figsD
    refine List.map_congr_left fun k _ => ?_
    rw [hc]
  · intro hs j
    have h2 := i2d_d2i _ _ (figsD_low (farD q n) (ddZ q n script 2) hw.2.1 (by rw [dd_len]; exact code_le h))
    have h3 := i2d_d2i _ _ (figsD_low (farD q n) (ddZ q n script 3) hw.2.1 (by rw [dd_len]; exact code_le h))
    rw [figsD_len] at h2 h3
    rw [hs, h3] at h2
    rcases Nat.lt_or_ge (farD q n) j with hj | hj
    · rw [List.count_eq_zero_of_not_mem fun hm => by have := dd_le _ _ hm; omega, List.count_eq_zero_of_not_mem fun hm => by have := dd_le _ _ hm; omega]
    · have e := congrArg (fun l : List Int => l[farD q n - j]?) h2
      unfold figsD at e
      simp only [List.getElem?_map, List.getElem?_range (show farD q n - j < farD q n + 1 by omega), Option.map_some, Option.some.injEq] at e
      rw [show farD q n - (farD q n - j) = j by omega] at e
      omega
theorem heqP (h : (q = 2 ∧ n = 4) ∨ (q = 3 ∧ n = 3)) : ((wsGo (str3 q n script) [] 0 0 0).1 = (wsGo (str4 q n script) [] 0 0 0).1 ∧ (wsGo (str3 q n script) [] 0 0 0).2.1 = (wsGo (str4 q n script) [] 0 0 0).2.1) ↔ (weighedZ q n script 2 = weighedZ q n script 3 ∧ moreZ script = 0) := by
  have h3 := ws_all 0 (ddZ q n script 2) (spareZ script).toNat
  have h4 := ws_all (Int.fdiv (moreZ script) 2).toNat (ddZ q n script 3) (spareZ script + Int.fmod (moreZ script) 2).toNat
  have e3 : str3 q n script = leadS (List.replicate 0 9) (ddZ q n script 2) ++ List.replicate (spareZ script).toNat 32 ++ [120, 9, 32] := rfl
  have e4 : str4 q n script = leadS (List.replicate (Int.fdiv (moreZ script) 2).toNat 9) (ddZ q n script 3) ++ List.replicate (spareZ script + Int.fmod (moreZ script) 2).toNat 32 ++ [120, 9, 32] := rfl
  rw [e3, e4, h3.1, h3.2, h4.1, h4.2, ← heq0 h]
  have hs : 0 ≤ spareZ script := by
    have := spare_mem script
    simp only [List.mem_cons, List.not_mem_nil, or_false] at this
    omega
  have hm : moreZ script = 0 ∨ moreZ script = 1 ∨ moreZ script = 2 := by
    have := (fdiv_fmod_facts (Int.fdiv script.sum 6) 3).2.2.1 (by decide)
    unfold moreZ
    omega
  rcases hm with hm | hm | hm <;> rw [hm]
  · rw [show Int.fmod 0 2 = 0 from rfl, show (Int.fdiv 0 2).toNat = 0 from rfl, Int.add_zero]
    exact ⟨fun e => ⟨e.1, rfl⟩, fun e => ⟨e.1, rfl⟩⟩
  · rw [show Int.fmod 1 2 = 1 from rfl]
    exact ⟨fun e => absurd e.2 (by omega), fun e => absurd e.2 (by decide)⟩
  · rw [show (Int.fdiv 2 2).toNat = 1 from rfl]
    refine ⟨fun e => ?_, fun e => absurd e.2 (by decide)⟩
    have hp := (List.perm_iff_count.mpr (cntD_eq.mp e.1)).length_eq
    rw [List.length_append, List.length_append, dd_len, dd_len, List.length_replicate, List.length_replicate] at hp
    omega
end
theorem HP (script : List Int) (q : Int) (n : Nat) (hq : q = 3 - Int.fmod script.sum 2) (hn : (n : Int) = 6 - q) : ∃ S, Plain script q n S := by
  have h := qn_cases hq hn
  exact ⟨quoZ q n script 2, { hrot := hrotP h, hd := fun j _ => hdP h j, hwb := hwbP h, hm1 := (macZ h).1.1, hdv := hdvP h, hcl := hclP h, hfo := hfoP h, heq := heqP h }⟩
end
end Mine

set_option maxRecDepth 100000 in
set_option maxHeartbeats 8000000 in
theorem PySem.Challenge.cw_tv0052_01_holds : PySem.Challenge.rw_tv0052_01.Holds := by
  exact Mine.law_of Mine.HP Mine.HS

import PyProof.Rows.All
import Wide.All
import OpenK.AllK
import Wide.FinOn
import Lean
import PySem.Challenge.RW_sr0006_01
set_option Elab.async false
set_option maxRecDepth 100000
set_option maxHeartbeats 8000000
set_option linter.unusedVariables false
section
open PySem PySem.W PyProof.Rows
namespace Mine
noncomputable def view : Program := PySem.W.view PySem.Challenge.pw_sr0006_01 [1, 3, 5, 6, 8, 9, 10, 11, 12, 14, 15, 16, 17, 18, 19, 20, 21, 22, 23, 24]
theorem saidK : PySem.Challenge.rw_sr0006_01.wellSaid = true := by
  rw [PySem.W.Fast.te9446332074065402090]
  kernel_rfl
theorem bootK : ∀ w : World, (fencedOpening treeTable PySem.Challenge.pw_sr0006_01 w 1882).map (fun s => (s.heap, s.gens, s.drawn, s.toks)) = some (boot_heap w.params, Array.mk [], boot_drawn, boot_toks) :=
  boot_open (by kernel_rfl) (by decide) (fun s => by kernel_rfl)
noncomputable abbrev XtK (s : Shared) : Bool := xlAt view [] s && recOk (RowW.records (OpenRow.toRowW (OpenLaw.row PySem.Challenge.rw_sr0006_01))) s
theorem leftK (H : Hook) (hl : ∀ w os, (topFrom treeTable PySem.Challenge.pw_sr0006_01 w 1882 ⟨boot_heap w.params, Array.mk [], boot_drawn, boot_toks, os⟩).map (fun s => (openSeen view [] (importedModules PySem.Challenge.pw_sr0006_01.main.body) XtK true s, H.obs s)) = some (openGood view [], H.val w)) :
    LeftO PySem.Challenge.pw_sr0006_01 view [] XtK H.obs H.val 1882 := fun w => by
  obtain ⟨⟨h, gs, d, k, os⟩, e, e'⟩ := Option.map_eq_some_iff.mp (bootK w)
  obtain ⟨rfl, rfl, rfl, rfl⟩ : h = boot_heap w.params ∧ gs = Array.mk [] ∧ d = boot_drawn ∧ k = boot_toks := by simpa using e'
  unfold openEnds
  rw [e, Option.bind_some]
  exact hl w os
theorem headK (said : PySem.Challenge.rw_sr0006_01.row.wellSaid = true) (H : Hook) (hl : ∀ w os, (topFrom treeTable PySem.Challenge.pw_sr0006_01 w 1882 ⟨boot_heap w.params, Array.mk [], boot_drawn, boot_toks, os⟩).map (fun s => (openSeen view [] (importedModules PySem.Challenge.pw_sr0006_01.main.body) XtK true s, H.obs s)) = some (openGood view [], H.val w))
    (hw : (OpenLaw.row PySem.Challenge.rw_sr0006_01).toRowW.promised) {d : DefRec} {kwd : List (Str × Expr)} (hdef : defOf view (OpenLaw.row PySem.Challenge.rw_sr0006_01).name = some (d, kwd)) (hp : (OpenLaw.row PySem.Challenge.rw_sr0006_01).prog.theDef (OpenLaw.row PySem.Challenge.rw_sr0006_01).name = some (d.params, d.body, d.scope)) (hk : kwWritten? d.params.kwonlyargs d.params.kw_defaults = some kwd)
    (hc : WalkO view [] (XL view []) H.says (OpenLaw.row PySem.Challenge.rw_sr0006_01).toRowW d kwd fun f vs => PySem.call f vs) : (OpenLaw.row PySem.Challenge.rw_sr0006_01).Holds :=
  holds_open (Xt := XtK) (leftK H hl) H.of H.keeps (fun s e => xl_of s (Bool.and_eq_true_iff.mp e).1) XL.keeps hdef hp hk (fun s e => recFacts_of (Bool.and_eq_true_iff.mp e).2) (by rfl) said (by decide +kernel) ⟨rfl, rfl, rfl, rfl, rfl, by decide +kernel⟩ hw hc
section
local macro_rules | `(tactic| o_law) => `(tactic| refine holds_law saidK fun _ => ?_)
local macro_rules | `(tactic| o_head $H) => do
  let hw := Lean.mkIdent `hw
  `(tactic| refine headK (by assumption) $H (fun w os => by unfold topFrom; rw [PySem.W.Fast.te14082659384304107361, PySem.W.Fast.te14364793385576792824, PySem.W.Fast.te4187177175401517315]; kernel_rfl) ?$hw (by rfl) (by rfl) (by rfl) ?_)
open_top hd for PySem.Challenge.rw_sr0006_01
end
end Mine
end
section
open PySem PySem.W PyProof.Rows PySem.Calls PySem.Spec
namespace Mine
theorem lt_id {D : Addr} {news : List (Addr × Obj)} (h : ∀ p ∈ news, p.1 < D) : ∀ p ∈ news, p.1 < D := h
theorem rm0 {d a k R : Nat} (h : d + a < R) (hk : k ≤ a) : d + k < R := Nat.lt_of_le_of_lt (Nat.add_le_add_left hk d) h
theorem rm1 {d a b k R : Nat} (h : d + a < R) (hk : b + k ≤ a) : d + b + k < R := by rw [Nat.add_assoc]; exact rm0 h hk
theorem rm2 {d a R : Nat} (h : d + a < R) : d < R := Nat.lt_of_le_of_lt (Nat.le_add_right d a) h
theorem rm4 {d a R : Nat} (h : d + a < R) : d ≤ R := Nat.le_of_lt (rm2 h)
theorem le_lit {x a b : Nat} (h : x ≤ a) (k : a ≤ b) : x ≤ b := Nat.le_trans h k
theorem lt_lit {x a b : Nat} (h : x ≤ a) (k : a + 1 ≤ b) : x < b := Nat.lt_of_le_of_lt h k
theorem lt_get {D a : Addr} {o : Obj} {news : List (Addr × Obj)} (h : ∀ p ∈ news, p.1 < D) (m : (a, o) ∈ news) : @Ne Nat a D := Nat.ne_of_lt (h (a, o) m)
theorem lt_all {D : Addr} {news : List (Addr × Obj)} (h : ∀ p ∈ news, p.1 < D) : ∀ p ∈ news, p.1 ≠ D := fun p hp => Nat.ne_of_lt (h p hp)
theorem lt_up {D D' : Nat} {news : List (Addr × Obj)} (h : ∀ p ∈ news, p.1 < D) (k : D < D') : ∀ p ∈ news, p.1 < D' := fun p hp => Nat.lt_trans (h p hp) k
def AllNeA (r : Addr) (as : List Addr) : Prop := ∀ a ∈ as, @Ne Nat a r
theorem ana_get {r a : Addr} {as : List Addr} (h : AllNeA r as) (hm : a ∈ as) : @Ne Nat a r := h a hm
def KK (K : Flow → Shared → Prop) (f : Flow) (s : Shared) : Prop := K f s
def KOf (M : Model) (A : Around) (rest : List Stmt) (env : Env) (Q : Flow → Shared → Prop) (E : Value → Shared → Prop) (K : Flow → Shared → Prop) : Prop :=
  ∀ f s', (match f with | .next => wpAny M A (execs rest env) Q E s' | f => Q f s') → K f s'
section
variable {M : Model} {A : Around} {st : Stmt} {rest : List Stmt} {env : Env} {Q K : Flow → Shared → Prop} {E : Value → Shared → Prop} {s' : Shared} {v : Value}
theorem seqK {hp : Heap} {g : Array GenState} {d : Drawn} {tk : Nat} {o : OsState} (h : ∀ (K : Flow → Shared → Prop) (tk' : Nat), KOf M A rest env Q E K → wpAny M A (exec st env) (KK K) E ⟨hp, g, d, tk', o⟩) : wpAny M A (execs (st :: rest) env) Q E ⟨hp, g, d, tk, o⟩ :=
  wpAny_execs_cons (h _ tk fun _ _ x => x)
theorem seqK0 {s : Shared} (h : ∀ (K : Flow → Shared → Prop), KOf M A rest env Q E K → wpAny M A (exec st env) (KK K) E s) : wpAny M A (execs (st :: rest) env) Q E s :=
  wpAny_execs_cons (h _ fun _ _ x => x)
theorem genNil {hp : Heap} {g : Array GenState} {d : Drawn} {tk : Nat} {o : OsState} (h : ∀ tk', Q .next ⟨hp, g, d, tk', o⟩) : wpAny M A (execs [] env) Q E ⟨hp, g, d, tk, o⟩ := wpAny_execs_nil (h tk)
theorem kk_next (k : KOf M A rest env Q E K) (h : wpAny M A (execs rest env) Q E s') : KK K .next s' := k _ _ h
theorem kk_ret (k : KOf M A rest env Q E K) (h : Q (.ret v) s') : KK K (.ret v) s' := k _ _ h
theorem kk_brk (k : KOf M A rest env Q E K) (h : Q .brk s') : KK K .brk s' := k _ _ h
theorem kk_cont (k : KOf M A rest env Q E K) (h : Q .cont s') : KK K .cont s' := k _ _ h
end
theorem mI0 {α : Type} {x : α} {l : List α} : x ∈ x :: l := List.Mem.head _
theorem mI1 {α : Type} {x : α} {x0 : α} {l : List α} : x ∈ x0 :: x :: l := List.Mem.tail _ (List.Mem.head _)
theorem mI2 {α : Type} {x : α} {x0 x1 : α} {l : List α} : x ∈ x0 :: x1 :: x :: l := List.Mem.tail _ (List.Mem.tail _ (List.Mem.head _))
theorem mI3 {α : Type} {x : α} {x0 x1 x2 : α} {l : List α} : x ∈ x0 :: x1 :: x2 :: x :: l := List.Mem.tail _ (List.Mem.tail _ (List.Mem.tail _ (List.Mem.head _)))
theorem mI4 {α : Type} {x : α} {x0 x1 x2 x3 : α} {l : List α} : x ∈ x0 :: x1 :: x2 :: x3 :: x :: l := List.Mem.tail _ (List.Mem.tail _ (List.Mem.tail _ (List.Mem.tail _ (List.Mem.head _))))
theorem mI5 {α : Type} {x : α} {x0 x1 x2 x3 x4 : α} {l : List α} : x ∈ x0 :: x1 :: x2 :: x3 :: x4 :: x :: l := List.Mem.tail _ (List.Mem.tail _ (List.Mem.tail _ (List.Mem.tail _ (List.Mem.tail _ (List.Mem.head _)))))
theorem mI6 {α : Type} {x : α} {x0 x1 x2 x3 x4 x5 : α} {l : List α} : x ∈ x0 :: x1 :: x2 :: x3 :: x4 :: x5 :: x :: l := List.Mem.tail _ (List.Mem.tail _ (List.Mem.tail _ (List.Mem.tail _ (List.Mem.tail _ (List.Mem.tail _ (List.Mem.head _))))))
theorem mI7 {α : Type} {x : α} {x0 x1 x2 x3 x4 x5 x6 : α} {l : List α} : x ∈ x0 :: x1 :: x2 :: x3 :: x4 :: x5 :: x6 :: x :: l := List.Mem.tail _ (List.Mem.tail _ (List.Mem.tail _ (List.Mem.tail _ (List.Mem.tail _ (List.Mem.tail _ (List.Mem.tail _ (List.Mem.head _)))))))
theorem mI8 {α : Type} {x : α} {x0 x1 x2 x3 x4 x5 x6 x7 : α} {l : List α} : x ∈ x0 :: x1 :: x2 :: x3 :: x4 :: x5 :: x6 :: x7 :: x :: l := List.Mem.tail _ (List.Mem.tail _ (List.Mem.tail _ (List.Mem.tail _ (List.Mem.tail _ (List.Mem.tail _ (List.Mem.tail _ (List.Mem.tail _ (List.Mem.head _))))))))
theorem mI9 {α : Type} {x : α} {x0 x1 x2 x3 x4 x5 x6 x7 x8 : α} {l : List α} : x ∈ x0 :: x1 :: x2 :: x3 :: x4 :: x5 :: x6 :: x7 :: x8 :: x :: l := List.Mem.tail _ (List.Mem.tail _ (List.Mem.tail _ (List.Mem.tail _ (List.Mem.tail _ (List.Mem.tail _ (List.Mem.tail _ (List.Mem.tail _ (List.Mem.tail _ (List.Mem.head _)))))))))
theorem mI10 {α : Type} {x : α} {x0 x1 x2 x3 x4 x5 x6 x7 x8 x9 : α} {l : List α} : x ∈ x0 :: x1 :: x2 :: x3 :: x4 :: x5 :: x6 :: x7 :: x8 :: x9 :: x :: l := List.Mem.tail _ (List.Mem.tail _ (List.Mem.tail _ (List.Mem.tail _ (List.Mem.tail _ (List.Mem.tail _ (List.Mem.tail _ (List.Mem.tail _ (List.Mem.tail _ (List.Mem.tail _ (List.Mem.head _))))))))))
theorem mI11 {α : Type} {x : α} {x0 x1 x2 x3 x4 x5 x6 x7 x8 x9 x10 : α} {l : List α} : x ∈ x0 :: x1 :: x2 :: x3 :: x4 :: x5 :: x6 :: x7 :: x8 :: x9 :: x10 :: x :: l := List.Mem.tail _ (List.Mem.tail _ (List.Mem.tail _ (List.Mem.tail _ (List.Mem.tail _ (List.Mem.tail _ (List.Mem.tail _ (List.Mem.tail _ (List.Mem.tail _ (List.Mem.tail _ (List.Mem.tail _ (List.Mem.head _)))))))))))
theorem mS12 {α : Type} {x : α} {x0 x1 x2 x3 x4 x5 x6 x7 x8 x9 x10 x11 : α} {l : List α} (h : x ∈ l) : x ∈ x0 :: x1 :: x2 :: x3 :: x4 :: x5 :: x6 :: x7 :: x8 :: x9 :: x10 :: x11 :: l := List.Mem.tail _ (List.Mem.tail _ (List.Mem.tail _ (List.Mem.tail _ (List.Mem.tail _ (List.Mem.tail _ (List.Mem.tail _ (List.Mem.tail _ (List.Mem.tail _ (List.Mem.tail _ (List.Mem.tail _ (List.Mem.tail _ h)))))))))))
end Mine
end
section
open PySem PySem.W PyProof.Rows PySem.Calls PySem.Spec Mine
local macro_rules | `(tactic| walk_at $s:str) => `(tactic| (k_here; k_extra $s))
local macro_rules | `(tactic| ktr_unf) => `(tactic| k_extra "ktr_unf")
local macro_rules | `(tactic| k_room) => `(tactic| k_extra "k_room")
local macro_rules | `(tactic| k_units) => `(tactic| k_extra "k_units")
local macro_rules | `(tactic| k_lt $h:ident) => `(tactic| (replace $h := lt_id $h))
local macro_rules | `(tactic| k_lt2 $h:ident) => `(tactic| (replace $h := ltN $h; (try (have l9 := lt_up (by with_reducible assumption) $h))))
local macro_rules | `(tactic| k_ne) => `(tactic| (refine neN ?_; (try dsimp only); k_extra "k_ne"))
local macro_rules | `(tactic| k_all) => `(tactic| k_extra "k_all")
local macro_rules | `(tactic| k_mem) => `(tactic| k_extra "k_mem")
local macro_rules | `(tactic| k_memK) => `(tactic| k_extra "k_mem")
local macro_rules | `(tactic| omega) => `(tactic| k_extra "om")
theorem Mine.topOff : True ∧ True := by
  w_top off
  first | (walk1; done) | exact ⟨True.intro, True.intro⟩
section
open PySem PySem.W PyProof.Rows PySem.Calls PySem.Spec
namespace Mine


/-- the surroundings of a call: the caller's frame on top -/
noncomputable abbrev Am (dp un : Nat) (gd : Option (List Code)) (env : Env) (outer : List Env) : Around := { handled := none, depth := dp, frames := some (env :: outer), guards := gd, units := un }

/-- the end of a def's body: what stood and is not named stands -/
noncomputable def EndG (s : Shared) (args : List (Addr × Obj)) (g : Heap) (L' : Addr) (R : Value → Shared → Prop) (v : Value) (s' : Shared) : Prop :=
  ∃ m' news', Fr g L' s'.heap m' ∧ News g L' s'.heap news' ∧
    ((∀ b o, s.heap.get? b = some o → b ∉ args.map (·.1) → s'.heap.get? b = some o) → (∀ q ∈ args, s.heap.get? q.1 = some q.2) → (∀ q ∈ news', (∀ r ∈ args, r.1 ≠ q.1) → s.heap.get? q.1 = none) → R v s')

section
variable {prog : Program} {w : World} {A₀ A : Around} {E : Value → Shared → Prop} {s : Shared} {base h₀ : Heap} {outer : List Env} {L : Addr} {m : Str → Option Value} {env : Env} {news : List (Addr × Obj)} {K : Frag}
  {Q : Value → Shared → Prop} {name qual : Str} {params : Arguments} {body : List Stmt} {scope : Scope} {dV kV doc pm cdv ct oc : Value} {an od : Option Addr} {osl : Array (Option Value)} {f : Addr} {vals : List Value} {binds : List (Str × Value)}
  {p : Program} {loose : List Str} {mean : ExcName → Option Value} {mg mb : Str → Option Value}

theorem hideAll_or : ∀ (l : List Addr) {h : Heap} {b : Addr} {o : Obj}, h.get? b = some o → b ∉ l → (hideAll h l).get? b = some o := fun l _ _ _ e n => hideAll_get l e n

/-- what a body's end tells of the whole heap -/
theorem stays_after {h g h' : Heap} {L' : Addr} {m' : Str → Option Value} {args news' : List (Addr × Obj)} (G : ∀ b o, h.get? b = some o → b ∉ args.map (·.1) → g.get? b = some o)
    (Ha : ∀ q ∈ args, h.get? q.1 = some q.2) (F' : Fr g L' h' m') (N' : News g L' h' news') (hs : ∀ q ∈ args, q ∈ news') : h.StaysIn h' := by
  intro b o e
  by_cases hb : b ∈ args.map (·.1)
  · obtain ⟨q, hq, rfl⟩ := List.mem_map.mp hb
    have h1 := Ha q hq
    rw [e] at h1
    cases h1
    exact (N' q (hs q hq)).1
  · exact F'.keep b o (G b o e hb)

theorem fresh_after {h g h' : Heap} {L' : Addr} {args news' : List (Addr × Obj)} (G : ∀ b o, h.get? b = some o → b ∉ args.map (·.1) → g.get? b = some o)
    (N' : News g L' h' news') : ∀ q ∈ news', (∀ r ∈ args, r.1 ≠ q.1) → h.get? q.1 = none := by
  intro q hq hne
  cases e : h.get? q.1 with
  | none => rfl
  | some o =>
    have hb : q.1 ∉ args.map (·.1) := fun hb => by
      obtain ⟨r, hr, e'⟩ := List.mem_map.mp hb
      exact hne r hr e'
    have := G _ o e hb
    rw [(N' q hq).2.2] at this
    cases this

/-- the ground of a call: what stood is the base, but the named objects -/
theorem ground_of (B : Below A₀ base outer h₀) (F : Fr h₀ L s.heap m) (N : News h₀ L s.heap news) (hA : A.frames = some (env :: outer)) (hf : env.frame = some L) (hke : env.scope.kind = .function) :
    Below A base (env :: outer) (hideAll s.heap (news.map (·.1))) ∧ h₀.StaysIn (hideAll s.heap (news.map (·.1))) := by
  obtain ⟨_, b, c, _⟩ := groundX (R := fun _ _ => True) B F N hA hf hke
  exact ⟨b, c⟩

theorem enterP (B : Below A₀ base outer h₀) (F : Fr h₀ L s.heap m) (X₀ : K.In h₀) (N : News h₀ L s.heap news) (T : Top p loose mean mg mb h₀) (hA : A.frames = some (env :: outer)) (hf : env.frame = some L) (hke : env.scope.kind = .function)
    (ho : K.lookup f = some ⟨oc, od, .func (fnOf name qual params body scope dV kV doc pm an cdv ct), osl⟩) (hcd : codeIn K cdv qual = true) (hroom : A.depth < recursionLimit)
    (hbind : BindsTo s (fnOf name qual params body scope dV kV doc pm an cdv ct) ⟨vals, []⟩ binds) (hloc : ∀ y ∈ binds, scope.names.lookup y.1 = some .local)
    (h : ∀ g L' h₁, Fr g L' h₁ (fun y => binds.reverse.lookup y) → News g L' h₁ news → Below A base (env :: outer) g → K.In g → Top p loose mean mg mb g → (∀ q ∈ news, q.1 < L') →
      wpAny (model prog w) (A.deeper (envOf qual scope L' f cdv)) (execs body (envOf qual scope L' f cdv))
        (fun fl s' => EndG s news g L' Q (match fl with | .ret v => v | _ => .none) s') (fun _ _ => False) { s with heap := h₁, toks := s.toks + binds.length })
    (hco : scope.isCoroutine = false) (hgen : scope.isGenerator = false) (hk : scope.kind = .function)
    (hcell : ∀ x ∈ scope.names, x.2 ≠ .cell) : wpAny (model prog w) A (call (.ref f) vals) Q E s := by
  obtain ⟨BG, st⟩ := ground_of B F N hA hf hke
  refine wpAny_call (codeAny_call_def (fd := fnX name qual params body scope [] dV kV doc pm an cdv ct) (body := body) (binds := binds) hroom ((X₀.keeps F.keep) _ _ ho) rfl (T.nolimit.keeps F.keep) (codeRec_of (X₀.keeps F.keep) hcd) rfl hbind hcell hloc (fun h₁ hns hk₁ => ?_) hco hgen hk)
  refine wpAny_mono (h _ s.heap.objs.size h₁ ⟨hns, fun b o e => hk₁ b o (of_hideAll _ e), Nat.le_of_eq (hideAll_size _ _)⟩
    (fun q hq => ⟨hk₁ _ _ (N q hq).1, Nat.ne_of_lt (Heap.lt_size (N q hq).1), hideAll_none _ (List.mem_map_of_mem hq)⟩) BG (X₀.keeps st) (T.keeps st) (fun q hq => Heap.lt_size (N q hq).1)) (fun fl s' hl => ?_) fun _ _ y => y.elim
  obtain ⟨m', news', F', N', k⟩ := hl
  have G := fun (b : Addr) (o : Obj) (e : s.heap.get? b = some o) (n : b ∉ news.map (·.1)) => hideAll_get (news.map (·.1)) e n
  exact k (fun b o e n => F'.keep b o (G b o e n)) (fun q hq => (N q hq).1) (fresh_after G N')

theorem enterPC (B : Below A₀ base outer h₀) (F : Fr h₀ L s.heap m) (X₀ : K.In h₀) (N : News h₀ L s.heap news) (T : Top p loose mean mg mb h₀) (hA : A.frames = some (env :: outer)) (hf : env.frame = some L) (hke : env.scope.kind = .function)
    (ho : K.lookup f = some ⟨oc, od, .func (fnOf name qual params body scope dV kV doc pm an cdv ct), osl⟩) (hcd : codeIn K cdv qual = true) (hroom : A.depth < recursionLimit)
    (hbind : BindsTo s (fnOf name qual params body scope dV kV doc pm an cdv ct) ⟨vals, []⟩ binds) (hkind : (binds.all fun y => scope.names.lookup y.1 == some .local || scope.names.lookup y.1 == some .cell) = true)
    (hnd : ((cellsFrom 0 scope.names []).map (·.1)).Nodup)
    (h : ∀ g L' h₁ tk cells, Fr g L' h₁ (bindL (envOfC qual scope L' f cdv).kindOf binds fun _ => none) → News g L' h₁ (cells ++ news) →
      CellsAre (bindC (envOfC qual scope L' f cdv).kindOf binds fun _ => none) (cellsFrom (L' + 1) scope.names []) cells → Below A base (env :: outer) g → K.In g → Top p loose mean mg mb g → (∀ q ∈ news, q.1 < L') →
      wpAny (model prog w) (A.deeper (envOfC qual scope L' f cdv)) (execs body (envOfC qual scope L' f cdv))
        (fun fl s' => EndG s news g L' Q (match fl with | .ret v => v | _ => .none) s') (fun _ _ => False) { s with heap := h₁, toks := tk })
    (hco : scope.isCoroutine = false) (hgen : scope.isGenerator = false) (hk : scope.kind = .function) : wpAny (model prog w) A (call (.ref f) vals) Q E s := by
  obtain ⟨BG, st⟩ := ground_of B F N hA hf hke
  have hlim := T.nolimit.keeps F.keep
  refine wpAny_call (codeAny_call_function (fd := fnX name qual params body scope [] dV kV doc pm an cdv ct) hroom ((X₀.keeps F.keep) _ _ ho) rfl hco hgen rfl (codeRec_of (X₀.keeps F.keep) hcd) (hbind _ _ _ _ ?_))
  refine wpAny_newFunctionEnv_cells hk (kindsX hkind _) fun env' he s' x => ?_
  subst he
  have hk₁ := x.toInCall.keep
  refine ⟨hlim.keeps hk₁, codeAny_func ?_⟩
  obtain ⟨h₁, tk, rfl, _⟩ := x.done
  obtain ⟨cells, NC, Y⟩ := Cl.news (h₀ := s.heap) (Nat.le_refl _) fun n c hm => ⟨x.cell n c (lookup_of_mem_nodup (cellsFrom_names scope.names 0 (s.heap.objs.size + 1) [] [] rfl ▸ hnd) hm), x.above n c hm⟩
  refine wpAny_mono (h _ s.heap.objs.size h₁ tk cells ⟨x.toInCall.ns, fun b o e => hk₁ b o (of_hideAll _ e), Nat.le_of_eq (hideAll_size _ _)⟩ (fun q hq => ?_) Y BG (X₀.keeps st) (T.keeps st) (fun q hq => Heap.lt_size (N q hq).1)) (fun fl s' hl => ?_) fun _ _ y => y.elim
  · rcases List.mem_append.mp hq with hq | hq
    · refine ⟨(NC q hq).1, (NC q hq).2.1, ?_⟩
      cases e : (hideAll s.heap (news.map (·.1))).get? q.1 with
      | none => rfl
      | some o => have := of_hideAll _ e; rw [(NC q hq).2.2] at this; cases this
    · exact ⟨hk₁ _ _ (N q hq).1, Nat.ne_of_lt (Heap.lt_size (N q hq).1), hideAll_none _ (List.mem_map_of_mem hq)⟩
  · obtain ⟨m', news', F', N', k⟩ := hl
    have G := fun (b : Addr) (o : Obj) (e : s.heap.get? b = some o) (n : b ∉ news.map (·.1)) => hideAll_get (news.map (·.1)) e n
    exact k (fun b o e n => F'.keep b o (G b o e n)) (fun q hq => (N q hq).1) (fresh_after G N')

/-- a pure def that hands back something new -/
theorem end_new {args : List (Addr × Obj)} {g h' : Heap} {L' D : Addr} {m' : Str → Option Value} {news' : List (Addr × Obj)} {o : Obj} {tk : Nat} {R : Value → Shared → Prop} (F' : Fr g L' h' m') (N' : News g L' h' news') (ha : ∀ q ∈ args, q ∈ news') (hD : (D, o) ∈ news')
    (hne : ∀ q ∈ args, q.1 ≠ D) (k : s.heap.StaysIn h' → s.heap.get? D = none → h'.get? D = some o → R (.ref D) { s with heap := h', toks := tk }) : EndG s args g L' R (.ref D) { s with heap := h', toks := tk } := by
  refine ⟨m', news', F', N', fun a b c => k (fun x o e => ?_) (c _ hD hne) (N' _ hD).1⟩
  by_cases hx : x ∈ args.map (·.1)
  · obtain ⟨q, hq, rfl⟩ := List.mem_map.mp hx
    have h1 := b q hq
    rw [e] at h1
    cases h1
    exact (N' q (ha q hq)).1
  · exact a x o e hx
/-- a pure def that makes several new objects -/
theorem end_many {args new : List (Addr × Obj)} {g h' : Heap} {L' : Addr} {m' : Str → Option Value} {news' : List (Addr × Obj)} {tk : Nat} {R : Value → Shared → Prop} {v : Value} (F' : Fr g L' h' m') (N' : News g L' h' news') (ha : ∀ q ∈ args, q ∈ news') (hD : ∀ q ∈ new, q ∈ news')
    (hne : ∀ p ∈ new, ∀ q ∈ args, q.1 ≠ p.1) (k : s.heap.StaysIn h' → (∀ q ∈ new, s.heap.get? q.1 = none ∧ h'.get? q.1 = some q.2) → R v { s with heap := h', toks := tk }) : EndG s args g L' R v { s with heap := h', toks := tk } := by
  refine ⟨m', news', F', N', fun a b c => k (fun x o e => ?_) fun q hq => ⟨c _ (hD q hq) (hne q hq), (N' _ (hD q hq)).1⟩⟩
  by_cases hx : x ∈ args.map (·.1)
  · obtain ⟨q, hq, rfl⟩ := List.mem_map.mp hx
    have h1 := b q hq
    rw [e] at h1
    cases h1
    exact (N' q (ha q hq)).1
  · exact a x o e hx
/-- a pure def that hands back a plain value -/
theorem end_val {args : List (Addr × Obj)} {g h' : Heap} {L' : Addr} {m' : Str → Option Value} {news' : List (Addr × Obj)} {tk : Nat} {R : Value → Shared → Prop} {v : Value} (F' : Fr g L' h' m') (N' : News g L' h' news') (ha : ∀ q ∈ args, q ∈ news')
    (k : s.heap.StaysIn h' → R v { s with heap := h', toks := tk }) : EndG s args g L' R v { s with heap := h', toks := tk } := by
  refine ⟨m', news', F', N', fun a b c => k (fun x o e => ?_)⟩
  by_cases hx : x ∈ args.map (·.1)
  · obtain ⟨q, hq, rfl⟩ := List.mem_map.mp hx
    have h1 := b q hq
    rw [e] at h1
    cases h1
    exact (N' q (ha q hq)).1
  · exact a x o e hx

/-- a def that turns the first of the named objects -/
theorem end_upd {args : List (Addr × Obj)} {d : Addr} {o o' : Obj} {g h' : Heap} {L' : Addr} {m' : Str → Option Value} {news' : List (Addr × Obj)} {tk : Nat} {R : Value → Shared → Prop} {v : Value} (F' : Fr g L' h' m') (N' : News g L' h' news') (hd : (d, o') ∈ news') (ha : ∀ q ∈ args, q ∈ news')
    (k : (∀ b x, b ≠ d → s.heap.get? b = some x → h'.get? b = some x) → h'.get? d = some o' → R v { s with heap := h', toks := tk }) : EndG s ((d, o) :: args) g L' R v { s with heap := h', toks := tk } := by
  refine ⟨m', news', F', N', fun a b _ => k (fun x y hx e => ?_) (N' _ hd).1⟩
  by_cases hm : x ∈ args.map (·.1)
  · obtain ⟨q, hq, rfl⟩ := List.mem_map.mp hm
    have h1 := b q (.tail _ hq)
    rw [e] at h1
    cases h1
    exact (N' q (ha q hq)).1
  · refine a x y e fun hmem => ?_
    rcases List.mem_cons.mp hmem with h | h
    · exact hx h
    · exact hm h

/-- what a caller takes from a callee that made something new -/
theorem took_new {h' : Heap} {D : Addr} {o : Obj} (F : Fr h₀ L s.heap m) (N : News h₀ L s.heap news) (k : s.heap.StaysIn h') (hn : s.heap.get? D = none) (hD : h'.get? D = some o) :
    Fr h₀ L h' m ∧ News h₀ L h' ((D, o) :: news) ∧ ∀ q ∈ news, q.1 ≠ D := by
  refine ⟨F.keeps k, fun q hq => ?_, fun q hq e => ?_⟩
  · rcases List.mem_cons.mp hq with rfl | hq
    · refine ⟨hD, fun e => ?_, ?_⟩
      · obtain ⟨oL, _, _, hL, _⟩ := F.ns
        rw [show D = L from e] at hn; rw [hn] at hL; cases hL
      · cases e : h₀.get? D with
        | none => rfl
        | some o' => have := F.keep _ _ e; rw [hn] at this; cases this
    · exact ⟨k _ _ (N q hq).1, (N q hq).2⟩
  · have := (N q hq).1
    rw [e, hn] at this; cases this
theorem took_many {h' : Heap} {new : List (Addr × Obj)} (F : Fr h₀ L s.heap m) (N : News h₀ L s.heap news) (k : s.heap.StaysIn h') (hn : ∀ q ∈ new, s.heap.get? q.1 = none ∧ h'.get? q.1 = some q.2) :
    Fr h₀ L h' m ∧ News h₀ L h' (new ++ news) ∧ ∀ p ∈ new, ∀ q ∈ news, q.1 ≠ p.1 := by
  refine ⟨F.keeps k, fun q hq => ?_, fun p hp q hq e => ?_⟩
  · rcases List.mem_append.mp hq with hq | hq
    · refine ⟨(hn q hq).2, fun e => ?_, ?_⟩
      · obtain ⟨oL, _, _, hL, _⟩ := F.ns
        have h9 := (hn q hq).1
        rw [show q.1 = L from e] at h9; rw [h9] at hL; cases hL
      · cases e : h₀.get? q.1 with
        | none => rfl
        | some o' => have := F.keep _ _ e; rw [(hn q hq).1] at this; cases this
    · exact ⟨k _ _ (N q hq).1, (N q hq).2⟩
  · have := (N q hq).1
    rw [e, (hn p hp).1] at this; cases this
theorem took_val {h' : Heap} (F : Fr h₀ L s.heap m) (N : News h₀ L s.heap news) (k : s.heap.StaysIn h') : Fr h₀ L h' m ∧ News h₀ L h' news := ⟨F.keeps k, fun q hq => ⟨k _ _ (N q hq).1, (N q hq).2⟩⟩
/-- what a caller takes from a callee that turned one object -/
theorem took_upd {h' : Heap} {d : Addr} {o o' : Obj} {g : Obj → List (Addr × Obj)} (F : Fr h₀ L s.heap m) (N : News h₀ L s.heap news) (U : UpdF d o news g) (k : ∀ b o, b ≠ d → s.heap.get? b = some o → h'.get? b = some o) (hD : h'.get? d = some o') :
    Fr h₀ L h' m ∧ News h₀ L h' (g o') := by
  obtain ⟨pre, post, rfl, hg, a, b⟩ := U.split
  have hm := N (d, o) (List.mem_append_right _ (.head _))
  rw [hg]
  refine ⟨⟨F.ns.at' fun x e => k _ x hm.2.1.symm e, fun x ox e => k x ox (fun q => ?_) (F.keep x ox e), F.above⟩, fun q hq => ?_⟩
  · have h9 := hm.2.2
    rw [show (d, o).1 = x from q.symm] at h9
    rw [h9] at e; cases e
  · rcases List.mem_append.mp hq with hq | hq
    · exact ⟨k _ _ (a q hq) (N q (List.mem_append_left _ hq)).1, (N q (List.mem_append_left _ hq)).2⟩
    · rcases List.mem_cons.mp hq with rfl | hq
      · exact ⟨hD, hm.2⟩
      · exact ⟨k _ _ (b q hq) (N q (List.mem_append_right _ (.tail _ hq))).1, (N q (List.mem_append_right _ (.tail _ hq))).2⟩
end
end Mine
end
section
open PySem PySem.W PyProof.Rows PySem.Calls PySem.Spec
namespace Mine
open PySem.Builtin PySem.Builtin.Str PySem.StrLaws

theorem str_eq {x y : Str} (h : x.cps.toList = y.cps.toList) : x = y := PySem.Str.ext' (Array.toList_inj.mp h)

/-- a stroke laid ahead of each sign c -/
noncomputable def esc (c : Nat) (l : List Nat) : List Nat := l.flatMap fun d => if d = c then [92, c] else [d]
theorem esc_append (c : Nat) (a b : List Nat) : esc c (a ++ b) = esc c a ++ esc c b := by simp [esc]
theorem esc_free (c : Nat) : ∀ l : List Nat, c ∉ l → esc c l = l
  | [], _ => rfl
  | k :: r, h => by
    have h1 : ¬ k = c := fun e => h (e ▸ List.mem_cons_self ..)
    have ih := esc_free c r fun m => h (List.mem_cons_of_mem _ m)
    show (if k = c then [92, c] else [k]) ++ esc c r = _
    rw [if_neg h1, ih]; rfl
theorem esc_join (c : Nat) : ∀ parts : List Str, (∀ p ∈ parts, c ∉ p.cps.toList) → esc c (Str.join ⟨#[c]⟩ parts).cps.toList = (Str.join ⟨#[92, c]⟩ parts).cps.toList
  | [], _ => rfl
  | [p], h => esc_free c _ (h p (List.mem_singleton.mpr rfl))
  | p :: q :: r, h => by
    have ih := esc_join c (q :: r) fun a ha => h a (List.mem_cons_of_mem _ ha)
    show esc c (p ++ ⟨#[c]⟩ ++ Str.join ⟨#[c]⟩ (q :: r)).cps.toList = (p ++ ⟨#[92, c]⟩ ++ Str.join ⟨#[92, c]⟩ (q :: r)).cps.toList
    simp only [Str.cps_append, Array.toList_append]
    rw [esc_append, esc_append, ih, esc_free c _ (h p (List.mem_cons_self ..))]
    simp [esc]
theorem replace_esc (x : Str) (c : Nat) : Txt.replace x ⟨#[c]⟩ ⟨#[92, c]⟩ = ⟨(esc c x.cps.toList).toArray⟩ := by
  apply str_eq
  rw [replace_one, ← esc_join c _ (split_free x c), join_split]
theorem esc_length (c : Nat) : ∀ l : List Nat, (esc c l).length ≤ 2 * l.length
  | [] => Nat.le_refl _
  | k :: r => by
    have ih := esc_length c r
    show ((if k = c then [92, c] else [k]) ++ esc c r).length ≤ _
    rw [List.length_append, List.length_cons]
    split <;> simp <;> omega

/-- the places of a sign, up to so many -/
noncomputable def occL (c : Nat) : Nat → List Nat → Nat → List Nat
  | _, [], _ => []
  | i, d :: r, k => if d = c ∧ 0 < k then i :: occL c (i + 1) r (k - 1) else occL c (i + 1) r k
theorem occ_run (x : Str) (c limit : Nat) : ∀ (rest pre : List Nat) (st : Array Nat × Nat), x.cps.toList = pre ++ rest → st.2 ≤ pre.length → st.1.size ≤ limit →
    (forIn (List.range' pre.length (rest.length + 1)) st (occBody x ⟨#[c]⟩ x.length limit)).run.fst.toList = st.1.toList ++ occL c pre.length rest (limit - st.1.size) := by
  intro rest
  induction rest with
  | nil =>
    intro pre st hx hf hs
    have hn : ¬ (pre.length + (⟨#[c]⟩ : Str).length ≤ x.length ∧ subAt x ⟨#[c]⟩ pre.length = true) := by
      rw [subAt_one, hx]; simp
    show (forIn [pre.length] st (occBody x ⟨#[c]⟩ x.length limit)).run.fst.toList = _
    rw [List.forIn_cons]
    unfold occBody
    rw [if_neg (fun h => hn ⟨h.1.2, h.2⟩)]
    simp [occL]
  | cons d r ih =>
    intro pre st hx hf hs
    have hd : x.cps.toList[pre.length]? = some d := by rw [hx]; simp
    rw [List.length_cons, List.range'_succ, List.forIn_cons]
    have hx' : x.cps.toList = (pre ++ [d]) ++ r := by rw [hx]; simp
    have hl : (pre ++ [d]).length = pre.length + 1 := by simp
    by_cases hc : d = c ∧ 0 < limit - st.1.size
    · have h1 := (subAt_one x c pre.length).mpr (hc.1 ▸ hd)
      have hb : occBody x ⟨#[c]⟩ x.length limit pre.length st = pure (ForInStep.yield (st.1.push pre.length, pre.length + 1)) := by
        unfold occBody
        rw [if_pos ⟨⟨⟨by omega, hf⟩, h1.1⟩, h1.2⟩]
        rfl
      rw [hb]
      have := ih (pre ++ [d]) (st.1.push pre.length, pre.length + 1) hx' (by simp) (by simp; omega)
      rw [hl] at this
      show (forIn (List.range' (pre.length + 1) (r.length + 1)) (st.1.push pre.length, pre.length + 1) (occBody x ⟨#[c]⟩ x.length limit)).run.fst.toList = _
      rw [this]
      simp only [occL, if_pos hc, Array.toList_push, Array.size_push, List.append_assoc, List.singleton_append]
      rw [show limit - (st.1.size + 1) = limit - st.1.size - 1 by omega]
    · have hb : occBody x ⟨#[c]⟩ x.length limit pre.length st = pure (ForInStep.yield (st.1, st.2)) := by
        unfold occBody
        rw [if_neg]
        intro h
        have := (subAt_one x c pre.length).mp ⟨h.1.2, h.2⟩
        rw [hd] at this
        exact hc ⟨Option.some.inj this, by omega⟩
      rw [hb]
      have := ih (pre ++ [d]) (st.1, st.2) hx' (by simp; omega) hs
      rw [hl] at this
      show (forIn (List.range' (pre.length + 1) (r.length + 1)) (st.1, st.2) (occBody x ⟨#[c]⟩ x.length limit)).run.fst.toList = _
      rw [this]
      simp only [occL, if_neg hc]
theorem occ_is (x : Str) (c limit : Nat) : occurrences x ⟨#[c]⟩ 0 x.length limit = occL c 0 x.cps.toList limit := by
  rw [occ_eq]
  have := occ_run x c limit x.cps.toList [] (#[], 0) rfl (Nat.le_refl _) (Nat.zero_le _)
  simpa [Str.length] using this
theorem occL_skip (c : Nat) : ∀ (a rest : List Nat) (i k : Nat), c ∉ a → occL c i (a ++ rest) k = occL c (i + a.length) rest k
  | [], _, _, _, _ => rfl
  | d :: a, rest, i, k, h => by
    have h1 : ¬ (d = c ∧ 0 < k) := fun e => h (e.1 ▸ List.mem_cons_self ..)
    show occL c i (d :: (a ++ rest)) k = _
    rw [occL, if_neg h1, occL_skip c a rest (i + 1) k fun m => h (List.mem_cons_of_mem _ m), List.length_cons]
    congr 1
    omega
theorem occL_zero (c : Nat) : ∀ (rest : List Nat) (i : Nat), occL c i rest 0 = []
  | [], _ => rfl
  | d :: r, i => by rw [occL, if_neg (fun h => absurd h.2 (Nat.lt_irrefl _)), occL_zero c r]

/-- two ticks cut a text in three -/
theorem split_two {a b c : List Nat} (ha : 39 ∉ a) (hb : 39 ∉ b) : Txt.splitMax ⟨(a ++ 39 :: (b ++ 39 :: c)).toArray⟩ ⟨#[39]⟩ 2 = [⟨a.toArray⟩, ⟨b.toArray⟩, ⟨c.toArray⟩] := by
  have ho : occurrences ⟨(a ++ 39 :: (b ++ 39 :: c)).toArray⟩ ⟨#[39]⟩ 0 (⟨(a ++ 39 :: (b ++ 39 :: c)).toArray⟩ : Str).length 2 = [a.length, a.length + 1 + b.length] := by
    rw [occ_is]
    show occL 39 0 (a ++ 39 :: (b ++ 39 :: c)) 2 = _
    rw [occL_skip 39 a _ 0 2 ha, occL, if_pos ⟨rfl, by decide⟩, occL_skip 39 b _ _ _ hb, occL, if_pos ⟨rfl, by decide⟩, occL_zero]
    simp
  unfold Txt.splitMax
  have hk : (decide ((⟨(a ++ 39 :: (b ++ 39 :: c)).toArray⟩ : Str).length < (⟨#[39]⟩ : Str).length) || decide (Str.strKind ⟨(a ++ 39 :: (b ++ 39 :: c)).toArray⟩ < Str.strKind ⟨#[39]⟩)) = false := by
    rw [Bool.or_eq_false_iff]
    refine ⟨decide_eq_false ?_, decide_eq_false ?_⟩
    · simp [Str.length]
    · have : Str.strKind ⟨#[39]⟩ = 1 := by decide +kernel
      rw [this]
      unfold Str.strKind
      split
      · omega
      · split <;> omega
  rw [if_neg (by rw [hk]; decide)]
  have h2 : limitOf ⟨(a ++ 39 :: (b ++ 39 :: c)).toArray⟩ 2 = 2 := by unfold limitOf; rfl
  rw [h2, ho, if_neg (by simp)]
  rw [partsBetween]
  simp only [List.map_cons, List.map_nil, List.cons_append, List.nil_append, List.zip_cons_cons, List.zip_nil_right, List.cons.injEq, and_true]
  refine ⟨str_eq ?_, str_eq ?_, str_eq ?_⟩
  · rw [strSub_toList]; simp
  · rw [strSub_toList]
    show ((a ++ 39 :: (b ++ 39 :: c)).drop (a.length + 1)).take (a.length + 1 + b.length - (a.length + 1)) = b
    rw [show a.length + 1 + b.length - (a.length + 1) = b.length by omega, List.drop_append, List.drop_eq_nil_of_le (by omega)]
    simp
  · rw [strSub_toList]
    show ((a ++ 39 :: (b ++ 39 :: c)).drop (a.length + 1 + b.length + 1)).take _ = c
    rw [List.drop_append, List.drop_eq_nil_of_le (by omega), show a.length + 1 + b.length + 1 - a.length = (b.length + 1) + 1 by omega, List.nil_append, List.drop_succ_cons, List.drop_append, List.drop_eq_nil_of_le (by omega)]
    rw [show b.length + 1 - b.length = 1 by omega, List.nil_append, List.drop_succ_cons, List.drop_zero]
    apply List.take_of_length_le
    simp [Str.length]
    omega
end Mine
end
section
open PySem PySem.W PyProof.Rows PySem.Calls PySem.Spec
namespace Mine

/-- the end of a turn -/
noncomputable def LEnd {σ : Type} (h₀ : Heap) (L : Addr) (s : Shared) (Led : σ → List (Addr × Obj)) (ps : σ → List (Str × Value)) (P : σ → Prop) (s₂ : Shared) : Prop :=
  ∃ (c : σ) (h' : Heap) (tk : Nat) (m' : Str → Option Value) (news' : List (Addr × Obj)), s₂ = { s with heap := h', toks := tk } ∧ Fr h₀ L h' m' ∧ News h₀ L h' news' ∧ (∀ q ∈ Led c, q ∈ news') ∧ (∀ q ∈ ps c, m' q.1 = some q.2) ∧ P c
noncomputable def LPost {σ : Type} (h₀ : Heap) (L : Addr) (s : Shared) (Led : σ → List (Addr × Obj)) (ps : σ → List (Str × Value)) (P : σ → Prop) (Q : Flow → Shared → Prop) (f : Flow) (s₂ : Shared) : Prop :=
  match f with
  | .ret v => Q (.ret v) s₂
  | .brk => Q .next s₂
  | _ => LEnd h₀ L s Led ps P s₂

theorem lend {σ : Type} {h₀ h' : Heap} {L : Addr} {s : Shared} {Led : σ → List (Addr × Obj)} {ps : σ → List (Str × Value)} {P : σ → Prop} {Q : Flow → Shared → Prop} {m' : Str → Option Value} {news' : List (Addr × Obj)} {tk : Nat} (c : σ)
    (F : Fr h₀ L h' m') (N : News h₀ L h' news') (hn : ∀ q ∈ Led c, q ∈ news') (hk : ∀ q ∈ ps c, m' q.1 = some q.2) (hp : P c) : LPost h₀ L s Led ps P Q .next { s with heap := h', toks := tk } :=
  ⟨c, h', tk, m', news', rfl, F, N, hn, hk, hp⟩
theorem lcont {σ : Type} {h₀ h' : Heap} {L : Addr} {s : Shared} {Led : σ → List (Addr × Obj)} {ps : σ → List (Str × Value)} {P : σ → Prop} {Q : Flow → Shared → Prop} {m' : Str → Option Value} {news' : List (Addr × Obj)} {tk : Nat} (c : σ)
    (F : Fr h₀ L h' m') (N : News h₀ L h' news') (hn : ∀ q ∈ Led c, q ∈ news') (hk : ∀ q ∈ ps c, m' q.1 = some q.2) (hp : P c) : LPost h₀ L s Led ps P Q .cont { s with heap := h', toks := tk } :=
  ⟨c, h', tk, m', news', rfl, F, N, hn, hk, hp⟩
theorem never_passes {M : Model} {A : Around} {env : Env} {E : Value → Shared → Prop} (hE : ∀ e s', E e s' → False) : PassesOwn M A env E := fun e s' h => (hE e s' h).elim

theorem kstB_of {ps : List (Str × Value)} {m : Str → Option Value} (h : ∀ q ∈ ps, m q.1 = some q.2) : kstB m ps = m := funext fun _ => kstB_eq h fun _ => rfl

section
variable {prog : Program} {w : World} {A : Around} {E : Value → Shared → Prop} {Q : Flow → Shared → Prop} {s : Shared} {env : Env} {h₀ : Heap} {L : Addr}

theorem my_while {σ : Type} {test : Expr} {body : List Stmt} {pos : Pos} {m₀ : Str → Option Value} {news : List (Addr × Obj)} (Led : σ → List (Addr × Obj)) (ps : σ → List (Str × Value)) (P : σ → Prop) (μ : σ → Nat) (c₀ : σ)
    (F : Fr h₀ L s.heap m₀) (N : News h₀ L s.heap news) (hn : ∀ q ∈ Led c₀, q ∈ news) (hk : ∀ q ∈ ps c₀, m₀ q.1 = some q.2) (hp : P c₀)
    (turn : ∀ (c : σ) (u : Str → Option Value) h (tk : Nat), s.toks ≤ tk → P c → Fr h₀ L h (kstB u (ps c)) → News h₀ L h (Led c) →
      wpAny (model prog w) A (isTrue test env (eval test env)) (fun b s₂ =>
        if b = true then wpAny (model prog w) A (execs body env) (LPost h₀ L s Led ps (fun c' => P c' ∧ μ c' < μ c) Q) E s₂ else Q .next s₂) E { s with heap := h, toks := tk })
    (hE : ∀ e s', E e s' → False) :
    wpAny (model prog w) A (exec (.While test body [] pos) env) Q E s := by
  refine wpAny_While (codeAny_whileLoop (fun n s' => ∃ (c : σ) (h' : Heap) (tk : Nat) (m' : Str → Option Value) (news' : List (Addr × Obj)), s' = { s with heap := h', toks := tk } ∧ s.toks ≤ tk ∧ Fr h₀ L h' m' ∧ News h₀ L h' news' ∧ (∀ q ∈ Led c, q ∈ news') ∧ (∀ q ∈ ps c, m' q.1 = some q.2) ∧ P c ∧ μ c = n) ?_ (μ c₀)
    ⟨c₀, s.heap, s.toks, m₀, news, rfl, Nat.le_refl _, F, N, hn, hk, hp, rfl⟩)
  rintro n s' ⟨c, h', tk, m', news', rfl, htk, F', N', hn', hk', hp', rfl⟩
  have no : ∀ e s', E e s' → notedBy (model prog w) A env (fun e s' => cameBackBy (model prog w) A env E e s') e s' := fun e s' x => (hE e s' x).elim
  refine wpAny_mono (wpAny_toks_of (n := s.toks) htk (turn c m' h' tk htk hp' (by rw [kstB_of hk']; exact F') (cb_drop N' hn'))) (fun b s₂ p => ?_) fun e s' x => no e s' x.2
  obtain ⟨ht2, p⟩ := p
  cases b with
  | false =>
    simp only [Bool.false_eq_true, if_false] at p ⊢
    exact wpAny_execs_nil p
  | true =>
    simp only [if_true] at p ⊢
    refine wpAny_mono (wpAny_toks_of (n := s.toks) ht2 p) (fun f s₃ q => ?_) fun e s' x => no e s' x.2
    obtain ⟨ht3, q⟩ := q
    cases f with
    | ret v => exact q
    | brk => exact q
    | next =>
      obtain ⟨c', h', tk', m', news', rfl, F', N', hn', hk', hp9, hm9⟩ := q
      exact ⟨μ c', hm9, c', h', tk', m', news', rfl, ht3, F', N', hn', hk', hp9, rfl⟩
    | cont =>
      obtain ⟨c', h', tk', m', news', rfl, F', N', hn', hk', hp9, hm9⟩ := q
      exact ⟨μ c', hm9, c', h', tk', m', news', rfl, ht3, F', N', hn', hk', hp9, rfl⟩

/-- a for over an iterator that the ledger bears -/
noncomputable def ForAt (prog : Program) (w : World) (A : Around) (h₀ : Heap) (env : Env) (target : Expr) (body : List Stmt) (Q : Flow → Shared → Prop) (E : Value → Shared → Prop) (it : Value) (s : Shared) : Prop :=
  ∃ (σ : Type) (Led : σ → List (Addr × Obj)) (ps : σ → List (Str × Value)) (P : σ → Prop) (μ : σ → Nat) (c₀ : σ) (m₀ : Str → Option Value) (news : List (Addr × Obj)),
    Fr h₀ env.locals s.heap m₀ ∧ News h₀ env.locals s.heap news ∧ (∀ q ∈ Led c₀, q ∈ news) ∧ (∀ q ∈ ps c₀, m₀ q.1 = some q.2) ∧ P c₀ ∧
    ∀ (c : σ) (u : Str → Option Value) h (tk : Nat), s.toks ≤ tk → P c → Fr h₀ env.locals h (kstB u (ps c)) → News h₀ env.locals h (Led c) →
      wpAny (model prog w) A (pyNext it) (fun r s₁ => match r with
        | none => Q .next s₁
        | some v => wpAny (model prog w) A (letOwnedTupleGo target it v) (fun _ s₂ => wpAny (model prog w) A (assign target env v) (fun _ s₃ =>
            wpAny (model prog w) A (execs body env) (LPost h₀ env.locals s Led ps (fun c' => P c' ∧ μ c' < μ c) Q) E s₃) E s₂) E s₁) E { s with heap := h, toks := tk }

theorem my_for {target iter : Expr} {body : List Stmt} {pos : Pos} {m₀ : Str → Option Value} (_F₀ : Fr h₀ env.locals s.heap m₀)
    (h : wpAny (model prog w) A (eval iter env) (fun xv s₁ => wpAny (model prog w) A (pyIter xv) (fun it s₂ => ForAt prog w A h₀ env target body Q E it s₂) E s₁) E s)
    (hs : ∀ x, foldedSetIterable iter env x = pure x) (hE : ∀ e s', E e s' → False) :
    wpAny (model prog w) A (exec (.For target iter body [] pos) env) Q E s := by
  have hE2 : ∀ e s', E e s' → cameBackBy (model prog w) A env E e s' := fun e s' x => (hE e s' x).elim
  refine wpAny_For (wpAny_mono h (fun xv s₁ h₁ => wpAny_mono h₁ (fun it s₂ h₂ => ?_) fun _ _ e => e) fun _ _ e => e) hs
  obtain ⟨σ, Led, ps, P, μ, c₀, m₀, news, F, N, hn, hk, hp, turn⟩ := h₂
  refine codeAny_forLoop_any (fun n s' => ∃ (c : σ) (h' : Heap) (tk : Nat) (m' : Str → Option Value) (news' : List (Addr × Obj)), s' = { s₂ with heap := h', toks := tk } ∧ s₂.toks ≤ tk ∧ Fr h₀ env.locals h' m' ∧ News h₀ env.locals h' news' ∧ (∀ q ∈ Led c, q ∈ news') ∧ (∀ q ∈ ps c, m' q.1 = some q.2) ∧ P c ∧ μ c = n) ?_ (μ c₀)
    ⟨c₀, s₂.heap, s₂.toks, m₀, news, rfl, Nat.le_refl _, F, N, hn, hk, hp, rfl⟩
  rintro n s' ⟨c, h', tk, m', news', rfl, htk, F', N', hn', hk', hp', rfl⟩
  have no : ∀ e s', E e s' → notedBy (model prog w) A env (fun e s' => cameBackBy (model prog w) A env E e s') e s' := fun e s' x => (hE e s' x).elim
  refine wpAny_mono (wpAny_toks_of (n := s₂.toks) htk (turn c m' h' tk htk hp' (by rw [kstB_of hk']; exact F') (cb_drop N' hn'))) (fun r s₁ p => ?_) fun e s' x => no e s' x.2
  obtain ⟨ht1, p⟩ := p
  cases r with
  | none => exact wpAny_execs_nil p
  | some v =>
    refine wpAny_mono (wpAny_toks_of (n := s₂.toks) ht1 p) (fun _ s₃ p => ?_) fun e s' x => no e s' x.2
    refine wpAny_mono (wpAny_toks_of (n := s₂.toks) p.1 p.2) (fun _ s₄ p => ?_) fun e s' x => no e s' x.2
    refine wpAny_mono (wpAny_toks_of (n := s₂.toks) p.1 p.2) (fun f s₅ q => ?_) fun e s' x => no e s' x.2
    obtain ⟨ht5, q⟩ := q
    cases f with
    | ret v => exact q
    | brk => exact q
    | next =>
      obtain ⟨c', h', tk', m', news', rfl, F', N', hn', hk', hp9, hm9⟩ := q
      exact ⟨μ c', hm9, c', h', tk', m', news', rfl, ht5, F', N', hn', hk', hp9, rfl⟩
    | cont =>
      obtain ⟨c', h', tk', m', news', rfl, F', N', hn', hk', hp9, hm9⟩ := q
      exact ⟨μ c', hm9, c', h', tk', m', news', rfl, ht5, F', N', hn', hk', hp9, rfl⟩

theorem no_letgo {x : Str} {px : Pos} {it v : Value} {Q : Unit → Shared → Prop} (h : Q () s) : wpAny (model prog w) A (letOwnedTupleGo (.Name x px) it v) Q E s := wpAny_pure h
theorem assign_name {x : Str} {px : Pos} {v : Value} {Q : Unit → Shared → Prop} (h : wpAny (model prog w) A (storeName env x v) Q E s) : wpAny (model prog w) A (assign (.Name x px) env v) Q E s := wpAny_assign_Name h
end

section
variable {prog : Program} {w : World} {A : Around} {E : Value → Shared → Prop} {s : Shared} {h₀ : Heap} {L it l d : Addr} {m : Str → Option Value} {news : List (Addr × Obj)} {g : Obj → List (Addr × Obj)} {o : Obj}

theorem upd_at {h' : Heap} {o' : Obj} (F : Fr h₀ L s.heap m) (N : News h₀ L s.heap news) (U : UpdF d o news g) (hs : Heap.SameBut d s.heap h') (ho : h'.get? d = some o') : Fr h₀ L h' m ∧ News h₀ L h' (g o') := by
  obtain ⟨pre, post, rfl, hg, a, b⟩ := U.split
  have hm := N (d, o) (List.mem_append_right _ (.head _))
  exact ⟨F.change hs hm.2.1 hm.2.2, hg o' ▸ N.setIn a b hs ho⟩
theorem upd_mem (U : UpdF d o news g) : (d, o) ∈ news := by
  obtain ⟨pre, post, rfl, _, _, _⟩ := U.split
  exact List.mem_append_right _ (.head _)

/-- a list's iterator -/
noncomputable abbrev litObj (l : Addr) (i : Nat) : Obj := { cls := .type "list_iterator", data := .fields #[.ref l, .int (i : Int) 0] }

theorem iter_list {vs : Array Value} {Q : Value → Shared → Prop} (F : Fr h₀ L s.heap m) (N : News h₀ L s.heap news) (hl : s.heap.IsList l vs)
    (h : ∀ I h', Fr h₀ L h' m → News h₀ L h' ((I, litObj l 0) :: news) → (∀ q ∈ news, q.1 < I) → Q (.ref I) { s with heap := h' }) : wpAny (model prog w) A (pyIter (.ref l)) Q E s :=
  wpAny_pyIter_list hl (h _ _ (F.push _) (News.push F N _ rfl) fun q hq => Heap.lt_size (N q hq).1)

theorem special_list {vs : Array Value} {i : Nat} {x : Value} {Q : Option Value → Shared → Prop} (hit : s.heap.get? it = some (litObj l i)) (hl : s.heap.IsList l vs) (hx : vs[i]? = some x)
    (hQ : ∀ h', h'.get? it = some (litObj l (i + 1)) → Heap.SameBut it s.heap h' → Q (some x) { s with heap := h' }) :
    wpAny (model prog w) A (callSpecial? (.ref it) (Str.ofString "__next__")) Q E s := by
  have hI : s.heap.IsListIter it l i := ⟨_, hit, rfl, rfl⟩
  obtain ⟨ol, hol, _, nl, hdl⟩ := hl
  refine wpAny_callSpecial?_slot (name := Str.ofString "__next__") hI.typeIs slot_listiter_next
    (wpAny_call_entry slot_listiter_next hI.typeIs entry_listiter_next ?_ (args_listiter_next _))
  show wpAny _ _ (field (.ref it) 0 >>= _) _ _ s
  refine wpAny_bind (wpAny_field hit rfl (x := .ref l) rfl ?_)
  show wpAny _ _ (if (Value.ref l == Value.none) = true then _ else _) _ _ s
  rw [if_neg (show ¬ ((Value.ref l == Value.none) = true) from Bool.false_ne_true)]
  show wpAny _ _ (field (.ref it) 1 >>= _) _ _ s
  refine wpAny_bind (wpAny_field hit rfl (x := .int i 0) rfl ?_)
  show wpAny _ _ (seqItems? (.ref l) >>= _) _ _ s
  refine wpAny_bind (wpAny_seqItems hol hdl ?_)
  simp only [Int.toNat_natCast, hx]
  refine wpAny_bind (wpAny_setField_rec hit (by simp) fun h' hh hs => ?_)
  exact wpAny_pure ⟨x, rfl, hQ h' hh hs⟩

theorem next_list {vs : Array Value} {i : Nat} {x : Value} {Q : Option Value → Shared → Prop} (F : Fr h₀ L s.heap m) (N : News h₀ L s.heap news) (U : UpdF it (litObj l i) news g) (hl : s.heap.IsList l vs) (hx : vs[i]? = some x)
    (h : ∀ h', Fr h₀ L h' m → News h₀ L h' (g (litObj l (i + 1))) → Q (some x) { s with heap := h' }) : wpAny (model prog w) A (pyNext (.ref it)) Q E s := by
  unfold pyNext
  refine wpAny_bind (wpAny_attempt (special_list (N _ (upd_mem U)).1 hl hx fun h' hh hs => ?_))
  obtain ⟨F', N'⟩ := upd_at F N U hs hh
  exact wpAny_pure (h h' F' N')

theorem next_list_end {vs : Array Value} {i : Nat} {Q : Option Value → Shared → Prop} (hh : A.handled = none) (F : Fr h₀ L s.heap m) (N : News h₀ L s.heap news) (N' : News h₀ L s.heap ((it, litObj l i) :: news)) (hne : ∀ q ∈ news, q.1 ≠ it) (hl : s.heap.IsList l vs) (hx : vs.size ≤ i)
    (h : ∀ h', Fr h₀ L h' m → News h₀ L h' news → Q none { s with heap := h' }) : wpAny (model prog w) A (pyNext (.ref it)) Q E s := by
  have hit := N' _ (.head _)
  have hI : s.heap.IsListIter it l i := ⟨_, hit.1, rfl, rfl⟩
  refine wpAny_pyNext_list_end hh hI hl (Array.getElem?_eq_none hx) fun h' hk => ?_
  refine h h' ⟨F.ns.at' fun o e => hk _ o hit.2.1.symm e, fun b o e => hk b o (fun q => ?_) (F.keep b o e), F.above⟩ fun q hq => ⟨hk _ _ (hne q hq) (N q hq).1, (N q hq).2⟩
  have h9 := hit.2.2
  rw [show (it, litObj l i).1 = b from q.symm] at h9
  rw [h9] at e; cases e

theorem call_next_list {vs : Array Value} {i : Nat} {x : Value} {Q : Value → Shared → Prop} (F : Fr h₀ L s.heap m) (N : News h₀ L s.heap news) (U : UpdF it (litObj l i) news g) (hl : s.heap.IsList l vs) (hx : vs[i]? = some x)
    (h : ∀ h', Fr h₀ L h' m → News h₀ L h' (g (litObj l (i + 1))) → Q x { s with heap := h' }) : wpAny (model prog w) A (call (.builtin "next") [.ref it]) Q E s := by
  have hit := (N _ (upd_mem U)).1
  have hI : s.heap.IsListIter it l i := ⟨_, hit, rfl, rfl⟩
  refine call_function_entry (by decide +kernel) (by decide +kernel) kdk_entry_next (kdk_args_next _) ?_
  unfold Builtin.«next»
  refine wpAny_bind (m := someArgs "next" 1 2 _) (wpAny_of_eq (a := [Value.ref it]) (by first | rfl | kernel_rfl!) ?_)
  (try dsimp only)
  refine wpAny_bind (wpAny_specialOf (name := Str.ofString "__next__") hI.typeIs slot_listiter_next.lookup ?_)
  refine wpAny_ite_split (fun hab => absurd hab (by decide)) (fun _ => ?_)
  refine wpAny_bind (special_list hit hl hx fun h' hh hs => ?_)
  obtain ⟨F', N'⟩ := upd_at F N U hs hh
  exact wpAny_pure ⟨_, rfl, h h' F' N'⟩

theorem call_iter_list {vs : Array Value} {Q : Value → Shared → Prop} (F : Fr h₀ L s.heap m) (N : News h₀ L s.heap news) (hl : s.heap.IsList l vs)
    (h : ∀ I h', Fr h₀ L h' m → News h₀ L h' ((I, litObj l 0) :: news) → (∀ q ∈ news, q.1 < I) → Q (.ref I) { s with heap := h' }) : wpAny (model prog w) A (call (.builtin "iter") [.ref l]) Q E s := by
  refine call_function_entry (by decide +kernel) (by decide +kernel) kdk_entry_iter (kdk_args_iter _) ?_
  unfold Builtin.«iter»
  refine wpAny_bind (m := someArgs "iter" 1 2 _) (wpAny_of_eq (a := [Value.ref l]) (by first | rfl | kernel_rfl!) ?_)
  show wpAny _ _ (pyIter (.ref l) >>= _) _ _ _
  refine wpAny_bind (iter_list F N hl fun I h' F' N' hlt => ?_)
  exact wpAny_pure ⟨_, rfl, h I h' F' N' hlt⟩
end
section
variable {prog : Program} {w : World} {A : Around} {E : Value → Shared → Prop} {s : Shared}
theorem toks_up {α : Type} {M : Model} {t : Sem α} {Q : α → Shared → Prop} (h : wpAny M A t (fun a s' => s.toks ≤ s'.toks → Q a s') E s) : wpAny M A t Q E s :=
  wpAny_mono (wpAny_toks h) (fun _ _ q => q.2 q.1) fun _ _ q => q.2
theorem my_replace {x y z : Str} {t u v : Tok} {Q : Value → Shared → Prop} (c : Nat) (hy : y = ⟨#[c]⟩) (hz : z = ⟨#[92, c]⟩) (hu : @Ne Nat u 0) (hv : @Ne Nat v 0) (huv : @Ne Nat u v) (hx : x.length ≤ 1000000)
    (hq : ∀ t' (k : Nat), s.toks ≤ k → Q (.str ⟨(esc c x.cps.toList).toArray⟩ t') { s with toks := k }) : wpAny (model prog w) A (call (.builtin "str.replace") [.str x t, .str y u, .str z v]) Q E s := by
  subst hy hz
  refine toks_up (SC.replaceW hu hv huv (by simp) (by omega) (by show 2 ≤ 14; decide) fun t' k hk => ?_)
  rw [replace_esc]
  exact hq t' k hk
theorem esc_le {c n : Nat} {x : Str} (h : x.length ≤ n) : (⟨(esc c x.cps.toList).toArray⟩ : Str).length ≤ 2 * n := by
  have := esc_length c x.cps.toList
  show (esc c x.cps.toList).toArray.size ≤ _
  have h' : x.cps.toList.length ≤ n := by simpa [Str.length] using h
  rw [List.size_toArray]; omega
end
section
open LCg
variable {prog : Program} {w : World} {A : Around} {s : Shared} {h₀ : Heap} {L : Addr} {m : Str → Option Value} {env : Env} {elt : Expr} {x : Str} {scope : Scope} {cl : List (Str × Addr)} {S : List (Addr × Obj) → Prop} {P : Nat → Value → Prop} {Fin : List Value → List (Addr × Obj) → Prop} {news : List (Addr × Obj)}
theorem compRest_pure (n : Nat) (G : Nat → Value → Prop) (hS : S news)
    (turn : ∀ (i : Nat) v (I : Addr) oI (C : Addr) oC (D : Addr) m₂ ys h tk (E' : Value → Shared → Prop), i < n → P i v → NsObj oC m₂ → m₂ x = some v → Fr h₀ L h m → News h₀ L h ((I, oI) :: (C, oC) :: (D, lst ys) :: news) → Off3 I C D news → ((@Ne Nat I C) ∧ (@Ne Nat I D) ∧ (@Ne Nat C D)) →
      wpAny (model prog w) A (eval elt (compEnvC scope cl C env)) (CompEnd h₀ L m { s with heap := h, toks := tk } I oI C oC D (lst ys) S (fun y news' => news' = news ∧ G i y)) E' { s with heap := h, toks := tk })
    (fin : ∀ ys, ys.length = n → (∀ i y, ys[i]? = some y → G i y) → Fin ys news) : CompRest prog w A h₀ L m env elt x scope cl s S P Fin n 0 [] news := by
  have key : ∀ k i ys, ys.length = i → i + k = n → (∀ j y, ys[j]? = some y → G j y) → CompRest prog w A h₀ L m env elt x scope cl s S P Fin k i ys news := by
    intro k
    induction k with
    | zero => intro i ys hl hi hG; exact CompRest.zero (fin ys (by omega) hG)
    | succ k ih =>
      intro i ys hl hi hG
      refine CompRest.succ fun v I oI C oC D m₂ h tk E' hP hC hx F N off hne => ?_
      refine wpAny_mono (turn i v I oI C oC D m₂ ys h tk E' (by omega) hP hC hx F N off hne) (fun y s₂ q => ?_) fun _ _ e => e
      obtain ⟨h', tk', news', rfl, F', N', off', hS', rfl, hy⟩ := q
      refine ⟨h', tk', _, rfl, F', N', off', hS', ih (i + 1) (ys ++ [y]) (by simp [hl]) (by omega) fun j z hz => ?_⟩
      rcases Nat.lt_trichotomy j ys.length with h1 | h1 | h1
      · exact hG j z (by rwa [List.getElem?_append_left h1] at hz)
      · subst h1
        simp at hz
        subst hz
        rw [hl]; exact hy
      · rw [List.getElem?_eq_none (by simp; omega)] at hz
        cases hz
  exact key n 0 [] rfl (Nat.zero_add n) fun j y hy => by simp at hy
end
end Mine
end
section
open PySem PySem.W PyProof.Rows PySem.Calls PySem.Spec
namespace Mine

theorem fm2 (a : Int) : a.fmod 2 = 0 ∨ a.fmod 2 = 1 := by
  have h1 := fmod_lo a (n := 2) (by decide)
  have h2 := fmod_hi a (n := 2) (by decide)
  omega
theorem pick2 {x y : Int} (k : Int) (h : k = 0 ∨ k = 1) : [x, y].getD k.toNat 0 = x ∨ [x, y].getD k.toNat 0 = y := by
  rcases h with rfl | rfl
  · exact .inl rfl
  · exact .inr rfl
section
variable {prog : Program} {w : World} {A : Around} {E : Value → Shared → Prop} {s : Shared} {h₀ : Heap} {L it l d : Addr} {m : Str → Option Value} {news : List (Addr × Obj)} {g : Obj → List (Addr × Obj)} {o : Obj}

/-- two texts, neither empty, laid together: a new one -/
theorem add_new {x y : Str} {t u : Tok} {Q : Value → Shared → Prop} (hx : (x.length == 0) = false) (hy : (y.length == 0) = false) (hsz : x.length + y.length ≤ 1000000)
    (h : Q (.str (x ++ y) s.toks) { s with toks := s.toks + 1 }) : wpAny (model prog w) A (binaryOp .Add (.str x t) (.str y u)) Q E s := by
  refine P.add_str ?_
  rw [hx, hy]
  simp only [Bool.false_eq_true, if_false]
  exact ⟨by rw [size_cat, sizeLine_eq]; omega, h⟩

theorem my_append {xs : Array Value} {n : Nat} {v : Value} {r : Addr} {Q : Value → Shared → Prop} (F : Fr h₀ L s.heap m) (N : News h₀ L s.heap news) (U : UpdF r (listOf xs n) news g) (hsz : xs.size ≤ 1000000)
    (h : ∀ h', Fr h₀ L h' m → News h₀ L h' (g (listOf (xs.push v) (n + 1))) → Q .none { s with heap := h' }) : wpAny (model prog w) A (call (.builtin "list.append") [.ref r, v]) Q E s :=
  append_at (hsz := by rw [sizeLine_eq]; omega) (N _ (upd_mem U)).1 fun h' hs hd =>
    let ⟨F', N'⟩ := upd_at F N U hs hd
    h h' F' N'
/-- a range's iterator, by ones -/
noncomputable abbrev ritObj (x left : Int) : Obj := { cls := .type "range_iterator", dict := none, data := .fields #[rawInt x, rawInt left, rawInt 1], slots := #[] }
theorem iter_range {r : Addr} {a b : Int} {t u v : Tok} {Q : Value → Shared → Prop} (hr : IsRange s.heap r a b 1 t u v) (hsm : Builtin.Range.small a b 1 = true) (F : Fr h₀ L s.heap m) (N : News h₀ L s.heap news)
    (h : ∀ I h', Fr h₀ L h' m → News h₀ L h' ((I, ritObj a (Builtin.Range.rangeSize a b 1)) :: news) → (∀ q ∈ news, q.1 < I) → Q (.ref I) { s with heap := h' }) : wpAny (model prog w) A (pyIter (.ref r)) Q E s :=
  wpAny_pyIter_range hr hsm (h _ _ (F.push _) (News.push F N _ rfl) fun q hq => Heap.lt_size (N q hq).1)
theorem next_rangeC {x left : Int} {Q : Option Value → Shared → Prop} (hh : A.handled = none) (F : Fr h₀ L s.heap m) (N : News h₀ L s.heap ((it, ritObj x left) :: news)) (hne : ∀ q ∈ news, q.1 ≠ it)
    (h1 : ∀ h', 0 < left → Fr h₀ L h' m → News h₀ L h' ((it, ritObj (x + 1) (left - 1)) :: news) → Q (some (.int x s.toks)) { s with heap := h', toks := s.toks + 1 })
    (h2 : ∀ h', left ≤ 0 → Fr h₀ L h' m → News h₀ L h' news → Q none { s with heap := h' }) : wpAny (model prog w) A (pyNext (.ref it)) Q E s := by
  have hit := N _ (.head _)
  rcases Int.lt_or_le 0 left with hl | hl
  · refine wpAny_pyNext_range_item hit.1 hl fun h' hi hs => ?_
    obtain ⟨F', N'⟩ := upd_at F N (.head hne) hs hi
    exact h1 h' hl F' N'
  · refine wpAny_pyNext_range_end hh hit.1 hl fun h' hk => h2 h' hl ⟨F.ns.at' fun o e => hk _ o hit.2.1.symm e, fun b o e => hk b o (fun q => ?_) (F.keep b o e), F.above⟩ fun q hq => ⟨hk _ _ (hne q hq) (N q (.tail _ hq)).1, (N q (.tail _ hq)).2⟩
    have h9 := hit.2.2
    rw [show (it, ritObj x left).1 = b from q.symm] at h9
    rw [h9] at e; cases e

/-- a text's iterator -/
noncomputable abbrev sitObj (x : Str) (t : Tok) (i : Nat) : Obj := { cls := .type "str_ascii_iterator", data := .fields #[.str x t, .int (i : Int) 0] }
theorem iter_str {x : Str} {t : Tok} {Q : Value → Shared → Prop} (ha : x.cps.all (· < 128) = true) (F : Fr h₀ L s.heap m) (N : News h₀ L s.heap news)
    (h : ∀ I h', Fr h₀ L h' m → News h₀ L h' ((I, sitObj x t 0) :: news) → (∀ q ∈ news, q.1 < I) → Q (.ref I) { s with heap := h' }) : wpAny (model prog w) A (pyIter (.str x t)) Q E s :=
  wpAny_pyIter_ascii ha (h _ _ (F.push _) (News.push F N _ rfl) fun q hq => Heap.lt_size (N q hq).1)
theorem next_str {x : Str} {t : Tok} {i c : Nat} {Q : Option Value → Shared → Prop} (F : Fr h₀ L s.heap m) (N : News h₀ L s.heap news) (U : UpdF it (sitObj x t i) news g) (hx : x.cps[i]? = some c)
    (h : ∀ h', Fr h₀ L h' m → News h₀ L h' (g (sitObj x t (i + 1))) → Q (some (.str ⟨#[c]⟩ s.toks)) { s with heap := h', toks := s.toks + 1 }) : wpAny (model prog w) A (pyNext (.ref it)) Q E s := by
  have hit := (N _ (upd_mem U)).1
  have hI : s.heap.IsStrIter it "str_ascii_iterator" x t i := ⟨_, hit, rfl, rfl⟩
  unfold pyNext
  refine wpAny_bind (wpAny_attempt (wpAny_callSpecial?_slot (name := Str.ofString "__next__") hI.typeIs PySem.F.slot_str_ascii_iterator_next
    (wpAny_call_entry PySem.F.slot_str_ascii_iterator_next hI.typeIs PySem.F.entry_str_ascii_iterator_next ?_ (PySem.F.args_str_ascii_iterator_next_1 _))))
  show wpAny _ _ (field (.ref it) 0 >>= _) _ _ s
  refine wpAny_bind (wpAny_field hit rfl (x := .str x t) rfl ?_)
  show wpAny _ _ (field (.ref it) 1 >>= _) _ _ s
  refine wpAny_bind (wpAny_field hit rfl (x := .int i 0) rfl ?_)
  simp only [Int.toNat_natCast, hx]
  refine wpAny_bind (wpAny_setField_rec hit (by simp) fun h' hh hs => ?_)
  obtain ⟨F', N'⟩ := upd_at F N U hs hh
  exact wpAny_bind (wpAny_mkStr (wpAny_pure ⟨_, rfl, wpAny_pure (h h' F' N')⟩) (by show 1 ≤ sizeLine; decide))
theorem next_str_end {x : Str} {t : Tok} {i : Nat} {Q : Option Value → Shared → Prop} (hh : A.handled = none) (F : Fr h₀ L s.heap m) (N : News h₀ L s.heap ((it, sitObj x t i) :: news)) (hne : ∀ q ∈ news, q.1 ≠ it) (hx : x.cps.size ≤ i)
    (h : ∀ h', Fr h₀ L h' m → News h₀ L h' news → Q none { s with heap := h' }) : wpAny (model prog w) A (pyNext (.ref it)) Q E s := by
  have hit := N _ (.head _)
  have hI : s.heap.IsStrIter it "str_ascii_iterator" x t i := ⟨_, hit.1, rfl, rfl⟩
  refine wpAny_pyNext_ascii_end hh hI (Array.getElem?_eq_none hx) fun h' hk => ?_
  refine h h' ⟨F.ns.at' fun o e => hk _ o hit.2.1.symm e, fun b o e => hk b o (fun q => ?_) (F.keep b o e), F.above⟩ fun q hq => ⟨hk _ _ (hne q hq) (N q (.tail _ hq)).1, (N q (.tail _ hq)).2⟩
  have h9 := hit.2.2
  rw [show (it, sitObj x t i).1 = b from q.symm] at h9
  rw [h9] at e; cases e
theorem next_strC {x : Str} {t : Tok} {i : Nat} {Q : Option Value → Shared → Prop} (hh : A.handled = none) (F : Fr h₀ L s.heap m) (N : News h₀ L s.heap ((it, sitObj x t i) :: news)) (hne : ∀ q ∈ news, q.1 ≠ it) (hi : i ≤ x.cps.size)
    (h1 : ∀ c h', x.cps[i]? = some c → Fr h₀ L h' m → News h₀ L h' ((it, sitObj x t (i + 1)) :: news) → Q (some (.str ⟨#[c]⟩ s.toks)) { s with heap := h', toks := s.toks + 1 })
    (h2 : ∀ h', i = x.cps.size → Fr h₀ L h' m → News h₀ L h' news → Q none { s with heap := h' }) : wpAny (model prog w) A (pyNext (.ref it)) Q E s := by
  rcases Nat.lt_or_ge i x.cps.size with hlt | hge
  · exact next_str F N (.head hne) (Array.getElem?_eq_getElem hlt) fun h' => h1 _ h' (Array.getElem?_eq_getElem hlt)
  · exact next_str_end hh F N hne hge fun h' => h2 h' (by omega)
theorem next_listC {vs : Array Value} {i : Nat} {Q : Option Value → Shared → Prop} (hh : A.handled = none) (F : Fr h₀ L s.heap m) (N : News h₀ L s.heap ((it, litObj l i) :: news)) (hne : ∀ q ∈ news, q.1 ≠ it) (hl : s.heap.IsList l vs) (hi : i ≤ vs.size)
    (h1 : ∀ v h', vs[i]? = some v → Fr h₀ L h' m → News h₀ L h' ((it, litObj l (i + 1)) :: news) → Q (some v) { s with heap := h' })
    (h2 : ∀ h', i = vs.size → Fr h₀ L h' m → News h₀ L h' news → Q none { s with heap := h' }) : wpAny (model prog w) A (pyNext (.ref it)) Q E s := by
  rcases Nat.lt_or_ge i vs.size with hlt | hge
  · exact next_list F N (.head hne) hl (Array.getElem?_eq_getElem hlt) fun h' => h1 _ h' (Array.getElem?_eq_getElem hlt)
  · exact next_list_end hh F (fun q hq => N q (.tail _ hq)) N hne hl hge fun h' => h2 h' (by omega)
end

section
open LCg
variable {prog : Program} {w : World} {A : Around} {E : Value → Shared → Prop} {s : Shared} {h₀ : Heap} {L : Addr} {m : Str → Option Value} {env : Env}
noncomputable def SrcS (prog : Program) (w : World) (A : Around) (h₀ : Heap) (L : Addr) (m : Str → Option Value) (env : Env) (elt : Expr) (x : Str) (scope : Scope) (cl : List (Str × Addr)) (Fin : Shared → List Value → List (Addr × Obj) → Prop) (xv : Value) (s₁ : Shared) : Prop :=
  ∃ (tx : Str) (t : Tok) (news : List (Addr × Obj)), xv = .str tx t ∧ A.handled = none ∧ Fr h₀ L s₁.heap m ∧ News h₀ L s₁.heap news ∧ tx.cps.size ≤ sizeLine ∧
      ∀ s₂ : Shared, (∃ h, s₂ = { s₁ with heap := h }) → CompRest prog w A h₀ L m env elt x scope cl s₂ (fun _ => True) (SignAt tx) (Fin s₂) tx.cps.size 0 [] news
theorem SrcS.intro {elt : Expr} {x : Str} {scope : Scope} {cl : List (Str × Addr)} {Fin : Shared → List Value → List (Addr × Obj) → Prop} {tx : Str} {t : Tok} {news : List (Addr × Obj)} {s₁ : Shared} (hh : A.handled = none) (F : Fr h₀ L s₁.heap m) (N : News h₀ L s₁.heap news) (hsz : tx.cps.size ≤ sizeLine)
    (h : ∀ g, CompRest prog w A h₀ L m env elt x scope cl { s₁ with heap := g } (fun _ => True) (SignAt tx) (Fin { s₁ with heap := g }) tx.cps.size 0 [] news) : SrcS prog w A h₀ L m env elt x scope cl Fin (.str tx t) s₁ :=
  ⟨tx, t, news, rfl, hh, F, N, hsz, fun _ ⟨g, e⟩ => e ▸ h g⟩
/-- a comprehension over a text's signs -/
theorem ListComp_S {elt iter : Expr} {x : Str} {px : Pos} {scope : Scope} {cl : List (Str × Addr)} {pos : Pos} {Q : Value → Shared → Prop} (_F₀ : Fr h₀ L s.heap m)
    (hclos : closureFor scope env = pure cl) (hcell : ∀ y ∈ scope.names, y.2 ≠ .cell) (hkind : scope.kind = .function)
    (hnames : ∀ y ∈ scope.names, y.2 = .local → scope.names.lookup y.1 = some .local) (hx : scope.names.lookup x = some .local)
    (h : wpAny (model prog w) A (eval iter env) (SrcS prog w A h₀ L m env elt x scope cl (fun s₂ => FinE h₀ L m s₂ Q)) E s)
    (hs : ∀ x, foldedSetIterable iter env x = pure x := by intro _; rfl) :
    wpAny (model prog w) A (eval (.ListComp elt [⟨.Name x px, iter, [], 0⟩] scope pos) env) Q E s := by
  rw [eval_ListComp]
  refine wpAny_comprehension_free (use := none) rfl hs hclos hkind hnames (wpAny_mono h (fun xv s₁ h₁ => ?_) fun _ _ e => e)
  obtain ⟨tx, t, news, rfl, hh, F, N, hsz, R⟩ := h₁
  have fin : ∀ (o : Obj), ∀ D C h tk m' ys news', Fr h₀ L h m → News h₀ L h ((D, lst ys) :: news') → Off1 D news' → h.Ns C m' → h₀.get? C = none → h₀.get? D = none → C ≠ L → D ≠ L → C ≠ D → (∀ p ∈ news', p.1 ≠ C) → FinE h₀ L m { s₁ with heap := s₁.heap.push o } Q ys news' →
      compPost (model prog w) A E none Q (.ref D) C (.ok .next) { s₁ with heap := h, toks := tk } := by
    intro o D C h tk m' ys news' F' N' o1 hn hC₀ hD₀ hCL hDL hCD offC fin
    refine ⟨m', hn, fun h'' hs'' => fin D h'' tk (F'.change hs'' hCL hC₀) (fun p hp => ?_) o1⟩
    refine ⟨hs''.extBut _ _ ?_ (N' p hp).1, (N' p hp).2⟩
    rcases List.mem_cons.mp hp with rfl | hp
    · exact Ne.symm hCD
    · exact offC p hp
  have st : ∀ (ty : String) (I : Addr), ∀ i (h h' : Heap) (o : Obj) (nw : List (Addr × Obj)), h.IsStrIter I ty tx t i → h.get? I = some o → h'.get? I = some o → (∀ b o, h₀.get? b = some o → h'.get? b = some o) → News h₀ L h' nw → True → h'.IsStrIter I ty tx t i :=
    fun ty I i h h' o nw st e e' _ _ _ => by obtain ⟨o', q, r⟩ := st; rw [e] at q; cases q; exact ⟨o, e', r⟩
  have below : ∀ (o : Obj), ∀ b ∈ [s₁.heap.objs.size], b < (s₁.heap.push o).objs.size := fun o b hb => by
    rw [List.mem_singleton.mp hb, Heap.size_push]; exact Nat.lt_succ_self _
  cases ha : tx.cps.all (· < 128)
  · refine wpAny_pyIter_wide ha ?_
    exact block_U (Walks.strWide hh s₁.heap.objs.size tx t) hsz (fun i h st => by obtain ⟨o, e, _⟩ := st; exact ⟨o, e⟩) (st _ _) hcell hkind hx ⟨_, Heap.get?_push_size _ rfl, rfl, rfl⟩ (below _)
      (F.keeps fun _ _ e => Heap.get?_push_of_some _ e) (N.grown fun _ _ e => Heap.get?_push_of_some _ e) (Nat.ne_of_lt F.ns.lt) (next_is_new F) (fun p hp => Nat.ne_of_lt (Heap.lt_size (N p hp).1)) trivial (R _ ⟨_, rfl⟩) (fin _)
  · refine wpAny_pyIter_ascii ha ?_
    exact block_U (Walks.strAscii hh s₁.heap.objs.size tx t) hsz (fun i h st => by obtain ⟨o, e, _⟩ := st; exact ⟨o, e⟩) (st _ _) hcell hkind hx ⟨_, Heap.get?_push_size _ rfl, rfl, rfl⟩ (below _)
      (F.keeps fun _ _ e => Heap.get?_push_of_some _ e) (N.grown fun _ _ e => Heap.get?_push_of_some _ e) (Nat.ne_of_lt F.ns.lt) (next_is_new F) (fun p hp => Nat.ne_of_lt (Heap.lt_size (N p hp).1)) trivial (R _ ⟨_, rfl⟩) (fin _)
end
end Mine
end
section
open PySem PySem.W PyProof.Rows PySem.Calls PySem.Spec
namespace Mine


-- W1
section
variable {w : World} {p : Program} {loose : List Str} {mean : ExcName → Option Value} {mg mb : Str → Option Value} {dp un : Nat} {gd : Option (List Code)} {env : Env} {outer : List Env} {A₀ : Around} {base h₀ : Heap} {L : Addr} {m : Str → Option Value} {news : List (Addr × Obj)} {s : Shared} {Q E : Value → Shared → Prop}


theorem word_spec (B : Below A₀ base outer h₀) (F : Fr h₀ L s.heap m) (X : (hd.heap_1 w.params).In h₀) (T : Top p loose mean mg mb h₀) (hf : env.frame = some L) (hke : env.scope.kind = .function) (hdp : dp + 2 < recursionLimit) (hu : un + 40 < cLine) (l : Addr) (x y : Int) (tx ty : Tok) (ep : Nat) (N : News h₀ L s.heap news) (hl : (l, listOf #[.int x tx, .int y ty] ep) ∈ news) (n : Int) (tn : Tok) (h0 : 0 ≤ n) (h8 : n < 8)
   (ret : ∀ r vs ep' ws h' tk', s.heap.StaysIn h' → s.heap.get? r = none → h'.get? r = some (listOf (List.toArray vs) ep') → IntsAre vs ws → 1 ≤ ws.length → ws.length ≤ 2 → (∀ e ∈ ws, e = x ∨ e = y) → Q (.ref r) { s with heap := h', toks := tk' }) :
   wpAny (model PySem.Challenge.rw_sr0006_01.row.prog w) (Am dp un gd env outer) (call (.ref 110) [.int n tn, .ref l]) Q E s := by
  revert X; k_fill; intro X; k_with_none
  k_with "k_lk" => (first | (refine' lt_get ?h9 ?m9; (case h9 => with_reducible assumption); (case m9 => k_mem)) | (refine' Ne.symm (lt_get ?h9 ?m9); (case h9 => with_reducible assumption); (case m9 => k_mem)) | (refine' ana_get ?h9 ?m9; (case h9 => with_reducible assumption); (case m9 => k_mem)) | (refine' Ne.symm (ana_get ?h9 ?m9); (case h9 => with_reducible assumption); (case m9 => k_mem)) | with_reducible assumption | (refine Ne.symm ?_; with_reducible assumption) | fail "k_lk")
  k_with "k_ne" => first | k_extra "k_lk" | omega
  k_with "k_all" => (first | with_reducible assumption | (refine' lt_all ?h9; (case h9 => with_reducible assumption)) | fail "k_all")
  k_with "k_mem" => (first | exact mI0 | exact mI1 | exact mI2 | exact mI3 | exact mI4 | exact mI5 | exact mI6 | exact mI7 | exact mI8 | exact mI9 | exact mI10 | exact mI11 | (refine mS12 ?_; k_mem))
  k_with "k_room" => first | (refine' rm0 ?h9 ?k9; (case h9 => with_reducible assumption); (case k9 => exact Nat.le_of_ble_eq_true rfl)) | (refine' rm1 ?h9 ?k9; (case h9 => with_reducible assumption); (case k9 => exact Nat.le_of_ble_eq_true rfl)) | (refine' rm2 ?h9; (case h9 => with_reducible assumption)) | (refine' rm4 ?h9; (case h9 => with_reducible assumption)) | (simp only [depth_under_make, depth_under_kw, depth_in1, depth_deeper, depth_caller, recursionLimit] at *; omega)
  k_with "k_units" => first | (refine' rm0 ?h9 ?k9; (case h9 => with_reducible assumption); (case k9 => exact Nat.le_of_ble_eq_true rfl)) | (refine' rm1 ?h9 ?k9; (case h9 => with_reducible assumption); (case k9 => exact Nat.le_of_ble_eq_true rfl)) | (refine' rm2 ?h9; (case h9 => with_reducible assumption)) | (refine' rm4 ?h9; (case h9 => with_reducible assumption)) | (simp only [units_in1, units_deeper, Around.mark_units, units_caller, cLine] at *; omega)
  k_with "om" => (first | (refine neN ?_; (try dsimp only); k_extra "k_lk") | with_reducible assumption | exact Nat.le_of_ble_eq_true rfl | (refine' le_lit ?h9 ?k9; (case h9 => with_reducible assumption); (case k9 => exact Nat.le_of_ble_eq_true rfl)) | (refine' lt_lit ?h9 ?k9; (case h9 => with_reducible assumption); (case k9 => exact Nat.le_of_ble_eq_true rfl)) | (refine' rm0 ?h9 ?k9; (case h9 => with_reducible assumption); (case k9 => exact Nat.le_of_ble_eq_true rfl)) | (refine' rm1 ?h9 ?k9; (case h9 => with_reducible assumption); (case k9 => exact Nat.le_of_ble_eq_true rfl)) | (refine' rm2 ?h9; (case h9 => with_reducible assumption)) | (refine' rm4 ?h9; (case h9 => with_reducible assumption)) | omega (config := { splitDisjunctions := false }) | ((repeat (first | (rename _ ≠ _ ∧ _ => hq9; clear hq9) | (rename (_ ≠ _ ∧ _) ∧ _ => hq9; clear hq9))); omega (config := { splitDisjunctions := true })) | omega (config := { splitDisjunctions := true }) | ((repeat (rename (∀ p ∈ (_ : List (PySem.Addr × PySem.Obj)), @LT.lt Nat _ p.1 _) => hq9; (have hq8 := PySem.W.allLt_of hq9); clear hq9; simp only [PySem.W.AllLt, and_true] at hq8)); omega (config := { splitDisjunctions := true })))
  k_with "callWith ref" => (k_here; k_dflt (refine' callWith_K ?zs1 ?zs2 ?_; (case zs1 => k_asm); (case zs2 => k_is); k_whole))
  k_with "call builtin:len" => (k_here; (with_reducible show wpAny _ _ (call (Value.builtin _) [Value.ref _]) _ _ _); (with_unfolding_all refine' len_ints_fit ?zs1 ?zs2 ?zs3 ?_; (case zs1 => is_list); (case zs2 => l_ints); (case zs3 => l_fit); k_whole); (try simp only [List.length_append, List.length_cons, List.length_nil, Nat.zero_add]))
  k_with "subscriptTail Name" => (k_here; (with_reducible show wpAny _ _ (subscriptTail _ _ (Value.ref _) (Value.int _ _)) _ _ _); kim_at)
  k_with "getMethod ref" => (k_here; k_dflt (refine' method_inst ?zs1 ?zs2 ?zs3 ?zs4 ?zs5 ?zs6 ?zs7 ?_; (case zs1 => k_asm); (case zs2 => k_asm); (case zs3 => k_inst); (case zs4 => k_is); (case zs5 => k_is); (case zs6 => k_is); (case zs7 => k_get); k_whole))
  k_with "execs cons" => (refine seqK ?_; intro K9 tk9 hK9; (try dsimp only))
  k_with "KK next" => (refine' kk_next ?h9 ?_; (case h9 => with_reducible assumption))
  k_with "KK ret" => (refine' kk_ret ?h9 ?_; (case h9 => with_reducible assumption); (try dsimp only))
  k_with "KK brk" => (refine' kk_brk ?h9 ?_; (case h9 => with_reducible assumption); (try dsimp only))
  k_with "KK cont" => (refine' kk_cont ?h9 ?_; (case h9 => with_reducible assumption); (try dsimp only))
  k_with "ktr_unf" => (k_dflt (first | (refine' enterP ?zqk1 ?zqk2 ?zqk3 ?zqk4 ?zqk5 ?zqkA ?zqkF ?zqkK ?zqk6 ?zqk7 ?zqk8 ?zqk9 ?zqkB ?_ ?zqc2 ?zqc3 ?zqc4 ?zqc5; (case zqkA => exact rfl); (case zqkF => assumption); (case zqkK => assumption); (case zqk1 => k_asm); (case zqk2 => k_asm); (case zqk3 => k_asm); (case zqk4 => k_asm); (case zqk5 => k_asm); (case zqk6 => k_is); (case zqk7 => k_is); (case zqk8 => k_room); (case zqk9 => exact BindsTo.of_eq rfl); (case zqc5 => decide); (case zqkB => exact locs rfl); (case zqc2 => exact rfl); (case zqc3 => exact rfl); (case zqc4 => exact rfl); k_whole; intro g' L' h' F' N' B' X' T' l1; (try k_lt l1); (try dsimp only); (try k_lift B'); (try k_fold)) | (refine' enterPC ?zqk1 ?zqk2 ?zqk3 ?zqk4 ?zqk5 ?zqkA ?zqkF ?zqkK ?zqk6 ?zqk7 ?zqk8 ?zqk9 ?zqkB ?zqkD ?_ ?zqc2 ?zqc3 ?zqc4; (case zqkA => exact rfl); (case zqkF => assumption); (case zqkK => assumption); (case zqk1 => k_asm); (case zqk2 => k_asm); (case zqk3 => k_asm); (case zqk4 => k_asm); (case zqk5 => k_asm); (case zqk6 => k_is); (case zqk7 => k_is); (case zqk8 => k_room); (case zqk9 => exact BindsTo.of_eq rfl); (case zqkB => exact rfl); (case zqkD => decide +kernel); (case zqc2 => exact rfl); (case zqc3 => exact rfl); (case zqc4 => exact rfl); k_whole; intro g' L' h' tk' cells' F' N' Y' B' X' T' l1; (try k_lt l1); k_cells Y'; (try simp only [List.cons_append, List.nil_append] at N'); (try dsimp only); (try k_lift B'); (try k_fold))))
  replace N : News h₀ L s.heap [(l, listOf #[.int x tx, .int y ty] ep)] := cb_drop N (by intro q hq; rw [List.mem_singleton.mp hq]; exact hl)
  clear hl
  ktr_unf
  clear F N B X T
  k_steps
  refine end_new (by assumption) (by assumption) (by kcj_all) (.head _) (by k_all) fun a b c => ?_
  refine ret _ _ _ _ _ _ a b c (by assumption) ?_ ?_ ?_
  · simp only [List.length_map, rangeKs_length]; omega
  · simp only [List.length_map, rangeKs_length]; omega
  · intro e he
    obtain ⟨k, _, rfl⟩ := List.mem_map.mp he
    exact pick2 _ (fm2 _)


end

-- V1
section
variable {w : World} {p : Program} {loose : List Str} {mean : ExcName → Option Value} {mg mb : Str → Option Value} {dp un : Nat} {gd : Option (List Code)} {env : Env} {outer : List Env} {A₀ : Around} {base h₀ : Heap} {L : Addr} {m : Str → Option Value} {news : List (Addr × Obj)} {s : Shared} {Q E : Value → Shared → Prop}

/-- reading on at a list's place: the last octet, what has been read, the value, the place behind -/
inductive Pv (ns : List Int) : Nat → Int → Int → Int → Nat → Prop
  | done {i b val} : 0 ≤ val → val < 2 ^ 64 → Builtin.bitAnd b 64 = 0 → Pv ns i b val val i
  | more {i b val b' v k} : 0 ≤ val → val < 2 ^ 64 → Builtin.bitAnd b 64 ≠ 0 → ns[i]? = some b' → Pv ns (i + 1) b' (Builtin.bitOr (val * 64) (Builtin.bitAnd b' 63)) v k → Pv ns i b val v k
theorem Pv.le {ns i b val v k} (h : Pv ns i b val v k) : i ≤ k := by
  induction h with
  | done _ _ _ => exact Nat.le_refl _
  | more _ _ _ _ _ ih => omega
theorem Pv.nonneg {ns i b val v k} (h : Pv ns i b val v k) : 0 ≤ val := by
  cases h with
  | done h _ _ => exact h
  | more h _ _ _ _ => exact h
theorem Pv.small {ns i b val v k} (h : Pv ns i b val v k) : val < 2 ^ 64 := by
  cases h with
  | done _ h _ => exact h
  | more _ h _ _ _ => exact h
theorem Pv.inv {ns i b val v k} (h : Pv ns i b val v k) : (Builtin.bitAnd b 64 = 0 ∧ v = val ∧ k = i) ∨ (Builtin.bitAnd b 64 ≠ 0 ∧ ∃ b', ns[i]? = some b' ∧ Pv ns (i + 1) b' (Builtin.bitOr (val * 64) (Builtin.bitAnd b' 63)) v k) := by
  cases h with
  | done _ _ h => exact .inl ⟨h, rfl, rfl⟩
  | more _ _ h a b => exact .inr ⟨h, _, a, b⟩
theorem varint_spec (B : Below A₀ base outer h₀) (F : Fr h₀ L s.heap m) (X : (hd.heap_1 w.params).In h₀) (T : Top p loose mean mg mb h₀) (hf : env.frame = some L) (hke : env.scope.kind = .function) (hdp : dp + 2 < recursionLimit) (hu : un + 40 < cLine) (it l : Addr) (vs : List Value) (ns : List Int) (i : Nat) (ep : Nat) (g : Obj → List (Addr × Obj)) (N : News h₀ L s.heap news) (U : UpdF it (litObj l i) news g) (hl : (l, listOf vs.toArray ep) ∈ news) (hne : @Ne Nat it l) (hi : IntsAre vs ns)
   (b v : Int) (k : Nat) (hb : ns[i]? = some b) (hv : Pv ns (i + 1) b (Builtin.bitAnd b 63) v k)
   (ret : ∀ t h' tk', (∀ b o, b ≠ it → s.heap.get? b = some o → h'.get? b = some o) → h'.get? it = some (litObj l k) → Q (.int v t) { s with heap := h', toks := tk' }) :
   wpAny (model PySem.Challenge.rw_sr0006_01.row.prog w) (Am dp un gd env outer) (call (.ref 63) [.ref it]) Q E s := by
  revert X; k_fill; intro X; k_with_none
  k_with "k_lk" => (first | (refine' lt_get ?h9 ?m9; (case h9 => with_reducible assumption); (case m9 => k_mem)) | (refine' Ne.symm (lt_get ?h9 ?m9); (case h9 => with_reducible assumption); (case m9 => k_mem)) | (refine' ana_get ?h9 ?m9; (case h9 => with_reducible assumption); (case m9 => k_mem)) | (refine' Ne.symm (ana_get ?h9 ?m9); (case h9 => with_reducible assumption); (case m9 => k_mem)) | with_reducible assumption | (refine Ne.symm ?_; with_reducible assumption) | fail "k_lk")
  k_with "k_ne" => first | k_extra "k_lk" | omega
  k_with "k_all" => (first | with_reducible assumption | (refine' lt_all ?h9; (case h9 => with_reducible assumption)) | fail "k_all")
  k_with "k_mem" => (first | exact mI0 | exact mI1 | exact mI2 | exact mI3 | exact mI4 | exact mI5 | exact mI6 | exact mI7 | exact mI8 | exact mI9 | exact mI10 | exact mI11 | (refine mS12 ?_; k_mem))
  k_with "k_room" => first | (refine' rm0 ?h9 ?k9; (case h9 => with_reducible assumption); (case k9 => exact Nat.le_of_ble_eq_true rfl)) | (refine' rm1 ?h9 ?k9; (case h9 => with_reducible assumption); (case k9 => exact Nat.le_of_ble_eq_true rfl)) | (refine' rm2 ?h9; (case h9 => with_reducible assumption)) | (refine' rm4 ?h9; (case h9 => with_reducible assumption)) | (simp only [depth_under_make, depth_under_kw, depth_in1, depth_deeper, depth_caller, recursionLimit] at *; omega)
  k_with "k_units" => first | (refine' rm0 ?h9 ?k9; (case h9 => with_reducible assumption); (case k9 => exact Nat.le_of_ble_eq_true rfl)) | (refine' rm1 ?h9 ?k9; (case h9 => with_reducible assumption); (case k9 => exact Nat.le_of_ble_eq_true rfl)) | (refine' rm2 ?h9; (case h9 => with_reducible assumption)) | (refine' rm4 ?h9; (case h9 => with_reducible assumption)) | (simp only [units_in1, units_deeper, Around.mark_units, units_caller, cLine] at *; omega)
  k_with "om" => (first | (refine neN ?_; (try dsimp only); k_extra "k_lk") | with_reducible assumption | exact Nat.le_of_ble_eq_true rfl | (refine' le_lit ?h9 ?k9; (case h9 => with_reducible assumption); (case k9 => exact Nat.le_of_ble_eq_true rfl)) | (refine' lt_lit ?h9 ?k9; (case h9 => with_reducible assumption); (case k9 => exact Nat.le_of_ble_eq_true rfl)) | (refine' rm0 ?h9 ?k9; (case h9 => with_reducible assumption); (case k9 => exact Nat.le_of_ble_eq_true rfl)) | (refine' rm1 ?h9 ?k9; (case h9 => with_reducible assumption); (case k9 => exact Nat.le_of_ble_eq_true rfl)) | (refine' rm2 ?h9; (case h9 => with_reducible assumption)) | (refine' rm4 ?h9; (case h9 => with_reducible assumption)) | omega (config := { splitDisjunctions := false }) | ((repeat (first | (rename _ ≠ _ ∧ _ => hq9; clear hq9) | (rename (_ ≠ _ ∧ _) ∧ _ => hq9; clear hq9))); omega (config := { splitDisjunctions := true })) | omega (config := { splitDisjunctions := true }) | ((repeat (rename (∀ p ∈ (_ : List (PySem.Addr × PySem.Obj)), @LT.lt Nat _ p.1 _) => hq9; (have hq8 := PySem.W.allLt_of hq9); clear hq9; simp only [PySem.W.AllLt, and_true] at hq8)); omega (config := { splitDisjunctions := true })))
  k_with "callWith ref" => (k_here; k_dflt (refine' callWith_K ?zs1 ?zs2 ?_; (case zs1 => k_asm); (case zs2 => k_is); k_whole))
  k_with "call builtin:len" => (k_here; (with_reducible show wpAny _ _ (call (Value.builtin _) [Value.ref _]) _ _ _); (with_unfolding_all refine' len_ints_fit ?zs1 ?zs2 ?zs3 ?_; (case zs1 => is_list); (case zs2 => l_ints); (case zs3 => l_fit); k_whole); (try simp only [List.length_append, List.length_cons, List.length_nil, Nat.zero_add]))
  k_with "subscriptTail Name" => (k_here; (with_reducible show wpAny _ _ (subscriptTail _ _ (Value.ref _) (Value.int _ _)) _ _ _); kim_at)
  k_with "getMethod ref" => (k_here; k_dflt (refine' method_inst ?zs1 ?zs2 ?zs3 ?zs4 ?zs5 ?zs6 ?zs7 ?_; (case zs1 => k_asm); (case zs2 => k_asm); (case zs3 => k_inst); (case zs4 => k_is); (case zs5 => k_is); (case zs6 => k_is); (case zs7 => k_get); k_whole))
  k_with "execs cons" => (refine seqK ?_; intro K9 tk9 hK9; (try dsimp only))
  k_with "KK next" => (refine' kk_next ?h9 ?_; (case h9 => with_reducible assumption))
  k_with "KK ret" => (refine' kk_ret ?h9 ?_; (case h9 => with_reducible assumption); (try dsimp only))
  k_with "KK brk" => (refine' kk_brk ?h9 ?_; (case h9 => with_reducible assumption); (try dsimp only))
  k_with "KK cont" => (refine' kk_cont ?h9 ?_; (case h9 => with_reducible assumption); (try dsimp only))
  k_with "ktr_unf" => (k_dflt (first | (refine' enterP ?zqk1 ?zqk2 ?zqk3 ?zqk4 ?zqk5 ?zqkA ?zqkF ?zqkK ?zqk6 ?zqk7 ?zqk8 ?zqk9 ?zqkB ?_ ?zqc2 ?zqc3 ?zqc4 ?zqc5; (case zqkA => exact rfl); (case zqkF => assumption); (case zqkK => assumption); (case zqk1 => k_asm); (case zqk2 => k_asm); (case zqk3 => k_asm); (case zqk4 => k_asm); (case zqk5 => k_asm); (case zqk6 => k_is); (case zqk7 => k_is); (case zqk8 => k_room); (case zqk9 => exact BindsTo.of_eq rfl); (case zqc5 => decide); (case zqkB => exact locs rfl); (case zqc2 => exact rfl); (case zqc3 => exact rfl); (case zqc4 => exact rfl); k_whole; intro g' L' h' F' N' B' X' T' l1; (try k_lt l1); (try dsimp only); (try k_lift B'); (try k_fold)) | (refine' enterPC ?zqk1 ?zqk2 ?zqk3 ?zqk4 ?zqk5 ?zqkA ?zqkF ?zqkK ?zqk6 ?zqk7 ?zqk8 ?zqk9 ?zqkB ?zqkD ?_ ?zqc2 ?zqc3 ?zqc4; (case zqkA => exact rfl); (case zqkF => assumption); (case zqkK => assumption); (case zqk1 => k_asm); (case zqk2 => k_asm); (case zqk3 => k_asm); (case zqk4 => k_asm); (case zqk5 => k_asm); (case zqk6 => k_is); (case zqk7 => k_is); (case zqk8 => k_room); (case zqk9 => exact BindsTo.of_eq rfl); (case zqkB => exact rfl); (case zqkD => decide +kernel); (case zqc2 => exact rfl); (case zqc3 => exact rfl); (case zqc4 => exact rfl); k_whole; intro g' L' h' tk' cells' F' N' Y' B' X' T' l1; (try k_lt l1); k_cells Y'; (try simp only [List.cons_append, List.nil_append] at N'); (try dsimp only); (try k_lift B'); (try k_fold))))
  k_with "call builtin:next" => (k_here; (with_reducible show wpAny _ _ (call (Value.builtin "next") [Value.ref _]) _ _ _); k_dflt (refine' call_next_list (vs := List.toArray _) ?zqF ?zqN ?zqU ?zql ?zqx ?_; (case zqF => k_asm); (case zqN => k_asm); (case zqU => k_updF); (case zql => exact News.isList (by k_asm) (by k_mem)); (case zqx => k_extra "item"); k_whole; intro h' F' N'; (try dsimp only at N')))
  replace N : News h₀ L s.heap [(it, litObj l i), (l, listOf vs.toArray ep)] := cb_drop N (by intro q hq; rcases List.mem_cons.mp hq with rfl | hq; exact upd_mem U; rw [List.mem_singleton.mp hq]; exact hl)
  clear hl U
  obtain ⟨tb, hb'⟩ := hi.get i b hb
  ktr_unf
  clear F N B X T
  k_with "item" => (rw [List.getElem?_toArray]; first | exact hb' | assumption)
  k_with "exec While BinOp cons nil" => (
    k_dflt refine' my_while (σ := Nat × Int × Tok × Int × Tok) (fun c => [(it, litObj l c.1), (l, listOf vs.toArray ep)])
      (fun c => [("iterator", .ref it), ("b", .int c.2.1 c.2.2.1), ("val", .int c.2.2.2.1 c.2.2.2.2)])
      (fun c => Pv ns c.1 c.2.1 c.2.2.2.1 v k ∧ c.1 ≤ k ∧ 0 ≤ c.2.2.2.1 ∧ c.2.2.2.1 < 2 ^ 64) (fun c => k - c.1) (_, _, _, _, _) ?F ?N ?hn ?hk ?hp ?turn ?hE
    case hE => exact fun _ _ h => h
    case F => k_asm
    case N => k_asm
    case hn => kcj_all
    case hk => kst_all
    case hp => exact ⟨hv, hv.le, hv.nonneg, hv.small⟩
    intro c u h1 tk1 htk1 hc1 F1 N1
    obtain ⟨j, bb, tb1, val, tv⟩ := c
    dsimp only at hc1 F1 N1 ⊢
    obtain ⟨hpv, hjk, hv0, hv1⟩ := hc1
    rcases hpv.inv with ⟨hz, hz1, hz2⟩ | ⟨hz, bn, hnb, hrest⟩
    rotate_left
    obtain ⟨tb2, hb2⟩ := hi.get _ _ hnb)
  k_steps
  any_goals (exfalso; contradiction)
  · k_dflt (refine' lend (_, _, _, _, _) ?F ?N ?hn ?hk ?hp; (case F => k_asm); (case N => k_asm); (case hn => kcj_all); (case hk => kst_all))
    exact ⟨⟨hrest, hrest.le, hrest.nonneg, hrest.small⟩, by have := hrest.le; omega⟩
  · subst hz1 hz2
    (try dsimp only)
    refine end_upd (by assumption) (by assumption) (by k_mem) (by kcj_all) (ret _ _ _)


end

-- C1
section
variable {w : World} {p : Program} {loose : List Str} {mean : ExcName → Option Value} {mg mb : Str → Option Value} {dp un : Nat} {gd : Option (List Code)} {env : Env} {outer : List Env} {A₀ : Around} {base h₀ : Heap} {L : Addr} {m : Str → Option Value} {news : List (Addr × Obj)} {s : Shared} {Q E : Value → Shared → Prop}


theorem common_spec (B : Below A₀ base outer h₀) (F : Fr h₀ L s.heap m) (X : (hd.heap_1 w.params).In h₀) (T : Top p loose mean mg mb h₀) (hf : env.frame = some L) (hke : env.scope.kind = .function) (hdp : dp + 2 < recursionLimit) (hu : un + 40 < cLine) (N : News h₀ L s.heap news) (x y : Int) (tx ty : Tok) (hx : 0 ≤ x) (hy : 0 ≤ y)
   (ret : ∀ t h' tk', s.heap.StaysIn h' → Q (.int (Int.gcd x y) t) { s with heap := h', toks := tk' }) :
   wpAny (model PySem.Challenge.rw_sr0006_01.row.prog w) (Am dp un gd env outer) (call (.ref 155) [.int x tx, .int y ty]) Q E s := by
  revert X; k_fill; intro X; k_with_none
  k_with "k_lk" => (first | (refine' lt_get ?h9 ?m9; (case h9 => with_reducible assumption); (case m9 => k_mem)) | (refine' Ne.symm (lt_get ?h9 ?m9); (case h9 => with_reducible assumption); (case m9 => k_mem)) | (refine' ana_get ?h9 ?m9; (case h9 => with_reducible assumption); (case m9 => k_mem)) | (refine' Ne.symm (ana_get ?h9 ?m9); (case h9 => with_reducible assumption); (case m9 => k_mem)) | with_reducible assumption | (refine Ne.symm ?_; with_reducible assumption) | fail "k_lk")
  k_with "k_ne" => first | k_extra "k_lk" | omega
  k_with "k_all" => (first | with_reducible assumption | (refine' lt_all ?h9; (case h9 => with_reducible assumption)) | fail "k_all")
  k_with "k_mem" => (first | exact mI0 | exact mI1 | exact mI2 | exact mI3 | exact mI4 | exact mI5 | exact mI6 | exact mI7 | exact mI8 | exact mI9 | exact mI10 | exact mI11 | (refine mS12 ?_; k_mem))
  k_with "k_room" => first | (refine' rm0 ?h9 ?k9; (case h9 => with_reducible assumption); (case k9 => exact Nat.le_of_ble_eq_true rfl)) | (refine' rm1 ?h9 ?k9; (case h9 => with_reducible assumption); (case k9 => exact Nat.le_of_ble_eq_true rfl)) | (refine' rm2 ?h9; (case h9 => with_reducible assumption)) | (refine' rm4 ?h9; (case h9 => with_reducible assumption)) | (simp only [depth_under_make, depth_under_kw, depth_in1, depth_deeper, depth_caller, recursionLimit] at *; omega)
  k_with "k_units" => first | (refine' rm0 ?h9 ?k9; (case h9 => with_reducible assumption); (case k9 => exact Nat.le_of_ble_eq_true rfl)) | (refine' rm1 ?h9 ?k9; (case h9 => with_reducible assumption); (case k9 => exact Nat.le_of_ble_eq_true rfl)) | (refine' rm2 ?h9; (case h9 => with_reducible assumption)) | (refine' rm4 ?h9; (case h9 => with_reducible assumption)) | (simp only [units_in1, units_deeper, Around.mark_units, units_caller, cLine] at *; omega)
  k_with "om" => (first | (refine neN ?_; (try dsimp only); k_extra "k_lk") | with_reducible assumption | exact Nat.le_of_ble_eq_true rfl | (refine' le_lit ?h9 ?k9; (case h9 => with_reducible assumption); (case k9 => exact Nat.le_of_ble_eq_true rfl)) | (refine' lt_lit ?h9 ?k9; (case h9 => with_reducible assumption); (case k9 => exact Nat.le_of_ble_eq_true rfl)) | (refine' rm0 ?h9 ?k9; (case h9 => with_reducible assumption); (case k9 => exact Nat.le_of_ble_eq_true rfl)) | (refine' rm1 ?h9 ?k9; (case h9 => with_reducible assumption); (case k9 => exact Nat.le_of_ble_eq_true rfl)) | (refine' rm2 ?h9; (case h9 => with_reducible assumption)) | (refine' rm4 ?h9; (case h9 => with_reducible assumption)) | omega (config := { splitDisjunctions := false }) | ((repeat (first | (rename _ ≠ _ ∧ _ => hq9; clear hq9) | (rename (_ ≠ _ ∧ _) ∧ _ => hq9; clear hq9))); omega (config := { splitDisjunctions := true })) | omega (config := { splitDisjunctions := true }) | ((repeat (rename (∀ p ∈ (_ : List (PySem.Addr × PySem.Obj)), @LT.lt Nat _ p.1 _) => hq9; (have hq8 := PySem.W.allLt_of hq9); clear hq9; simp only [PySem.W.AllLt, and_true] at hq8)); omega (config := { splitDisjunctions := true })))
  k_with "callWith ref" => (k_here; k_dflt (refine' callWith_K ?zs1 ?zs2 ?_; (case zs1 => k_asm); (case zs2 => k_is); k_whole))
  k_with "call builtin:len" => (k_here; (with_reducible show wpAny _ _ (call (Value.builtin _) [Value.ref _]) _ _ _); (with_unfolding_all refine' len_ints_fit ?zs1 ?zs2 ?zs3 ?_; (case zs1 => is_list); (case zs2 => l_ints); (case zs3 => l_fit); k_whole); (try simp only [List.length_append, List.length_cons, List.length_nil, Nat.zero_add]))
  k_with "subscriptTail Name" => (k_here; (with_reducible show wpAny _ _ (subscriptTail _ _ (Value.ref _) (Value.int _ _)) _ _ _); kim_at)
  k_with "getMethod ref" => (k_here; k_dflt (refine' method_inst ?zs1 ?zs2 ?zs3 ?zs4 ?zs5 ?zs6 ?zs7 ?_; (case zs1 => k_asm); (case zs2 => k_asm); (case zs3 => k_inst); (case zs4 => k_is); (case zs5 => k_is); (case zs6 => k_is); (case zs7 => k_get); k_whole))
  k_with "execs cons" => (refine seqK ?_; intro K9 tk9 hK9; (try dsimp only))
  k_with "KK next" => (refine' kk_next ?h9 ?_; (case h9 => with_reducible assumption))
  k_with "KK ret" => (refine' kk_ret ?h9 ?_; (case h9 => with_reducible assumption); (try dsimp only))
  k_with "KK brk" => (refine' kk_brk ?h9 ?_; (case h9 => with_reducible assumption); (try dsimp only))
  k_with "KK cont" => (refine' kk_cont ?h9 ?_; (case h9 => with_reducible assumption); (try dsimp only))
  k_with "ktr_unf" => (k_dflt (first | (refine' enterP ?zqk1 ?zqk2 ?zqk3 ?zqk4 ?zqk5 ?zqkA ?zqkF ?zqkK ?zqk6 ?zqk7 ?zqk8 ?zqk9 ?zqkB ?_ ?zqc2 ?zqc3 ?zqc4 ?zqc5; (case zqkA => exact rfl); (case zqkF => assumption); (case zqkK => assumption); (case zqk1 => k_asm); (case zqk2 => k_asm); (case zqk3 => k_asm); (case zqk4 => k_asm); (case zqk5 => k_asm); (case zqk6 => k_is); (case zqk7 => k_is); (case zqk8 => k_room); (case zqk9 => exact BindsTo.of_eq rfl); (case zqc5 => decide); (case zqkB => exact locs rfl); (case zqc2 => exact rfl); (case zqc3 => exact rfl); (case zqc4 => exact rfl); k_whole; intro g' L' h' F' N' B' X' T' l1; (try k_lt l1); (try dsimp only); (try k_lift B'); (try k_fold)) | (refine' enterPC ?zqk1 ?zqk2 ?zqk3 ?zqk4 ?zqk5 ?zqkA ?zqkF ?zqkK ?zqk6 ?zqk7 ?zqk8 ?zqk9 ?zqkB ?zqkD ?_ ?zqc2 ?zqc3 ?zqc4; (case zqkA => exact rfl); (case zqkF => assumption); (case zqkK => assumption); (case zqk1 => k_asm); (case zqk2 => k_asm); (case zqk3 => k_asm); (case zqk4 => k_asm); (case zqk5 => k_asm); (case zqk6 => k_is); (case zqk7 => k_is); (case zqk8 => k_room); (case zqk9 => exact BindsTo.of_eq rfl); (case zqkB => exact rfl); (case zqkD => decide +kernel); (case zqc2 => exact rfl); (case zqc3 => exact rfl); (case zqc4 => exact rfl); k_whole; intro g' L' h' tk' cells' F' N' Y' B' X' T' l1; (try k_lt l1); k_cells Y'; (try simp only [List.cons_append, List.nil_append] at N'); (try dsimp only); (try k_lift B'); (try k_fold))))
  replace N : News h₀ L s.heap [] := News.nil
  ktr_unf
  clear F N B X T
  k_with "exec While Compare cons nil" => k_dflt (
    k_dflt refine' my_while (σ := Int × Tok × Int × Tok) (fun c => []) (fun c => [("a", .int c.1 c.2.1), ("b", .int c.2.2.1 c.2.2.2)])
      (fun c => 0 ≤ c.1 ∧ 0 ≤ c.2.2.1 ∧ Int.gcd c.1 c.2.2.1 = Int.gcd x y) (fun c => c.2.2.1.toNat) (_, _, _, _) ?F ?N ?hn ?hk ?hp ?turn ?hE
    case hE => exact fun _ _ h => h
    case F => k_asm
    case N => k_asm
    case hn => kcj_all
    case hk => kst_all
    case hp => exact ⟨hx, hy, rfl⟩
    intro c u h1 tk1 htk1 hc1 F1 N1
    obtain ⟨a1, t1, b1, u1⟩ := c
    dsimp only at hc1 F1 N1 ⊢
    obtain ⟨hc1, hc2, hc3⟩ := hc1)
  k_steps
  · k_dflt (refine' lend (_, _, _, _) ?F ?N ?hn ?hk ?hp; (case F => k_asm); (case N => k_asm); (case hn => kcj_all); (case hk => kst_all))
    have hb : 0 < b1 := by (first | assumption | omega | (simp_all; omega))
    (try dsimp only)
    rw [Int.fmod_eq_emod_of_nonneg _ hc2]
    refine ⟨⟨hc2, Int.emod_nonneg _ (by omega), ?_⟩, ?_⟩
    · rw [← hc3]
      obtain ⟨a2, rfl⟩ := Int.eq_ofNat_of_zero_le hc1
      obtain ⟨b2, rfl⟩ := Int.eq_ofNat_of_zero_le hc2
      show Nat.gcd b2 (a2 % b2) = Nat.gcd a2 b2
      rw [Nat.gcd_comm a2 b2, Nat.gcd_rec b2 a2, Nat.gcd_comm]
    · have := Int.emod_lt_of_pos a1 hb
      have := Int.emod_nonneg a1 (b := b1) (by omega)
      omega
  · (try dsimp only)
    have hb : b1 = 0 := by (first | omega | (simp_all; omega))
    subst hb
    refine end_val (by assumption) (by assumption) (by kcj_all) fun k => ?_
    have he : a1 = (Int.gcd x y : Int) := by rw [← hc3, Int.gcd_zero_right, Int.natAbs_of_nonneg hc1]
    rw [he]
    exact ret _ _ _ k


end

-- I_isterm
section
variable {w : World} {p : Program} {loose : List Str} {mean : ExcName → Option Value} {mg mb : Str → Option Value} {dp un : Nat} {gd : Option (List Code)} {env : Env} {outer : List Env} {A₀ : Around} {base h₀ : Heap} {L : Addr} {m : Str → Option Value} {news : List (Addr × Obj)} {s : Shared} {Q E : Value → Shared → Prop}


theorem isterm_spec (B : Below A₀ base outer h₀) (F : Fr h₀ L s.heap m) (X : (hd.heap_1 w.params).In h₀) (T : Top p loose mean mg mb h₀) (hf : env.frame = some L) (hke : env.scope.kind = .function) (hdp : dp + 2 < recursionLimit) (hu : un + 40 < cLine) (N : News h₀ L s.heap news) (x : Int) (tx : Tok)
   (ret : ∀ h' tk', s.heap.StaysIn h' → Q (.bool (decide (x < 256))) { s with heap := h', toks := tk' }) :
   wpAny (model PySem.Challenge.rw_sr0006_01.row.prog w) (Am dp un gd env outer) (call (.ref 77) [.int x tx]) Q E s := by
  revert X; k_fill; intro X; k_with_none
  k_with "k_lk" => (first | (refine' lt_get ?h9 ?m9; (case h9 => with_reducible assumption); (case m9 => k_mem)) | (refine' Ne.symm (lt_get ?h9 ?m9); (case h9 => with_reducible assumption); (case m9 => k_mem)) | (refine' ana_get ?h9 ?m9; (case h9 => with_reducible assumption); (case m9 => k_mem)) | (refine' Ne.symm (ana_get ?h9 ?m9); (case h9 => with_reducible assumption); (case m9 => k_mem)) | with_reducible assumption | (refine Ne.symm ?_; with_reducible assumption) | fail "k_lk")
  k_with "k_ne" => first | k_extra "k_lk" | omega
  k_with "k_all" => (first | with_reducible assumption | (refine' lt_all ?h9; (case h9 => with_reducible assumption)) | fail "k_all")
  k_with "k_mem" => (first | exact mI0 | exact mI1 | exact mI2 | exact mI3 | exact mI4 | exact mI5 | exact mI6 | exact mI7 | exact mI8 | exact mI9 | exact mI10 | exact mI11 | (refine mS12 ?_; k_mem))
  k_with "k_room" => first | (refine' rm0 ?h9 ?k9; (case h9 => with_reducible assumption); (case k9 => exact Nat.le_of_ble_eq_true rfl)) | (refine' rm1 ?h9 ?k9; (case h9 => with_reducible assumption); (case k9 => exact Nat.le_of_ble_eq_true rfl)) | (refine' rm2 ?h9; (case h9 => with_reducible assumption)) | (refine' rm4 ?h9; (case h9 => with_reducible assumption)) | (simp only [depth_under_make, depth_under_kw, depth_in1, depth_deeper, depth_caller, recursionLimit] at *; omega)
  k_with "k_units" => first | (refine' rm0 ?h9 ?k9; (case h9 => with_reducible assumption); (case k9 => exact Nat.le_of_ble_eq_true rfl)) | (refine' rm1 ?h9 ?k9; (case h9 => with_reducible assumption); (case k9 => exact Nat.le_of_ble_eq_true rfl)) | (refine' rm2 ?h9; (case h9 => with_reducible assumption)) | (refine' rm4 ?h9; (case h9 => with_reducible assumption)) | (simp only [units_in1, units_deeper, Around.mark_units, units_caller, cLine] at *; omega)
  k_with "om" => (first | (refine neN ?_; (try dsimp only); k_extra "k_lk") | with_reducible assumption | exact Nat.le_of_ble_eq_true rfl | (refine' le_lit ?h9 ?k9; (case h9 => with_reducible assumption); (case k9 => exact Nat.le_of_ble_eq_true rfl)) | (refine' lt_lit ?h9 ?k9; (case h9 => with_reducible assumption); (case k9 => exact Nat.le_of_ble_eq_true rfl)) | (refine' rm0 ?h9 ?k9; (case h9 => with_reducible assumption); (case k9 => exact Nat.le_of_ble_eq_true rfl)) | (refine' rm1 ?h9 ?k9; (case h9 => with_reducible assumption); (case k9 => exact Nat.le_of_ble_eq_true rfl)) | (refine' rm2 ?h9; (case h9 => with_reducible assumption)) | (refine' rm4 ?h9; (case h9 => with_reducible assumption)) | omega (config := { splitDisjunctions := false }) | ((repeat (first | (rename _ ≠ _ ∧ _ => hq9; clear hq9) | (rename (_ ≠ _ ∧ _) ∧ _ => hq9; clear hq9))); omega (config := { splitDisjunctions := true })) | omega (config := { splitDisjunctions := true }) | ((repeat (rename (∀ p ∈ (_ : List (PySem.Addr × PySem.Obj)), @LT.lt Nat _ p.1 _) => hq9; (have hq8 := PySem.W.allLt_of hq9); clear hq9; simp only [PySem.W.AllLt, and_true] at hq8)); omega (config := { splitDisjunctions := true })))
  k_with "callWith ref" => (k_here; k_dflt (refine' callWith_K ?zs1 ?zs2 ?_; (case zs1 => k_asm); (case zs2 => k_is); k_whole))
  k_with "call builtin:len" => (k_here; (with_reducible show wpAny _ _ (call (Value.builtin _) [Value.ref _]) _ _ _); (with_unfolding_all refine' len_ints_fit ?zs1 ?zs2 ?zs3 ?_; (case zs1 => is_list); (case zs2 => l_ints); (case zs3 => l_fit); k_whole); (try simp only [List.length_append, List.length_cons, List.length_nil, Nat.zero_add]))
  k_with "subscriptTail Name" => (k_here; (with_reducible show wpAny _ _ (subscriptTail _ _ (Value.ref _) (Value.int _ _)) _ _ _); kim_at)
  k_with "getMethod ref" => (k_here; k_dflt (refine' method_inst ?zs1 ?zs2 ?zs3 ?zs4 ?zs5 ?zs6 ?zs7 ?_; (case zs1 => k_asm); (case zs2 => k_asm); (case zs3 => k_inst); (case zs4 => k_is); (case zs5 => k_is); (case zs6 => k_is); (case zs7 => k_get); k_whole))
  k_with "execs cons" => (refine seqK ?_; intro K9 tk9 hK9; (try dsimp only))
  k_with "KK next" => (refine' kk_next ?h9 ?_; (case h9 => with_reducible assumption))
  k_with "KK ret" => (refine' kk_ret ?h9 ?_; (case h9 => with_reducible assumption); (try dsimp only))
  k_with "KK brk" => (refine' kk_brk ?h9 ?_; (case h9 => with_reducible assumption); (try dsimp only))
  k_with "KK cont" => (refine' kk_cont ?h9 ?_; (case h9 => with_reducible assumption); (try dsimp only))
  k_with "ktr_unf" => (k_dflt (first | (refine' enterP ?zqk1 ?zqk2 ?zqk3 ?zqk4 ?zqk5 ?zqkA ?zqkF ?zqkK ?zqk6 ?zqk7 ?zqk8 ?zqk9 ?zqkB ?_ ?zqc2 ?zqc3 ?zqc4 ?zqc5; (case zqkA => exact rfl); (case zqkF => assumption); (case zqkK => assumption); (case zqk1 => k_asm); (case zqk2 => k_asm); (case zqk3 => k_asm); (case zqk4 => k_asm); (case zqk5 => k_asm); (case zqk6 => k_is); (case zqk7 => k_is); (case zqk8 => k_room); (case zqk9 => exact BindsTo.of_eq rfl); (case zqc5 => decide); (case zqkB => exact locs rfl); (case zqc2 => exact rfl); (case zqc3 => exact rfl); (case zqc4 => exact rfl); k_whole; intro g' L' h' F' N' B' X' T' l1; (try k_lt l1); (try dsimp only); (try k_lift B'); (try k_fold)) | (refine' enterPC ?zqk1 ?zqk2 ?zqk3 ?zqk4 ?zqk5 ?zqkA ?zqkF ?zqkK ?zqk6 ?zqk7 ?zqk8 ?zqk9 ?zqkB ?zqkD ?_ ?zqc2 ?zqc3 ?zqc4; (case zqkA => exact rfl); (case zqkF => assumption); (case zqkK => assumption); (case zqk1 => k_asm); (case zqk2 => k_asm); (case zqk3 => k_asm); (case zqk4 => k_asm); (case zqk5 => k_asm); (case zqk6 => k_is); (case zqk7 => k_is); (case zqk8 => k_room); (case zqk9 => exact BindsTo.of_eq rfl); (case zqkB => exact rfl); (case zqkD => decide +kernel); (case zqc2 => exact rfl); (case zqc3 => exact rfl); (case zqc4 => exact rfl); k_whole; intro g' L' h' tk' cells' F' N' Y' B' X' T' l1; (try k_lt l1); k_cells Y'; (try simp only [List.cons_append, List.nil_append] at N'); (try dsimp only); (try k_lift B'); (try k_fold))))
  replace N : News h₀ L s.heap [] := News.nil
  ktr_unf
  clear F N B X T
  k_steps
  refine end_val (by assumption) (by assumption) (by kcj_all) fun k => ?_
  exact ret _ _ k


end

-- I_isnon
section
variable {w : World} {p : Program} {loose : List Str} {mean : ExcName → Option Value} {mg mb : Str → Option Value} {dp un : Nat} {gd : Option (List Code)} {env : Env} {outer : List Env} {A₀ : Around} {base h₀ : Heap} {L : Addr} {m : Str → Option Value} {news : List (Addr × Obj)} {s : Shared} {Q E : Value → Shared → Prop}


theorem isnon_spec (B : Below A₀ base outer h₀) (F : Fr h₀ L s.heap m) (X : (hd.heap_1 w.params).In h₀) (T : Top p loose mean mg mb h₀) (hf : env.frame = some L) (hke : env.scope.kind = .function) (hdp : dp + 2 < recursionLimit) (hu : un + 40 < cLine) (N : News h₀ L s.heap news) (x : Int) (tx : Tok)
   (ret : ∀ h' tk', s.heap.StaysIn h' → Q (.bool (decide (256 ≤ x))) { s with heap := h', toks := tk' }) :
   wpAny (model PySem.Challenge.rw_sr0006_01.row.prog w) (Am dp un gd env outer) (call (.ref 84) [.int x tx]) Q E s := by
  revert X; k_fill; intro X; k_with_none
  k_with "k_lk" => (first | (refine' lt_get ?h9 ?m9; (case h9 => with_reducible assumption); (case m9 => k_mem)) | (refine' Ne.symm (lt_get ?h9 ?m9); (case h9 => with_reducible assumption); (case m9 => k_mem)) | (refine' ana_get ?h9 ?m9; (case h9 => with_reducible assumption); (case m9 => k_mem)) | (refine' Ne.symm (ana_get ?h9 ?m9); (case h9 => with_reducible assumption); (case m9 => k_mem)) | with_reducible assumption | (refine Ne.symm ?_; with_reducible assumption) | fail "k_lk")
  k_with "k_ne" => first | k_extra "k_lk" | omega
  k_with "k_all" => (first | with_reducible assumption | (refine' lt_all ?h9; (case h9 => with_reducible assumption)) | fail "k_all")
  k_with "k_mem" => (first | exact mI0 | exact mI1 | exact mI2 | exact mI3 | exact mI4 | exact mI5 | exact mI6 | exact mI7 | exact mI8 | exact mI9 | exact mI10 | exact mI11 | (refine mS12 ?_; k_mem))
  k_with "k_room" => first | (refine' rm0 ?h9 ?k9; (case h9 => with_reducible assumption); (case k9 => exact Nat.le_of_ble_eq_true rfl)) | (refine' rm1 ?h9 ?k9; (case h9 => with_reducible assumption); (case k9 => exact Nat.le_of_ble_eq_true rfl)) | (refine' rm2 ?h9; (case h9 => with_reducible assumption)) | (refine' rm4 ?h9; (case h9 => with_reducible assumption)) | (simp only [depth_under_make, depth_under_kw, depth_in1, depth_deeper, depth_caller, recursionLimit] at *; omega)
  k_with "k_units" => first | (refine' rm0 ?h9 ?k9; (case h9 => with_reducible assumption); (case k9 => exact Nat.le_of_ble_eq_true rfl)) | (refine' rm1 ?h9 ?k9; (case h9 => with_reducible assumption); (case k9 => exact Nat.le_of_ble_eq_true rfl)) | (refine' rm2 ?h9; (case h9 => with_reducible assumption)) | (refine' rm4 ?h9; (case h9 => with_reducible assumption)) | (simp only [units_in1, units_deeper, Around.mark_units, units_caller, cLine] at *; omega)
  k_with "om" => (first | (refine neN ?_; (try dsimp only); k_extra "k_lk") | with_reducible assumption | exact Nat.le_of_ble_eq_true rfl | (refine' le_lit ?h9 ?k9; (case h9 => with_reducible assumption); (case k9 => exact Nat.le_of_ble_eq_true rfl)) | (refine' lt_lit ?h9 ?k9; (case h9 => with_reducible assumption); (case k9 => exact Nat.le_of_ble_eq_true rfl)) | (refine' rm0 ?h9 ?k9; (case h9 => with_reducible assumption); (case k9 => exact Nat.le_of_ble_eq_true rfl)) | (refine' rm1 ?h9 ?k9; (case h9 => with_reducible assumption); (case k9 => exact Nat.le_of_ble_eq_true rfl)) | (refine' rm2 ?h9; (case h9 => with_reducible assumption)) | (refine' rm4 ?h9; (case h9 => with_reducible assumption)) | omega (config := { splitDisjunctions := false }) | ((repeat (first | (rename _ ≠ _ ∧ _ => hq9; clear hq9) | (rename (_ ≠ _ ∧ _) ∧ _ => hq9; clear hq9))); omega (config := { splitDisjunctions := true })) | omega (config := { splitDisjunctions := true }) | ((repeat (rename (∀ p ∈ (_ : List (PySem.Addr × PySem.Obj)), @LT.lt Nat _ p.1 _) => hq9; (have hq8 := PySem.W.allLt_of hq9); clear hq9; simp only [PySem.W.AllLt, and_true] at hq8)); omega (config := { splitDisjunctions := true })))
  k_with "callWith ref" => (k_here; k_dflt (refine' callWith_K ?zs1 ?zs2 ?_; (case zs1 => k_asm); (case zs2 => k_is); k_whole))
  k_with "call builtin:len" => (k_here; (with_reducible show wpAny _ _ (call (Value.builtin _) [Value.ref _]) _ _ _); (with_unfolding_all refine' len_ints_fit ?zs1 ?zs2 ?zs3 ?_; (case zs1 => is_list); (case zs2 => l_ints); (case zs3 => l_fit); k_whole); (try simp only [List.length_append, List.length_cons, List.length_nil, Nat.zero_add]))
  k_with "subscriptTail Name" => (k_here; (with_reducible show wpAny _ _ (subscriptTail _ _ (Value.ref _) (Value.int _ _)) _ _ _); kim_at)
  k_with "getMethod ref" => (k_here; k_dflt (refine' method_inst ?zs1 ?zs2 ?zs3 ?zs4 ?zs5 ?zs6 ?zs7 ?_; (case zs1 => k_asm); (case zs2 => k_asm); (case zs3 => k_inst); (case zs4 => k_is); (case zs5 => k_is); (case zs6 => k_is); (case zs7 => k_get); k_whole))
  k_with "execs cons" => (refine seqK ?_; intro K9 tk9 hK9; (try dsimp only))
  k_with "KK next" => (refine' kk_next ?h9 ?_; (case h9 => with_reducible assumption))
  k_with "KK ret" => (refine' kk_ret ?h9 ?_; (case h9 => with_reducible assumption); (try dsimp only))
  k_with "KK brk" => (refine' kk_brk ?h9 ?_; (case h9 => with_reducible assumption); (try dsimp only))
  k_with "KK cont" => (refine' kk_cont ?h9 ?_; (case h9 => with_reducible assumption); (try dsimp only))
  k_with "ktr_unf" => (k_dflt (first | (refine' enterP ?zqk1 ?zqk2 ?zqk3 ?zqk4 ?zqk5 ?zqkA ?zqkF ?zqkK ?zqk6 ?zqk7 ?zqk8 ?zqk9 ?zqkB ?_ ?zqc2 ?zqc3 ?zqc4 ?zqc5; (case zqkA => exact rfl); (case zqkF => assumption); (case zqkK => assumption); (case zqk1 => k_asm); (case zqk2 => k_asm); (case zqk3 => k_asm); (case zqk4 => k_asm); (case zqk5 => k_asm); (case zqk6 => k_is); (case zqk7 => k_is); (case zqk8 => k_room); (case zqk9 => exact BindsTo.of_eq rfl); (case zqc5 => decide); (case zqkB => exact locs rfl); (case zqc2 => exact rfl); (case zqc3 => exact rfl); (case zqc4 => exact rfl); k_whole; intro g' L' h' F' N' B' X' T' l1; (try k_lt l1); (try dsimp only); (try k_lift B'); (try k_fold)) | (refine' enterPC ?zqk1 ?zqk2 ?zqk3 ?zqk4 ?zqk5 ?zqkA ?zqkF ?zqkK ?zqk6 ?zqk7 ?zqk8 ?zqk9 ?zqkB ?zqkD ?_ ?zqc2 ?zqc3 ?zqc4; (case zqkA => exact rfl); (case zqkF => assumption); (case zqkK => assumption); (case zqk1 => k_asm); (case zqk2 => k_asm); (case zqk3 => k_asm); (case zqk4 => k_asm); (case zqk5 => k_asm); (case zqk6 => k_is); (case zqk7 => k_is); (case zqk8 => k_room); (case zqk9 => exact BindsTo.of_eq rfl); (case zqkB => exact rfl); (case zqkD => decide +kernel); (case zqc2 => exact rfl); (case zqc3 => exact rfl); (case zqc4 => exact rfl); k_whole; intro g' L' h' tk' cells' F' N' Y' B' X' T' l1; (try k_lt l1); k_cells Y'; (try simp only [List.cons_append, List.nil_append] at N'); (try dsimp only); (try k_lift B'); (try k_fold))))
  replace N : News h₀ L s.heap [] := News.nil
  ktr_unf
  clear F N B X T
  k_steps
  refine end_val (by assumption) (by assumption) (by kcj_all) fun k => ?_
  exact ret _ _ k


end

-- I_iseof
section
variable {w : World} {p : Program} {loose : List Str} {mean : ExcName → Option Value} {mg mb : Str → Option Value} {dp un : Nat} {gd : Option (List Code)} {env : Env} {outer : List Env} {A₀ : Around} {base h₀ : Heap} {L : Addr} {m : Str → Option Value} {news : List (Addr × Obj)} {s : Shared} {Q E : Value → Shared → Prop}


theorem iseof_spec (B : Below A₀ base outer h₀) (F : Fr h₀ L s.heap m) (X : (hd.heap_1 w.params).In h₀) (T : Top p loose mean mg mb h₀) (hf : env.frame = some L) (hke : env.scope.kind = .function) (hdp : dp + 2 < recursionLimit) (hu : un + 40 < cLine) (N : News h₀ L s.heap news) (x : Int) (tx : Tok)
   (ret : ∀ h' tk', s.heap.StaysIn h' → Q (.bool (decide (x = 0))) { s with heap := h', toks := tk' }) :
   wpAny (model PySem.Challenge.rw_sr0006_01.row.prog w) (Am dp un gd env outer) (call (.ref 91) [.int x tx]) Q E s := by
  revert X; k_fill; intro X; k_with_none
  k_with "k_lk" => (first | (refine' lt_get ?h9 ?m9; (case h9 => with_reducible assumption); (case m9 => k_mem)) | (refine' Ne.symm (lt_get ?h9 ?m9); (case h9 => with_reducible assumption); (case m9 => k_mem)) | (refine' ana_get ?h9 ?m9; (case h9 => with_reducible assumption); (case m9 => k_mem)) | (refine' Ne.symm (ana_get ?h9 ?m9); (case h9 => with_reducible assumption); (case m9 => k_mem)) | with_reducible assumption | (refine Ne.symm ?_; with_reducible assumption) | fail "k_lk")
  k_with "k_ne" => first | k_extra "k_lk" | omega
  k_with "k_all" => (first | with_reducible assumption | (refine' lt_all ?h9; (case h9 => with_reducible assumption)) | fail "k_all")
  k_with "k_mem" => (first | exact mI0 | exact mI1 | exact mI2 | exact mI3 | exact mI4 | exact mI5 | exact mI6 | exact mI7 | exact mI8 | exact mI9 | exact mI10 | exact mI11 | (refine mS12 ?_; k_mem))
  k_with "k_room" => first | (refine' rm0 ?h9 ?k9; (case h9 => with_reducible assumption); (case k9 => exact Nat.le_of_ble_eq_true rfl)) | (refine' rm1 ?h9 ?k9; (case h9 => with_reducible assumption); (case k9 => exact Nat.le_of_ble_eq_true rfl)) | (refine' rm2 ?h9; (case h9 => with_reducible assumption)) | (refine' rm4 ?h9; (case h9 => with_reducible assumption)) | (simp only [depth_under_make, depth_under_kw, depth_in1, depth_deeper, depth_caller, recursionLimit] at *; omega)
  k_with "k_units" => first | (refine' rm0 ?h9 ?k9; (case h9 => with_reducible assumption); (case k9 => exact Nat.le_of_ble_eq_true rfl)) | (refine' rm1 ?h9 ?k9; (case h9 => with_reducible assumption); (case k9 => exact Nat.le_of_ble_eq_true rfl)) | (refine' rm2 ?h9; (case h9 => with_reducible assumption)) | (refine' rm4 ?h9; (case h9 => with_reducible assumption)) | (simp only [units_in1, units_deeper, Around.mark_units, units_caller, cLine] at *; omega)
  k_with "om" => (first | (refine neN ?_; (try dsimp only); k_extra "k_lk") | with_reducible assumption | exact Nat.le_of_ble_eq_true rfl | (refine' le_lit ?h9 ?k9; (case h9 => with_reducible assumption); (case k9 => exact Nat.le_of_ble_eq_true rfl)) | (refine' lt_lit ?h9 ?k9; (case h9 => with_reducible assumption); (case k9 => exact Nat.le_of_ble_eq_true rfl)) | (refine' rm0 ?h9 ?k9; (case h9 => with_reducible assumption); (case k9 => exact Nat.le_of_ble_eq_true rfl)) | (refine' rm1 ?h9 ?k9; (case h9 => with_reducible assumption); (case k9 => exact Nat.le_of_ble_eq_true rfl)) | (refine' rm2 ?h9; (case h9 => with_reducible assumption)) | (refine' rm4 ?h9; (case h9 => with_reducible assumption)) | omega (config := { splitDisjunctions := false }) | ((repeat (first | (rename _ ≠ _ ∧ _ => hq9; clear hq9) | (rename (_ ≠ _ ∧ _) ∧ _ => hq9; clear hq9))); omega (config := { splitDisjunctions := true })) | omega (config := { splitDisjunctions := true }) | ((repeat (rename (∀ p ∈ (_ : List (PySem.Addr × PySem.Obj)), @LT.lt Nat _ p.1 _) => hq9; (have hq8 := PySem.W.allLt_of hq9); clear hq9; simp only [PySem.W.AllLt, and_true] at hq8)); omega (config := { splitDisjunctions := true })))
  k_with "callWith ref" => (k_here; k_dflt (refine' callWith_K ?zs1 ?zs2 ?_; (case zs1 => k_asm); (case zs2 => k_is); k_whole))
  k_with "call builtin:len" => (k_here; (with_reducible show wpAny _ _ (call (Value.builtin _) [Value.ref _]) _ _ _); (with_unfolding_all refine' len_ints_fit ?zs1 ?zs2 ?zs3 ?_; (case zs1 => is_list); (case zs2 => l_ints); (case zs3 => l_fit); k_whole); (try simp only [List.length_append, List.length_cons, List.length_nil, Nat.zero_add]))
  k_with "subscriptTail Name" => (k_here; (with_reducible show wpAny _ _ (subscriptTail _ _ (Value.ref _) (Value.int _ _)) _ _ _); kim_at)
  k_with "getMethod ref" => (k_here; k_dflt (refine' method_inst ?zs1 ?zs2 ?zs3 ?zs4 ?zs5 ?zs6 ?zs7 ?_; (case zs1 => k_asm); (case zs2 => k_asm); (case zs3 => k_inst); (case zs4 => k_is); (case zs5 => k_is); (case zs6 => k_is); (case zs7 => k_get); k_whole))
  k_with "execs cons" => (refine seqK ?_; intro K9 tk9 hK9; (try dsimp only))
  k_with "KK next" => (refine' kk_next ?h9 ?_; (case h9 => with_reducible assumption))
  k_with "KK ret" => (refine' kk_ret ?h9 ?_; (case h9 => with_reducible assumption); (try dsimp only))
  k_with "KK brk" => (refine' kk_brk ?h9 ?_; (case h9 => with_reducible assumption); (try dsimp only))
  k_with "KK cont" => (refine' kk_cont ?h9 ?_; (case h9 => with_reducible assumption); (try dsimp only))
  k_with "ktr_unf" => (k_dflt (first | (refine' enterP ?zqk1 ?zqk2 ?zqk3 ?zqk4 ?zqk5 ?zqkA ?zqkF ?zqkK ?zqk6 ?zqk7 ?zqk8 ?zqk9 ?zqkB ?_ ?zqc2 ?zqc3 ?zqc4 ?zqc5; (case zqkA => exact rfl); (case zqkF => assumption); (case zqkK => assumption); (case zqk1 => k_asm); (case zqk2 => k_asm); (case zqk3 => k_asm); (case zqk4 => k_asm); (case zqk5 => k_asm); (case zqk6 => k_is); (case zqk7 => k_is); (case zqk8 => k_room); (case zqk9 => exact BindsTo.of_eq rfl); (case zqc5 => decide); (case zqkB => exact locs rfl); (case zqc2 => exact rfl); (case zqc3 => exact rfl); (case zqc4 => exact rfl); k_whole; intro g' L' h' F' N' B' X' T' l1; (try k_lt l1); (try dsimp only); (try k_lift B'); (try k_fold)) | (refine' enterPC ?zqk1 ?zqk2 ?zqk3 ?zqk4 ?zqk5 ?zqkA ?zqkF ?zqkK ?zqk6 ?zqk7 ?zqk8 ?zqk9 ?zqkB ?zqkD ?_ ?zqc2 ?zqc3 ?zqc4; (case zqkA => exact rfl); (case zqkF => assumption); (case zqkK => assumption); (case zqk1 => k_asm); (case zqk2 => k_asm); (case zqk3 => k_asm); (case zqk4 => k_asm); (case zqk5 => k_asm); (case zqk6 => k_is); (case zqk7 => k_is); (case zqk8 => k_room); (case zqk9 => exact BindsTo.of_eq rfl); (case zqkB => exact rfl); (case zqkD => decide +kernel); (case zqc2 => exact rfl); (case zqc3 => exact rfl); (case zqc4 => exact rfl); k_whole; intro g' L' h' tk' cells' F' N' Y' B' X' T' l1; (try k_lt l1); k_cells Y'; (try simp only [List.cons_append, List.nil_append] at N'); (try dsimp only); (try k_lift B'); (try k_fold))))
  replace N : News h₀ L s.heap [] := News.nil
  ktr_unf
  clear F N B X T
  k_steps
  refine end_val (by assumption) (by assumption) (by kcj_all) fun k => ?_
  exact ret _ _ k


end

-- R1
section
variable {w : World} {p : Program} {loose : List Str} {mean : ExcName → Option Value} {mg mb : Str → Option Value} {dp un : Nat} {gd : Option (List Code)} {env : Env} {outer : List Env} {A₀ : Around} {base h₀ : Heap} {L : Addr} {m : Str → Option Value} {news : List (Addr × Obj)} {s : Shared} {Q E : Value → Shared → Prop}


theorem row_spec (B : Below A₀ base outer h₀) (F : Fr h₀ L s.heap m) (X : (hd.heap_1 w.params).In h₀) (T : Top p loose mean mg mb h₀) (hf : env.frame = some L) (hke : env.scope.kind = .function) (hdp : dp + 2 < recursionLimit) (hu : un + 40 < cLine) (l : Addr) (x y : Int) (tx ty : Tok) (ep : Nat) (N : News h₀ L s.heap news) (hl : (l, listOf #[.int x tx, .int y ty] ep) ∈ news) (n : Int) (tn : Tok) (h0 : 0 ≤ n) (h8 : n < 12) (f : Int) (tf : Tok)
   (ret : ∀ r vs ep' ws h' tk', s.heap.StaysIn h' → s.heap.get? r = none → h'.get? r = some (listOf (List.toArray vs) ep') → IntsAre vs (f :: ws) → ws.length ≤ 2 → (∀ e ∈ ws, e = x ∨ e = y) → Q (.ref r) { s with heap := h', toks := tk' }) :
   wpAny (model PySem.Challenge.rw_sr0006_01.row.prog w) (Am dp un gd env outer) (call (.ref 122) [.int f tf, .ref l, .int n tn]) Q E s := by
  revert X; k_fill; intro X; k_with_none
  k_with "k_lk" => (first | (refine' lt_get ?h9 ?m9; (case h9 => with_reducible assumption); (case m9 => k_mem)) | (refine' Ne.symm (lt_get ?h9 ?m9); (case h9 => with_reducible assumption); (case m9 => k_mem)) | (refine' ana_get ?h9 ?m9; (case h9 => with_reducible assumption); (case m9 => k_mem)) | (refine' Ne.symm (ana_get ?h9 ?m9); (case h9 => with_reducible assumption); (case m9 => k_mem)) | with_reducible assumption | (refine Ne.symm ?_; with_reducible assumption) | fail "k_lk")
  k_with "k_ne" => first | k_extra "k_lk" | omega
  k_with "k_all" => (first | with_reducible assumption | (refine' lt_all ?h9; (case h9 => with_reducible assumption)) | fail "k_all")
  k_with "k_mem" => (first | exact mI0 | exact mI1 | exact mI2 | exact mI3 | exact mI4 | exact mI5 | exact mI6 | exact mI7 | exact mI8 | exact mI9 | exact mI10 | exact mI11 | (refine mS12 ?_; k_mem))
  k_with "k_room" => first | (refine' rm0 ?h9 ?k9; (case h9 => with_reducible assumption); (case k9 => exact Nat.le_of_ble_eq_true rfl)) | (refine' rm1 ?h9 ?k9; (case h9 => with_reducible assumption); (case k9 => exact Nat.le_of_ble_eq_true rfl)) | (refine' rm2 ?h9; (case h9 => with_reducible assumption)) | (refine' rm4 ?h9; (case h9 => with_reducible assumption)) | (simp only [depth_under_make, depth_under_kw, depth_in1, depth_deeper, depth_caller, recursionLimit] at *; omega)
  k_with "k_units" => first | (refine' rm0 ?h9 ?k9; (case h9 => with_reducible assumption); (case k9 => exact Nat.le_of_ble_eq_true rfl)) | (refine' rm1 ?h9 ?k9; (case h9 => with_reducible assumption); (case k9 => exact Nat.le_of_ble_eq_true rfl)) | (refine' rm2 ?h9; (case h9 => with_reducible assumption)) | (refine' rm4 ?h9; (case h9 => with_reducible assumption)) | (simp only [units_in1, units_deeper, Around.mark_units, units_caller, cLine] at *; omega)
  k_with "om" => (first | (refine neN ?_; (try dsimp only); k_extra "k_lk") | with_reducible assumption | exact Nat.le_of_ble_eq_true rfl | (refine' le_lit ?h9 ?k9; (case h9 => with_reducible assumption); (case k9 => exact Nat.le_of_ble_eq_true rfl)) | (refine' lt_lit ?h9 ?k9; (case h9 => with_reducible assumption); (case k9 => exact Nat.le_of_ble_eq_true rfl)) | (refine' rm0 ?h9 ?k9; (case h9 => with_reducible assumption); (case k9 => exact Nat.le_of_ble_eq_true rfl)) | (refine' rm1 ?h9 ?k9; (case h9 => with_reducible assumption); (case k9 => exact Nat.le_of_ble_eq_true rfl)) | (refine' rm2 ?h9; (case h9 => with_reducible assumption)) | (refine' rm4 ?h9; (case h9 => with_reducible assumption)) | omega (config := { splitDisjunctions := false }) | ((repeat (first | (rename _ ≠ _ ∧ _ => hq9; clear hq9) | (rename (_ ≠ _ ∧ _) ∧ _ => hq9; clear hq9))); omega (config := { splitDisjunctions := true })) | omega (config := { splitDisjunctions := true }) | ((repeat (rename (∀ p ∈ (_ : List (PySem.Addr × PySem.Obj)), @LT.lt Nat _ p.1 _) => hq9; (have hq8 := PySem.W.allLt_of hq9); clear hq9; simp only [PySem.W.AllLt, and_true] at hq8)); omega (config := { splitDisjunctions := true })))
  k_with "callWith ref" => (k_here; k_dflt (refine' callWith_K ?zs1 ?zs2 ?_; (case zs1 => k_asm); (case zs2 => k_is); k_whole))
  k_with "call builtin:len" => (k_here; (with_reducible show wpAny _ _ (call (Value.builtin _) [Value.ref _]) _ _ _); (with_unfolding_all refine' len_ints_fit ?zs1 ?zs2 ?zs3 ?_; (case zs1 => is_list); (case zs2 => l_ints); (case zs3 => l_fit); k_whole); (try simp only [List.length_append, List.length_cons, List.length_nil, Nat.zero_add]))
  k_with "subscriptTail Name" => (k_here; (with_reducible show wpAny _ _ (subscriptTail _ _ (Value.ref _) (Value.int _ _)) _ _ _); kim_at)
  k_with "getMethod ref" => (k_here; k_dflt (refine' method_inst ?zs1 ?zs2 ?zs3 ?zs4 ?zs5 ?zs6 ?zs7 ?_; (case zs1 => k_asm); (case zs2 => k_asm); (case zs3 => k_inst); (case zs4 => k_is); (case zs5 => k_is); (case zs6 => k_is); (case zs7 => k_get); k_whole))
  k_with "execs cons" => (refine seqK ?_; intro K9 tk9 hK9; (try dsimp only))
  k_with "KK next" => (refine' kk_next ?h9 ?_; (case h9 => with_reducible assumption))
  k_with "KK ret" => (refine' kk_ret ?h9 ?_; (case h9 => with_reducible assumption); (try dsimp only))
  k_with "KK brk" => (refine' kk_brk ?h9 ?_; (case h9 => with_reducible assumption); (try dsimp only))
  k_with "KK cont" => (refine' kk_cont ?h9 ?_; (case h9 => with_reducible assumption); (try dsimp only))
  k_with "ktr_unf" => (k_dflt (first | (refine' enterP ?zqk1 ?zqk2 ?zqk3 ?zqk4 ?zqk5 ?zqkA ?zqkF ?zqkK ?zqk6 ?zqk7 ?zqk8 ?zqk9 ?zqkB ?_ ?zqc2 ?zqc3 ?zqc4 ?zqc5; (case zqkA => exact rfl); (case zqkF => assumption); (case zqkK => assumption); (case zqk1 => k_asm); (case zqk2 => k_asm); (case zqk3 => k_asm); (case zqk4 => k_asm); (case zqk5 => k_asm); (case zqk6 => k_is); (case zqk7 => k_is); (case zqk8 => k_room); (case zqk9 => exact BindsTo.of_eq rfl); (case zqc5 => decide); (case zqkB => exact locs rfl); (case zqc2 => exact rfl); (case zqc3 => exact rfl); (case zqc4 => exact rfl); k_whole; intro g' L' h' F' N' B' X' T' l1; (try k_lt l1); (try dsimp only); (try k_lift B'); (try k_fold)) | (refine' enterPC ?zqk1 ?zqk2 ?zqk3 ?zqk4 ?zqk5 ?zqkA ?zqkF ?zqkK ?zqk6 ?zqk7 ?zqk8 ?zqk9 ?zqkB ?zqkD ?_ ?zqc2 ?zqc3 ?zqc4; (case zqkA => exact rfl); (case zqkF => assumption); (case zqkK => assumption); (case zqk1 => k_asm); (case zqk2 => k_asm); (case zqk3 => k_asm); (case zqk4 => k_asm); (case zqk5 => k_asm); (case zqk6 => k_is); (case zqk7 => k_is); (case zqk8 => k_room); (case zqk9 => exact BindsTo.of_eq rfl); (case zqkB => exact rfl); (case zqkD => decide +kernel); (case zqc2 => exact rfl); (case zqc3 => exact rfl); (case zqc4 => exact rfl); k_whole; intro g' L' h' tk' cells' F' N' Y' B' X' T' l1; (try k_lt l1); k_cells Y'; (try simp only [List.cons_append, List.nil_append] at N'); (try dsimp only); (try k_lift B'); (try k_fold))))
  replace N : News h₀ L s.heap [(l, listOf #[.int x tx, .int y ty] ep)] := cb_drop N (by intro q hq; rw [List.mem_singleton.mp hq]; exact hl)
  clear hl
  ktr_unf
  clear F N B X T
  k_with "eval ListComp" => (k_here; k_dflt (refine LCg.ListComp_U (F₀ := by k_asm) (by with_unfolding_all rfl) (by decide) (by rfl) (by decide) (by rfl) ?_))
  k_steps
  have hb1 := fmod_lo n (n := 3) (by decide)
  have hb2 := fmod_hi n (n := 3) (by decide)
  refine end_new (by assumption) (by assumption) (by kcj_all) (.head _) (by k_all) fun a b c => ?_
  refine ret _ _ _ _ _ _ a b c (by assumption) ?_ ?_
  · show (List.map _ _).length ≤ 2
    rw [List.length_map, rangeKs_length]; omega
  · intro e he
    obtain ⟨k, _, rfl⟩ := List.mem_map.mp he
    exact pick2 _ (fm2 _)


end

-- D1
section
variable {w : World} {p : Program} {loose : List Str} {mean : ExcName → Option Value} {mg mb : Str → Option Value} {dp un : Nat} {gd : Option (List Code)} {env : Env} {outer : List Env} {A₀ : Around} {base h₀ : Heap} {L : Addr} {m : Str → Option Value} {news : List (Addr × Obj)} {s : Shared} {Q E : Value → Shared → Prop}


theorem three {l : List (Str × Tok)} {a b c : Str} (h : l.map (·.1) = [a, b, c]) : ∃ t u v, l = [(a, t), (b, u), (c, v)] := by
  match l, h with
  | [(x, t), (y, u), (z, v)], h => cases h; exact ⟨t, u, v, rfl⟩
theorem decode_spec (B : Below A₀ base outer h₀) (F : Fr h₀ L s.heap m) (X : (hd.heap_1 w.params).In h₀) (T : Top p loose mean mg mb h₀) (hf : env.frame = some L) (hke : env.scope.kind = .function) (hdp : dp + 2 < recursionLimit) (hu : un + 40 < cLine) (N : News h₀ L s.heap news) (x a b c : Str) (tx : Tok) (hx : x.length ≤ 1000) (hsp : Txt.splitMax x ⟨#[39]⟩ 2 = [a, b, c])
   (ret : ∀ r t1 t2 t3 h' tk', s.heap.StaysIn h' → s.heap.get? r = none → h'.get? r = some (listOf #[.str a t1, .str b t2, .str c t3] 0) → Q (.ref r) { s with heap := h', toks := tk' }) :
   wpAny (model PySem.Challenge.rw_sr0006_01.row.prog w) (Am dp un gd env outer) (call (.ref 70) [.str x tx]) Q E s := by
  revert X; k_fill; intro X; k_with_none
  k_with "k_lk" => (first | (refine' lt_get ?h9 ?m9; (case h9 => with_reducible assumption); (case m9 => k_mem)) | (refine' Ne.symm (lt_get ?h9 ?m9); (case h9 => with_reducible assumption); (case m9 => k_mem)) | (refine' ana_get ?h9 ?m9; (case h9 => with_reducible assumption); (case m9 => k_mem)) | (refine' Ne.symm (ana_get ?h9 ?m9); (case h9 => with_reducible assumption); (case m9 => k_mem)) | with_reducible assumption | (refine Ne.symm ?_; with_reducible assumption) | fail "k_lk")
  k_with "k_ne" => first | k_extra "k_lk" | omega
  k_with "k_all" => (first | with_reducible assumption | (refine' lt_all ?h9; (case h9 => with_reducible assumption)) | fail "k_all")
  k_with "k_mem" => (first | exact mI0 | exact mI1 | exact mI2 | exact mI3 | exact mI4 | exact mI5 | exact mI6 | exact mI7 | exact mI8 | exact mI9 | exact mI10 | exact mI11 | (refine mS12 ?_; k_mem))
  k_with "k_room" => first | (refine' rm0 ?h9 ?k9; (case h9 => with_reducible assumption); (case k9 => exact Nat.le_of_ble_eq_true rfl)) | (refine' rm1 ?h9 ?k9; (case h9 => with_reducible assumption); (case k9 => exact Nat.le_of_ble_eq_true rfl)) | (refine' rm2 ?h9; (case h9 => with_reducible assumption)) | (refine' rm4 ?h9; (case h9 => with_reducible assumption)) | (simp only [depth_under_make, depth_under_kw, depth_in1, depth_deeper, depth_caller, recursionLimit] at *; omega)
  k_with "k_units" => first | (refine' rm0 ?h9 ?k9; (case h9 => with_reducible assumption); (case k9 => exact Nat.le_of_ble_eq_true rfl)) | (refine' rm1 ?h9 ?k9; (case h9 => with_reducible assumption); (case k9 => exact Nat.le_of_ble_eq_true rfl)) | (refine' rm2 ?h9; (case h9 => with_reducible assumption)) | (refine' rm4 ?h9; (case h9 => with_reducible assumption)) | (simp only [units_in1, units_deeper, Around.mark_units, units_caller, cLine] at *; omega)
  k_with "om" => (first | (refine neN ?_; (try dsimp only); k_extra "k_lk") | with_reducible assumption | exact Nat.le_of_ble_eq_true rfl | (refine' le_lit ?h9 ?k9; (case h9 => with_reducible assumption); (case k9 => exact Nat.le_of_ble_eq_true rfl)) | (refine' lt_lit ?h9 ?k9; (case h9 => with_reducible assumption); (case k9 => exact Nat.le_of_ble_eq_true rfl)) | (refine' rm0 ?h9 ?k9; (case h9 => with_reducible assumption); (case k9 => exact Nat.le_of_ble_eq_true rfl)) | (refine' rm1 ?h9 ?k9; (case h9 => with_reducible assumption); (case k9 => exact Nat.le_of_ble_eq_true rfl)) | (refine' rm2 ?h9; (case h9 => with_reducible assumption)) | (refine' rm4 ?h9; (case h9 => with_reducible assumption)) | omega (config := { splitDisjunctions := false }) | ((repeat (first | (rename _ ≠ _ ∧ _ => hq9; clear hq9) | (rename (_ ≠ _ ∧ _) ∧ _ => hq9; clear hq9))); omega (config := { splitDisjunctions := true })) | omega (config := { splitDisjunctions := true }) | ((repeat (rename (∀ p ∈ (_ : List (PySem.Addr × PySem.Obj)), @LT.lt Nat _ p.1 _) => hq9; (have hq8 := PySem.W.allLt_of hq9); clear hq9; simp only [PySem.W.AllLt, and_true] at hq8)); omega (config := { splitDisjunctions := true })))
  k_with "callWith ref" => (k_here; k_dflt (refine' callWith_K ?zs1 ?zs2 ?_; (case zs1 => k_asm); (case zs2 => k_is); k_whole))
  k_with "call builtin:len" => (k_here; (with_reducible show wpAny _ _ (call (Value.builtin _) [Value.ref _]) _ _ _); (with_unfolding_all refine' len_ints_fit ?zs1 ?zs2 ?zs3 ?_; (case zs1 => is_list); (case zs2 => l_ints); (case zs3 => l_fit); k_whole); (try simp only [List.length_append, List.length_cons, List.length_nil, Nat.zero_add]))
  k_with "subscriptTail Name" => (k_here; (with_reducible show wpAny _ _ (subscriptTail _ _ (Value.ref _) (Value.int _ _)) _ _ _); kim_at)
  k_with "getMethod ref" => (k_here; k_dflt (refine' method_inst ?zs1 ?zs2 ?zs3 ?zs4 ?zs5 ?zs6 ?zs7 ?_; (case zs1 => k_asm); (case zs2 => k_asm); (case zs3 => k_inst); (case zs4 => k_is); (case zs5 => k_is); (case zs6 => k_is); (case zs7 => k_get); k_whole))
  k_with "execs cons" => (refine seqK ?_; intro K9 tk9 hK9; (try dsimp only))
  k_with "KK next" => (refine' kk_next ?h9 ?_; (case h9 => with_reducible assumption))
  k_with "KK ret" => (refine' kk_ret ?h9 ?_; (case h9 => with_reducible assumption); (try dsimp only))
  k_with "KK brk" => (refine' kk_brk ?h9 ?_; (case h9 => with_reducible assumption); (try dsimp only))
  k_with "KK cont" => (refine' kk_cont ?h9 ?_; (case h9 => with_reducible assumption); (try dsimp only))
  k_with "ktr_unf" => (k_dflt (first | (refine' enterP ?zqk1 ?zqk2 ?zqk3 ?zqk4 ?zqk5 ?zqkA ?zqkF ?zqkK ?zqk6 ?zqk7 ?zqk8 ?zqk9 ?zqkB ?_ ?zqc2 ?zqc3 ?zqc4 ?zqc5; (case zqkA => exact rfl); (case zqkF => assumption); (case zqkK => assumption); (case zqk1 => k_asm); (case zqk2 => k_asm); (case zqk3 => k_asm); (case zqk4 => k_asm); (case zqk5 => k_asm); (case zqk6 => k_is); (case zqk7 => k_is); (case zqk8 => k_room); (case zqk9 => exact BindsTo.of_eq rfl); (case zqc5 => decide); (case zqkB => exact locs rfl); (case zqc2 => exact rfl); (case zqc3 => exact rfl); (case zqc4 => exact rfl); k_whole; intro g' L' h' F' N' B' X' T' l1; (try k_lt l1); (try dsimp only); (try k_lift B'); (try k_fold)) | (refine' enterPC ?zqk1 ?zqk2 ?zqk3 ?zqk4 ?zqk5 ?zqkA ?zqkF ?zqkK ?zqk6 ?zqk7 ?zqk8 ?zqk9 ?zqkB ?zqkD ?_ ?zqc2 ?zqc3 ?zqc4; (case zqkA => exact rfl); (case zqkF => assumption); (case zqkK => assumption); (case zqk1 => k_asm); (case zqk2 => k_asm); (case zqk3 => k_asm); (case zqk4 => k_asm); (case zqk5 => k_asm); (case zqk6 => k_is); (case zqk7 => k_is); (case zqk8 => k_room); (case zqk9 => exact BindsTo.of_eq rfl); (case zqkB => exact rfl); (case zqkD => decide +kernel); (case zqc2 => exact rfl); (case zqc3 => exact rfl); (case zqc4 => exact rfl); k_whole; intro g' L' h' tk' cells' F' N' Y' B' X' T' l1; (try k_lt l1); k_cells Y'; (try simp only [List.cons_append, List.nil_append] at N'); (try dsimp only); (try k_lift B'); (try k_fold))))
  replace N : News h₀ L s.heap [] := News.nil
  ktr_unf
  clear F N B X T
  k_with "call builtin:str.split" => k_dflt (
    k_dflt (refine' splitN2A ?F ?N ?h1 ?h2 ?h ?h3; (case F => k_asm); (case N => k_asm); (case h1 => rfl); (case h2 => decide); (case h3 => (rw [PySem.sizeLine_eq]; omega)))
    intro l h1 tk1 e1 _ _ _ F1 N1
    obtain ⟨t1, t2, t3, hl⟩ := three (a := a) (b := b) (c := c) (e1.trans hsp)
    subst hl
    clear e1
    dsimp only [strValues, List.map] at N1)
  k_steps
  refine end_new (by assumption) (by assumption) (by kcj_all) (.head _) (by k_all) fun a b c => ?_
  exact ret _ _ _ _ _ _ a b c


end

-- X1
section
variable {w : World} {p : Program} {loose : List Str} {mean : ExcName → Option Value} {mg mb : Str → Option Value} {dp un : Nat} {gd : Option (List Code)} {env : Env} {outer : List Env} {A₀ : Around} {base h₀ : Heap} {L : Addr} {m : Str → Option Value} {news : List (Addr × Obj)} {s : Shared} {Q E : Value → Shared → Prop}

noncomputable def stage (i : Nat) (l : List Nat) : List Nat := ([10, 9, 13, 32].take i).foldl (fun l c => esc c l) l
theorem stage_succ {i c : Nat} {l : List Nat} (h : ([10, 9, 13, 32] : List Nat)[i]? = some c) : stage (i + 1) l = esc c (stage i l) := by
  unfold stage
  rw [List.take_add_one, h]
  simp
theorem stage_len {l : List Nat} (hl : l.length ≤ 4000) (i : Nat) (hi : i ≤ 4) : (⟨(stage i l).toArray⟩ : Str).length ≤ 100000 := by
  show (stage i l).toArray.size ≤ _
  rw [List.size_toArray]
  have h10 := esc_length 10 l
  have h9 := esc_length 9 (esc 10 l)
  have h13 := esc_length 13 (esc 9 (esc 10 l))
  have h32 := esc_length 32 (esc 13 (esc 9 (esc 10 l)))
  rcases (by omega : i = 0 ∨ i = 1 ∨ i = 2 ∨ i = 3 ∨ i = 4) with rfl | rfl | rfl | rfl | rfl
  all_goals (simp only [stage, List.take, List.foldl_cons, List.foldl_nil]; omega)
/-- how the law writes a word -/
noncomputable def writtenL (b : Bool) (l : List Nat) : List Nat := if b then stage 4 (esc 34 (esc 92 l)) else 34 :: (esc 34 (esc 92 l) ++ [34])
theorem written_spec (B : Below A₀ base outer h₀) (F : Fr h₀ L s.heap m) (X : (hd.heap_1 w.params).In h₀) (T : Top p loose mean mg mb h₀) (hf : env.frame = some L) (hke : env.scope.kind = .function) (hdp : dp + 2 < recursionLimit) (hu : un + 40 < cLine) (N : News h₀ L s.heap news) (x : Str) (tx : Tok) (b : Bool) (hx : x.length ≤ 1000) (htk : 1 ≤ s.toks)
   (ret : ∀ t h' tk', s.heap.StaysIn h' → Q (.str ⟨(writtenL b x.cps.toList).toArray⟩ t) { s with heap := h', toks := tk' }) :
   wpAny (model PySem.Challenge.rw_sr0006_01.row.prog w) (Am dp un gd env outer) (call (.ref 136) [.str x tx, .bool b]) Q E s := by
  revert X; k_fill; intro X; k_with_none
  k_with "k_lk" => (first | (refine' lt_get ?h9 ?m9; (case h9 => with_reducible assumption); (case m9 => k_mem)) | (refine' Ne.symm (lt_get ?h9 ?m9); (case h9 => with_reducible assumption); (case m9 => k_mem)) | (refine' ana_get ?h9 ?m9; (case h9 => with_reducible assumption); (case m9 => k_mem)) | (refine' Ne.symm (ana_get ?h9 ?m9); (case h9 => with_reducible assumption); (case m9 => k_mem)) | with_reducible assumption | (refine Ne.symm ?_; with_reducible assumption) | fail "k_lk")
  k_with "k_ne" => first | k_extra "k_lk" | omega
  k_with "k_all" => (first | with_reducible assumption | (refine' lt_all ?h9; (case h9 => with_reducible assumption)) | fail "k_all")
  k_with "k_mem" => (first | exact mI0 | exact mI1 | exact mI2 | exact mI3 | exact mI4 | exact mI5 | exact mI6 | exact mI7 | exact mI8 | exact mI9 | exact mI10 | exact mI11 | (refine mS12 ?_; k_mem))
  k_with "k_room" => first | (refine' rm0 ?h9 ?k9; (case h9 => with_reducible assumption); (case k9 => exact Nat.le_of_ble_eq_true rfl)) | (refine' rm1 ?h9 ?k9; (case h9 => with_reducible assumption); (case k9 => exact Nat.le_of_ble_eq_true rfl)) | (refine' rm2 ?h9; (case h9 => with_reducible assumption)) | (refine' rm4 ?h9; (case h9 => with_reducible assumption)) | (simp only [depth_under_make, depth_under_kw, depth_in1, depth_deeper, depth_caller, recursionLimit] at *; omega)
  k_with "k_units" => first | (refine' rm0 ?h9 ?k9; (case h9 => with_reducible assumption); (case k9 => exact Nat.le_of_ble_eq_true rfl)) | (refine' rm1 ?h9 ?k9; (case h9 => with_reducible assumption); (case k9 => exact Nat.le_of_ble_eq_true rfl)) | (refine' rm2 ?h9; (case h9 => with_reducible assumption)) | (refine' rm4 ?h9; (case h9 => with_reducible assumption)) | (simp only [units_in1, units_deeper, Around.mark_units, units_caller, cLine] at *; omega)
  k_with "om" => (first | (refine neN ?_; (try dsimp only); k_extra "k_lk") | with_reducible assumption | exact Nat.le_of_ble_eq_true rfl | (refine' le_lit ?h9 ?k9; (case h9 => with_reducible assumption); (case k9 => exact Nat.le_of_ble_eq_true rfl)) | (refine' lt_lit ?h9 ?k9; (case h9 => with_reducible assumption); (case k9 => exact Nat.le_of_ble_eq_true rfl)) | (refine' rm0 ?h9 ?k9; (case h9 => with_reducible assumption); (case k9 => exact Nat.le_of_ble_eq_true rfl)) | (refine' rm1 ?h9 ?k9; (case h9 => with_reducible assumption); (case k9 => exact Nat.le_of_ble_eq_true rfl)) | (refine' rm2 ?h9; (case h9 => with_reducible assumption)) | (refine' rm4 ?h9; (case h9 => with_reducible assumption)) | omega (config := { splitDisjunctions := false }) | ((repeat (first | (rename _ ≠ _ ∧ _ => hq9; clear hq9) | (rename (_ ≠ _ ∧ _) ∧ _ => hq9; clear hq9))); omega (config := { splitDisjunctions := true })) | omega (config := { splitDisjunctions := true }) | ((repeat (rename (∀ p ∈ (_ : List (PySem.Addr × PySem.Obj)), @LT.lt Nat _ p.1 _) => hq9; (have hq8 := PySem.W.allLt_of hq9); clear hq9; simp only [PySem.W.AllLt, and_true] at hq8)); omega (config := { splitDisjunctions := true })))
  k_with "callWith ref" => (k_here; k_dflt (refine' callWith_K ?zs1 ?zs2 ?_; (case zs1 => k_asm); (case zs2 => k_is); k_whole))
  k_with "call builtin:len" => (k_here; (with_reducible show wpAny _ _ (call (Value.builtin _) [Value.ref _]) _ _ _); (with_unfolding_all refine' len_ints_fit ?zs1 ?zs2 ?zs3 ?_; (case zs1 => is_list); (case zs2 => l_ints); (case zs3 => l_fit); k_whole); (try simp only [List.length_append, List.length_cons, List.length_nil, Nat.zero_add]))
  k_with "subscriptTail Name" => (k_here; (with_reducible show wpAny _ _ (subscriptTail _ _ (Value.ref _) (Value.int _ _)) _ _ _); kim_at)
  k_with "getMethod ref" => (k_here; k_dflt (refine' method_inst ?zs1 ?zs2 ?zs3 ?zs4 ?zs5 ?zs6 ?zs7 ?_; (case zs1 => k_asm); (case zs2 => k_asm); (case zs3 => k_inst); (case zs4 => k_is); (case zs5 => k_is); (case zs6 => k_is); (case zs7 => k_get); k_whole))
  k_with "execs cons" => (refine seqK0 ?_; intro K9 hK9)
  k_with "KK next" => (refine' kk_next ?h9 ?_; (case h9 => with_reducible assumption))
  k_with "KK ret" => (refine' kk_ret ?h9 ?_; (case h9 => with_reducible assumption); (try dsimp only))
  k_with "KK brk" => (refine' kk_brk ?h9 ?_; (case h9 => with_reducible assumption); (try dsimp only))
  k_with "KK cont" => (refine' kk_cont ?h9 ?_; (case h9 => with_reducible assumption); (try dsimp only))
  k_with "ktr_unf" => (k_dflt (first | (refine' enterP ?zqk1 ?zqk2 ?zqk3 ?zqk4 ?zqk5 ?zqkA ?zqkF ?zqkK ?zqk6 ?zqk7 ?zqk8 ?zqk9 ?zqkB ?_ ?zqc2 ?zqc3 ?zqc4 ?zqc5; (case zqkA => exact rfl); (case zqkF => assumption); (case zqkK => assumption); (case zqk1 => k_asm); (case zqk2 => k_asm); (case zqk3 => k_asm); (case zqk4 => k_asm); (case zqk5 => k_asm); (case zqk6 => k_is); (case zqk7 => k_is); (case zqk8 => k_room); (case zqk9 => exact BindsTo.of_eq rfl); (case zqc5 => decide); (case zqkB => exact locs rfl); (case zqc2 => exact rfl); (case zqc3 => exact rfl); (case zqc4 => exact rfl); k_whole; intro g' L' h' F' N' B' X' T' l1; (try k_lt l1); (try dsimp only); (try k_lift B'); (try k_fold)) | (refine' enterPC ?zqk1 ?zqk2 ?zqk3 ?zqk4 ?zqk5 ?zqkA ?zqkF ?zqkK ?zqk6 ?zqk7 ?zqk8 ?zqk9 ?zqkB ?zqkD ?_ ?zqc2 ?zqc3 ?zqc4; (case zqkA => exact rfl); (case zqkF => assumption); (case zqkK => assumption); (case zqk1 => k_asm); (case zqk2 => k_asm); (case zqk3 => k_asm); (case zqk4 => k_asm); (case zqk5 => k_asm); (case zqk6 => k_is); (case zqk7 => k_is); (case zqk8 => k_room); (case zqk9 => exact BindsTo.of_eq rfl); (case zqkB => exact rfl); (case zqkD => decide +kernel); (case zqc2 => exact rfl); (case zqc3 => exact rfl); (case zqc4 => exact rfl); k_whole; intro g' L' h' tk' cells' F' N' Y' B' X' T' l1; (try k_lt l1); k_cells Y'; (try simp only [List.cons_append, List.nil_append] at N'); (try dsimp only); (try k_lift B'); (try k_fold))))
  k_with "binaryOp Add str str" => (k_here; k_dflt (refine' SBL.add (hsz := ?zqaz) ?_; (case zqaz => k_extra "size"); k_whole); intro t1 k1)
  k_with "binaryOp Add str str" => (k_here; k_dflt (refine' add_new ?zqax ?zqay ?zqaz ?_; (case zqax => first | rfl | decide +kernel); (case zqay => first | rfl | decide +kernel); (case zqaz => exact Nat.le_of_ble_eq_true (by kernel_rfl)); k_whole))
  replace N : News h₀ L s.heap [] := News.nil
  ktr_unf
  clear F N B X T
  have hL : (esc 34 (esc 92 x.cps.toList)).length ≤ 4000 := by
    have h1 := esc_length 92 x.cps.toList
    have h2 := esc_length 34 (esc 92 x.cps.toList)
    have h3 : x.cps.toList.length ≤ 1000 := by simpa [Str.length] using hx
    omega
  k_with "call builtin:str.replace" => k_dflt (
    (first
    | k_dflt refine' my_replace 92 (by decide +kernel) (by decide +kernel) ?hu ?hv ?huv ?hx ?_
    | k_dflt refine' my_replace 34 (by decide +kernel) (by decide +kernel) ?hu ?hv ?huv ?hx ?_
    | k_dflt refine' my_replace _ rfl (by rw [show Str.ofString "\\" = ⟨#[92]⟩ from by decide +kernel]; rfl) ?hu ?hv ?huv ?hx ?_)
    case hu => (first | omega | ((try dsimp only); omega))
    case hv => (first | omega | ((try dsimp only); omega))
    case huv => (first | omega | ((try dsimp only); omega))
    case hx => (first
      | omega
      | exact Nat.le_trans (esc_le hx) (by omega)
      | exact Nat.le_trans (stage_len hL _ (by assumption)) (by omega))
    intro t1 k1 hk1
    try dsimp only at hk1)
  k_with "exec For Name Constant cons nil" => k_dflt (
    rename Fr _ _ _ _ => lF
    k_dflt refine' my_for lF ?_ ?hs ?hE
    case hE => exact fun _ _ h => h
    case hs => exact fun _ => rfl)
  k_with "pyIter str" => k_dflt (
    k_dflt refine' iter_str ?ha ?F ?N ?_
    case ha => decide +kernel
    case F => k_asm
    case N => k_asm
    intro I h1 F1 N1 l1
    k_dflt refine' ⟨Nat × List Nat × Tok × Obj, (fun c => [(I, c.2.2.2)]), (fun c => [("shown", .str ⟨c.2.1.toArray⟩ c.2.2.1)]),
      (fun c => (∃ t0, c.2.2.2 = sitObj ⟨#[10, 9, 13, 32]⟩ t0 c.1) ∧ c.1 ≤ 4 ∧ c.2.1 = stage c.1 (esc 34 (esc 92 x.cps.toList))), (fun c => 4 - c.1), (0, esc 34 (esc 92 x.cps.toList), _, _), _, _, F1, N1, ?hn, ?hk, ?hp, ?turn⟩
    case hn => kcj_all
    case hk => kst_all
    case hp => exact ⟨⟨_, by rw [show Str.ofString "\n\t\r " = ⟨#[10, 9, 13, 32]⟩ from by decide +kernel]⟩, Nat.zero_le _, rfl⟩
    intro c u h2 tk2 htk2 hc F2 N2
    obtain ⟨i, cur, tc, oi⟩ := c
    dsimp only at hc F2 N2 ⊢
    try dsimp only at htk2
    obtain ⟨⟨t0, rfl⟩, hi4, rfl⟩ := hc
    k_dflt refine' next_strC rfl F2 N2 (List.forall_mem_nil _) hi4 ?na ?nb
    case' na =>
      intro c h3 hc9 F3 N3
      (try dsimp only)
      refine no_letgo (assign_name ?_)
      k_dflt (refine' storeX_L F3 N3 ?_ ?sa ?sb; (case sa => rfl); (case sb => rfl))
      intro h4 F4 N4
      (try dsimp only)
      have htk4 : tk2 < tk2 + 1 + 1 := by omega
      generalize tk2 + 1 + 1 = tk4 at htk4 ⊢
    case' nb =>
      intro h3 hc9 F3 N3
      dsimp only)
  k_with "size" => (first
    | (rw [sizeLine_eq]; show 1 + (esc 34 (esc 92 x.cps.toList)).toArray.size ≤ _; rw [List.size_toArray]; omega)
    | (rw [sizeLine_eq, StrLaws.size_cat]; show (1 + (esc 34 (esc 92 x.cps.toList)).toArray.size) + 1 ≤ _; rw [List.size_toArray]; omega))
  cases b
  rotate_left
  all_goals k_steps
  · (try dsimp only)
    have hi4 : i = 4 := hc9
    subst hi4
    exact end_val (by assumption) (by assumption) (by kcj_all) (ret _ _ _)
  · have hc8 : ([10, 9, 13, 32] : List Nat)[i]? = some c := by simpa using hc9
    k_dflt (refine' lend (i + 1, _, _, _) ?F ?N ?hn ?hk ?hp; (case F => k_asm); (case N => k_asm); (case hn => kcj_all); (case hk => kst_all))
    have hi5 : i < 4 := (List.getElem?_eq_some_iff.mp hc8).1
    exact ⟨⟨⟨_, rfl⟩, hi5, (stage_succ hc8).symm⟩, by dsimp only; omega⟩
  · (try dsimp only)
    have he : Str.ofString "\"" ++ (⟨(esc 34 (esc 92 x.cps.toList)).toArray⟩ : Str) ++ Str.ofString "\"" = ⟨(writtenL false x.cps.toList).toArray⟩ := by
      rw [show Str.ofString "\"" = ⟨#[34]⟩ from by decide +kernel]
      apply str_eq
      simp only [Str.cps_append, Array.toList_append]
      simp [writtenL]
    refine end_val (by assumption) (by assumption) (by kcj_all) fun k => ?_
    have h9 := ret
    rw [← he] at h9
    exact h9 _ _ _ k


end

end Mine
end
section
open PySem PySem.W PyProof.Rows PySem.Calls PySem.Spec
namespace Mine
section
variable {prog : Program} {w : World} {A : Around} {E : Value → Shared → Prop} {s : Shared} {env : Env} {h₀ : Heap} {L : Addr} {news : List (Addr × Obj)}
theorem ForAt.intro {σ : Type} {Q : Flow → Shared → Prop} {target : Expr} {body : List Stmt} {it : Value} {m₀ : Str → Option Value} (Led : σ → List (Addr × Obj)) (ps : σ → List (Str × Value)) (P : σ → Prop) (μ : σ → Nat) (c₀ : σ)
    (F : Fr h₀ env.locals s.heap m₀) (N : News h₀ env.locals s.heap news) (hk : ∀ q ∈ ps c₀, m₀ q.1 = some q.2) (hn : ∀ q ∈ Led c₀, q ∈ news) (hp : P c₀)
    (turn : ∀ (c : σ) (u : Str → Option Value) h (tk : Nat), s.toks ≤ tk → P c → Fr h₀ env.locals h (kstB u (ps c)) → News h₀ env.locals h (Led c) →
      wpAny (model prog w) A (pyNext it) (fun r s₁ => match r with
        | none => Q .next s₁
        | some v => wpAny (model prog w) A (letOwnedTupleGo target it v) (fun _ s₂ => wpAny (model prog w) A (assign target env v) (fun _ s₃ =>
            wpAny (model prog w) A (execs body env) (LPost h₀ env.locals s Led ps (fun c' => P c' ∧ μ c' < μ c) Q) E s₃) E s₂) E s₁) E { s with heap := h, toks := tk }) : ForAt prog w A h₀ env target body Q E it s :=
  ⟨σ, Led, ps, P, μ, c₀, m₀, news, F, N, hn, hk, hp, turn⟩
end
theorem lend2 {σ : Type} {h₀ h' : Heap} {L : Addr} {s : Shared} {Led : σ → List (Addr × Obj)} {ps : σ → List (Str × Value)} {P : σ → Prop} {Q : Flow → Shared → Prop} {m' : Str → Option Value} {news' : List (Addr × Obj)} {tk : Nat} (c : σ)
    (F : Fr h₀ L h' m') (N : News h₀ L h' news') (hk : ∀ q ∈ ps c, m' q.1 = some q.2) (hn : ∀ q ∈ Led c, q ∈ news') (hp : P c) : LPost h₀ L s Led ps P Q .next { s with heap := h', toks := tk } :=
  ⟨c, h', tk, m', news', rfl, F, N, hn, hk, hp⟩
section
variable {prog : Program} {w : World} {A : Around} {E : Value → Shared → Prop} {s : Shared}
theorem fdiv4 {a : Int} {k : Nat} {t u : Tok} {Q : Value → Shared → Prop} (hk : k < 3) (h : Q (.int (a.fdiv (4 ^ (k : Int).toNat)) s.toks) { s with toks := s.toks + 1 }) : wpAny (model prog w) A (binaryOp .FloorDiv (.int a t) (.int (4 ^ (k : Int).toNat) u)) Q E s := by
  obtain rfl | rfl | rfl : k = 0 ∨ k = 1 ∨ k = 2 := by omega
  · exact floordiv_int (by decide) h
  · exact floordiv_int (by decide) h
  · exact floordiv_int (by decide) h
end
end Mine
end
section
open PySem PySem.W PyProof.Rows PySem.Calls PySem.Spec
namespace Mine
section
variable {prog : Program} {w : World} {A : Around} {E : Value → Shared → Prop} {s : Shared} {env : Env} {h₀ : Heap} {news : List (Addr × Obj)}

/-- a for over enumerate(a list of the ledger): the turns -/
theorem enum_at {σ : Type} {Q : Flow → Shared → Prop} {xi xv : Str} {pi pv pt : Pos} {x1 : Nat} {body : List Stmt} {m₀ : Str → Option Value} {l : Addr} {vs : List Value} {ep : Nat}
    (Led : σ → List (Addr × Obj)) (ps : σ → List (Str × Value)) (P : Nat → σ → Prop) (c₀ : σ)
    (hh : A.handled = none) (hxi : env.kindOf xi = some .local) (hxv : env.kindOf xv = some .local)
    (hpl : (env.scope.kind == .class || (env.scope.kind == .module && env.locals != env.globals)) = false)
    (F : Fr h₀ env.locals s.heap m₀) (N : News h₀ env.locals s.heap news) (hk : ∀ q ∈ ps c₀, m₀ q.1 = some q.2) (hn : ∀ q ∈ Led c₀, q ∈ news) (hp : P 0 c₀)
    (hl : ∀ c, (l, listOf vs.toArray ep) ∈ Led c) (hcls : ∀ c, ∀ q ∈ Led c, q.2.cls = .type "list")
    (turn : ∀ (i : Nat) (v : Value) (c : σ) (u : Str → Option Value) (e it : Addr) (oe oi : Obj) (t : Tok) (h : Heap) (tk : Nat), s.toks ≤ tk → vs[i]? = some v → P i c →
      Fr h₀ env.locals h (fun y => if y = xv then some v else if y = xi then some (.int i t) else kstB u (ps c) y) → News h₀ env.locals h ((e, oe) :: (it, oi) :: Led c) → (∀ q ∈ Led c, q.1 ≠ e ∧ q.1 ≠ it) → @Ne Nat e it →
      wpAny (model prog w) A (execs body env) (LPost h₀ env.locals s (fun c' => (e, oe) :: (it, oi) :: Led c') ps (P (i + 1)) Q) E { s with heap := h, toks := tk })
    (done : ∀ (c : σ) (u : Str → Option Value) (h : Heap) (tk : Nat), s.toks ≤ tk → P vs.length c → Fr h₀ env.locals h (kstB u (ps c)) → News h₀ env.locals h (Led c) → Q .next { s with heap := h, toks := tk }) :
    wpAny (model prog w) A (call (.type "enumerate") [.ref l]) (fun xv' s₁ => wpAny (model prog w) A (pyIter xv') (fun it s₂ => ForAt prog w A h₀ env (.Tuple [.Name xi pi, .Name xv pv] x1 pt) body Q E it s₂) E s₁) E s := by
  have hL0 := N _ (hn _ (hl c₀))
  have isl : ∀ {h : Heap}, h.get? l = some (listOf vs.toArray ep) → h.IsList l vs.toArray := fun e => ⟨_, e, rfl, ep, rfl⟩
  refine call_enumerate_list (isl hL0.1) fun h' he hit hsz hkp => ?_
  refine wpAny_pyIter_enum he ?_
  generalize hIt : s.heap.objs.size = it at he hit hsz
  obtain ⟨oi₀, hoi₀, hci₀, hdi₀⟩ := id hit
  have hfresh : ∀ {b : Addr}, it ≤ b → b ≠ env.locals ∧ h₀.get? b = none := fun hb => by
    have h1 : env.locals < it := hIt ▸ F.ns.lt
    refine ⟨fun e => by rw [e] at hb; exact absurd h1 (Nat.not_lt.mpr hb), ?_⟩
    cases e : h₀.get? _ with
    | none => rfl
    | some o =>
      have := Heap.lt_size (F.keep _ _ e)
      rw [hIt] at this
      exact absurd this (Nat.not_lt.mpr hb)
  have hef := hfresh (Nat.le_succ it)
  have hif := hfresh (Nat.le_refl it)
  -- the state: the place, the enumeration's object, the iterator's
  refine ForAt.intro (σ := Nat × Value × Obj × σ)
    (fun c => (it + 1, { cls := .type "enumerate", dict := none, data := .fields #[.none, .bool false, .ref it, rawInt (c.1 : Int), .none, c.2.1], slots := #[] }) :: (it, c.2.2.1) :: Led c.2.2.2)
    (fun c => ps c.2.2.2)
    (fun c => c.1 ≤ vs.length ∧ c.2.2.1.cls = .type "list_iterator" ∧ c.2.2.1.data = .fields #[.ref l, .int (c.1 : Int) 0] ∧ P c.1 c.2.2.2)
    (fun c => vs.length - c.1) (0, .none, oi₀, c₀) (news := (it + 1, { cls := .type "enumerate", dict := none, data := .fields #[.none, .bool false, .ref it, rawInt (0 : Int), .none, .none], slots := #[] }) :: (it, oi₀) :: news)
    (F.keeps hkp) ?_ hk ?_ ⟨Nat.zero_le _, hci₀, hdi₀, hp⟩ ?_
  · intro q hq
    rcases List.mem_cons.mp hq with rfl | hq
    · exact ⟨he, hef⟩
    · rcases List.mem_cons.mp hq with rfl | hq
      · exact ⟨hoi₀, hif⟩
      · exact ⟨hkp _ _ (N q hq).1, (N q hq).2⟩
  · intro q hq
    rcases List.mem_cons.mp hq with rfl | hq
    · exact .head _
    · rcases List.mem_cons.mp hq with rfl | hq
      · exact .tail _ (.head _)
      · exact .tail _ (.tail _ (hn q hq))
  rintro ⟨i, old, oi, c⟩ u h tk htk ⟨hi, hci, hdi, hP⟩ F1 N1
  dsimp only at hi hci hdi hP F1 N1
  replace htk : s.toks ≤ tk := htk
  have hei := N1 _ (.head _)
  have hii := N1 _ (.tail _ (.head _))
  have hll := N1 _ (.tail _ (.tail _ (hl c)))
  have hne1 : it + 1 ≠ it := Nat.succ_ne_self _
  have hoff : ∀ q ∈ Led c, q.1 ≠ it + 1 ∧ q.1 ≠ it := fun q hq => by
    have h1 := (N1 q (.tail _ (.tail _ hq))).1
    have h2 := hcls c q hq
    refine ⟨fun e => ?_, fun e => ?_⟩
    · rw [e, hei.1] at h1
      rw [← Option.some.inj h1] at h2
      exact absurd h2 (by simp)
    · rw [e, hii.1] at h1
      rw [← Option.some.inj h1, hci] at h2
      exact absurd h2 (by simp)
  have hIt2 : Heap.IsListIter h it l i := ⟨_, hii.1, hci, hdi⟩
  rcases Nat.lt_or_ge i vs.length with hlt | hge
  · obtain ⟨v, hv⟩ : ∃ v, vs[i]? = some v := ⟨_, List.getElem?_eq_getElem hlt⟩
    refine wpAny_pyNext_enum_item hei.1 hIt2 (isl hll.1) (by rw [List.getElem?_toArray]; exact hv) hne1 fun h₁ heo hit₁ ht₁ hz₁ hk₁ => ?_
    dsimp only at heo ht₁ hz₁ hk₁ ⊢
    refine wpAny_letOwnedTupleGo_enum heo fun h₂ he₂ hs₂ => ?_
    replace hs₂ : Heap.SameBut (it + 1) h₁ h₂ := hs₂
    have hLh := F1.ns.lt
    have ht₂ : h₂.IsTuple h.objs.size #[.int i tk, v] := ⟨_, (hs₂.2 _ (Nat.ne_of_gt (Heap.lt_size hei.1))).trans ht₁, rfl, _, rfl⟩
    have hz₂ : h₂.objs.size = h.objs.size + 1 := hs₂.1.trans hz₁
    refine wpAny_assign_Tuple hh ht₂ rfl rfl fun h₃ hx₃ => ?_
    replace hx₃ : Heap.ExtBut h₂.objs.size h₂ h₃ := hx₃
    have up : ∀ b o, b ≠ it + 1 → b ≠ it → h.get? b = some o → h₃.get? b = some o := fun b o hb hb' x =>
      hx₃ b o (by rw [hz₂]; exact Nat.ne_of_lt (Nat.lt_succ_of_lt (Heap.lt_size x))) (hs₂.extBut b o hb (hk₁ b o hb hb' x))
    have hn₃ : h₃.Ns env.locals (kstB u (ps c)) := F1.ns.at fun o x => up _ o (Ne.symm hei.2.1) (Ne.symm hii.2.1) x
    obtain ⟨oi', hoi', hci', hdi'⟩ := id hit₁
    have F3 : Fr h₀ env.locals h₃ (kstB u (ps c)) := ⟨hn₃, fun b o e => up b o (fun q => by rw [q, hef.2] at e; cases e) (fun q => by rw [q, hif.2] at e; cases e) (F1.keep b o e), F1.above⟩
    have N3 : News h₀ env.locals h₃ ((it + 1, { cls := .type "enumerate", dict := none, data := .fields #[.none, .bool false, .ref it, rawInt ((i + 1 : Nat) : Int), .none, v], slots := #[] }) :: (it, oi') :: Led c) := by
      intro q hq
      rcases List.mem_cons.mp hq with rfl | hq
      · refine ⟨?_, hef⟩
        refine hx₃ _ _ (by rw [hz₂]; exact Nat.ne_of_lt (Nat.lt_succ_of_lt (Heap.lt_size hei.1))) ?_
        have : ((i + 1 : Nat) : Int) = (i : Int) + 1 := by push_cast; rfl
        rw [this]; exact he₂
      · rcases List.mem_cons.mp hq with rfl | hq
        · refine ⟨?_, hif⟩
          exact hx₃ _ _ (by rw [hz₂]; exact Nat.ne_of_lt (Nat.lt_succ_of_lt (Heap.lt_size hii.1))) (hs₂.extBut _ _ (Ne.symm hne1) hoi')
        · have h9 := N1 q (.tail _ (.tail _ hq))
          exact ⟨up _ _ (hoff q hq).1 (hoff q hq).2 h9.1, h9.2⟩
    show wpAny _ A (do holding [v] (assign (.Name xi pi) env (.int i tk)); do holding [] (assign (.Name xv pv) env v); pure ()) _ _ _
    refine wpAny_bind (wpAny_holding (wpAny_assign_Name (wpAny_storeName_local hxi hn₃ (fun h₄ hn₄ hs₄ => ?_) hpl)))
    replace hs₄ : Heap.SameBut env.locals h₃ h₄ := hs₄
    refine wpAny_bind (wpAny_holding (wpAny_assign_Name (wpAny_storeName_local hxv hn₄ (fun h₅ hn₅ hs₅ => wpAny_pure ?_) hpl)))
    replace hs₅ : Heap.SameBut env.locals h₄ h₅ := hs₅
    have F5 := (F3.set hn₄ hs₄).set hn₅ hs₅
    have N5 : News h₀ env.locals h₅ _ := fun q hq => ⟨(hs₅.2 _ (N3 q hq).2.1).trans ((hs₄.2 _ (N3 q hq).2.1).trans (N3 q hq).1), (N3 q hq).2⟩
    refine wpAny_mono (turn i v c u (it + 1) it _ oi' tk h₅ (tk + 1 + 1 + 1) (by omega) hv hP F5 N5 hoff hne1) (fun f s₃ q => ?_) fun _ _ x => x
    have key : LEnd h₀ env.locals s (fun c' => (it + 1, { cls := .type "enumerate", dict := none, data := .fields #[.none, .bool false, .ref it, rawInt ((i + 1 : Nat) : Int), .none, v], slots := #[] }) :: (it, oi') :: Led c') ps (P (i + 1)) s₃ →
        LEnd h₀ env.locals { s with heap := h' } (fun c : Nat × Value × Obj × σ => (it + 1, { cls := .type "enumerate", dict := none, data := .fields #[.none, .bool false, .ref it, rawInt (c.1 : Int), .none, c.2.1], slots := #[] }) :: (it, c.2.2.1) :: Led c.2.2.2) (fun c => ps c.2.2.2)
          (fun c' => (c'.1 ≤ vs.length ∧ c'.2.2.1.cls = .type "list_iterator" ∧ c'.2.2.1.data = .fields #[.ref l, .int (c'.1 : Int) 0] ∧ P c'.1 c'.2.2.2) ∧ vs.length - c'.1 < vs.length - i) s₃ := by
      rintro ⟨c', h9, tk9, m9, n9, rfl, F9, N9, hn9, hk9, hp9⟩
      exact ⟨(i + 1, v, oi', c'), h9, tk9, m9, n9, rfl, F9, N9, hn9, hk9, ⟨hlt, hci', hdi', hp9⟩, by dsimp only; omega⟩
    cases f with
    | ret v => exact q
    | brk => exact q
    | next => exact key q
    | cont => exact key q
  · have hsz2 : i = vs.length := Nat.le_antisymm hi hge
    refine wpAny_pyNext_enum_end hh hei.1 hIt2 (isl hll.1) (by rw [List.getElem?_toArray]; exact List.getElem?_eq_none hge) fun h₁ hx₁ => ?_
    replace hx₁ : Heap.ExtBut it h h₁ := hx₁
    refine done c u h₁ tk htk (hsz2 ▸ hP) ⟨F1.ns.at fun o x => hx₁ _ o (Ne.symm hii.2.1) x, fun b o e => hx₁ b o (fun q => by rw [q, hif.2] at e; cases e) (F1.keep b o e), F1.above⟩ fun q hq => ?_
    have h9 := N1 q (.tail _ (.tail _ hq))
    exact ⟨hx₁ _ _ (hoff q hq).2 h9.1, h9.2⟩
end
end Mine
end
section
open PySem PySem.W PyProof.Rows PySem.Calls PySem.Spec
namespace Mine


-- L1
section
variable {w : World} {p : Program} {loose : List Str} {mean : ExcName → Option Value} {mg mb : Str → Option Value} {dp un : Nat} {gd : Option (List Code)} {env : Env} {outer : List Env} {A₀ : Around} {base h₀ : Heap} {L : Addr} {m : Str → Option Value} {news : List (Addr × Obj)} {s : Shared} {Q E : Value → Shared → Prop}


theorem varint_use (B : Below A₀ base outer h₀) (F : Fr h₀ L s.heap m) (X : (hd.heap_1 w.params).In h₀) (T : Top p loose mean mg mb h₀) (hf : env.frame = some L) (hke : env.scope.kind = .function) (hdp : dp + 2 < recursionLimit) (hu : un + 40 < cLine) (it l : Addr) (vs : List Value) (ns : List Int) (i : Nat) (ep : Nat) (g : Obj → List (Addr × Obj)) (N : News h₀ L s.heap news) (U : UpdF it (litObj l i) news g) (hl : (l, listOf vs.toArray ep) ∈ news) (hne : @Ne Nat it l) (hi : IntsAre vs ns)
   (b v : Int) (k : Nat) (hb : ns[i]? = some b) (hv : Pv ns (i + 1) b (Builtin.bitAnd b 63) v k)
   (ret : ∀ t h' tk', Fr h₀ L h' m → News h₀ L h' (g (litObj l k)) → Q (.int v t) { s with heap := h', toks := tk' }) :
   wpAny (model PySem.Challenge.rw_sr0006_01.row.prog w) (Am dp un gd env outer) (call (.ref 63) [.ref it]) Q E s :=
  varint_spec B F X T hf hke hdp hu it l vs ns i ep g N U hl hne hi b v k hb hv fun t h' tk' hk hd =>
    let ⟨F', N'⟩ := took_upd F N U hk hd
    ret t h' tk' F' N'
theorem iseof_use (B : Below A₀ base outer h₀) (F : Fr h₀ L s.heap m) (X : (hd.heap_1 w.params).In h₀) (T : Top p loose mean mg mb h₀) (hf : env.frame = some L) (hke : env.scope.kind = .function) (hdp : dp + 2 < recursionLimit) (hu : un + 40 < cLine) (N : News h₀ L s.heap news) (x : Int) (tx : Tok)
   (ret : ∀ h' tk', Fr h₀ L h' m → News h₀ L h' news → Q (.bool (decide (x = 0))) { s with heap := h', toks := tk' }) :
   wpAny (model PySem.Challenge.rw_sr0006_01.row.prog w) (Am dp un gd env outer) (call (.ref 91) [.int x tx]) Q E s :=
  iseof_spec B F X T hf hke hdp hu N x tx fun h' tk' hk =>
    let ⟨F', N'⟩ := took_val F N hk
    ret h' tk' F' N'
/-- a row read on at a place of the octets -/
inductive Rd (ns : List Int) : Nat → List Int → Prop
  | nil {i b k} : ns[i]? = some b → Pv ns (i + 1) b (Builtin.bitAnd b 63) 0 k → Rd ns i []
  | cons {i b v k row} : ns[i]? = some b → Pv ns (i + 1) b (Builtin.bitAnd b 63) v k → v ≠ 0 → Rd ns k row → Rd ns i (v :: row)
theorem Rd.inv {ns i row} (h : Rd ns i row) : ∃ b v k, ns[i]? = some b ∧ Pv ns (i + 1) b (Builtin.bitAnd b 63) v k ∧ ((v = 0 ∧ row = []) ∨ (v ≠ 0 ∧ ∃ row', row = v :: row' ∧ Rd ns k row')) := by
  cases h with
  | nil a b => exact ⟨_, _, _, a, b, .inl ⟨rfl, rfl⟩⟩
  | cons a b c d => exact ⟨_, _, _, a, b, .inr ⟨c, _, rfl, d⟩⟩
theorem ints_of : ∀ {l : List Nat} {ys : List Value}, ys.length = l.length → (∀ (i : Nat) y, ys[i]? = some y → ∃ (c : Nat) (t : Tok), l[i]? = some c ∧ y = Value.int (c : Int) t) → IntsAre ys (l.map fun (c : Nat) => (c : Int))
  | [], [], _, _ => IntsAre.nil
  | [], _ :: _, h, _ => by simp at h
  | _ :: _, [], h, _ => by simp at h
  | c :: l, y :: ys, h, hG => by
    obtain ⟨c', t, h1, rfl⟩ := hG 0 y rfl
    simp at h1
    subst h1
    exact IntsAre.cons _ _ (ints_of (by simpa using h) fun i y hy => hG (i + 1) y (by simpa using hy))
theorem read_spec (B : Below A₀ base outer h₀) (F : Fr h₀ L s.heap m) (X : (hd.heap_1 w.params).In h₀) (T : Top p loose mean mg mb h₀) (hf : env.frame = some L) (hke : env.scope.kind = .function) (hdp : dp + 4 < recursionLimit) (hu : un + 60 < cLine) (N : News h₀ L s.heap news) (x : Str) (tx : Tok) (hx : x.length ≤ 1000) (row : List Int) (hrow : row.length ≤ 1000) (hrd : Rd (x.cps.toList.map fun (c : Nat) => (c : Int)) 0 row)
   (ret : ∀ r vs ep' h' tk', s.heap.StaysIn h' → s.heap.get? r = none → h'.get? r = some (listOf (List.toArray vs) ep') → IntsAre vs row → Q (.ref r) { s with heap := h', toks := tk' }) :
   wpAny (model PySem.Challenge.rw_sr0006_01.row.prog w) (Am dp un gd env outer) (call (.ref 141) [.str x tx]) Q E s := by
  revert X; k_fill; intro X; k_with_none
  k_with "k_lk" => (first | (refine' lt_get ?h9 ?m9; (case h9 => with_reducible assumption); (case m9 => k_mem)) | (refine' Ne.symm (lt_get ?h9 ?m9); (case h9 => with_reducible assumption); (case m9 => k_mem)) | (refine' ana_get ?h9 ?m9; (case h9 => with_reducible assumption); (case m9 => k_mem)) | (refine' Ne.symm (ana_get ?h9 ?m9); (case h9 => with_reducible assumption); (case m9 => k_mem)) | with_reducible assumption | (refine Ne.symm ?_; with_reducible assumption) | fail "k_lk")
  k_with "k_ne" => first | k_extra "k_lk" | omega
  k_with "k_all" => (first | with_reducible assumption | (refine' lt_all ?h9; (case h9 => with_reducible assumption)) | fail "k_all")
  k_with "k_mem" => (first | exact mI0 | exact mI1 | exact mI2 | exact mI3 | exact mI4 | exact mI5 | exact mI6 | exact mI7 | exact mI8 | exact mI9 | exact mI10 | exact mI11 | (refine mS12 ?_; k_mem))
  k_with "k_room" => first | (refine' rm0 ?h9 ?k9; (case h9 => with_reducible assumption); (case k9 => exact Nat.le_of_ble_eq_true rfl)) | (refine' rm1 ?h9 ?k9; (case h9 => with_reducible assumption); (case k9 => exact Nat.le_of_ble_eq_true rfl)) | (refine' rm2 ?h9; (case h9 => with_reducible assumption)) | (refine' rm4 ?h9; (case h9 => with_reducible assumption)) | (simp only [depth_under_make, depth_under_kw, depth_in1, depth_deeper, depth_caller, recursionLimit] at *; omega)
  k_with "k_units" => first | (refine' rm0 ?h9 ?k9; (case h9 => with_reducible assumption); (case k9 => exact Nat.le_of_ble_eq_true rfl)) | (refine' rm1 ?h9 ?k9; (case h9 => with_reducible assumption); (case k9 => exact Nat.le_of_ble_eq_true rfl)) | (refine' rm2 ?h9; (case h9 => with_reducible assumption)) | (refine' rm4 ?h9; (case h9 => with_reducible assumption)) | (simp only [units_in1, units_deeper, Around.mark_units, units_caller, cLine] at *; omega)
  k_with "om" => (first | (refine neN ?_; (try dsimp only); k_extra "k_lk") | with_reducible assumption | exact Nat.le_of_ble_eq_true rfl | (refine' le_lit ?h9 ?k9; (case h9 => with_reducible assumption); (case k9 => exact Nat.le_of_ble_eq_true rfl)) | (refine' lt_lit ?h9 ?k9; (case h9 => with_reducible assumption); (case k9 => exact Nat.le_of_ble_eq_true rfl)) | (refine' rm0 ?h9 ?k9; (case h9 => with_reducible assumption); (case k9 => exact Nat.le_of_ble_eq_true rfl)) | (refine' rm1 ?h9 ?k9; (case h9 => with_reducible assumption); (case k9 => exact Nat.le_of_ble_eq_true rfl)) | (refine' rm2 ?h9; (case h9 => with_reducible assumption)) | (refine' rm4 ?h9; (case h9 => with_reducible assumption)) | omega (config := { splitDisjunctions := false }) | ((repeat (first | (rename _ ≠ _ ∧ _ => hq9; clear hq9) | (rename (_ ≠ _ ∧ _) ∧ _ => hq9; clear hq9))); omega (config := { splitDisjunctions := true })) | omega (config := { splitDisjunctions := true }) | ((repeat (rename (∀ p ∈ (_ : List (PySem.Addr × PySem.Obj)), @LT.lt Nat _ p.1 _) => hq9; (have hq8 := PySem.W.allLt_of hq9); clear hq9; simp only [PySem.W.AllLt, and_true] at hq8)); omega (config := { splitDisjunctions := true })))
  k_with "callWith ref" => (k_here; k_dflt (refine' callWith_K ?zs1 ?zs2 ?_; (case zs1 => k_asm); (case zs2 => k_is); k_whole))
  k_with "call builtin:len" => (k_here; (with_reducible show wpAny _ _ (call (Value.builtin _) [Value.ref _]) _ _ _); (with_unfolding_all refine' len_ints_fit ?zs1 ?zs2 ?zs3 ?_; (case zs1 => is_list); (case zs2 => l_ints); (case zs3 => l_fit); k_whole); (try simp only [List.length_append, List.length_cons, List.length_nil, Nat.zero_add]))
  k_with "subscriptTail Name" => (k_here; (with_reducible show wpAny _ _ (subscriptTail _ _ (Value.ref _) (Value.int _ _)) _ _ _); kim_at)
  k_with "getMethod ref" => (k_here; k_dflt (refine' method_inst ?zs1 ?zs2 ?zs3 ?zs4 ?zs5 ?zs6 ?zs7 ?_; (case zs1 => k_asm); (case zs2 => k_asm); (case zs3 => k_inst); (case zs4 => k_is); (case zs5 => k_is); (case zs6 => k_is); (case zs7 => k_get); k_whole))
  k_with "execs cons" => (refine seqK ?_; intro K9 tk9 hK9; (try dsimp only))
  k_with "KK next" => (refine' kk_next ?h9 ?_; (case h9 => with_reducible assumption))
  k_with "KK ret" => (refine' kk_ret ?h9 ?_; (case h9 => with_reducible assumption); (try dsimp only))
  k_with "KK brk" => (refine' kk_brk ?h9 ?_; (case h9 => with_reducible assumption); (try dsimp only))
  k_with "KK cont" => (refine' kk_cont ?h9 ?_; (case h9 => with_reducible assumption); (try dsimp only))
  k_with "ktr_unf" => (k_dflt (first | (refine' enterP ?zqk1 ?zqk2 ?zqk3 ?zqk4 ?zqk5 ?zqkA ?zqkF ?zqkK ?zqk6 ?zqk7 ?zqk8 ?zqk9 ?zqkB ?_ ?zqc2 ?zqc3 ?zqc4 ?zqc5; (case zqkA => exact rfl); (case zqkF => assumption); (case zqkK => assumption); (case zqk1 => k_asm); (case zqk2 => k_asm); (case zqk3 => k_asm); (case zqk4 => k_asm); (case zqk5 => k_asm); (case zqk6 => k_is); (case zqk7 => k_is); (case zqk8 => k_room); (case zqk9 => exact BindsTo.of_eq rfl); (case zqc5 => decide); (case zqkB => exact locs rfl); (case zqc2 => exact rfl); (case zqc3 => exact rfl); (case zqc4 => exact rfl); k_whole; intro g' L' h' F' N' B' X' T' l1; (try k_lt l1); (try dsimp only); (try k_lift B'); (try k_fold)) | (refine' enterPC ?zqk1 ?zqk2 ?zqk3 ?zqk4 ?zqk5 ?zqkA ?zqkF ?zqkK ?zqk6 ?zqk7 ?zqk8 ?zqk9 ?zqkB ?zqkD ?_ ?zqc2 ?zqc3 ?zqc4; (case zqkA => exact rfl); (case zqkF => assumption); (case zqkK => assumption); (case zqk1 => k_asm); (case zqk2 => k_asm); (case zqk3 => k_asm); (case zqk4 => k_asm); (case zqk5 => k_asm); (case zqk6 => k_is); (case zqk7 => k_is); (case zqk8 => k_room); (case zqk9 => exact BindsTo.of_eq rfl); (case zqkB => exact rfl); (case zqkD => decide +kernel); (case zqc2 => exact rfl); (case zqc3 => exact rfl); (case zqc4 => exact rfl); k_whole; intro g' L' h' tk' cells' F' N' Y' B' X' T' l1; (try k_lt l1); k_cells Y'; (try simp only [List.cons_append, List.nil_append] at N'); (try dsimp only); (try k_lift B'); (try k_fold))))
  k_with "call builtin:list.append" => (k_here; (with_reducible show wpAny _ _ (call (Value.builtin "list.append") [Value.ref _, _]) _ _ _); k_dflt (refine' my_append ?zqF ?zqN ?zqU ?zqz ?_; (case zqF => k_asm); (case zqN => k_asm); (case zqU => k_updF); (case zqz => k_extra "asize"); k_whole; intro h' F' N'; (try dsimp only at N'); (try simp only [List.push_toArray] at N')))
  k_with "call ref" => (k_here; (with_reducible show wpAny _ _ (call (Value.ref _) [Value.ref _]) _ _ _); k_dflt (refine' varint_use ?zqk1 ?zqk2 ?zqk3 ?zqk4 ?zqk5 ?zqk6 ?zqk7 ?zqk8 _ _ _ _ _ _ _ ?zqN ?zqU ?zql ?zqn ?zqi _ _ _ ?zqb ?zqv ?_; (case zqk1 => k_asm); (case zqk2 => k_asm); (case zqk3 => k_asm); (case zqk4 => k_asm); (case zqk5 => first | exact rfl | assumption); (case zqk6 => first | exact rfl | assumption); (case zqk7 => k_room); (case zqk8 => k_units); (case zqN => k_asm); (case zqU => k_updF); (case zql => k_mem); (case zqn => k_ne); (case zqi => assumption); (case zqb => k_extra "hb"); (case zqv => k_extra "hv"); k_whole; intro t' h' tk' F' N'; (try dsimp only at N')))
  k_with "call ref" => (k_here; (with_reducible show wpAny _ _ (call (Value.ref _) [Value.int _ _]) _ _ _); k_dflt (refine' iseof_use ?zqk1 ?zqk2 ?zqk3 ?zqk4 ?zqk5 ?zqk6 ?zqk7 ?zqk8 ?zqN _ _ ?_; (case zqk1 => k_asm); (case zqk2 => k_asm); (case zqk3 => k_asm); (case zqk4 => k_asm); (case zqk5 => first | exact rfl | assumption); (case zqk6 => first | exact rfl | assumption); (case zqk7 => k_room); (case zqk8 => k_units); (case zqN => k_asm); k_whole; intro h' tk' F' N'))
  k_with "call builtin:iter" => (k_here; (with_reducible show wpAny _ _ (call (Value.builtin "iter") [Value.ref _]) _ _ _); k_dflt (refine' call_iter_list (vs := List.toArray _) ?zqF ?zqN ?zql ?_; (case zqF => k_asm); (case zqN => k_asm); (case zql => exact News.isList (by k_asm) (by k_mem)); k_whole; intro I' h' F' N' l1; (try k_lt l1)))
  replace N : News h₀ L s.heap [] := News.nil
  ktr_unf
  clear F N B X T
  obtain ⟨b0, v0, k0, hb0, hv0, hr0⟩ := hrd.inv
  k_with "asize" => (rw [List.size_toArray, (IntsAre.length (by assumption) : _ = _)]; have h9 := congrArg List.length (by assumption : _ ++ _ = row); rw [List.length_append] at h9; omega)
  k_with "hb" => assumption
  k_with "hv" => assumption
  k_with "exec While UnaryOp cons nil" => k_dflt (
    refine' my_while (σ := (Addr × Addr × Addr) × Nat × Int × Tok × List Value × Nat × List Int × List Int)
      (fun ((r, it, D), k, v, tv, rvs, ep, dn, rest) => [(r, listOf rvs.toArray ep), (it, litObj D k), (D, LCg.lst ys)])
      (fun ((r, it, D), k, v, tv, rvs, ep, dn, rest) => [("signs", .ref it), ("row", .ref r), ("number", .int v tv)])
      (fun ((r, it, D), k, v, tv, rvs, ep, dn, rest) => @Ne Nat it D ∧ @Ne Nat r it ∧ @Ne Nat r D ∧ IntsAre rvs dn ∧ dn ++ rest = row ∧ ((v = 0 ∧ rest = []) ∨ (v ≠ 0 ∧ ∃ rest', rest = v :: rest' ∧ Rd (x.cps.toList.map fun (c : Nat) => (c : Int)) k rest')))
      (fun ((r, it, D), k, v, tv, rvs, ep, dn, rest) => rest.length) ((_, _, _), _, _, _, _, _, [], row) ?F ?N ?hn ?hk ?hp ?turn ?hE
    case hE => exact fun _ _ h => h
    case F => k_asm
    case N => k_asm
    case hn => kcj_all
    case hk => kst_all
    case hp => exact ⟨by omega, by omega, by omega, IntsAre.nil, rfl, hr0⟩
    intro c u h1 tk1 htk1 hc F1 N1
    obtain ⟨⟨r, it, D⟩, k, v, tv, rvs, ep, dn, rest⟩ := c
    dsimp only at hc F1 N1 ⊢
    obtain ⟨hn1, hn2, hn3, hiv, hdn, hr⟩ := hc
    rcases hr with ⟨hv0, hr⟩ | ⟨hvn, rest', hr, hrd'⟩
    rotate_left
    obtain ⟨b1, v1, k1, hb1, hv1, hr1⟩ := hrd'.inv)
  k_with "eval ListComp" => k_dflt (k_here; refine ListComp_S (by k_asm) (by with_unfolding_all rfl) (by decide) (by rfl) (by decide) (by rfl) ?_)
  k_with "SrcS" => k_dflt (
    refine' SrcS.intro rfl ?F ?N ?hsz ?h
    case F => k_asm
    case N => k_asm
    case hsz => (rw [sizeLine_eq]; exact Nat.le_trans hx (by omega))
    case' h =>
      intro g
      refine' compRest_pure x.cps.size (fun i y => ∃ (c : Nat) (t : Tok), x.cps.toList[i]? = some c ∧ y = Value.int (c : Int) t) trivial ?ta ?tb
    case' ta =>
      intro i v I oI C oC D m₂ ys h tk E' hi hP hC hm F1 N1 off hne
      obtain ⟨c, u, hc, rfl⟩ := hP
    case' tb =>
      intro ys hyl hG
      have hI := ints_of (by simpa using hyl) hG)
  k_steps
  · k_dflt (refine' lend ((_, _, _), _, _, _, _, _, dn ++ [v], rest') ?F ?N ?hn ?hk ?hp; (case F => k_asm); (case N => k_asm); (case hn => kcj_all); (case hk => kst_all))
    refine ⟨⟨hn1, hn2, hn3, hiv.append (IntsAre.cons _ _ IntsAre.nil), by rw [← hdn, hr]; simp, hr1⟩, by rw [hr]; simp⟩
  · (try dsimp only)
    have he : dn = row := by rw [← hdn, hr]; simp
    subst he
    exact end_new (by assumption) (by assumption) (by kcj_all) (.head _) (by k_all) fun a b c => ret _ _ _ _ _ a b c hiv
  · simpa using hc


end

-- WS
section
variable {w : World} {p : Program} {loose : List Str} {mean : ExcName → Option Value} {mg mb : Str → Option Value} {dp un : Nat} {gd : Option (List Code)} {env : Env} {outer : List Env} {A₀ : Around} {base h₀ : Heap} {L : Addr} {m : Str → Option Value} {news : List (Addr × Obj)} {s : Shared} {Q E : Value → Shared → Prop}


theorem word_use (B : Below A₀ base outer h₀) (F : Fr h₀ L s.heap m) (X : (hd.heap_1 w.params).In h₀) (T : Top p loose mean mg mb h₀) (hf : env.frame = some L) (hke : env.scope.kind = .function) (hdp : dp + 2 < recursionLimit) (hu : un + 40 < cLine) (l : Addr) (x y : Int) (tx ty : Tok) (ep : Nat) (N : News h₀ L s.heap news) (hl : (l, listOf #[.int x tx, .int y ty] ep) ∈ news) (n : Int) (tn : Tok) (h0 : 0 ≤ n) (h8 : n < 8)
   (ret : ∀ (r : Addr) (vs : List Value) (ep' : Nat) (ws : List Int) h' tk', Fr h₀ L h' m → News h₀ L h' ((r, listOf vs.toArray ep') :: news) → (∀ q ∈ news, q.1 ≠ r) → IntsAre vs ws → 1 ≤ ws.length → ws.length ≤ 2 → (∀ e ∈ ws, e = x ∨ e = y) → Q (.ref r) { s with heap := h', toks := tk' }) :
   wpAny (model PySem.Challenge.rw_sr0006_01.row.prog w) (Am dp un gd env outer) (call (.ref 110) [.int n tn, .ref l]) Q E s :=
  word_spec B F X T hf hke hdp hu l x y tx ty ep N hl n tn h0 h8 fun r vs ep' ws h' tk' k hn hD a b c d =>
    let ⟨F', N', hne⟩ := took_new F N k hn hD
    ret r vs ep' ws h' tk' F' N' hne a b c d
theorem word_ok {ws : List Int} {a b : Int} (h : ∀ e ∈ ws, e = a ∨ e = b) (ha : 1 ≤ a ∧ a ≤ 255) (hb : 1 ≤ b ∧ b ≤ 255) : ∀ e ∈ ws, 1 ≤ e ∧ e ≤ 255 := fun e he => by
  rcases h e he with rfl | rfl <;> assumption
theorem app_ok {a b : List Int} (ha : ∀ e ∈ a, 1 ≤ e ∧ e ≤ 255) (hb : ∀ e ∈ b, 1 ≤ e ∧ e ≤ 255) : ∀ e ∈ a ++ b, 1 ≤ e ∧ e ≤ 255 := fun e he => (List.mem_append.mp he).elim (ha e) (hb e)
theorem pick_ok {a b k : Int} (ha : 1 ≤ a ∧ a ≤ 255) (hb : 1 ≤ b ∧ b ≤ 255) (hk : k = 0 ∨ k = 1) : 1 ≤ [a, b].getD k.toNat 0 ∧ [a, b].getD k.toNat 0 ≤ 255 := by
  rcases hk with rfl | rfl <;> assumption

structure FnParts where
  (name qual : Str) (params : Arguments) (body : List Stmt) (scope : Scope) (dV kV doc pm cdv ct : Value) (an : Option Addr)
noncomputable def wordsD (p : Params) : { q : FnParts // (hd.heap_1 p).lookup 117 = some ⟨.type "function", none, .func (fnOf q.name q.qual q.params q.body q.scope q.dV q.kV q.doc q.pm q.an q.cdv q.ct), #[]⟩ } := by
  refine' ⟨⟨Str.ofString "_law_words", Str.ofString "_law_words", ?c, ?d, ?e, ?f, ?g, ?h, ?i, ?j, ?k, ?l⟩, ?z⟩
  case z => exact rfl
noncomputable def forW (p : Params) : Stmt := (wordsD p).1.body.getD 5 (.Pass ⟨0, 0, 0, 0⟩)
noncomputable abbrev wEnv (p : Params) (L fa : Addr) (cd : Value) : Env := envOf (wordsD p).1.qual (wordsD p).1.scope L fa cd
theorem words_loop (B : Below A₀ base (env :: outer) h₀) (X : (hd.heap_1 w.params).In h₀) (T : Top p loose mean mg mb h₀) (hdp : dp + 4 < recursionLimit) (hu : un + 60 < cLine) {Qf : Flow → Shared → Prop} {fa : Addr} {cd : Value} {m₀ : Str → Option Value} {ax0 ay0 : Addr} {xv0 yv0 : List Value} {ex0 ey0 : Nat} {xl0 yl0 : List Int} {steps : Int} {tn : Tok}
   (F : Fr h₀ L s.heap m₀) (N : News h₀ L s.heap news) (hk : ∀ q ∈ ([("x", .ref ax0), ("y", .ref ay0), ("steps", .int steps tn)] : List (Str × Value)), m₀ q.1 = some q.2) (mx : (ax0, listOf xv0.toArray ex0) ∈ news) (my : (ay0, listOf yv0.toArray ey0) ∈ news)
   (ix0 : IntsAre xv0 xl0) (iy0 : IntsAre yv0 yl0) (lx0 : 1 ≤ xl0.length) (ly0 : 1 ≤ yl0.length) (sm0 : xl0.length + yl0.length ≤ 4 * 2 ^ 0) (bx0 : ∀ e ∈ xl0, 1 ≤ e ∧ e ≤ 255) (by0 : ∀ e ∈ yl0, 1 ≤ e ∧ e ≤ 255)
   (ret : ∀ (ax ay : Addr) (xv yv : List Value) (ex ey : Nat) (xl yl : List Int) u h' tk', Fr h₀ L h' (kstB u [("x", .ref ax), ("y", .ref ay), ("steps", .int steps tn)]) → News h₀ L h' [(ax, listOf xv.toArray ex), (ay, listOf yv.toArray ey)] →
     IntsAre xv xl → IntsAre yv yl → 1 ≤ xl.length → 1 ≤ yl.length → xl.length + yl.length ≤ 32 → (∀ e ∈ xl, 1 ≤ e ∧ e ≤ 255) → (∀ e ∈ yl, 1 ≤ e ∧ e ≤ 255) → Qf .next { s with heap := h', toks := tk' }) :
   wpAny (model PySem.Challenge.rw_sr0006_01.row.prog w) ((Am dp un gd env outer).deeper (wEnv w.params L fa cd)) (exec (forW w.params) (wEnv w.params L fa cd)) Qf (fun _ _ => False) s := by
  have N9 : News h₀ L s.heap [(ax0, listOf xv0.toArray ex0), (ay0, listOf yv0.toArray ey0)] := cb_drop N (fun q hq => by
    rcases List.mem_cons.mp hq with rfl | hq
    · exact mx
    · rw [List.mem_singleton.mp hq]; exact my)
  have F9 : Fr h₀ L s.heap (kstB m₀ [("x", .ref ax0), ("y", .ref ay0), ("steps", .int steps tn)]) := by rw [kstB_of hk]; exact F
  clear F N mx my hk
  unfold forW wEnv wordsD
  dsimp only [List.drop, List.getD, List.getElem?_cons_succ, List.getElem?_cons_zero, Option.getD]
  revert X; k_fill; intro X; k_with_none
  k_with "k_lk" => (first | (refine' lt_get ?h9 ?m9; (case h9 => with_reducible assumption); (case m9 => k_mem)) | (refine' Ne.symm (lt_get ?h9 ?m9); (case h9 => with_reducible assumption); (case m9 => k_mem)) | (refine' ana_get ?h9 ?m9; (case h9 => with_reducible assumption); (case m9 => k_mem)) | (refine' Ne.symm (ana_get ?h9 ?m9); (case h9 => with_reducible assumption); (case m9 => k_mem)) | with_reducible assumption | (refine Ne.symm ?_; with_reducible assumption) | fail "k_lk")
  k_with "k_ne" => first | k_extra "k_lk" | omega
  k_with "k_all" => (first | with_reducible assumption | (refine' lt_all ?h9; (case h9 => with_reducible assumption)) | fail "k_all")
  k_with "k_mem" => (first | exact mI0 | exact mI1 | exact mI2 | exact mI3 | exact mI4 | exact mI5 | exact mI6 | exact mI7 | exact mI8 | exact mI9 | exact mI10 | exact mI11 | (refine mS12 ?_; k_mem))
  k_with "k_room" => first | (refine' rm0 ?h9 ?k9; (case h9 => with_reducible assumption); (case k9 => exact Nat.le_of_ble_eq_true rfl)) | (refine' rm1 ?h9 ?k9; (case h9 => with_reducible assumption); (case k9 => exact Nat.le_of_ble_eq_true rfl)) | (refine' rm2 ?h9; (case h9 => with_reducible assumption)) | (refine' rm4 ?h9; (case h9 => with_reducible assumption)) | (simp only [depth_under_make, depth_under_kw, depth_in1, depth_deeper, depth_caller, recursionLimit] at *; omega)
  k_with "k_units" => first | (refine' rm0 ?h9 ?k9; (case h9 => with_reducible assumption); (case k9 => exact Nat.le_of_ble_eq_true rfl)) | (refine' rm1 ?h9 ?k9; (case h9 => with_reducible assumption); (case k9 => exact Nat.le_of_ble_eq_true rfl)) | (refine' rm2 ?h9; (case h9 => with_reducible assumption)) | (refine' rm4 ?h9; (case h9 => with_reducible assumption)) | (simp only [units_in1, units_deeper, Around.mark_units, units_caller, cLine] at *; omega)
  k_with "om" => (first | (refine neN ?_; (try dsimp only); k_extra "k_lk") | with_reducible assumption | exact Nat.le_of_ble_eq_true rfl | (refine' le_lit ?h9 ?k9; (case h9 => with_reducible assumption); (case k9 => exact Nat.le_of_ble_eq_true rfl)) | (refine' lt_lit ?h9 ?k9; (case h9 => with_reducible assumption); (case k9 => exact Nat.le_of_ble_eq_true rfl)) | (refine' rm0 ?h9 ?k9; (case h9 => with_reducible assumption); (case k9 => exact Nat.le_of_ble_eq_true rfl)) | (refine' rm1 ?h9 ?k9; (case h9 => with_reducible assumption); (case k9 => exact Nat.le_of_ble_eq_true rfl)) | (refine' rm2 ?h9; (case h9 => with_reducible assumption)) | (refine' rm4 ?h9; (case h9 => with_reducible assumption)) | omega (config := { splitDisjunctions := false }) | ((repeat (first | (rename _ ≠ _ ∧ _ => hq9; clear hq9) | (rename (_ ≠ _ ∧ _) ∧ _ => hq9; clear hq9))); omega (config := { splitDisjunctions := true })) | omega (config := { splitDisjunctions := true }) | ((repeat (rename (∀ p ∈ (_ : List (PySem.Addr × PySem.Obj)), @LT.lt Nat _ p.1 _) => hq9; (have hq8 := PySem.W.allLt_of hq9); clear hq9; simp only [PySem.W.AllLt, and_true] at hq8)); omega (config := { splitDisjunctions := true })))
  k_with "callWith ref" => (k_here; k_dflt (refine' callWith_K ?zs1 ?zs2 ?_; (case zs1 => k_asm); (case zs2 => k_is); k_whole))
  k_with "call builtin:len" => (k_here; (with_reducible show wpAny _ _ (call (Value.builtin _) [Value.ref _]) _ _ _); (with_unfolding_all refine' len_ints_fit ?zs1 ?zs2 ?zs3 ?_; (case zs1 => is_list); (case zs2 => l_ints); (case zs3 => l_fit); k_whole); (try simp only [List.length_append, List.length_cons, List.length_nil, Nat.zero_add]))
  k_with "subscriptTail Name" => (k_here; (with_reducible show wpAny _ _ (subscriptTail _ _ (Value.ref _) (Value.int _ _)) _ _ _); kim_at)
  k_with "getMethod ref" => (k_here; k_dflt (refine' method_inst ?zs1 ?zs2 ?zs3 ?zs4 ?zs5 ?zs6 ?zs7 ?_; (case zs1 => k_asm); (case zs2 => k_asm); (case zs3 => k_inst); (case zs4 => k_is); (case zs5 => k_is); (case zs6 => k_is); (case zs7 => k_get); k_whole))
  k_with "execs cons" => (refine seqK ?_; intro K9 tk9 hK9; (try dsimp only))
  k_with "KK next" => (refine' kk_next ?h9 ?_; (case h9 => with_reducible assumption))
  k_with "KK ret" => (refine' kk_ret ?h9 ?_; (case h9 => with_reducible assumption); (try dsimp only))
  k_with "KK brk" => (refine' kk_brk ?h9 ?_; (case h9 => with_reducible assumption); (try dsimp only))
  k_with "KK cont" => (refine' kk_cont ?h9 ?_; (case h9 => with_reducible assumption); (try dsimp only))
  k_with "call ref" => (k_here; (with_reducible show wpAny _ _ (call (Value.ref _) [Value.int _ _, Value.ref _]) _ _ _); k_dflt (refine' word_use ?zqk1 ?zqk2 ?zqk3 ?zqk4 ?zqk5 ?zqk6 ?zqk7 ?zqk8 _ _ _ _ _ _ ?zqN ?zql _ _ ?zqh0 ?zqh8 ?_; (case zqk1 => k_asm); (case zqk2 => k_asm); (case zqk3 => k_asm); (case zqk4 => k_asm); (case zqk5 => first | exact rfl | assumption); (case zqk6 => first | exact rfl | assumption); (case zqk7 => k_room); (case zqk8 => k_units); (case zqN => k_asm); (case zql => k_mem); (case zqh0 => k_extra "h0"); (case zqh8 => k_extra "h8"); k_whole; intro r' vs' ep' ws' h' tk' F' N' l1 hI' hA' hB' hC'))
  k_with "exec For Name Call cons nil" => k_dflt (
    rename Fr _ _ _ _ => lF
    refine' my_for lF ?_ ?hs ?hE
    case hE => exact fun _ _ h => h
    case hs => exact fun _ => rfl)
  k_with "pyIter ref" => k_dflt (
    refine' iter_range (by assumption) (by decide +kernel) (by k_asm) (by k_asm) ?_
    intro I h1 F1 N1 l1
    try k_lt l1
    refine' ForAt.intro (σ := (Addr × Addr) × Nat × (List Value × Nat × List Int) × (List Value × Nat × List Int))
      (fun c => [(I, ritObj (c.2.1 : Int) (3 - (c.2.1 : Int))), (c.1.1, listOf c.2.2.1.1.toArray c.2.2.1.2.1), (c.1.2, listOf c.2.2.2.1.toArray c.2.2.2.2.1)])
      (fun c => [("x", .ref c.1.1), ("y", .ref c.1.2), ("steps", .int steps tn)])
      (fun c => @Ne Nat c.1.1 I ∧ @Ne Nat c.1.2 I ∧ c.2.1 ≤ 3 ∧ IntsAre c.2.2.1.1 c.2.2.1.2.2 ∧ IntsAre c.2.2.2.1 c.2.2.2.2.2 ∧ 1 ≤ c.2.2.1.2.2.length ∧ 1 ≤ c.2.2.2.2.2.length ∧ c.2.2.1.2.2.length + c.2.2.2.2.2.length ≤ 4 * 2 ^ c.2.1 ∧ (∀ e ∈ c.2.2.1.2.2, 1 ≤ e ∧ e ≤ 255) ∧ (∀ e ∈ c.2.2.2.2.2, 1 ≤ e ∧ e ≤ 255))
      (fun c => 3 - c.2.1) ((ax0, ay0), 0, (xv0, ex0, xl0), (yv0, ey0, yl0)) F1 N1 (by kst_all) (by kcj_all) (by
        (try dsimp only)
        exact ⟨by omega, by omega, by omega, ix0, iy0, lx0, ly0, sm0, bx0, by0⟩) ?_
    intro c u h1 tk1 htk1 hc F1 N1
    obtain ⟨⟨ax, ay⟩, k, ⟨xv, ex, xl⟩, ⟨yv, ey, yl⟩⟩ := c
    dsimp only at hc F1 N1 ⊢
    obtain ⟨hne1, hne2, hk3, hix, hiy, hlx, hly, hsum, hax, hay⟩ := hc
    refine' next_rangeC rfl F1 N1 (by k_all) (fun h3 hc9 F3 N3 => ?_) (fun h3 hc9 F3 N3 => ?_)
    all_goals dsimp only
    case' refine'_1 =>
      have hk2 : k < 3 := by omega
      have hkf1 := fmod_lo ((steps.fdiv 64).fdiv (4 ^ (k : Int).toNat)) (n := 4) (by decide)
      have hkf2 := fmod_hi ((steps.fdiv 64).fdiv (4 ^ (k : Int).toNat)) (n := 4) (by decide)
      have e1 : ((k : Int) + 1) = ((k + 1 : Nat) : Int) := by omega
      have e2 : (3 : Int) - k - 1 = 3 - ((k + 1 : Nat) : Int) := by omega
      rw [e2, e1] at N3
      clear e1 e2
      have h2k : (2 : Nat) ^ k ≤ 2 ^ 2 := Nat.pow_le_pow_right (by decide) (by omega)
      have hz1 : xl.length + yl.length ≤ sizeLine := by rw [sizeLine_eq]; omega
      have hz2 : yl.length + xl.length ≤ sizeLine := by rw [sizeLine_eq]; omega
      refine no_letgo (assign_name ?_))
  k_with "binaryOp FloorDiv int int" => (k_here; (with_reducible refine fdiv4 hk2 ?_))
  k_steps
  any_goals (
    (try dsimp only)
    exact ret _ _ _ _ _ _ _ _ _ _ _ (by assumption) (cb_drop (by assumption) (by kcj_all)) hix hiy hlx hly (by have : (2 : Nat) ^ k ≤ 2 ^ 3 := Nat.pow_le_pow_right (by decide) hk3; omega) hax hay)
  any_goals (
    k_dflt refine' lend2 ((_, _), k + 1, (_, _, _), (_, _, _)) (by k_asm) (by k_asm) (by kst_all) (by kcj_all) (by
      (try dsimp only)
      refine ⟨⟨by omega, by omega, by omega, by first | assumption | exact hiy | exact hix, by first | exact hiy | exact hix | assumption, ?_, ?_, ?_, ?_, ?_⟩, by omega⟩
      · first | (simp only [List.length_append]; omega) | omega
      · first | (simp only [List.length_append]; omega) | omega
      · have e9 : (2 : Nat) ^ (k + 1) = 2 * 2 ^ k := by rw [Nat.pow_succ]; omega
        first | (simp only [List.length_append]; omega) | omega
      · first | assumption | exact app_ok hax hay | exact app_ok hay hax
      · first | assumption | exact app_ok hax hay | exact app_ok hay hax))

theorem words_spec (B : Below A₀ base outer h₀) (F : Fr h₀ L s.heap m) (X : (hd.heap_1 w.params).In h₀) (T : Top p loose mean mg mb h₀) (hf : env.frame = some L) (hke : env.scope.kind = .function) (hdp : dp + 4 < recursionLimit) (hu : un + 60 < cLine) (N : News h₀ L s.heap news) (kind steps : Int) (tk tn : Tok) 
   (ret : ∀ (r ax ay : Addr) (xv yv : List Value) (ex ey : Nat) (xl yl : List Int) h' tk', s.heap.StaysIn h' → (∀ q ∈ [(r, listOf #[.ref ax, .ref ay] 0), (ax, listOf xv.toArray ex), (ay, listOf yv.toArray ey)], s.heap.get? q.1 = none ∧ h'.get? q.1 = some q.2) →
     IntsAre xv xl → IntsAre yv yl → 1 ≤ xl.length → 1 ≤ yl.length → xl.length + yl.length ≤ 32 → (∀ e ∈ xl, 1 ≤ e ∧ e ≤ 255) → (∀ e ∈ yl, 1 ≤ e ∧ e ≤ 255) → Q (.ref r) { s with heap := h', toks := tk' }) :
   wpAny (model PySem.Challenge.rw_sr0006_01.row.prog w) (Am dp un gd env outer) (call (.ref 117) [.int kind tk, .int steps tn]) Q E s := by
  revert X; k_fill; intro X; k_with_none
  k_with "k_lk" => (first | (refine' lt_get ?h9 ?m9; (case h9 => with_reducible assumption); (case m9 => k_mem)) | (refine' Ne.symm (lt_get ?h9 ?m9); (case h9 => with_reducible assumption); (case m9 => k_mem)) | (refine' ana_get ?h9 ?m9; (case h9 => with_reducible assumption); (case m9 => k_mem)) | (refine' Ne.symm (ana_get ?h9 ?m9); (case h9 => with_reducible assumption); (case m9 => k_mem)) | with_reducible assumption | (refine Ne.symm ?_; with_reducible assumption) | fail "k_lk")
  k_with "k_ne" => first | k_extra "k_lk" | omega
  k_with "k_all" => (first | with_reducible assumption | (refine' lt_all ?h9; (case h9 => with_reducible assumption)) | fail "k_all")
  k_with "k_mem" => (first | exact mI0 | exact mI1 | exact mI2 | exact mI3 | exact mI4 | exact mI5 | exact mI6 | exact mI7 | exact mI8 | exact mI9 | exact mI10 | exact mI11 | (refine mS12 ?_; k_mem))
  k_with "k_room" => first | (refine' rm0 ?h9 ?k9; (case h9 => with_reducible assumption); (case k9 => exact Nat.le_of_ble_eq_true rfl)) | (refine' rm1 ?h9 ?k9; (case h9 => with_reducible assumption); (case k9 => exact Nat.le_of_ble_eq_true rfl)) | (refine' rm2 ?h9; (case h9 => with_reducible assumption)) | (refine' rm4 ?h9; (case h9 => with_reducible assumption)) | (simp only [depth_under_make, depth_under_kw, depth_in1, depth_deeper, depth_caller, recursionLimit] at *; omega)
  k_with "k_units" => first | (refine' rm0 ?h9 ?k9; (case h9 => with_reducible assumption); (case k9 => exact Nat.le_of_ble_eq_true rfl)) | (refine' rm1 ?h9 ?k9; (case h9 => with_reducible assumption); (case k9 => exact Nat.le_of_ble_eq_true rfl)) | (refine' rm2 ?h9; (case h9 => with_reducible assumption)) | (refine' rm4 ?h9; (case h9 => with_reducible assumption)) | (simp only [units_in1, units_deeper, Around.mark_units, units_caller, cLine] at *; omega)
  k_with "om" => (first | (refine neN ?_; (try dsimp only); k_extra "k_lk") | with_reducible assumption | exact Nat.le_of_ble_eq_true rfl | (refine' le_lit ?h9 ?k9; (case h9 => with_reducible assumption); (case k9 => exact Nat.le_of_ble_eq_true rfl)) | (refine' lt_lit ?h9 ?k9; (case h9 => with_reducible assumption); (case k9 => exact Nat.le_of_ble_eq_true rfl)) | (refine' rm0 ?h9 ?k9; (case h9 => with_reducible assumption); (case k9 => exact Nat.le_of_ble_eq_true rfl)) | (refine' rm1 ?h9 ?k9; (case h9 => with_reducible assumption); (case k9 => exact Nat.le_of_ble_eq_true rfl)) | (refine' rm2 ?h9; (case h9 => with_reducible assumption)) | (refine' rm4 ?h9; (case h9 => with_reducible assumption)) | omega (config := { splitDisjunctions := false }) | ((repeat (first | (rename _ ≠ _ ∧ _ => hq9; clear hq9) | (rename (_ ≠ _ ∧ _) ∧ _ => hq9; clear hq9))); omega (config := { splitDisjunctions := true })) | omega (config := { splitDisjunctions := true }) | ((repeat (rename (∀ p ∈ (_ : List (PySem.Addr × PySem.Obj)), @LT.lt Nat _ p.1 _) => hq9; (have hq8 := PySem.W.allLt_of hq9); clear hq9; simp only [PySem.W.AllLt, and_true] at hq8)); omega (config := { splitDisjunctions := true })))
  k_with "callWith ref" => (k_here; k_dflt (refine' callWith_K ?zs1 ?zs2 ?_; (case zs1 => k_asm); (case zs2 => k_is); k_whole))
  k_with "call builtin:len" => (k_here; (with_reducible show wpAny _ _ (call (Value.builtin _) [Value.ref _]) _ _ _); (with_unfolding_all refine' len_ints_fit ?zs1 ?zs2 ?zs3 ?_; (case zs1 => is_list); (case zs2 => l_ints); (case zs3 => l_fit); k_whole); (try simp only [List.length_append, List.length_cons, List.length_nil, Nat.zero_add]))
  k_with "subscriptTail Name" => (k_here; (with_reducible show wpAny _ _ (subscriptTail _ _ (Value.ref _) (Value.int _ _)) _ _ _); kim_at)
  k_with "getMethod ref" => (k_here; k_dflt (refine' method_inst ?zs1 ?zs2 ?zs3 ?zs4 ?zs5 ?zs6 ?zs7 ?_; (case zs1 => k_asm); (case zs2 => k_asm); (case zs3 => k_inst); (case zs4 => k_is); (case zs5 => k_is); (case zs6 => k_is); (case zs7 => k_get); k_whole))
  k_with "execs cons" => (refine seqK ?_; intro K9 tk9 hK9; (try dsimp only))
  k_with "KK next" => (refine' kk_next ?h9 ?_; (case h9 => with_reducible assumption))
  k_with "KK ret" => (refine' kk_ret ?h9 ?_; (case h9 => with_reducible assumption); (try dsimp only))
  k_with "KK brk" => (refine' kk_brk ?h9 ?_; (case h9 => with_reducible assumption); (try dsimp only))
  k_with "KK cont" => (refine' kk_cont ?h9 ?_; (case h9 => with_reducible assumption); (try dsimp only))
  k_with "ktr_unf" => (k_dflt (first | (refine' enterP ?zqk1 ?zqk2 ?zqk3 ?zqk4 ?zqk5 ?zqkA ?zqkF ?zqkK ?zqk6 ?zqk7 ?zqk8 ?zqk9 ?zqkB ?_ ?zqc2 ?zqc3 ?zqc4 ?zqc5; (case zqkA => exact rfl); (case zqkF => assumption); (case zqkK => assumption); (case zqk1 => k_asm); (case zqk2 => k_asm); (case zqk3 => k_asm); (case zqk4 => k_asm); (case zqk5 => k_asm); (case zqk6 => k_is); (case zqk7 => k_is); (case zqk8 => k_room); (case zqk9 => exact BindsTo.of_eq rfl); (case zqc5 => decide); (case zqkB => exact locs rfl); (case zqc2 => exact rfl); (case zqc3 => exact rfl); (case zqc4 => exact rfl); k_whole; intro g' L' h' F' N' B' X' T' l1; (try k_lt l1); (try dsimp only); (try k_lift B'); (try k_fold)) | (refine' enterPC ?zqk1 ?zqk2 ?zqk3 ?zqk4 ?zqk5 ?zqkA ?zqkF ?zqkK ?zqk6 ?zqk7 ?zqk8 ?zqk9 ?zqkB ?zqkD ?_ ?zqc2 ?zqc3 ?zqc4; (case zqkA => exact rfl); (case zqkF => assumption); (case zqkK => assumption); (case zqk1 => k_asm); (case zqk2 => k_asm); (case zqk3 => k_asm); (case zqk4 => k_asm); (case zqk5 => k_asm); (case zqk6 => k_is); (case zqk7 => k_is); (case zqk8 => k_room); (case zqk9 => exact BindsTo.of_eq rfl); (case zqkB => exact rfl); (case zqkD => decide +kernel); (case zqc2 => exact rfl); (case zqc3 => exact rfl); (case zqc4 => exact rfl); k_whole; intro g' L' h' tk' cells' F' N' Y' B' X' T' l1; (try k_lt l1); k_cells Y'; (try simp only [List.cons_append, List.nil_append] at N'); (try dsimp only); (try k_lift B'); (try k_fold))))
  k_with "call ref" => (k_here; (with_reducible show wpAny _ _ (call (Value.ref _) [Value.int _ _, Value.ref _]) _ _ _); k_dflt (refine' word_use ?zqk1 ?zqk2 ?zqk3 ?zqk4 ?zqk5 ?zqk6 ?zqk7 ?zqk8 _ _ _ _ _ _ ?zqN ?zql _ _ ?zqh0 ?zqh8 ?_; (case zqk1 => k_asm); (case zqk2 => k_asm); (case zqk3 => k_asm); (case zqk4 => k_asm); (case zqk5 => first | exact rfl | assumption); (case zqk6 => first | exact rfl | assumption); (case zqk7 => k_room); (case zqk8 => k_units); (case zqN => k_asm); (case zql => k_mem); (case zqh0 => k_extra "h0"); (case zqh8 => k_extra "h8"); k_whole; intro r' vs' ep' ws' h' tk' F' N' l1 hI' hA' hB' hC'))
  replace N : News h₀ L s.heap [] := News.nil
  ktr_unf
  clear F N B X T
  have g1 := fmod_lo steps (n := 8) (by decide)
  have g2 := fmod_hi steps (n := 8) (by decide)
  have g3 := fmod_lo (steps.fdiv 8) (n := 8) (by decide)
  have g4 := fmod_hi (steps.fdiv 8) (n := 8) (by decide)
  k_with "h0" => first | exact g1 | exact g3
  k_with "h8" => first | exact g2 | exact g4
  have f1 := fmod_lo (kind.fdiv 3) (n := 255) (by decide)
  have f2 := fmod_hi (kind.fdiv 3) (n := 255) (by decide)
  have f3 := fmod_lo (kind.fdiv 765) (n := 255) (by decide)
  have f4 := fmod_hi (kind.fdiv 765) (n := 255) (by decide)
  k_with "exec For Name Call cons nil" => k_dflt (
    refine' words_loop (by k_asm) (by k_asm) (by k_asm) (by k_room) (by k_units) (by k_asm) (by k_asm) (by kst_all) (by k_mem) (by k_mem) ?g1 ?g2 ?g3 ?g4 ?g5 ?g6 ?g7 ?_
    case g1 => first | assumption | exact IntsAre.cons _ _ IntsAre.nil
    case g2 => first | assumption | exact IntsAre.cons _ _ IntsAre.nil
    case g3 => first | omega | (simp; done)
    case g4 => first | omega | (simp; done)
    case g5 => first | omega | (simp; done) | (simp; omega)
    case g6 => first | exact word_ok (by assumption) ⟨by omega, by omega⟩ ⟨by omega, by omega⟩ | (intro e he; rw [List.mem_singleton.mp he]; exact pick_ok (by omega) (by omega) (by decide))
    case g7 => first | exact word_ok (by assumption) ⟨by omega, by omega⟩ ⟨by omega, by omega⟩ | (intro e he; rw [List.mem_singleton.mp he]; exact pick_ok (by omega) (by omega) (by decide))
    intro ax ay xv yv ex ey xl yl u h1 tk1 F1 N1 hix hiy hlx hly hsum hax hay
    try dsimp only)
  k_steps
  any_goals (
    (try dsimp only)
    refine end_many (new := [(_, listOf #[.ref ax, .ref ay] 0), (ax, listOf xv.toArray ex), (ay, listOf yv.toArray ey)]) (by assumption) (by assumption) (by kcj_all) (by kcj_all) (by intro q _ r hr; cases hr) fun a b => ?_
    exact ret _ _ _ _ _ _ _ _ _ _ _ a b hix hiy hlx hly hsum hax hay)

end

-- CL
section
variable {w : World} {p : Program} {loose : List Str} {mean : ExcName → Option Value} {mg mb : Str → Option Value} {dp un : Nat} {gd : Option (List Code)} {env : Env} {outer : List Env} {A₀ : Around} {base h₀ : Heap} {L : Addr} {m : Str → Option Value} {news : List (Addr × Obj)} {s : Shared} {Q E : Value → Shared → Prop}


theorem enterPK {prog : Program} {A : Around} {K : Frag} {name qual : Str} {params : Arguments} {body : List Stmt} {scope : Scope} {dV kV doc pm cdv ct oc : Value} {an od : Option Addr} {osl : Array (Option Value)} {f : Addr} {vals : List Value} {binds : List (Str × Value)}
    (B : Below A₀ base outer h₀) (F : Fr h₀ L s.heap m) (X₀ : K.In h₀) (N : News h₀ L s.heap news) (T : Top p loose mean mg mb h₀) (hA : A.frames = some (env :: outer)) (hf : env.frame = some L) (hke : env.scope.kind = .function)
    (ho : K.lookup f = some ⟨oc, od, .func (fnOf name qual params body scope dV kV doc pm an cdv ct), osl⟩) (hcd : codeIn K cdv qual = true) (hroom : A.depth < recursionLimit)
    (hbind : BindsTo s (fnOf name qual params body scope dV kV doc pm an cdv ct) ⟨vals, []⟩ binds) (hloc : ∀ y ∈ binds, scope.names.lookup y.1 = some .local)
    (h : ∀ g L' h₁, (∀ b o, s.heap.get? b = some o → b ∉ news.map (·.1) → g.get? b = some o) → Fr g L' h₁ (fun y => binds.reverse.lookup y) → News g L' h₁ news → Below A base (env :: outer) g → K.In g → Top p loose mean mg mb g → (∀ q ∈ news, q.1 < L') →
      wpAny (model prog w) (A.deeper (envOf qual scope L' f cdv)) (execs body (envOf qual scope L' f cdv))
        (fun fl s' => EndG s news g L' Q (match fl with | .ret v => v | _ => .none) s') (fun _ _ => False) { s with heap := h₁, toks := s.toks + binds.length })
    (hco : scope.isCoroutine = false) (hgen : scope.isGenerator = false) (hk : scope.kind = .function)
    (hcell : ∀ x ∈ scope.names, x.2 ≠ .cell) : wpAny (model prog w) A (call (.ref f) vals) Q E s := by
  obtain ⟨BG, st⟩ := ground_of B F N hA hf hke
  refine wpAny_call (codeAny_call_def (fd := fnX name qual params body scope [] dV kV doc pm an cdv ct) (body := body) (binds := binds) hroom ((X₀.keeps F.keep) _ _ ho) rfl (T.nolimit.keeps F.keep) (codeRec_of (X₀.keeps F.keep) hcd) rfl hbind hcell hloc (fun h₁ hns hk₁ => ?_) hco hgen hk)
  have G := fun (b : Addr) (o : Obj) (e : s.heap.get? b = some o) (n : b ∉ news.map (·.1)) => hideAll_get (news.map (·.1)) e n
  refine wpAny_mono (h _ s.heap.objs.size h₁ G ⟨hns, fun b o e => hk₁ b o (of_hideAll _ e), Nat.le_of_eq (hideAll_size _ _)⟩
    (fun q hq => ⟨hk₁ _ _ (N q hq).1, Nat.ne_of_lt (Heap.lt_size (N q hq).1), hideAll_none _ (List.mem_map_of_mem hq)⟩) BG (X₀.keeps st) (T.keeps st) (fun q hq => Heap.lt_size (N q hq).1)) (fun fl s' hl => ?_) fun _ _ y => y.elim
  obtain ⟨m', news', F', N', k⟩ := hl
  exact k (fun b o e n => F'.keep b o (G b o e n)) (fun q hq => (N q hq).1) (fresh_after G N')

theorem all2 {α : Type} {a b : α} {P : α → Prop} (ha : P a) (hb : P b) : ∀ q ∈ [a, b], P q := by
  intro q hq
  rcases List.mem_cons.mp hq with rfl | hq
  · exact ha
  · rw [List.mem_singleton.mp hq]; exact hb
theorem cells_spec (B : Below A₀ base outer h₀) (F : Fr h₀ L s.heap m) (X : (hd.heap_1 w.params).In h₀) (T : Top p loose mean mg mb h₀) (hf : env.frame = some L) (hke : env.scope.kind = .function) (hdp : dp + 2 < recursionLimit) (hu : un + 40 < cLine) (N : News h₀ L s.heap news) (l : Addr) (xs : List Value) (ns : List Int) (hl : s.heap.IsList l xs.toArray) (hi : IntsAre xs ns) (hns : ns.length ≤ 1000)
   (ret : ∀ r vs cl ep' h' tk', s.heap.StaysIn h' → s.heap.get? r = none → h'.get? r = some (listOf (List.toArray vs) ep') → IntsAre vs cl → cl.length = 4 → Q (.ref r) { s with heap := h', toks := tk' }) :
   wpAny (model PySem.Challenge.rw_sr0006_01.row.prog w) (Am dp un gd env outer) (call (.ref 105) [.ref l]) Q E s := by
  revert X; k_fill; intro X; k_with_none
  k_with "k_lk" => (first | (refine' lt_get ?h9 ?m9; (case h9 => with_reducible assumption); (case m9 => k_mem)) | (refine' Ne.symm (lt_get ?h9 ?m9); (case h9 => with_reducible assumption); (case m9 => k_mem)) | (refine' ana_get ?h9 ?m9; (case h9 => with_reducible assumption); (case m9 => k_mem)) | (refine' Ne.symm (ana_get ?h9 ?m9); (case h9 => with_reducible assumption); (case m9 => k_mem)) | with_reducible assumption | (refine Ne.symm ?_; with_reducible assumption) | fail "k_lk")
  k_with "k_ne" => first | k_extra "k_lk" | omega
  k_with "k_all" => (first | with_reducible assumption | (refine' lt_all ?h9; (case h9 => with_reducible assumption)) | fail "k_all")
  k_with "k_mem" => (first | exact mI0 | exact mI1 | exact mI2 | exact mI3 | exact mI4 | exact mI5 | exact mI6 | exact mI7 | exact mI8 | exact mI9 | exact mI10 | exact mI11 | (refine mS12 ?_; k_mem))
  k_with "k_room" => first | (refine' rm0 ?h9 ?k9; (case h9 => with_reducible assumption); (case k9 => exact Nat.le_of_ble_eq_true rfl)) | (refine' rm1 ?h9 ?k9; (case h9 => with_reducible assumption); (case k9 => exact Nat.le_of_ble_eq_true rfl)) | (refine' rm2 ?h9; (case h9 => with_reducible assumption)) | (refine' rm4 ?h9; (case h9 => with_reducible assumption)) | (simp only [depth_under_make, depth_under_kw, depth_in1, depth_deeper, depth_caller, recursionLimit] at *; omega)
  k_with "k_units" => first | (refine' rm0 ?h9 ?k9; (case h9 => with_reducible assumption); (case k9 => exact Nat.le_of_ble_eq_true rfl)) | (refine' rm1 ?h9 ?k9; (case h9 => with_reducible assumption); (case k9 => exact Nat.le_of_ble_eq_true rfl)) | (refine' rm2 ?h9; (case h9 => with_reducible assumption)) | (refine' rm4 ?h9; (case h9 => with_reducible assumption)) | (simp only [units_in1, units_deeper, Around.mark_units, units_caller, cLine] at *; omega)
  k_with "om" => (first | (refine neN ?_; (try dsimp only); k_extra "k_lk") | with_reducible assumption | exact Nat.le_of_ble_eq_true rfl | (refine' le_lit ?h9 ?k9; (case h9 => with_reducible assumption); (case k9 => exact Nat.le_of_ble_eq_true rfl)) | (refine' lt_lit ?h9 ?k9; (case h9 => with_reducible assumption); (case k9 => exact Nat.le_of_ble_eq_true rfl)) | (refine' rm0 ?h9 ?k9; (case h9 => with_reducible assumption); (case k9 => exact Nat.le_of_ble_eq_true rfl)) | (refine' rm1 ?h9 ?k9; (case h9 => with_reducible assumption); (case k9 => exact Nat.le_of_ble_eq_true rfl)) | (refine' rm2 ?h9; (case h9 => with_reducible assumption)) | (refine' rm4 ?h9; (case h9 => with_reducible assumption)) | omega (config := { splitDisjunctions := false }) | ((repeat (first | (rename _ ≠ _ ∧ _ => hq9; clear hq9) | (rename (_ ≠ _ ∧ _) ∧ _ => hq9; clear hq9))); omega (config := { splitDisjunctions := true })) | omega (config := { splitDisjunctions := true }) | ((repeat (rename (∀ p ∈ (_ : List (PySem.Addr × PySem.Obj)), @LT.lt Nat _ p.1 _) => hq9; (have hq8 := PySem.W.allLt_of hq9); clear hq9; simp only [PySem.W.AllLt, and_true] at hq8)); omega (config := { splitDisjunctions := true })))
  k_with "callWith ref" => (k_here; k_dflt (refine' callWith_K ?zs1 ?zs2 ?_; (case zs1 => k_asm); (case zs2 => k_is); k_whole))
  k_with "call builtin:len" => (k_here; (with_reducible show wpAny _ _ (call (Value.builtin _) [Value.ref _]) _ _ _); (with_unfolding_all refine' len_ints_fit ?zs1 ?zs2 ?zs3 ?_; (case zs1 => is_list); (case zs2 => l_ints); (case zs3 => l_fit); k_whole); (try simp only [List.length_append, List.length_cons, List.length_nil, Nat.zero_add]))
  k_with "subscriptTail Name" => (k_here; (with_reducible show wpAny _ _ (subscriptTail _ _ (Value.ref _) (Value.int _ _)) _ _ _); kim_at)
  k_with "getMethod ref" => (k_here; k_dflt (refine' method_inst ?zs1 ?zs2 ?zs3 ?zs4 ?zs5 ?zs6 ?zs7 ?_; (case zs1 => k_asm); (case zs2 => k_asm); (case zs3 => k_inst); (case zs4 => k_is); (case zs5 => k_is); (case zs6 => k_is); (case zs7 => k_get); k_whole))
  k_with "execs nil" => (refine genNil ?_; intro tk9)
  k_with "execs cons" => (refine seqK ?_; intro K9 tk9 hK9; (try dsimp only))
  k_with "KK next" => (refine' kk_next ?h9 ?_; (case h9 => with_reducible assumption))
  k_with "KK ret" => (refine' kk_ret ?h9 ?_; (case h9 => with_reducible assumption); (try dsimp only))
  k_with "KK brk" => (refine' kk_brk ?h9 ?_; (case h9 => with_reducible assumption); (try dsimp only))
  k_with "KK cont" => (refine' kk_cont ?h9 ?_; (case h9 => with_reducible assumption); (try dsimp only))
  replace N : News h₀ L s.heap [] := News.nil
  (k_dflt (refine' enterPK ?k1 ?k2 ?k3 ?k4 ?k5 ?kA ?kF ?kK ?k6 ?k7 ?k8 ?k9 ?kB ?_ ?c2 ?c3 ?c4 ?c5; (case kA => exact rfl); (case kF => assumption); (case kK => assumption); (case k1 => k_asm); (case k2 => k_asm); (case k3 => k_asm); (case k4 => k_asm); (case k5 => k_asm); (case k6 => k_is); (case k7 => k_is); (case k8 => k_room); (case k9 => exact BindsTo.of_eq rfl); (case c5 => decide); (case kB => exact locs rfl); (case c2 => exact rfl); (case c3 => exact rfl); (case c4 => exact rfl); k_whole; intro g' L' h' hKeep F' N' B' X' T' l1; (try k_lt l1); (try dsimp only); (try k_lift B'); (try k_fold)))
  have hgl : g'.IsList l xs.toArray := hl.at fun o e => hKeep _ o e (by simp)
  clear hKeep
  have hnl : ns.length ≤ sizeLine := by rw [sizeLine_eq]; omega
  clear F N B X T
  k_with "exec For Tuple Call cons nil" => k_dflt (
    rename Fr _ _ _ _ => lF
    refine' my_for lF ?_ (fun _ => rfl) (fun _ _ h => h))
  k_with "call type:enumerate cons nil" => k_dflt (
    rename_i D ws h9 F9 N9 hIw hC hL l9
    refine' enum_at (l := D) (vs := ws) (ep := 0) (σ := Addr × List Value × Nat × List Int)
      (fun c => [(D, listOf ws.toArray 0), (c.1, listOf c.2.1.toArray c.2.2.1)])
      (fun c => [("cells", .ref c.1)])
      (fun _ c => @Ne Nat c.1 D ∧ IntsAre c.2.1 c.2.2.2 ∧ c.2.2.2.length = 4)
      (_, _, _, [25359, 1893, 176, 1442981]) rfl rfl rfl rfl F9 N9 (by kst_all) (by kcj_all) (by dsimp only; exact ⟨by omega, by first | assumption | exact IntsAre.cons _ _ (IntsAre.cons _ _ (IntsAre.cons _ _ (IntsAre.cons _ _ IntsAre.nil))), rfl⟩) (fun c => .head _) (fun c => all2 rfl rfl) ?_ ?_
    case' refine'_1 =>
      intro j v c u e it oe oi t h tk htk hv hc F N hoff hne
      obtain ⟨ca, cv, ce, cl⟩ := c
      obtain ⟨hra, hci, hcl⟩ := hc
      dsimp only at hra hci hcl F N hoff
      have hjlt : j < ws.length := (List.getElem?_eq_some_iff.mp hv).1
      have hwl := hIw.length
      obtain ⟨o, ho⟩ : ∃ o, (ns.take 60)[j]? = some o := ⟨_, List.getElem?_eq_getElem (by omega)⟩
      obtain ⟨to, hto⟩ := hIw.get j o ho
      rw [hv] at hto
      obtain rfl := Option.some.inj hto
      have hre := (hoff (ca, _) (.tail _ (.head _))).1
      have hri := (hoff (ca, _) (.tail _ (.head _))).2
      replace hre : @Ne Nat ca e := hre
      replace hri : @Ne Nat ca it := hri
      have hj4 := fmod_lo (j : Int) (n := 4) (by decide)
      have hj5 := fmod_hi (j : Int) (n := 4) (by decide)
      clear hv hto
      (try dsimp only)
    case' refine'_2 =>
      intro c u h tk htk hc F N
      obtain ⟨ca, cv, ce, cl⟩ := c
      obtain ⟨hra, hci, hcl⟩ := hc
      dsimp only at hra hci hcl F N
      dsimp only)
  k_steps
  · (try dsimp only)
    exact end_new (by assumption) (by assumption) (by kcj_all) (.tail _ (.head _)) (by intro r hr; cases hr) fun a b c => ret _ _ _ _ _ _ a b c hci hcl
  · k_dflt refine' lend2 (ca, _, _, _) (by k_asm) (by k_asm) (by kst_all) (by kcj_all) (by
      (try dsimp only)
      exact ⟨hra, by assumption, by first | assumption | simpa using hcl⟩)


end

-- S1
section
variable {w : World} {p : Program} {loose : List Str} {mean : ExcName → Option Value} {mg mb : Str → Option Value} {dp un : Nat} {gd : Option (List Code)} {env : Env} {outer : List Env} {A₀ : Around} {base h₀ : Heap} {L : Addr} {m : Str → Option Value} {news : List (Addr × Obj)} {s : Shared} {Q E : Value → Shared → Prop}

/-- the figures of a number, the highest first: what stands, what they become -/
inductive Fg : Int → List Int → List Int → Prop
  | done {n acc} : n ≤ 63 → Fg n acc acc
  | more {n acc r} : 63 < n → Fg (n.fdiv 64) (((n.fdiv 64).fmod 64 + 64) :: acc) r → Fg n acc r
theorem Fg.len {n acc r} (h : Fg n acc r) : acc.length ≤ r.length := by
  induction h with
  | done _ => exact Nat.le_refl _
  | more _ _ ih => simp only [List.length_cons] at ih; omega
theorem Fg.inv {n acc r} (h : Fg n acc r) : (n ≤ 63 ∧ r = acc) ∨ (63 < n ∧ Fg (n.fdiv 64) (((n.fdiv 64).fmod 64 + 64) :: acc) r) := by
  cases h with
  | done h => exact .inl ⟨h, rfl⟩
  | more h a => exact .inr ⟨h, a⟩
theorem all3 {α : Type} {a b c : α} {P : α → Prop} (ha : P a) (hb : P b) (hc : P c) : ∀ q ∈ [a, b, c], P q := by
  intro q hq
  rcases List.mem_cons.mp hq with rfl | hq
  · exact ha
  · rcases List.mem_cons.mp hq with rfl | hq
    · exact hb
    · rw [List.mem_singleton.mp hq]; exact hc
theorem take_len {fg : Int → List Int} {l : List Int} {i : Nat} {n : Int} (h : l[i]? = some n) : ((l.take i).flatMap fg).length + (fg n).length ≤ (l.flatMap fg).length := by
  have e : l = l.take i ++ n :: l.drop (i + 1) := by
    obtain ⟨h1, rfl⟩ := List.getElem?_eq_some_iff.mp h
    rw [List.getElem_cons_drop, List.take_append_drop]
  conv => rhs; rw [e]
  simp only [List.flatMap_append, List.flatMap_cons, List.length_append]
  omega
theorem take_fm {fg : Int → List Int} {l : List Int} {i : Nat} {n : Int} (h : l[i]? = some n) : (l.take (i + 1)).flatMap fg = (l.take i).flatMap fg ++ fg n := by
  rw [List.take_add_one, h]
  simp
/-- an octet with its sign -/
noncomputable def sgn (bits : Int) (k : Nat) (o : Int) : Int := if o = 39 ∨ (bits.fdiv (2 ^ (k % 8))).fmod 2 = 1 then o + 128 else o
noncomputable def signed (bits : Int) (octs : List Int) : List Nat := octs.mapIdx fun k o => (sgn bits k o).toNat
theorem join_all (x : Str) : Txt.join (Str.ofString "") (signs x) = x := by
  have h := join_closes (sep := Str.ofString "") (sep' := ⟨#[]⟩) (ys := signs x) rfl
  rw [join_nil_signs] at h
  exact eq_of_beq h
theorem signed_length (bits : Int) (l : List Int) : (signed bits l).length = l.length := by simp [signed]
theorem signed_snoc (bits : Int) {l : List Int} {i : Nat} {o : Int} (h : l[i]? = some o) : signed bits (l.take (i + 1)) = signed bits (l.take i) ++ [(sgn bits i o).toNat] := by
  have hi : i < l.length := (List.getElem?_eq_some_iff.mp h).1
  have e : (l.take i).length = i := by rw [List.length_take]; omega
  rw [List.take_add_one, h]
  simp only [signed, List.mapIdx_append, Option.toList_some, e]
  simp
theorem join_fits (l : List Nat) (h : l.length ≤ 100000) : ((signs ⟨l.toArray⟩).map (·.length)).sum + (signs ⟨l.toArray⟩).length ≤ 1048576 := by
  have e : ∀ l : List Nat, (((l.map fun c => (⟨#[c]⟩ : Str))).map (·.length)).sum = l.length := by
    intro l
    induction l with
    | nil => rfl
    | cons a l ih => simp only [List.map_cons, List.sum_cons, List.length_cons, ih]; show 1 + _ = _; omega
  show (((l.map fun c => (⟨#[c]⟩ : Str))).map (·.length)).sum + (l.map _).length ≤ _
  rw [e, List.length_map]
  omega
theorem fd64 (n : Int) (h : 63 < n) : 0 ≤ n.fdiv 64 ∧ n.fdiv 64 < n := by
  rw [Int.fdiv_eq_ediv_of_nonneg _ (by decide)]
  omega
theorem sgn_a {bits o : Int} {j : Nat} (h : o = 39) : (o + 128 * if (o == 39) = true then 1 else 0) = sgn bits j o := by
  subst h
  simp [sgn]
theorem fmod8 (j : Nat) : ((j : Int).fmod 8).toNat = j % 8 := by
  rw [Int.fmod_eq_emod_of_nonneg _ (by decide)]
  omega
theorem sgn_b {bits o : Int} {j : Nat} (h : ¬ o = 39) : (o + 128 * if ((bits.fdiv (2 ^ ((j : Int).fmod 8).toNat)).fmod 2 == 1) = true then 1 else 0) = sgn bits j o := by
  rw [fmod8]
  unfold sgn
  by_cases hb : (bits.fdiv (2 ^ (j % 8))).fmod 2 = 1
  · simp [hb]
  · simp [hb, h]
theorem app1 {sv : List Value} {l : List Nat} {n x : Int} {t : Tok} (h : StrsAre sv (signs ⟨l.toArray⟩)) (e : n = x) : StrsAre (sv ++ [.str ⟨#[n.toNat]⟩ t]) (signs ⟨(l ++ [x.toNat]).toArray⟩) := by
  subst e
  have h2 : signs ⟨(l ++ [n.toNat]).toArray⟩ = signs ⟨l.toArray⟩ ++ [⟨#[n.toNat]⟩] := by simp [signs]
  rw [h2]
  exact strsAre_append h (.cons _ _ .nil)
theorem spelled_spec (B : Below A₀ base outer h₀) (F : Fr h₀ L s.heap m) (X : (hd.heap_1 w.params).In h₀) (T : Top p loose mean mg mb h₀) (hf : env.frame = some L) (hke : env.scope.kind = .function) (hdp : dp + 2 < recursionLimit) (hu : un + 40 < cLine) (l : Addr) (rv : List Value) (row : List Int) (ep : Nat) (N : News h₀ L s.heap news) (hl : (l, listOf rv.toArray ep) ∈ news) (hi : IntsAre rv row) (bits : Int) (tb : Tok)
   (fg : Int → List Int) (hfg : ∀ n ∈ row ++ [0], 0 ≤ n ∧ Fg n [n.fmod 64] (fg n)) (hlen : ((row ++ [0]).flatMap fg).length ≤ 1000) (hrow : row.length ≤ 1000) (hoct : ∀ o ∈ (row ++ [0]).flatMap fg, 0 ≤ o ∧ o < 128)
   (ret : ∀ t h' tk', s.heap.StaysIn h' → Q (.str ⟨(signed bits ((row ++ [0]).flatMap fg)).toArray⟩ t) { s with heap := h', toks := tk' }) :
   wpAny (model PySem.Challenge.rw_sr0006_01.row.prog w) (Am dp un gd env outer) (call (.ref 129) [.ref l, .int bits tb]) Q E s := by
  revert X; k_fill; intro X; k_with_none
  k_with "k_lk" => (first | (refine' lt_get ?h9 ?m9; (case h9 => with_reducible assumption); (case m9 => k_mem)) | (refine' Ne.symm (lt_get ?h9 ?m9); (case h9 => with_reducible assumption); (case m9 => k_mem)) | (refine' ana_get ?h9 ?m9; (case h9 => with_reducible assumption); (case m9 => k_mem)) | (refine' Ne.symm (ana_get ?h9 ?m9); (case h9 => with_reducible assumption); (case m9 => k_mem)) | with_reducible assumption | (refine Ne.symm ?_; with_reducible assumption) | fail "k_lk")
  k_with "k_ne" => first | k_extra "k_lk" | omega
  k_with "k_all" => (first | with_reducible assumption | (refine' lt_all ?h9; (case h9 => with_reducible assumption)) | fail "k_all")
  k_with "k_mem" => (first | exact mI0 | exact mI1 | exact mI2 | exact mI3 | exact mI4 | exact mI5 | exact mI6 | exact mI7 | exact mI8 | exact mI9 | exact mI10 | exact mI11 | (refine mS12 ?_; k_mem))
  k_with "k_room" => first | (refine' rm0 ?h9 ?k9; (case h9 => with_reducible assumption); (case k9 => exact Nat.le_of_ble_eq_true rfl)) | (refine' rm1 ?h9 ?k9; (case h9 => with_reducible assumption); (case k9 => exact Nat.le_of_ble_eq_true rfl)) | (refine' rm2 ?h9; (case h9 => with_reducible assumption)) | (refine' rm4 ?h9; (case h9 => with_reducible assumption)) | (simp only [depth_under_make, depth_under_kw, depth_in1, depth_deeper, depth_caller, recursionLimit] at *; omega)
  k_with "k_units" => first | (refine' rm0 ?h9 ?k9; (case h9 => with_reducible assumption); (case k9 => exact Nat.le_of_ble_eq_true rfl)) | (refine' rm1 ?h9 ?k9; (case h9 => with_reducible assumption); (case k9 => exact Nat.le_of_ble_eq_true rfl)) | (refine' rm2 ?h9; (case h9 => with_reducible assumption)) | (refine' rm4 ?h9; (case h9 => with_reducible assumption)) | (simp only [units_in1, units_deeper, Around.mark_units, units_caller, cLine] at *; omega)
  k_with "om" => (first | (refine neN ?_; (try dsimp only); k_extra "k_lk") | with_reducible assumption | exact Nat.le_of_ble_eq_true rfl | (refine' le_lit ?h9 ?k9; (case h9 => with_reducible assumption); (case k9 => exact Nat.le_of_ble_eq_true rfl)) | (refine' lt_lit ?h9 ?k9; (case h9 => with_reducible assumption); (case k9 => exact Nat.le_of_ble_eq_true rfl)) | (refine' rm0 ?h9 ?k9; (case h9 => with_reducible assumption); (case k9 => exact Nat.le_of_ble_eq_true rfl)) | (refine' rm1 ?h9 ?k9; (case h9 => with_reducible assumption); (case k9 => exact Nat.le_of_ble_eq_true rfl)) | (refine' rm2 ?h9; (case h9 => with_reducible assumption)) | (refine' rm4 ?h9; (case h9 => with_reducible assumption)) | omega (config := { splitDisjunctions := false }) | ((repeat (first | (rename _ ≠ _ ∧ _ => hq9; clear hq9) | (rename (_ ≠ _ ∧ _) ∧ _ => hq9; clear hq9))); omega (config := { splitDisjunctions := true })) | omega (config := { splitDisjunctions := true }) | ((repeat (rename (∀ p ∈ (_ : List (PySem.Addr × PySem.Obj)), @LT.lt Nat _ p.1 _) => hq9; (have hq8 := PySem.W.allLt_of hq9); clear hq9; simp only [PySem.W.AllLt, and_true] at hq8)); omega (config := { splitDisjunctions := true })))
  k_with "callWith ref" => (k_here; k_dflt (refine' callWith_K ?zs1 ?zs2 ?_; (case zs1 => k_asm); (case zs2 => k_is); k_whole))
  k_with "call builtin:len" => (k_here; (with_reducible show wpAny _ _ (call (Value.builtin _) [Value.ref _]) _ _ _); (with_unfolding_all refine' len_ints_fit ?zs1 ?zs2 ?zs3 ?_; (case zs1 => is_list); (case zs2 => l_ints); (case zs3 => l_fit); k_whole); (try simp only [List.length_append, List.length_cons, List.length_nil, Nat.zero_add]))
  k_with "subscriptTail Name" => (k_here; (with_reducible show wpAny _ _ (subscriptTail _ _ (Value.ref _) (Value.int _ _)) _ _ _); kim_at)
  k_with "getMethod ref" => (k_here; k_dflt (refine' method_inst ?zs1 ?zs2 ?zs3 ?zs4 ?zs5 ?zs6 ?zs7 ?_; (case zs1 => k_asm); (case zs2 => k_asm); (case zs3 => k_inst); (case zs4 => k_is); (case zs5 => k_is); (case zs6 => k_is); (case zs7 => k_get); k_whole))
  k_with "execs cons" => (refine seqK ?_; intro K9 tk9 hK9; (try dsimp only))
  k_with "KK next" => (refine' kk_next ?h9 ?_; (case h9 => with_reducible assumption))
  k_with "KK ret" => (refine' kk_ret ?h9 ?_; (case h9 => with_reducible assumption); (try dsimp only))
  k_with "KK brk" => (refine' kk_brk ?h9 ?_; (case h9 => with_reducible assumption); (try dsimp only))
  k_with "KK cont" => (refine' kk_cont ?h9 ?_; (case h9 => with_reducible assumption); (try dsimp only))
  k_with "ktr_unf" => (k_dflt (first | (refine' enterP ?zqk1 ?zqk2 ?zqk3 ?zqk4 ?zqk5 ?zqkA ?zqkF ?zqkK ?zqk6 ?zqk7 ?zqk8 ?zqk9 ?zqkB ?_ ?zqc2 ?zqc3 ?zqc4 ?zqc5; (case zqkA => exact rfl); (case zqkF => assumption); (case zqkK => assumption); (case zqk1 => k_asm); (case zqk2 => k_asm); (case zqk3 => k_asm); (case zqk4 => k_asm); (case zqk5 => k_asm); (case zqk6 => k_is); (case zqk7 => k_is); (case zqk8 => k_room); (case zqk9 => exact BindsTo.of_eq rfl); (case zqc5 => decide); (case zqkB => exact locs rfl); (case zqc2 => exact rfl); (case zqc3 => exact rfl); (case zqc4 => exact rfl); k_whole; intro g' L' h' F' N' B' X' T' l1; (try k_lt l1); (try dsimp only); (try k_lift B'); (try k_fold)) | (refine' enterPC ?zqk1 ?zqk2 ?zqk3 ?zqk4 ?zqk5 ?zqkA ?zqkF ?zqkK ?zqk6 ?zqk7 ?zqk8 ?zqk9 ?zqkB ?zqkD ?_ ?zqc2 ?zqc3 ?zqc4; (case zqkA => exact rfl); (case zqkF => assumption); (case zqkK => assumption); (case zqk1 => k_asm); (case zqk2 => k_asm); (case zqk3 => k_asm); (case zqk4 => k_asm); (case zqk5 => k_asm); (case zqk6 => k_is); (case zqk7 => k_is); (case zqk8 => k_room); (case zqk9 => exact BindsTo.of_eq rfl); (case zqkB => exact rfl); (case zqkD => decide +kernel); (case zqc2 => exact rfl); (case zqc3 => exact rfl); (case zqc4 => exact rfl); k_whole; intro g' L' h' tk' cells' F' N' Y' B' X' T' l1; (try k_lt l1); k_cells Y'; (try simp only [List.cons_append, List.nil_append] at N'); (try dsimp only); (try k_lift B'); (try k_fold))))
  k_with "call builtin:list.append" => (k_here; (with_reducible show wpAny _ _ (call (Value.builtin "list.append") [Value.ref _, _]) _ _ _); k_dflt (refine' my_append ?zqF ?zqN ?zqU ?zqz ?_; (case zqF => k_asm); (case zqN => k_asm); (case zqU => k_updF); (case zqz => k_extra "asize"); k_whole; intro h' F' N'; (try dsimp only at N'); (try simp only [List.push_toArray] at N')))
  replace N : News h₀ L s.heap [(l, listOf rv.toArray ep)] := cb_drop N (by intro q hq; rw [List.mem_singleton.mp hq]; exact hl)
  clear hl
  ktr_unf
  clear F N B X T
  have hrz : row.length + 1 ≤ sizeLine := by rw [sizeLine_eq]; omega
  k_with "exec For Name BinOp cons nil" => k_dflt (
    rename Fr _ _ _ _ => lF
    refine' my_for lF ?_ (fun _ => rfl) (fun _ _ h => h))
  k_with "pyIter ref" => k_dflt (
    rename_i D ws h' F' N' hI' l1
    have hD : h'.IsList D ws.toArray := News.isList N' (.head _)
    have hwl : ws.length = (row ++ [0]).length := hI'.length
    refine' iter_list (vs := ws.toArray) F' N' hD ?_
    intro I h1 F1 N1 l1
    try k_lt l1
    refine' ForAt.intro (σ := Nat × Addr × List Value × Nat)
      (fun c => [(I, litObj D c.1), (D, listOf ws.toArray 0), (l, listOf rv.toArray ep), (c.2.1, listOf c.2.2.1.toArray c.2.2.2)])
      (fun c => [("octets", .ref c.2.1), ("bits", .int bits tb)])
      (fun c => c.1 ≤ ws.length ∧ @Ne Nat D I ∧ @Ne Nat l I ∧ @Ne Nat c.2.1 I ∧ IntsAre c.2.2.1 (((row ++ [0]).take c.1).flatMap fg))
      (fun c => ws.length - c.1) (0, _, _, _) F1 N1 (by kst_all) (by kcj_all) (by
        (try dsimp only)
        exact ⟨by omega, by omega, by omega, by omega, by first | exact IntsAre.nil | assumption⟩) ?_
    intro c u h2 tk2 htk2 hc F2 N2
    obtain ⟨i, oa, ov, oe⟩ := c
    dsimp only at hc F2 N2 ⊢
    obtain ⟨hile, hn1, hn2, hn3, hov⟩ := hc
    refine' next_listC (vs := ws.toArray) rfl F2 N2 (by k_all) (News.isList N2 (.tail _ (.head _))) (by simpa using hile) (fun v h3 hv F3 N3 => ?_) (fun h3 hie F3 N3 => ?_)
    all_goals dsimp only
    case' refine'_1 =>
      rw [List.getElem?_toArray] at hv
      have hilt : i < ws.length := (List.getElem?_eq_some_iff.mp hv).1
      obtain ⟨n, hn⟩ : ∃ n, (row ++ [0])[i]? = some n := ⟨_, List.getElem?_eq_getElem (by omega)⟩
      obtain ⟨t, ht⟩ := hI'.get i n hn
      rw [hv] at ht
      obtain rfl := Option.some.inj ht
      have hnm : n ∈ row ++ [0] := List.mem_of_getElem? hn
      obtain ⟨hn0, hfn⟩ := hfg n hnm
      have hcut := take_len (fg := fg) hn
      have hz1 : (fg n).length ≤ 1000 := by omega
      have hz2 : (((row ++ [0]).take i).flatMap fg).length + (fg n).length ≤ sizeLine := by rw [sizeLine_eq]; omega
      clear hv ht F2 N2
      refine no_letgo (assign_name ?_)
    case' refine'_2 =>
      have hov2 : IntsAre ov ((row ++ [0]).flatMap fg) := by
        rw [List.size_toArray] at hie
        rw [hie, hwl, List.take_length] at hov
        exact hov
      have hovl : ov.length = ((row ++ [0]).flatMap fg).length := hov2.length)
  k_with "exec While Compare cons nil" => k_dflt (
    refine' my_while (σ := (Int × Tok) × (Addr × List Value × Nat) × List Int)
      (fun c => [(I, litObj D (i + 1)), (D, listOf ws.toArray 0), (l, listOf rv.toArray ep), (oa, listOf ov.toArray oe), (c.2.1.1, listOf c.2.1.2.1.toArray c.2.1.2.2)])
      (fun c => [("octets", .ref oa), ("bits", .int bits tb), ("number", .int c.1.1 c.1.2), ("figures", .ref c.2.1.1)])
      (fun c => @Ne Nat c.2.1.1 I ∧ @Ne Nat c.2.1.1 oa ∧ IntsAre c.2.1.2.1 c.2.2 ∧ 0 ≤ c.1.1 ∧ Fg c.1.1 c.2.2 (fg n))
      (fun c => c.1.1.toNat) ((_, _), (_, _, _), [n.fmod 64]) (by k_asm) (by k_asm) ?hn ?hk ?hp ?turn (fun _ _ h => h)
    case hk => kst_all
    case hn => kcj_all
    case hp => dsimp only; exact ⟨by omega, by omega, by first | assumption | exact IntsAre.cons _ _ IntsAre.nil, hn0, hfn⟩
    intro c u h4 tk4 htk4 hc4 F4 N4
    obtain ⟨⟨nn, tn⟩, ⟨fa, fv, fe⟩, acc⟩ := c
    dsimp only at hc4 F4 N4 ⊢
    obtain ⟨hf1, hf2, hfi, hnn, hff⟩ := hc4
    have hz3 : acc.length ≤ 1000 := Nat.le_trans hff.len hz1
    have hz4 : 1 + acc.length ≤ sizeLine := by rw [sizeLine_eq]; omega
    have hinv := hff.inv)
  k_with "exec For Tuple Call cons nil" => k_dflt (
    rename Fr _ _ _ _ => lF
    refine' my_for lF ?_ (fun _ => rfl) (fun _ _ h => h))
  k_with "asize" => (rw [List.size_toArray]; omega)
  k_with "call type:enumerate cons nil" => k_dflt (
    rename Fr _ _ _ _ => F9
    rename News _ _ _ _ => N9
    refine' enum_at (l := oa) (vs := ov) (ep := oe) (σ := Addr × List Value × Nat)
      (fun c => [(oa, listOf ov.toArray oe), (l, listOf rv.toArray ep), (c.1, listOf c.2.1.toArray c.2.2)])
      (fun c => [("signs", .ref c.1), ("bits", .int bits tb)])
      (fun i c => i ≤ ov.length ∧ (@Ne Nat c.1 oa ∧ @Ne Nat c.1 l) ∧ StrsAre c.2.1 (signs ⟨(signed bits (((row ++ [0]).flatMap fg).take i)).toArray⟩))
      (_, _, _) rfl rfl rfl rfl F9 N9 (by kst_all) (by kcj_all) ⟨Nat.zero_le _, by dsimp only; exact ⟨by omega, by omega⟩, StrsAre.nil⟩ (fun c => .head _) (fun c => all3 rfl rfl rfl) ?_ ?_
    case' refine'_1 =>
      intro j v c u e it oe oi t h tk htk hv hc F N hoff hne
      obtain ⟨ra, sv, se⟩ := c
      obtain ⟨hle, hra, hss⟩ := hc
      dsimp only at hle hra hss F N hoff
      have hjlt : j < ov.length := (List.getElem?_eq_some_iff.mp hv).1
      obtain ⟨o, ho⟩ : ∃ o, ((row ++ [0]).flatMap fg)[j]? = some o := ⟨_, List.getElem?_eq_getElem (by omega)⟩
      obtain ⟨to, hto⟩ := hov2.get j o ho
      rw [hv] at hto
      obtain rfl := Option.some.inj hto
      obtain ⟨ho0, ho1⟩ := hoct o (List.mem_of_getElem? ho)
      have hsl : sv.length ≤ 1000 := by
        have := hss.len_eq
        rw [signs_length] at this
        have h2 : (⟨(signed bits (((row ++ [0]).flatMap fg).take j)).toArray⟩ : Str).length = (signed bits (((row ++ [0]).flatMap fg).take j)).length := by show Array.size _ = _; simp
        rw [h2, signed_length, List.length_take] at this
        omega
      obtain ⟨hra, hral⟩ := hra
      have hre := (hoff (ra, _) (.tail _ (.tail _ (.head _)))).1
      have hri := (hoff (ra, _) (.tail _ (.tail _ (.head _)))).2
      replace hre : @Ne Nat ra e := hre
      replace hri : @Ne Nat ra it := hri
      clear hv hto
      (try dsimp only)
    case' refine'_2 =>
      intro c u h tk htk hc F N
      obtain ⟨ra, sv, se⟩ := c
      obtain ⟨hle, hra, hss⟩ := hc
      dsimp only at hle hra hss F N
      rw [hovl, List.take_length] at hss
      dsimp only)
  k_with "call builtin:str.join cons nil" => k_dflt (
    refine join_listW (News.isList (by assumption) (by k_mem)) (by rw [List.toList_toArray]; exact hss) (by decide) (join_fits _ (by rw [signed_length]; omega)) ?_
    intro t k
    rw [join_all])
  k_steps
  · exact end_val (by assumption) (by assumption) (by kcj_all) fun a => ret _ _ _ a
  · k_dflt refine' lend2 (ra, _, _) (by k_asm) (by k_asm) (by kst_all) (by kcj_all) (by
      (try dsimp only)
      refine ⟨by omega, ⟨hra, hral⟩, ?_⟩
      rw [signed_snoc bits ho]
      exact app1 hss (by first | exact sgn_a (by omega) | exact sgn_b (by omega)))
  · k_dflt refine' lend2 (ra, _, _) (by k_asm) (by k_asm) (by kst_all) (by kcj_all) (by
      (try dsimp only)
      refine ⟨by omega, ⟨hra, hral⟩, ?_⟩
      rw [signed_snoc bits ho]
      exact app1 hss (by first | exact sgn_a (by omega) | exact sgn_b (by omega)))
  · k_dflt refine' lend2 ((Int.fdiv nn 64, _), (_, _, _), (((Int.fdiv nn 64).fmod 64 + 64) :: acc)) (by k_asm) (by k_asm) (by kst_all) (by kcj_all) (by
      (try dsimp only)
      rcases hinv with ⟨hlt, _⟩ | ⟨hlt, hff2⟩
      · omega
      · have hd := fd64 nn hlt
        exact ⟨⟨by omega, by omega, by first | assumption | exact IntsAre.cons _ _ hfi, by omega, hff2⟩, by omega⟩)
  · rcases hinv with ⟨hlt, hrq⟩ | ⟨hlt, _⟩
    · subst hrq
      k_dflt refine' lend2 (i + 1, _, _, _) (by k_asm) (by k_asm) (by kst_all) (by kcj_all) (by
        (try dsimp only)
        refine ⟨⟨by omega, by omega, by omega, by omega, ?_⟩, by omega⟩
        rw [take_fm hn]
        assumption)
    · omega


end

end Mine
end
section
open PySem PySem.W PyProof.Rows PySem.Calls PySem.Spec
namespace Mine
/-- a number's figures, three at most -/
noncomputable def figs (n : Int) : List Int :=
  if n ≤ 63 then [n.fmod 64] else if n ≤ 4095 then [(n.fdiv 64).fmod 64 + 64, n.fmod 64] else [((n.fdiv 64).fdiv 64).fmod 64 + 64, (n.fdiv 64).fmod 64 + 64, n.fmod 64]
theorem figs_fg {n : Int} (h0 : 0 ≤ n) (h1 : n < 262144) : Fg n [n.fmod 64] (figs n) := by
  have e (k : Int) : k.fdiv 64 = k / 64 := Int.fdiv_eq_ediv_of_nonneg _ (by decide)
  unfold figs
  by_cases a : n ≤ 63
  · rw [if_pos a]; exact .done a
  · rw [if_neg a]
    by_cases b : n ≤ 4095
    · rw [if_pos b]
      exact .more (by omega) (.done (by rw [e]; omega))
    · rw [if_neg b]
      exact .more (by omega) (.more (by rw [e]; omega) (.done (by rw [e, e]; omega)))
theorem figs_len (n : Int) : (figs n).length ≤ 3 := by
  unfold figs
  split
  · simp
  · split <;> simp
theorem figs_oct {n : Int} : ∀ o ∈ figs n, 0 ≤ o ∧ o < 128 := by
  have e (k : Int) : k.fmod 64 = k % 64 := Int.fmod_eq_emod_of_nonneg _ (by decide)
  intro o ho
  unfold figs at ho
  have h1 := Int.emod_nonneg n (show (64 : Int) ≠ 0 by decide)
  have h2 := Int.emod_lt_of_pos n (show (0 : Int) < 64 by decide)
  have h3 := Int.emod_nonneg (n.fdiv 64) (show (64 : Int) ≠ 0 by decide)
  have h4 := Int.emod_lt_of_pos (n.fdiv 64) (show (0 : Int) < 64 by decide)
  have h5 := Int.emod_nonneg ((n.fdiv 64).fdiv 64) (show (64 : Int) ≠ 0 by decide)
  have h6 := Int.emod_lt_of_pos ((n.fdiv 64).fdiv 64) (show (0 : Int) < 64 by decide)
  simp only [e] at ho
  split at ho
  · rw [List.mem_singleton.mp ho]; omega
  · split at ho
    · rcases List.mem_cons.mp ho with rfl | ho
      · omega
      · rw [List.mem_singleton.mp ho]; omega
    · rcases List.mem_cons.mp ho with rfl | ho
      · omega
      · rcases List.mem_cons.mp ho with rfl | ho
        · omega
        · rw [List.mem_singleton.mp ho]; omega
/-- the octets of a row -/
noncomputable def octs (row : List Int) : List Int := (row ++ [0]).flatMap figs
theorem octs_len (row : List Int) : (octs row).length ≤ 3 * (row.length + 1) := by
  have key : ∀ l : List Int, (l.flatMap figs).length ≤ 3 * l.length := by
    intro l
    induction l with
    | nil => simp
    | cons a l ih => have := figs_len a; simp only [List.flatMap_cons, List.length_append, List.length_cons]; omega
  have := key (row ++ [0])
  rw [List.length_append] at this
  exact this
theorem octs_oct (row : List Int) : ∀ o ∈ octs row, 0 ≤ o ∧ o < 128 := by
  intro o ho
  obtain ⟨n, _, h⟩ := List.mem_flatMap.mp ho
  exact figs_oct o h
noncomputable def spell (bits : Int) (row : List Int) : List Nat := signed bits (octs row)

theorem or64 {a y : Int} (ha : 0 ≤ a) (h0 : 0 ≤ y) (h1 : y < 64) : Builtin.bitOr (a * 64) y = a * 64 + y := by
  obtain ⟨n, rfl⟩ := Int.eq_ofNat_of_zero_le ha
  obtain ⟨k, rfl⟩ := Int.eq_ofNat_of_zero_le h0
  have hx : (n : Int) * 64 = ((n * 64 : Nat) : Int) := by omega
  have e := Nat.two_pow_add_eq_or_of_lt (i := 6) (b := k) (by omega) n
  have e2 : n * 64 + k = (n * 64) ||| k := by rw [Nat.mul_comm n 64]; exact e
  have key : ∀ p q : Nat, Builtin.bitOr (p : Int) (q : Int) = ((p ||| q : Nat) : Int) := by
    intro p q
    have b1 : ∀ z : Nat, Builtin.bitNot (z : Int) = -(z : Int) - 1 := fun z => rfl
    have b2 : ∀ z : Nat, Builtin.bitNot (-(z : Int) - 1) = (z : Int) := fun z => by show -(-(z : Int) - 1) - 1 = _; omega
    unfold Builtin.bitOr
    rw [b1, b1]
    unfold Builtin.bitAnd
    have d1 : decide (0 ≤ -(p : Int) - 1) = false := decide_eq_false (by omega)
    have d2 : decide (0 ≤ -(q : Int) - 1) = false := decide_eq_false (by omega)
    rw [d1, d2, b2, b2]
    simp only [Int.toNat_natCast]
    have b3 : Builtin.bitNot (((p ||| q : Nat) : Int)) = -((p ||| q : Nat) : Int) - 1 := rfl
    rw [b3, b2]
  rw [hx, key, ← e2]
  omega
/-- an octet as the reader sees it -/
structure Sees (ns : List Int) (i : Nat) (o : Int) : Prop where
  ex : ∃ b, ns[i]? = some b ∧ Builtin.bitAnd b 63 = o % 64 ∧ (Builtin.bitAnd b 64 = 0 ↔ o < 64)
theorem sees_spell (bits : Int) {octs : List Int} {i : Nat} {o : Int} (h : octs[i]? = some o) (h0 : 0 ≤ o) (h1 : o < 128) : Sees ((signed bits octs).map fun (c : Nat) => (c : Int)) i o := by
  refine ⟨((sgn bits i o).toNat : Int), ?_, ?_, ?_⟩
  · rw [List.getElem?_map]
    simp only [signed, List.getElem?_mapIdx, h, Option.map_some]
  all_goals (
    have hb : sgn bits i o = o ∨ sgn bits i o = o + 128 := by unfold sgn; split <;> simp
    have e6 := bitAnd_m6 ((sgn bits i o).toNat : Int)
    have e64 := PySem.W.kbt_bit ((sgn bits i o).toNat : Int) 6
    have p6 : (2 : Int) ^ 6 = 64 := by decide
    rw [p6] at e64)
  · rw [e6]; rcases hb with hb | hb <;> rw [hb] <;> omega
  · rw [e64]; rcases hb with hb | hb <;> rw [hb] <;> omega
theorem pv_figs {ns : List Int} {n : Int} (h0 : 0 ≤ n) (h1 : n < 262144) {i : Nat} (hs : ∀ j o, (figs n)[j]? = some o → Sees ns (i + j) o) :
    ∃ b, ns[i]? = some b ∧ Pv ns (i + 1) b (Builtin.bitAnd b 63) n (i + (figs n).length) := by
  have e (k : Int) : k.fdiv 64 = k / 64 := Int.fdiv_eq_ediv_of_nonneg _ (by decide)
  have e2 (k : Int) : k.fmod 64 = k % 64 := Int.fmod_eq_emod_of_nonneg _ (by decide)
  have p64 : (2 : Int) ^ 64 = 18446744073709551616 := by decide
  unfold figs at hs ⊢
  simp only [e, e2] at hs ⊢
  by_cases a : n ≤ 63
  · rw [if_pos a] at hs ⊢
    obtain ⟨b, hb, hb1, hb2⟩ := (hs 0 _ rfl).ex
    refine ⟨b, hb, ?_⟩
    have hv : Builtin.bitAnd b 63 = n := by rw [hb1]; omega
    rw [hv]
    exact .done h0 (by rw [p64]; omega) (hb2.mpr (by omega))
  · rw [if_neg a] at hs ⊢
    by_cases c : n ≤ 4095
    · rw [if_pos c] at hs ⊢
      obtain ⟨b, hb, hb1, hb2⟩ := (hs 0 _ rfl).ex
      obtain ⟨b', hb', hb1', hb2'⟩ := (hs 1 _ rfl).ex
      refine ⟨b, hb, ?_⟩
      refine .more (by rw [hb1]; omega) (by rw [p64, hb1]; omega) (fun q => by have := hb2.mp q; omega) hb' ?_
      have hv : Builtin.bitOr (Builtin.bitAnd b 63 * 64) (Builtin.bitAnd b' 63) = n := by
        rw [hb1, hb1', or64 (by omega) (by omega) (by omega)]; omega
      rw [hv]
      exact .done h0 (by rw [p64]; omega) (hb2'.mpr (by omega))
    · rw [if_neg c] at hs ⊢
      obtain ⟨b, hb, hb1, hb2⟩ := (hs 0 _ rfl).ex
      obtain ⟨b', hb', hb1', hb2'⟩ := (hs 1 _ rfl).ex
      obtain ⟨b'', hb'', hb1'', hb2''⟩ := (hs 2 _ rfl).ex
      refine ⟨b, hb, ?_⟩
      refine .more (by rw [hb1]; omega) (by rw [p64, hb1]; omega) (fun q => by have := hb2.mp q; omega) hb' ?_
      have hv : Builtin.bitOr (Builtin.bitAnd b 63 * 64) (Builtin.bitAnd b' 63) = n / 64 := by
        rw [hb1, hb1', or64 (by omega) (by omega) (by omega)]; omega
      rw [hv]
      refine .more (by omega) (by rw [p64]; omega) (fun q => by have := hb2'.mp q; omega) hb'' ?_
      have hv2 : Builtin.bitOr (n / 64 * 64) (Builtin.bitAnd b'' 63) = n := by
        rw [hb1'', or64 (by omega) (by omega) (by omega)]; omega
      rw [hv2]
      exact .done h0 (by rw [p64]; omega) (hb2''.mpr (by omega))
theorem rd_octs {ns : List Int} : ∀ (row : List Int) (i : Nat), (∀ n ∈ row, 0 < n ∧ n < 262144) → (∀ j o, (octs row)[j]? = some o → Sees ns (i + j) o) → Rd ns i row
  | [], i, _, hs => by
    obtain ⟨b, hb, hp⟩ := pv_figs (ns := ns) (n := 0) (i := i) (by decide) (by decide) (fun j o h => hs j o (by simpa [octs] using h))
    exact .nil hb hp
  | n :: row, i, hr, hs => by
    have hn := hr n (.head _)
    have e : octs (n :: row) = figs n ++ octs row := by simp [octs]
    obtain ⟨b, hb, hp⟩ := pv_figs (ns := ns) (n := n) (i := i) (by omega) hn.2 (fun j o h => hs j o (by
      have hj : j < (figs n).length := (List.getElem?_eq_some_iff.mp h).1
      rw [e, List.getElem?_append_left hj]; exact h))
    refine .cons hb hp (by omega) (rd_octs row _ (fun k hk => hr k (.tail _ hk)) fun j o h => ?_)
    rw [Nat.add_assoc]
    refine hs _ o ?_
    rw [e, List.getElem?_append_right (by omega), Nat.add_sub_cancel_left]
    exact h
theorem rd_spell (bits : Int) (row : List Int) (hr : ∀ n ∈ row, 0 < n ∧ n < 262144) : Rd ((spell bits row).map fun (c : Nat) => (c : Int)) 0 row :=
  rd_octs row 0 hr fun j o h => by
    have hm := octs_oct row o (List.mem_of_getElem? h)
    rw [Nat.zero_add]
    exact sees_spell bits h hm.1 hm.2
end Mine
end
section
open PySem PySem.W PyProof.Rows PySem.Calls PySem.Spec
namespace Mine


section
variable {w : World} {p : Program} {loose : List Str} {mean : ExcName → Option Value} {mg mb : Str → Option Value} {dp un : Nat} {gd : Option (List Code)} {env : Env} {outer : List Env} {A₀ : Around} {base h₀ : Heap} {L : Addr} {m : Str → Option Value} {news : List (Addr × Obj)} {s : Shared} {Q E : Value → Shared → Prop}

noncomputable def AllNe (r : Addr) : List (Addr × Obj) → Prop
  | [] => True
  | q :: qs => @Ne Nat q.1 r ∧ AllNe r qs
theorem allNe_of {r : Addr} : ∀ {qs : List (Addr × Obj)}, (∀ q ∈ qs, q.1 ≠ r) → AllNe r qs
  | [], _ => True.intro
  | q :: qs, h => ⟨h q (.head _), allNe_of fun q' hq => h q' (.tail _ hq)⟩
theorem four_ints {vs : List Value} {cl : List Int} (h : IntsAre vs cl) (h4 : cl.length = 4) : ∃ (a b c d : Int) (t1 t2 t3 t4 : Tok), vs = [.int a t1, .int b t2, .int c t3, .int d t4] := by
  cases h with
  | nil => simp at h4
  | cons a t1 h => cases h with
    | nil => simp at h4
    | cons b t2 h => cases h with
      | nil => simp at h4
      | cons c t3 h => cases h with
        | nil => simp at h4
        | cons d t4 h => cases h with
          | nil => exact ⟨a, b, c, d, t1, t2, t3, t4, rfl⟩
          | cons e t5 h => simp at h4
theorem cells_use (B : Below A₀ base outer h₀) (F : Fr h₀ L s.heap m) (X : (hd.heap_1 w.params).In h₀) (T : Top p loose mean mg mb h₀) (hf : env.frame = some L) (hke : env.scope.kind = .function) (hdp : dp + 2 < recursionLimit) (hu : un + 40 < cLine) (l : Addr) (xs : List Value) (ns : List Int) (N : News h₀ L s.heap news) (hl : s.heap.IsList l xs.toArray) (hi : IntsAre xs ns) (hns : ns.length ≤ 1000)
   (ret : ∀ (r : Addr) (a b c d : Int) (t1 t2 t3 t4 : Tok) (ep : Nat) h' tk', Fr h₀ L h' m → News h₀ L h' ((r, listOf #[.int a t1, .int b t2, .int c t3, .int d t4] ep) :: news) → (∀ q ∈ news, q.1 ≠ r) → Q (.ref r) { s with heap := h', toks := tk' }) :
   wpAny (model PySem.Challenge.rw_sr0006_01.row.prog w) (Am dp un gd env outer) (call (.ref 105) [.ref l]) Q E s :=
  cells_spec B F X T hf hke hdp hu N l xs ns hl hi hns fun r vs cl ep' h' tk' k hn hD a h4 => by
    obtain ⟨a1, b1, c1, d1, t1, t2, t3, t4, rfl⟩ := four_ints a h4
    obtain ⟨F', N', hne⟩ := took_new F N k hn hD
    exact ret r a1 b1 c1 d1 t1 t2 t3 t4 ep' h' tk' F' N' hne
theorem words_use (B : Below A₀ base outer h₀) (F : Fr h₀ L s.heap m) (X : (hd.heap_1 w.params).In h₀) (T : Top p loose mean mg mb h₀) (hf : env.frame = some L) (hke : env.scope.kind = .function) (hdp : dp + 4 < recursionLimit) (hu : un + 60 < cLine) (N : News h₀ L s.heap news) (kind steps : Int) (tk tn : Tok)
   (ret : ∀ (r ax ay : Addr) (xv yv : List Value) (ex ey : Nat) (xl yl : List Int) h' tk', Fr h₀ L h' m → News h₀ L h' ((r, listOf #[.ref ax, .ref ay] 0) :: (ax, listOf xv.toArray ex) :: (ay, listOf yv.toArray ey) :: news) →
     (∀ q ∈ news, q.1 ≠ r) → (∀ q ∈ news, q.1 ≠ ax) → (∀ q ∈ news, q.1 ≠ ay) → IntsAre xv xl → IntsAre yv yl → 1 ≤ xl.length → 1 ≤ yl.length → xl.length + yl.length ≤ 32 → (∀ e ∈ xl, 1 ≤ e ∧ e ≤ 255) → (∀ e ∈ yl, 1 ≤ e ∧ e ≤ 255) → Q (.ref r) { s with heap := h', toks := tk' }) :
   wpAny (model PySem.Challenge.rw_sr0006_01.row.prog w) (Am dp un gd env outer) (call (.ref 117) [.int kind tk, .int steps tn]) Q E s :=
  words_spec B F X T hf hke hdp hu N kind steps tk tn fun r ax ay xv yv ex ey xl yl h' tk' k hm a b c d e f g => by
    obtain ⟨F', N', hne⟩ := took_many F N k hm
    exact ret r ax ay xv yv ex ey xl yl h' tk' F' N' (hne _ (.head _)) (hne _ (.tail _ (.head _))) (hne _ (.tail _ (.tail _ (.head _)))) a b c d e f g
theorem spelled_use (B : Below A₀ base outer h₀) (F : Fr h₀ L s.heap m) (X : (hd.heap_1 w.params).In h₀) (T : Top p loose mean mg mb h₀) (hf : env.frame = some L) (hke : env.scope.kind = .function) (hdp : dp + 2 < recursionLimit) (hu : un + 40 < cLine) (l : Addr) (rv : List Value) (row : List Int) (ep : Nat) (N : News h₀ L s.heap news) (hl : (l, listOf rv.toArray ep) ∈ news) (hi : IntsAre rv row) (bits : Int) (tb : Tok)
   (hrow : row.length ≤ 100) (hr : ∀ n ∈ row, 0 ≤ n ∧ n < 262144)
   (ret : ∀ t h' tk', Fr h₀ L h' m → News h₀ L h' news → Q (.str ⟨(spell bits row).toArray⟩ t) { s with heap := h', toks := tk' }) :
   wpAny (model PySem.Challenge.rw_sr0006_01.row.prog w) (Am dp un gd env outer) (call (.ref 129) [.ref l, .int bits tb]) Q E s :=
  spelled_spec B F X T hf hke hdp hu l rv row ep N hl hi bits tb figs (fun n hn => by
      rcases List.mem_append.mp hn with hn | hn
      · exact ⟨(hr n hn).1, figs_fg (hr n hn).1 (hr n hn).2⟩
      · rw [List.mem_singleton.mp hn]; exact ⟨by decide, figs_fg (by decide) (by decide)⟩)
    (by have := octs_len row; show (octs row).length ≤ 1000; omega) (by omega) (octs_oct row) fun t h' tk' k =>
    let ⟨F', N'⟩ := took_val F N k
    ret t h' tk' F' N'
theorem row_use (B : Below A₀ base outer h₀) (F : Fr h₀ L s.heap m) (X : (hd.heap_1 w.params).In h₀) (T : Top p loose mean mg mb h₀) (hf : env.frame = some L) (hke : env.scope.kind = .function) (hdp : dp + 2 < recursionLimit) (hu : un + 40 < cLine) (l : Addr) (x y : Int) (tx ty : Tok) (ep : Nat) (N : News h₀ L s.heap news) (hl : (l, listOf #[.int x tx, .int y ty] ep) ∈ news) (n : Int) (tn : Tok) (h0 : 0 ≤ n) (h8 : n < 12) (f : Int) (tf : Tok)
   (ret : ∀ (r : Addr) (vs : List Value) (ep' : Nat) (ws : List Int) h' tk', Fr h₀ L h' m → News h₀ L h' ((r, listOf vs.toArray ep') :: news) → (∀ q ∈ news, q.1 ≠ r) → IntsAre vs (f :: ws) → ws.length ≤ 2 → (∀ e ∈ ws, e = x ∨ e = y) → Q (.ref r) { s with heap := h', toks := tk' }) :
   wpAny (model PySem.Challenge.rw_sr0006_01.row.prog w) (Am dp un gd env outer) (call (.ref 122) [.int f tf, .ref l, .int n tn]) Q E s :=
  row_spec B F X T hf hke hdp hu l x y tx ty ep N hl n tn h0 h8 f tf fun r vs ep' ws h' tk' k hn hD a b c =>
    let ⟨F', N', hne⟩ := took_new F N k hn hD
    ret r vs ep' ws h' tk' F' N' hne a b c
theorem written_use (B : Below A₀ base outer h₀) (F : Fr h₀ L s.heap m) (X : (hd.heap_1 w.params).In h₀) (T : Top p loose mean mg mb h₀) (hf : env.frame = some L) (hke : env.scope.kind = .function) (hdp : dp + 2 < recursionLimit) (hu : un + 40 < cLine) (N : News h₀ L s.heap news) (x : Str) (tx : Tok) (b : Bool) (hx : x.length ≤ 1000) (htk : 1 ≤ s.toks)
   (ret : ∀ t h' tk', Fr h₀ L h' m → News h₀ L h' news → Q (.str ⟨(writtenL b x.cps.toList).toArray⟩ t) { s with heap := h', toks := tk' }) :
   wpAny (model PySem.Challenge.rw_sr0006_01.row.prog w) (Am dp un gd env outer) (call (.ref 136) [.str x tx, .bool b]) Q E s :=
  written_spec B F X T hf hke hdp hu N x tx b hx htk fun t h' tk' k =>
    let ⟨F', N'⟩ := took_val F N k
    ret t h' tk' F' N'
theorem read_use (B : Below A₀ base outer h₀) (F : Fr h₀ L s.heap m) (X : (hd.heap_1 w.params).In h₀) (T : Top p loose mean mg mb h₀) (hf : env.frame = some L) (hke : env.scope.kind = .function) (hdp : dp + 4 < recursionLimit) (hu : un + 60 < cLine) (N : News h₀ L s.heap news) (x : Str) (tx : Tok) (hx : x.length ≤ 1000) (row : List Int) (hrow : row.length ≤ 1000) (hrd : Rd (x.cps.toList.map fun (c : Nat) => (c : Int)) 0 row)
   (ret : ∀ (r : Addr) (vs : List Value) (ep' : Nat) h' tk', Fr h₀ L h' m → News h₀ L h' ((r, listOf vs.toArray ep') :: news) → (∀ q ∈ news, q.1 ≠ r) → IntsAre vs row → Q (.ref r) { s with heap := h', toks := tk' }) :
   wpAny (model PySem.Challenge.rw_sr0006_01.row.prog w) (Am dp un gd env outer) (call (.ref 141) [.str x tx]) Q E s :=
  read_spec B F X T hf hke hdp hu N x tx hx row hrow hrd fun r vs ep' h' tk' k hn hD a =>
    let ⟨F', N', hne⟩ := took_new F N k hn hD
    ret r vs ep' h' tk' F' N' hne a
theorem decode_use (B : Below A₀ base outer h₀) (F : Fr h₀ L s.heap m) (X : (hd.heap_1 w.params).In h₀) (T : Top p loose mean mg mb h₀) (hf : env.frame = some L) (hke : env.scope.kind = .function) (hdp : dp + 2 < recursionLimit) (hu : un + 40 < cLine) (N : News h₀ L s.heap news) (x a b c : Str) (tx : Tok) (hx : x.length ≤ 1000) (hsp : Txt.splitMax x ⟨#[39]⟩ 2 = [a, b, c])
   (ret : ∀ (r : Addr) t1 t2 t3 h' tk', Fr h₀ L h' m → News h₀ L h' ((r, listOf #[.str a t1, .str b t2, .str c t3] 0) :: news) → (∀ q ∈ news, q.1 ≠ r) → Q (.ref r) { s with heap := h', toks := tk' }) :
   wpAny (model PySem.Challenge.rw_sr0006_01.row.prog w) (Am dp un gd env outer) (call (.ref 70) [.str x tx]) Q E s :=
  decode_spec B F X T hf hke hdp hu N x a b c tx hx hsp fun r t1 t2 t3 h' tk' k hn hD =>
    let ⟨F', N', hne⟩ := took_new F N k hn hD
    ret r t1 t2 t3 h' tk' F' N' hne

end
end Mine
end
section
open PySem PySem.W PyProof.Rows PySem.Calls PySem.Spec PySem.Builtin
namespace Mine
theorem slot_fnsa : Slot "function" "__setattr__" "object.__setattr__" :=
  .of (owner := "object") (n := "__setattr__") (by rw [typeLookup_type, builtinLookup_eq_fast]; kernel_rfl) (by decide +kernel) (by decide +kernel) (by decide +kernel)
    (by first | exact .inl (by decide +kernel) | exact .inr (by decide +kernel)) (by rw [isSubtype_type]; kernel_rfl)
theorem slot_fnga : Slot "function" "__getattribute__" "object.__getattribute__" :=
  .of (owner := "object") (n := "__getattribute__") (by rw [typeLookup_type, builtinLookup_eq_fast]; kernel_rfl) (by decide +kernel) (by decide +kernel) (by decide +kernel)
    (by first | exact .inl (by decide +kernel) | exact .inr (by decide +kernel)) (by rw [isSubtype_type]; kernel_rfl)
theorem mro_fn : mroOf (.type "function") = pure [.type "function", .type "object"] := by kernel_rfl
theorem passes_fn (self : Value) : refuseLoop self "__setattr__" [.type "function", .type "object"] = pure () := by kernel_rfl
theorem fn_noread : typeLookup (.type "function") (Str.ofString "read") = pure none := by rw [typeLookup_type, builtinLookup_eq_fast]; kernel_rfl
theorem fn_nohook : typeLookup (.type "function") "__getattr__" = pure none := by rw [typeLookup_type, builtinLookup_eq_fast]; kernel_rfl
theorem fn_canon : (Manifest.canonical "object.__getattribute__" != "object.__getattribute__") = false := by decide +kernel
theorem fn_entry_ga : entryFor table "object.__getattribute__" = some Builtin.«object.__getattribute__» := entryFor_of_tree (by kernel_rfl)
theorem fn_args_ga (a b : Value) : argsOk "object.__getattribute__" ⟨[a, b], []⟩ := by unfold argsOk; kernel_rfl

section
variable {prog : Program} {w : World} {A : Around} {E : Value → Shared → Prop} {s : Shared} {h₀ : Heap} {L f : Addr} {m : Str → Option Value} {news : List (Addr × Obj)} {g : Obj → List (Addr × Obj)}
/-- a text laid on a function as its first attribute -/
theorem fn_set {fd : FuncData} {name : Str} {v : Value} {Q : Unit → Shared → Prop} (hn : typeLookup (.type "function") name = pure none)
    (F : Fr h₀ L s.heap m) (N : News h₀ L s.heap news) (U : UpdF f { cls := .type "function", data := .func fd } news g)
    (h : ∀ d h', Fr h₀ L h' m → News h₀ L h' ((d, dictOf [⟨PyData.keyHash w.params name, .str name (s.toks + 1), v⟩] 1) :: g { cls := .type "function", dict := some d, data := .func fd }) → (∀ q ∈ news, q.1 < d) → Q () { s with heap := h', toks := s.toks + 2 }) :
    wpAny (model prog w) A (setAttr (.ref f) name v) Q E s := by
  obtain ⟨pre, post, rfl, hg, a, b⟩ := U.split
  have hf := (N (f, _) (List.mem_append_right _ (.head _))).1
  have hT : ∀ tk, ({ s with toks := tk } : Shared).TypeIs (.ref f) "function" := fun _ => ⟨_, hf, rfl⟩
  have hlt : ∀ q ∈ pre ++ (f, ({ cls := .type "function", data := .func fd } : Obj)) :: post, q.1 < s.heap.objs.size := fun q hq => Heap.lt_size (N q hq).1
  refine wpAny_bind (wpAny_mkText (wpAny_bind ?_))
  refine wpAny_callSpecial?_slot (hT _) slot_fnsa (wpAny_call_entry slot_fnsa (hT _) PySem.F.store_object.entry ?_ (PySem.F.store_object.args _ _ _))
  rw [osa_eq, refuse_eq]
  refine wpAny_bind (wpAny_bind (wpAny_typeOf (hT _) (wpAny_bind (wpAny_of_eq mro_fn ?_))))
  rw [passes_fn]
  refine wpAny_pure (wpAny_bind (wpAny_typeOf (hT _) (wpAny_bind (wpAny_of_eq hn (wpAny_bind (wpAny_pure ?_))))))
  refine wpAny_bind (wpAny_pure (wpAny_bind (wpAny_bind (wpAny_loadPart hf ?_))))
  (try dsimp only)
  rw [if_neg (show ¬ ((!true || !typeHasDict (Value.type "function")) = true) by decide +kernel)]
  have F1 := F.push { cls := .type "dict", data := .dict #[] }
  have N1 := News.push F N { cls := .type "dict", data := .dict #[] } rfl
  obtain ⟨F2, N2⟩ := news_upd (pre := (s.heap.objs.size, { cls := .type "dict", data := .dict #[] }) :: pre) (post := post) (f := fun o => { o with dict := some s.heap.objs.size }) F1 N1
    (fun q hq => by
      rcases List.mem_cons.mp hq with rfl | hq
      · exact Ne.symm (Nat.ne_of_lt (Heap.lt_size hf))
      · exact a q hq) b rfl rfl
  obtain ⟨F3, N3⟩ := news_upd (pre := []) (post := pre ++ (f, ({ cls := .type "function", dict := some s.heap.objs.size, data := .func fd } : Obj)) :: post) (f := Obj.putName name (PyData.keyHash w.params name) (.str name (s.toks + 1)) v) F2 N2
    (fun q hq => nomatch hq) (fun q hq => by
      rcases List.mem_append.mp hq with hq | hq
      · exact Nat.ne_of_lt (hlt q (List.mem_append_left _ hq))
      · rcases List.mem_cons.mp hq with rfl | hq
        · exact Nat.ne_of_lt (Heap.lt_size hf)
        · exact Nat.ne_of_lt (hlt q (List.mem_append_right _ (.tail _ hq)))) (o' := dictOf [⟨PyData.keyHash w.params name, .str name (s.toks + 1), v⟩] 1) (putName_dict _ _ _ _ [] 0) rfl
  have D := (N2 _ (.head _)).1
  have D' := (N3 _ (.head _)).1
  refine wpAny_bind (wpAny_alloc ?_)
  refine wpAny_bind (wpAny_update (N1 (f, _) (List.mem_append_right ((s.heap.objs.size, _) :: pre) (.head _))).1 ?_)
  unfold dictMade
  (try dsimp only)
  rw [if_neg (show ¬ (finalisedInACycleAlone "function" = true) by decide +kernel)]
  refine wpAny_bind (wpAny_pure (wpAny_pure ?_))
  (try dsimp only)
  unfold ObjectAttr.storeInDict
  refine wpAny_bind (wpAny_pure (wpAny_bind ?_))
  unfold nsSet
  refine wpAny_bind (wpAny_bind (wpAny_askSetting (wpAny_pure (wpAny_bind (wpAny_mkText (wpAny_bind (wpAny_loadPart D ?_)))))))
  (try dsimp only)
  rw [aRefKeyMayBeTheName_at, if_neg (by simp)]
  refine wpAny_updatePart D ?_
  refine wpAny_bind (wpAny_lookBehind D' (by exact pastItsLine_dict (by rw [List.size_toArray, sizeLine_eq]; simp)) ?_)
  exact wpAny_pure ⟨_, rfl, wpAny_pure (h _ _ F3 (by rw [hg]; exact N3) hlt)⟩

theorem fn_find {M : Model} {fd : FuncData} {d : Addr} {name : Str} {v : Value} {hs : Int} {kt : Tok} {Q : ObjectAttr.Found → Shared → Prop} (hn : typeLookup (.type "function") name = pure none)
    (hf : s.heap.get? f = some { cls := .type "function", dict := some d, data := .func fd }) (hd : s.heap.get? d = some (dictOf [⟨hs, .str name kt, v⟩] 1)) (hQ : Q (.value v) s) :
    wpAny M A (ObjectAttr.find (.ref f) (.type "function") name) Q E s := by
  have hns : s.heap.Ns d (nsFind #[⟨hs, .str name kt, v⟩]) := ⟨_, _, _, hd, rfl, fun e he => by
      simp only [List.mem_toArray, List.mem_singleton] at he
      subst he; exact ⟨_, _, rfl⟩, fun n => rfl⟩
  have hv : nsFind #[⟨hs, .str name kt, v⟩] name = some v := by simp [nsFind, findBy, Value.isStr]
  unfold ObjectAttr.find
  refine wpAny_bind (wpAny_of_eq hn (wpAny_bind (wpAny_pure ?_)))
  refine wpAny_bind (wpAny_pure ?_)
  (try dsimp only)
  unfold ObjectAttr.ownThenClass ObjectAttr.inOwnDict
  (try dsimp only)
  unfold ObjectAttr.ownDict
  refine wpAny_bind (wpAny_bind (wpAny_bind (wpAny_loadPart hf ?_)))
  refine wpAny_bind (wpAny_loadPart hf ?_)
  (try dsimp only)
  refine wpAny_pure ?_
  refine wpAny_nsGet hns ?_
  rw [hv]
  exact wpAny_bind (wpAny_rule (wpAny_pure hQ))

theorem fn_get {fd : FuncData} {d : Addr} {name : Str} {v : Value} {hs : Int} {kt : Tok} {expr : Bool} {Q : Value → Shared → Prop} (hn : typeLookup (.type "function") name = pure none)
    (hf : s.heap.get? f = some { cls := .type "function", dict := some d, data := .func fd }) (hd : s.heap.get? d = some (dictOf [⟨hs, .str name kt, v⟩] 1)) (hv : handedOut v = pure v) (hQ : Q v { s with toks := s.toks + 1 }) :
    wpAny (model prog w) A (getAttr (.ref f) name expr) Q E s := by
  have hT : ∀ tk, ({ s with toks := tk } : Shared).TypeIs (.ref f) "function" := fun _ => ⟨_, hf, rfl⟩
  unfold getAttr getAttrBy
  refine wpAny_bind (wpAny_mkText (wpAny_holding (wpAny_bind (wpAny_typeOf (hT _) (wpAny_bind (wpAny_of_eq slot_fnga.lookup ?_))))))
  show wpAny _ _ (getAttrByItsOwn (.ref f) (.str name s.toks) (.type "function") (.builtin "object.__getattribute__") true expr) _ _ _
  unfold getAttrByItsOwn hookBefore callGetattribute
  refine wpAny_bind (wpAny_of_eq (show (if onTheHeap (.type "function") then typeLookup (.type "function") "__getattr__" else pure none) = pure none from rfl) ?_)
  refine wpAny_bind (wpAny_attempt (wpAny_holding ?_))
  rw [show (expr && onTheHeap (Value.builtin "object.__getattribute__")) = false from Bool.and_false _, if_neg (by decide)]
  unfold boundAndCalled
  refine wpAny_bind (wpAny_of_eq (slot_fnga.bind _) ?_)
  refine wpAny_call_entry slot_fnga (hT _) fn_entry_ga ?_ (fn_args_ga _ _)
  unfold Builtin.«object.__getattribute__»
  refine wpAny_bind (m := slotArgs "__getattribute__" 1 _) (wpAny_of_eq (a := (Value.ref f, [Value.str name s.toks])) (by first | rfl | kernel_rfl!) ?_)
  (try dsimp only)
  refine wpAny_bind (m := ObjectAttr.attrName _) (wpAny_of_eq (a := name) rfl ?_)
  refine wpAny_bind (wpAny_typeOf (hT _) ?_)
  refine wpAny_bind (fn_find (s := { s with toks := s.toks + 1 }) hn hf hd ?_)
  refine wpAny_pure ⟨v, rfl, ?_⟩
  exact wpAny_of_eq hv hQ

theorem fn_method {fd : FuncData} {d : Addr} {name : Str} {v : Value} {hs : Int} {kt : Tok} {pl : Sem Bool} {Q : Value × List Value → Shared → Prop} (hn : typeLookup (.type "function") name = pure none)
    (hf : s.heap.get? f = some { cls := .type "function", dict := some d, data := .func fd }) (hd : s.heap.get? d = some (dictOf [⟨hs, .str name kt, v⟩] 1)) (hv : handedOut v = pure v) (hQ : Q (v, []) { s with toks := s.toks + 1 }) :
    wpAny (model prog w) A (getMethod (.ref f) name pl) Q E s := by
  have hT : s.TypeIs (.ref f) "function" := ⟨_, hf, rfl⟩
  unfold getMethod
  refine wpAny_bind (wpAny_specialOf hT slot_fnga.lookup ?_)
  show wpAny _ _ (if (Manifest.canonical "object.__getattribute__" != "object.__getattribute__") = true then _ else _) _ _ _
  rw [if_neg (by rw [fn_canon]; decide)]
  refine wpAny_bind (wpAny_specialOf hT fn_nohook ?_)
  rw [if_neg (by decide)]
  refine wpAny_bind (wpAny_specialOf hT hn ?_)
  (try dsimp only)
  exact wpAny_bind (fn_get hn hf hd hv (wpAny_pure hQ))
end
end Mine
end
section
open PySem PySem.W PyProof.Rows PySem.Calls PySem.Spec
namespace Mine
section
variable {prog : Program} {w : World} {A₀ A : Around} {E : Value → Shared → Prop} {s : Shared} {base h₀ : Heap} {outer : List Env} {L : Addr} {m : Str → Option Value} {env : Env} {news : List (Addr × Obj)} {K : Frag}
  {Q : Value → Shared → Prop} {name qual : Str} {params : Arguments} {body : List Stmt} {scope : Scope} {doc pm ctv : Value} {cl : List (Str × Addr)} {c' f : Addr} {vals : List Value} {binds : List (Str × Value)}
  {p : Program} {loose : List Str} {mean : ExcName → Option Value} {mg mb : Str → Option Value}

/-- a call of a nested def that the ledger bears -/
theorem enterN (B : Below A₀ base outer h₀) (F : Fr h₀ L s.heap m) (X₀ : K.In h₀) (N : News h₀ L s.heap news) (T : Top p loose mean mg mb h₀) (hA : A.frames = some (env :: outer)) (hf : env.frame = some L) (hke : env.scope.kind = .function)
    (ho : (f, fnMade name qual params body scope cl doc pm c' ctv) ∈ news) (hcd : s.heap.CodeRec (.ref c') qual) (hroom : A.depth < recursionLimit)
    (hbind : BindsTo s (fnX name qual params body scope cl .none .none doc pm none (.ref c') ctv) ⟨vals, []⟩ binds) (hloc : ∀ y ∈ binds, scope.names.lookup y.1 = some .local)
    (h : ∀ g L' h₁, Fr g L' h₁ (fun y => binds.reverse.lookup y) → News g L' h₁ news → Below A base (env :: outer) g → K.In g → Top p loose mean mg mb g → (∀ q ∈ news, q.1 < L') →
      wpAny (model prog w) (A.deeper (envX qual scope L' f (.ref c') cl)) (execs body (envX qual scope L' f (.ref c') cl))
        (fun fl s' => EndG s news g L' Q (match fl with | .ret v => v | _ => .none) s') (fun _ _ => False) { s with heap := h₁, toks := s.toks + binds.length })
    (hco : scope.isCoroutine = false) (hgen : scope.isGenerator = false) (hk : scope.kind = .function)
    (hcell : ∀ x ∈ scope.names, x.2 ≠ .cell) : wpAny (model prog w) A (call (.ref f) vals) Q E s := by
  obtain ⟨BG, st⟩ := ground_of B F N hA hf hke
  refine wpAny_call (codeAny_call_def (fd := fnX name qual params body scope cl .none .none doc pm none (.ref c') ctv) (body := body) (binds := binds) hroom (N _ ho).1 rfl (T.nolimit.keeps F.keep) hcd rfl hbind hcell hloc (fun h₁ hns hk₁ => ?_) hco hgen hk)
  refine wpAny_mono (h _ s.heap.objs.size h₁ ⟨hns, fun b o e => hk₁ b o (of_hideAll _ e), Nat.le_of_eq (hideAll_size _ _)⟩
    (fun q hq => ⟨hk₁ _ _ (N q hq).1, Nat.ne_of_lt (Heap.lt_size (N q hq).1), hideAll_none _ (List.mem_map_of_mem hq)⟩) BG (X₀.keeps st) (T.keeps st) (fun q hq => Heap.lt_size (N q hq).1)) (fun fl s' hl => ?_) fun _ _ y => y.elim
  obtain ⟨m', news', F', N', k⟩ := hl
  have G := fun (b : Addr) (o : Obj) (e : s.heap.get? b = some o) (n : b ∉ news.map (·.1)) => hideAll_get (news.map (·.1)) e n
  exact k (fun b o e n => F'.keep b o (G b o e n)) (fun q hq => (N q hq).1) (fresh_after G N')

/-- the ledger after a call: what the callee left alone stands, what it turned or made stands as it says -/
noncomputable def Led' (h h' : Heap) (turned : List Addr) (made : List (Addr × Obj)) : Prop :=
  (∀ b o, b ∉ turned → h.get? b = some o → h'.get? b = some o) ∧ ∀ q ∈ made, (q.1 ∈ turned ∨ h.get? q.1 = none) ∧ h'.get? q.1 = some q.2

/-- the end of a def that turns some named objects and makes some new ones -/
theorem end_led {args made : List (Addr × Obj)} {turned : List Addr} {g h' : Heap} {L' : Addr} {m' : Str → Option Value} {news' : List (Addr × Obj)} {tk : Nat} {R : Value → Shared → Prop} {v : Value} (F' : Fr g L' h' m') (N' : News g L' h' news')
    (ha : ∀ q ∈ args, q.1 ∈ turned ∨ q ∈ news') (hm : ∀ q ∈ made, q ∈ news') (hne : ∀ p ∈ made, p.1 ∈ turned ∨ ∀ q ∈ args, q.1 ≠ p.1)
    (k : Led' s.heap h' turned made → R v { s with heap := h', toks := tk }) : EndG s args g L' R v { s with heap := h', toks := tk } := by
  refine ⟨m', news', F', N', fun a b c => k ⟨fun x o hx e => ?_, fun q hq => ⟨?_, (N' _ (hm q hq)).1⟩⟩⟩
  · by_cases hx' : x ∈ args.map (·.1)
    · obtain ⟨q, hq, rfl⟩ := List.mem_map.mp hx'
      have h1 := b q hq
      rw [e] at h1
      cases h1
      rcases ha q hq with h | h
      · exact absurd h hx
      · exact (N' q h).1
    · exact a x o e hx'
  · rcases hne q hq with h | h
    · exact .inl h
    · exact .inr (c _ (hm q hq) h)

/-- what the caller takes from it -/
theorem took_led {h' : Heap} {turned : List Addr} {made new old : List (Addr × Obj)} (F : Fr h₀ L s.heap m) (N : News h₀ L s.heap news) (k : Led' s.heap h' turned made)
    (ht : ∀ b ∈ turned, ∃ o, (b, o) ∈ news) (hnew : ∀ q ∈ new, q ∈ made) (hold : ∀ q ∈ old, (q.1 ∉ turned ∧ q ∈ news) ∨ q ∈ made) :
    Fr h₀ L h' m ∧ News h₀ L h' (new ++ old) := by
  have hL : L ∉ turned := fun e => by obtain ⟨o, ho⟩ := ht L e; exact (N _ ho).2.1 rfl
  have h0 : ∀ b o, h₀.get? b = some o → b ∉ turned := fun b o e hb => by
    obtain ⟨o', ho⟩ := ht b hb
    have := (N _ ho).2.2
    rw [show (b, o').1 = b from rfl] at this
    rw [this] at e; cases e
  have hmade : ∀ q ∈ made, h'.get? q.1 = some q.2 ∧ q.1 ≠ L ∧ h₀.get? q.1 = none := fun q hq => by
    obtain ⟨h1, h2⟩ := k.2 q hq
    rcases h1 with h1 | h1
    · obtain ⟨o', ho⟩ := ht _ h1
      exact ⟨h2, (N _ ho).2⟩
    · refine ⟨h2, fun e => ?_, ?_⟩
      · obtain ⟨oL, _, _, hL, _⟩ := F.ns
        rw [e] at h1; rw [h1] at hL; cases hL
      · cases e : h₀.get? q.1 with
        | none => rfl
        | some o' => have := F.keep _ _ e; rw [h1] at this; cases this
  refine ⟨⟨F.ns.at' fun o e => k.1 _ o hL e, fun b o e => k.1 b o (h0 b o e) (F.keep b o e), F.above⟩, fun q hq => ?_⟩
  rcases List.mem_append.mp hq with hq | hq
  · exact hmade q (hnew q hq)
  · rcases hold q hq with ⟨h1, h2⟩ | h
    · exact ⟨k.1 _ _ h1 (N q h2).1, (N q h2).2⟩
    · exact hmade q h
theorem Led'.fresh {h h' : Heap} {turned : List Addr} {made : List (Addr × Obj)} (k : Led' h h' turned made) {q p : Addr × Obj} (hp : p ∈ made) (hq : h.get? q.1 = some q.2) (ht : p.1 ∉ turned) : q.1 ≠ p.1 := fun e => by
  rcases (k.2 p hp).1 with h1 | h1
  · exact ht h1
  · rw [e, h1] at hq; cases hq
end
end Mine
end
section
open PySem PySem.W PyProof.Rows PySem.Calls PySem.Spec
namespace Mine
noncomputable def ReadTo (x : Str) (i : Nat) (v : Str) (i' : Nat) : Prop := (∃ c, x.cps[i]? = some c ∧ v = ⟨#[c]⟩ ∧ i' = i + 1) ∨ (i = x.length ∧ v = ⟨#[]⟩ ∧ i' = i)
theorem slice_idx {i n : Nat} (h : i ≤ n) : Builtin.Str.strSliceIndices (some (i : Int)) (some ((i : Int) + 1)) 1 n = if i < n then [i] else [] := by
  unfold Builtin.Str.strSliceIndices
  (try dsimp only)
  simp only [show (1 : Int) > 0 from by decide, if_true, show ¬ ((i : Int) < 0) from by omega, show ¬ ((i : Int) + 1 < 0) from by omega, if_false]
  have e1 : max (0 : Int) (min (i : Int) (n : Int)) = i := by omega
  rw [e1]
  unfold sliceRange
  (try dsimp only)
  simp only [show (1 : Int) > 0 from by decide, if_true]
  split
  · have e2 : max (0 : Int) (min ((i : Int) + 1) (n : Int)) = i + 1 := by omega
    rw [e2, if_pos (by omega)]
    have e3 : (((i : Int) + 1 - i + 1 - 1) / 1).toNat = 1 := by omega
    rw [e3]
    simp
  · have e2 : max (0 : Int) (min ((i : Int) + 1) (n : Int)) = i := by omega
    rw [if_neg (by omega)]
    rfl
theorem slice_read {x : Str} {i : Nat} (hi : i ≤ x.length) : ∃ i', ReadTo x i (Txt.slice x (some (i : Int)) (some ((i : Int) + 1))) i' ∧ (i' : Int) = i + ((Txt.slice x (some (i : Int)) (some ((i : Int) + 1))).length : Int) := by
  have hs : x.length = x.cps.size := rfl
  unfold Txt.slice
  rw [slice_idx hi]
  rcases Nat.lt_or_ge i x.length with h | h
  · rw [if_pos h]
    have hc : x.cps[i]? = some x.cps[i] := Array.getElem?_eq_getElem (by omega)
    refine ⟨i + 1, .inl ⟨x.cps[i], hc, ?_, rfl⟩, ?_⟩
    · split
      · rename_i h1
        have h1 : x.length = 1 := by simp at h1; omega
        obtain ⟨c⟩ := x
        obtain ⟨l⟩ := c
        match l, h1 with
        | [c], _ =>
          have : i = 0 := by simp [Str.length] at h; omega
          subst this; rfl
      · simp [hc]
    · split
      · rename_i h1
        have h1 : x.length = 1 := by simp at h1; omega
        omega
      · simp [hc, Str.length]
  · have : i = x.length := by omega
    subst this
    rw [if_neg (Nat.lt_irrefl _)]
    refine ⟨x.length, .inr ⟨rfl, ?_, rfl⟩, ?_⟩
    · split
      · rename_i h1
        have h1 : x.length = 0 := by simp at h1; exact h1.symm
        obtain ⟨c⟩ := x
        obtain ⟨l⟩ := c
        match l, h1 with
        | [], _ => rfl
      · simp
    · split
      · rename_i h1
        have h1 : x.length = 0 := by simp at h1; exact h1.symm
        omega
      · simp [Str.length]
end Mine
end
section
open PySem PySem.W PyProof.Rows PySem.Calls PySem.Spec
namespace Mine


section
variable {w : World} {p : Program} {loose : List Str} {mean : ExcName → Option Value} {mg mb : Str → Option Value} {dp un : Nat} {gd : Option (List Code)} {env : Env} {outer : List Env} {A₀ : Around} {base h₀ : Heap} {L : Addr} {m : Str → Option Value} {news : List (Addr × Obj)} {s : Shared} {Q E : Value → Shared → Prop}
structure Strm where
  (f d fr cr la ca ct : Addr) (fd : FuncData) (oc oca oct : Obj) (hk : Int) (kt : Tok) (qual : Str) (doc pm ctv : Value) (x : Str) (tx : Tok)
noncomputable abbrev Strm.ok (S : Strm) : Prop := (∃ vs t, S.oc.data = .fields vs ∧ vs[1]? = some (.str S.qual t)) ∧ S.oca.data = .cell (some (.ref S.la)) ∧ S.oct.data = .cell (some (.str S.x S.tx)) ∧
  @Ne Nat S.d S.la ∧ @Ne Nat S.f S.la ∧ @Ne Nat S.fr S.la ∧ @Ne Nat S.cr S.la ∧ @Ne Nat S.ca S.la ∧ @Ne Nat S.ct S.la
noncomputable abbrev Strm.led (pr : Arguments) (bd : List Stmt) (sc : Scope) (S : Strm) (i : Nat) (ti : Tok) : List (Addr × Obj) :=
  [(S.d, dictOf [⟨S.hk, .str (Str.ofString "read") S.kt, .ref S.fr⟩] 1), (S.f, { cls := .type "function", dict := some S.d, data := .func S.fd }),
   (S.fr, fnMade (Str.ofString "read") S.qual pr bd sc [(Str.ofString "text", S.ct), (Str.ofString "at", S.ca)] S.doc S.pm S.cr S.ctv), (S.cr, S.oc), (S.la, listOf #[.int i ti] 0), (S.ca, S.oca), (S.ct, S.oct)]
noncomputable def StreamC (pr : Arguments) (bd : List Stmt) (sc : Scope) : Prop := ∀ {w : World} {p : Program} {loose : List Str} {mean : ExcName → Option Value} {mg mb : Str → Option Value} {dp un : Nat} {gd : Option (List Code)} {env : Env} {outer : List Env} {A₀ : Around} {base h₀ : Heap} {L : Addr} {m : Str → Option Value} {news : List (Addr × Obj)} {s : Shared} {Q E : Value → Shared → Prop}
    (_ : Below A₀ base outer h₀) (_ : Fr h₀ L s.heap m) (_ : (hd.heap_1 w.params).In h₀) (_ : Top p loose mean mg mb h₀) (_ : env.frame = some L) (_ : env.scope.kind = .function) (_ : dp + 2 < recursionLimit) (_ : un + 40 < cLine)
    (_ : CodeHd base 97 93) (_ : News h₀ L s.heap news) (_ : (93, tabObj #[]) ∈ news) (x : Str) (tx : Tok)
    (_ : ∀ (S : Strm) ps ti h' tk', S.x = x → S.tx = tx → S.ok → (∀ q ∈ S.led pr bd sc 0 ti, q.1 ≠ 93) → Led' s.heap h' [93] ((93, tabObj ps) :: S.led pr bd sc 0 ti) → Q (.ref S.f) { s with heap := h', toks := tk' }),
    wpAny (model PySem.Challenge.rw_sr0006_01.row.prog w) (Am dp un gd env outer) (call (.ref 98) [.str x tx]) Q E s
noncomputable def ReadC (pr : Arguments) (bd : List Stmt) (sc : Scope) : Prop := ∀ {w : World} {p : Program} {loose : List Str} {mean : ExcName → Option Value} {mg mb : Str → Option Value} {dp un : Nat} {gd : Option (List Code)} {env : Env} {outer : List Env} {A₀ : Around} {base h₀ : Heap} {L : Addr} {m : Str → Option Value} {news : List (Addr × Obj)} {s : Shared} {Q E : Value → Shared → Prop}
    (_ : Below A₀ base outer h₀) (_ : Fr h₀ L s.heap m) (_ : (hd.heap_1 w.params).In h₀) (_ : Top p loose mean mg mb h₀) (_ : env.frame = some L) (_ : env.scope.kind = .function) (_ : dp + 2 < recursionLimit) (_ : un + 40 < cLine)
    (_ : CodeHd base 97 93) (_ : News h₀ L s.heap news) (S : Strm) (_ : S.ok) (i : Nat) (ti : Tok) (_ : ∀ q ∈ S.led pr bd sc i ti, q ∈ news) (_ : i ≤ S.x.length) (_ : S.x.length ≤ 10000) (t1 : Tok)
    (_ : ∀ v t i' ti' h' tk', ReadTo S.x i v i' → Led' s.heap h' [S.la] [(S.la, listOf #[.int (i' : Nat) ti'] 0)] → Q (.str v t) { s with heap := h', toks := tk' }),
    wpAny (model PySem.Challenge.rw_sr0006_01.row.prog w) (Am dp un gd env outer) (call (.ref S.fr) [.int 1 t1]) Q E s
theorem stream_end {g h' : Heap} {L' d f fr cr la ca ct c2 : Addr} {m' : Str → Option Value} {tk : Nat} {R : Value → Shared → Prop} {hk : Int} {kt ti tx : Tok} {fd : FuncData} {oc2 oc oca oct : Obj} {qual x : Str} {pr : Arguments} {bd : List Stmt} {sc : Scope} {doc pm ctv : Value} {ps vs : Array Value} {t : Tok}
   (F' : Fr g L' h' m') (N' : News g L' h' [(d, dictOf [⟨hk, .str (Str.ofString "read") kt, .ref fr⟩] 1), (f, { cls := .type "function", dict := some d, data := .func fd }), (c2, oc2), (fr, fnMade (Str.ofString "read") qual pr bd sc [(Str.ofString "text", ct), (Str.ofString "at", ca)] doc pm cr ctv), (cr, oc), (la, listOf #[.int 0 ti] 0), (ca, oca), (ct, oct), (93, tabObj ps)])
   (h1 : oc.data = .fields vs) (h2 : vs[1]? = some (.str qual t)) (h3 : oca.data = .cell (some (.ref la))) (h4 : oct.data = .cell (some (.str x tx)))
   (hne : (@LT.lt Nat _ 93 ct ∧ @LT.lt Nat _ 93 ca ∧ @LT.lt Nat _ ct la ∧ @LT.lt Nat _ ca la ∧ @LT.lt Nat _ la cr ∧ @LT.lt Nat _ cr fr ∧ @LT.lt Nat _ fr f ∧ @LT.lt Nat _ f d))
   (k : ∀ (S : Strm) ps ti, S.x = x → S.tx = tx → S.ok → (∀ q ∈ S.led pr bd sc 0 ti, q.1 ≠ 93) → Led' s.heap h' [93] ((93, tabObj ps) :: S.led pr bd sc 0 ti) → R (.ref S.f) { s with heap := h', toks := tk }) :
   EndG s [(93, tabObj #[])] g L' R (.ref f) { s with heap := h', toks := tk } := by
  obtain ⟨n1, n2, n3, n4, n5, n6, n7, n8⟩ := hne
  refine end_led (turned := [93]) (made := (93, tabObj ps) :: Strm.led pr bd sc ⟨f, d, fr, cr, la, ca, ct, fd, oc, oca, oct, hk, kt, qual, doc, pm, ctv, x, tx⟩ 0 ti) F' N' (fun q hq => .inl ?_) (fun q hq => ?_) (fun q hq => ?_)
    (k ⟨f, d, fr, cr, la, ca, ct, fd, oc, oca, oct, hk, kt, qual, doc, pm, ctv, x, tx⟩ ps ti rfl rfl ⟨⟨vs, t, h1, h2⟩, h3, h4, by dsimp only; omega, by dsimp only; omega, by dsimp only; omega, by dsimp only; omega, by dsimp only; omega, by dsimp only; omega⟩ (fun q hq => by
      simp only [List.mem_cons, List.not_mem_nil, or_false] at hq
      rcases hq with rfl | rfl | rfl | rfl | rfl | rfl | rfl <;> (show @Ne Nat _ 93; dsimp only; omega)))
  · rw [List.mem_singleton.mp hq]; exact .head _
  · simp only [List.mem_cons, List.not_mem_nil, or_false] at hq ⊢
    rcases hq with h | h | h | h | h | h | h | h <;> simp [h]
  · simp only [List.mem_cons, List.not_mem_nil, or_false] at hq
    rcases hq with rfl | hq
    · exact .inl (.head _)
    · right
      intro q' hq'
      rw [List.mem_singleton.mp hq']
      rcases hq with rfl | rfl | rfl | rfl | rfl | rfl | rfl <;> (show @Ne Nat 93 _; dsimp only; omega)

theorem read_end {g h' : Heap} {L' la d f fr cr ca ct : Addr} {o1 o2 o3 o4 o6 o7 : Obj} {m' : Str → Option Value} {tk : Nat} {R : Value → Shared → Prop} {v : Value} {i i' : Nat} {j : Int} {ti tj : Tok} (hj : (i' : Int) = j)
   (F' : Fr g L' h' m') (N' : News g L' h' [(d, o1), (f, o2), (fr, o3), (cr, o4), (la, listOf #[.int j tj] 0), (ca, o6), (ct, o7)])
   (n1 : @Ne Nat d la) (n2 : @Ne Nat f la) (n3 : @Ne Nat fr la) (n4 : @Ne Nat cr la) (n5 : @Ne Nat ca la) (n6 : @Ne Nat ct la)
   (k : ∀ tj, Led' s.heap h' [la] [(la, listOf #[.int (i' : Nat) tj] 0)] → R v { s with heap := h', toks := tk }) :
   EndG s [(d, o1), (f, o2), (fr, o3), (cr, o4), (la, listOf #[.int i ti] 0), (ca, o6), (ct, o7)] g L' R v { s with heap := h', toks := tk } := by
  subst hj
  refine end_led (turned := [la]) (made := [(la, listOf #[.int (i' : Nat) tj] 0)]) F' N' (fun q hq => ?_) (fun q hq => ?_) (fun q hq => ?_) (k tj)
  · simp only [List.mem_cons, List.not_mem_nil, or_false] at hq ⊢
    rcases hq with h | h | h | h | h | h | h <;> simp [h]
  · rw [List.mem_singleton.mp hq]; simp
  · rw [List.mem_singleton.mp hq]; exact .inl (.head _)

theorem stream_read : ∃ (pr : Arguments) (bd : List Stmt) (sc : Scope), StreamC pr bd sc ∧ ReadC pr bd sc := by
  refine ⟨?pr, ?bd, ?sc, ?stc, ?rdc⟩
  case stc =>
    intro w p loose mean mg mb dp un gd env outer A₀ base h₀ L m news s Q E B F X T hf hke hdp hu C N hP x tx ret
    revert X; k_fill; intro X; k_with_none
    k_with "k_lk" => (first | (refine' lt_get ?h9 ?m9; (case h9 => with_reducible assumption); (case m9 => k_mem)) | (refine' Ne.symm (lt_get ?h9 ?m9); (case h9 => with_reducible assumption); (case m9 => k_mem)) | (refine' ana_get ?h9 ?m9; (case h9 => with_reducible assumption); (case m9 => k_mem)) | (refine' Ne.symm (ana_get ?h9 ?m9); (case h9 => with_reducible assumption); (case m9 => k_mem)) | with_reducible assumption | (refine Ne.symm ?_; with_reducible assumption) | fail "k_lk")
    k_with "k_ne" => first | k_extra "k_lk" | omega
    k_with "k_all" => (first | with_reducible assumption | (refine' lt_all ?h9; (case h9 => with_reducible assumption)) | fail "k_all")
    k_with "k_mem" => (first | exact mI0 | exact mI1 | exact mI2 | exact mI3 | exact mI4 | exact mI5 | exact mI6 | exact mI7 | exact mI8 | exact mI9 | exact mI10 | exact mI11 | (refine mS12 ?_; k_mem))
    k_with "k_room" => first | (refine' rm0 ?h9 ?k9; (case h9 => with_reducible assumption); (case k9 => exact Nat.le_of_ble_eq_true rfl)) | (refine' rm1 ?h9 ?k9; (case h9 => with_reducible assumption); (case k9 => exact Nat.le_of_ble_eq_true rfl)) | (refine' rm2 ?h9; (case h9 => with_reducible assumption)) | (refine' rm4 ?h9; (case h9 => with_reducible assumption)) | (simp only [depth_under_make, depth_under_kw, depth_in1, depth_deeper, depth_caller, recursionLimit] at *; omega)
    k_with "k_units" => first | (refine' rm0 ?h9 ?k9; (case h9 => with_reducible assumption); (case k9 => exact Nat.le_of_ble_eq_true rfl)) | (refine' rm1 ?h9 ?k9; (case h9 => with_reducible assumption); (case k9 => exact Nat.le_of_ble_eq_true rfl)) | (refine' rm2 ?h9; (case h9 => with_reducible assumption)) | (refine' rm4 ?h9; (case h9 => with_reducible assumption)) | (simp only [units_in1, units_deeper, Around.mark_units, units_caller, cLine] at *; omega)
    k_with "om" => (first | (refine neN ?_; (try dsimp only); k_extra "k_lk") | with_reducible assumption | exact Nat.le_of_ble_eq_true rfl | (refine' le_lit ?h9 ?k9; (case h9 => with_reducible assumption); (case k9 => exact Nat.le_of_ble_eq_true rfl)) | (refine' lt_lit ?h9 ?k9; (case h9 => with_reducible assumption); (case k9 => exact Nat.le_of_ble_eq_true rfl)) | (refine' rm0 ?h9 ?k9; (case h9 => with_reducible assumption); (case k9 => exact Nat.le_of_ble_eq_true rfl)) | (refine' rm1 ?h9 ?k9; (case h9 => with_reducible assumption); (case k9 => exact Nat.le_of_ble_eq_true rfl)) | (refine' rm2 ?h9; (case h9 => with_reducible assumption)) | (refine' rm4 ?h9; (case h9 => with_reducible assumption)) | omega (config := { splitDisjunctions := false }) | ((repeat (first | (rename _ ≠ _ ∧ _ => hq9; clear hq9) | (rename (_ ≠ _ ∧ _) ∧ _ => hq9; clear hq9))); omega (config := { splitDisjunctions := true })) | omega (config := { splitDisjunctions := true }) | ((repeat (rename (∀ p ∈ (_ : List (PySem.Addr × PySem.Obj)), @LT.lt Nat _ p.1 _) => hq9; (have hq8 := PySem.W.allLt_of hq9); clear hq9; simp only [PySem.W.AllLt, and_true] at hq8)); omega (config := { splitDisjunctions := true })))
    k_with "callWith ref" => (k_here; k_dflt (refine' callWith_K ?zs1 ?zs2 ?_; (case zs1 => k_asm); (case zs2 => k_is); k_whole))
    k_with "call builtin:len" => (k_here; (with_reducible show wpAny _ _ (call (Value.builtin _) [Value.ref _]) _ _ _); (with_unfolding_all refine' len_ints_fit ?zs1 ?zs2 ?zs3 ?_; (case zs1 => is_list); (case zs2 => l_ints); (case zs3 => l_fit); k_whole); (try simp only [List.length_append, List.length_cons, List.length_nil, Nat.zero_add]))
    k_with "subscriptTail Name" => (k_here; (with_reducible show wpAny _ _ (subscriptTail _ _ (Value.ref _) (Value.int _ _)) _ _ _); kim_at)
    k_with "getMethod ref" => (k_here; k_dflt (refine' method_inst ?zs1 ?zs2 ?zs3 ?zs4 ?zs5 ?zs6 ?zs7 ?_; (case zs1 => k_asm); (case zs2 => k_asm); (case zs3 => k_inst); (case zs4 => k_is); (case zs5 => k_is); (case zs6 => k_is); (case zs7 => k_get); k_whole))
    k_with "execs cons" => (refine seqK ?_; intro K9 tk9 hK9; (try dsimp only))
    k_with "KK next" => (refine' kk_next ?h9 ?_; (case h9 => with_reducible assumption))
    k_with "KK ret" => (refine' kk_ret ?h9 ?_; (case h9 => with_reducible assumption); (try dsimp only))
    k_with "KK brk" => (refine' kk_brk ?h9 ?_; (case h9 => with_reducible assumption); (try dsimp only))
    k_with "KK cont" => (refine' kk_cont ?h9 ?_; (case h9 => with_reducible assumption); (try dsimp only))
    k_with "ktr_unf" => (k_dflt (first | (refine' enterP ?zqk1 ?zqk2 ?zqk3 ?zqk4 ?zqk5 ?zqkA ?zqkF ?zqkK ?zqk6 ?zqk7 ?zqk8 ?zqk9 ?zqkB ?_ ?zqc2 ?zqc3 ?zqc4 ?zqc5; (case zqkA => exact rfl); (case zqkF => assumption); (case zqkK => assumption); (case zqk1 => k_asm); (case zqk2 => k_asm); (case zqk3 => k_asm); (case zqk4 => k_asm); (case zqk5 => k_asm); (case zqk6 => k_is); (case zqk7 => k_is); (case zqk8 => k_room); (case zqk9 => exact BindsTo.of_eq rfl); (case zqc5 => decide); (case zqkB => exact locs rfl); (case zqc2 => exact rfl); (case zqc3 => exact rfl); (case zqc4 => exact rfl); k_whole; intro g' L' h' F' N' B' X' T' l1; (try k_lt l1); (try dsimp only); (try k_lift B'); (try k_fold)) | (refine' enterPC ?zqk1 ?zqk2 ?zqk3 ?zqk4 ?zqk5 ?zqkA ?zqkF ?zqkK ?zqk6 ?zqk7 ?zqk8 ?zqk9 ?zqkB ?zqkD ?_ ?zqc2 ?zqc3 ?zqc4; (case zqkA => exact rfl); (case zqkF => assumption); (case zqkK => assumption); (case zqk1 => k_asm); (case zqk2 => k_asm); (case zqk3 => k_asm); (case zqk4 => k_asm); (case zqk5 => k_asm); (case zqk6 => k_is); (case zqk7 => k_is); (case zqk8 => k_room); (case zqk9 => exact BindsTo.of_eq rfl); (case zqkB => exact rfl); (case zqkD => decide +kernel); (case zqc2 => exact rfl); (case zqc3 => exact rfl); (case zqc4 => exact rfl); k_whole; intro g' L' h' tk' cells' F' N' Y' B' X' T' l1; (try k_lt l1); k_cells Y'; (try simp only [List.cons_append, List.nil_append] at N'); (try dsimp only); (try k_lift B'); (try k_fold))))
    k_with "setAttr ref" => (k_here; k_dflt (refine' fn_set ?zqn ?zqF ?zqN ?zqU ?_; (case zqn => exact fn_noread); (case zqF => k_asm); (case zqN => k_asm); (case zqU => k_updF); k_whole; intro d' h' F' N' l1; (try dsimp only at N'); (try k_lt l1)))
    k_with "ktr_unf" => (k_dflt (refine' enterN ?zqk1 ?zqk2 ?zqk3 ?zqk4 ?zqk5 ?zqkA ?zqkF ?zqkK ?zqk6 ?zqk7 ?zqk8 ?zqk9 ?zqkB ?_ ?zqc2 ?zqc3 ?zqc4 ?zqc5; (case zqkA => exact rfl); (case zqkF => assumption); (case zqkK => assumption); (case zqk1 => k_asm); (case zqk2 => k_asm); (case zqk3 => k_asm); (case zqk4 => k_asm); (case zqk5 => k_asm); (case zqk6 => k_mem); (case zqk7 => exact codeRec_news (by k_asm) (by k_mem) (by assumption) (by assumption)); (case zqk8 => k_room); (case zqk9 => exact BindsTo.of_eq rfl); (case zqc5 => decide); (case zqkB => exact locs rfl); (case zqc2 => exact rfl); (case zqc3 => exact rfl); (case zqc4 => exact rfl); k_whole; intro g' L' h' F' N' B' X' T' l1; (try k_lt l1); (try dsimp only); (try k_lift B'); (try k_fold)))
    replace N : News h₀ L s.heap [(93, tabObj #[])] := cb_drop N (by intro q hq; rw [List.mem_singleton.mp hq]; exact hP)
    ktr_unf
    clear F N B X T
    k_steps
    exact stream_end (by assumption) (by assumption) (by assumption) (by assumption) (by assumption) (by assumption) (by omega) (fun S ps ti a b c e d => ret S ps ti _ _ a b c e d)
  case rdc =>
    intro w p loose mean mg mb dp un gd env outer A₀ base h₀ L m news s Q E B F X T hf hke hdp hu C N S ok i ti hl hi hx t1 ret
    obtain ⟨f, d, fr, cr, la, ca, ct, fd, oc, oca, oct, hk, kt, qual, doc, pm, ctv, x, tx⟩ := S
    obtain ⟨⟨vs, tq, o1, o2⟩, o3, o4, n1, n2, n3, n4, n5, n6⟩ := ok
    dsimp only [Strm.led] at hl hi hx o1 o2 o3 o4 n1 n2 n3 n4 n5 n6 ret ⊢
    revert X; k_fill; intro X; k_with_none
    k_with "k_lk" => (first | (refine' lt_get ?h9 ?m9; (case h9 => with_reducible assumption); (case m9 => k_mem)) | (refine' Ne.symm (lt_get ?h9 ?m9); (case h9 => with_reducible assumption); (case m9 => k_mem)) | (refine' ana_get ?h9 ?m9; (case h9 => with_reducible assumption); (case m9 => k_mem)) | (refine' Ne.symm (ana_get ?h9 ?m9); (case h9 => with_reducible assumption); (case m9 => k_mem)) | with_reducible assumption | (refine Ne.symm ?_; with_reducible assumption) | fail "k_lk")
    k_with "k_ne" => first | k_extra "k_lk" | omega
    k_with "k_all" => (first | with_reducible assumption | (refine' lt_all ?h9; (case h9 => with_reducible assumption)) | fail "k_all")
    k_with "k_mem" => (first | exact mI0 | exact mI1 | exact mI2 | exact mI3 | exact mI4 | exact mI5 | exact mI6 | exact mI7 | exact mI8 | exact mI9 | exact mI10 | exact mI11 | (refine mS12 ?_; k_mem))
    k_with "k_room" => first | (refine' rm0 ?h9 ?k9; (case h9 => with_reducible assumption); (case k9 => exact Nat.le_of_ble_eq_true rfl)) | (refine' rm1 ?h9 ?k9; (case h9 => with_reducible assumption); (case k9 => exact Nat.le_of_ble_eq_true rfl)) | (refine' rm2 ?h9; (case h9 => with_reducible assumption)) | (refine' rm4 ?h9; (case h9 => with_reducible assumption)) | (simp only [depth_under_make, depth_under_kw, depth_in1, depth_deeper, depth_caller, recursionLimit] at *; omega)
    k_with "k_units" => first | (refine' rm0 ?h9 ?k9; (case h9 => with_reducible assumption); (case k9 => exact Nat.le_of_ble_eq_true rfl)) | (refine' rm1 ?h9 ?k9; (case h9 => with_reducible assumption); (case k9 => exact Nat.le_of_ble_eq_true rfl)) | (refine' rm2 ?h9; (case h9 => with_reducible assumption)) | (refine' rm4 ?h9; (case h9 => with_reducible assumption)) | (simp only [units_in1, units_deeper, Around.mark_units, units_caller, cLine] at *; omega)
    k_with "om" => (first | (refine neN ?_; (try dsimp only); k_extra "k_lk") | with_reducible assumption | exact Nat.le_of_ble_eq_true rfl | (refine' le_lit ?h9 ?k9; (case h9 => with_reducible assumption); (case k9 => exact Nat.le_of_ble_eq_true rfl)) | (refine' lt_lit ?h9 ?k9; (case h9 => with_reducible assumption); (case k9 => exact Nat.le_of_ble_eq_true rfl)) | (refine' rm0 ?h9 ?k9; (case h9 => with_reducible assumption); (case k9 => exact Nat.le_of_ble_eq_true rfl)) | (refine' rm1 ?h9 ?k9; (case h9 => with_reducible assumption); (case k9 => exact Nat.le_of_ble_eq_true rfl)) | (refine' rm2 ?h9; (case h9 => with_reducible assumption)) | (refine' rm4 ?h9; (case h9 => with_reducible assumption)) | omega (config := { splitDisjunctions := false }) | ((repeat (first | (rename _ ≠ _ ∧ _ => hq9; clear hq9) | (rename (_ ≠ _ ∧ _) ∧ _ => hq9; clear hq9))); omega (config := { splitDisjunctions := true })) | omega (config := { splitDisjunctions := true }) | ((repeat (rename (∀ p ∈ (_ : List (PySem.Addr × PySem.Obj)), @LT.lt Nat _ p.1 _) => hq9; (have hq8 := PySem.W.allLt_of hq9); clear hq9; simp only [PySem.W.AllLt, and_true] at hq8)); omega (config := { splitDisjunctions := true })))
    k_with "callWith ref" => (k_here; k_dflt (refine' callWith_K ?zs1 ?zs2 ?_; (case zs1 => k_asm); (case zs2 => k_is); k_whole))
    k_with "call builtin:len" => (k_here; (with_reducible show wpAny _ _ (call (Value.builtin _) [Value.ref _]) _ _ _); (with_unfolding_all refine' len_ints_fit ?zs1 ?zs2 ?zs3 ?_; (case zs1 => is_list); (case zs2 => l_ints); (case zs3 => l_fit); k_whole); (try simp only [List.length_append, List.length_cons, List.length_nil, Nat.zero_add]))
    k_with "subscriptTail Name" => (k_here; (with_reducible show wpAny _ _ (subscriptTail _ _ (Value.ref _) (Value.int _ _)) _ _ _); kim_at)
    k_with "getMethod ref" => (k_here; k_dflt (refine' method_inst ?zs1 ?zs2 ?zs3 ?zs4 ?zs5 ?zs6 ?zs7 ?_; (case zs1 => k_asm); (case zs2 => k_asm); (case zs3 => k_inst); (case zs4 => k_is); (case zs5 => k_is); (case zs6 => k_is); (case zs7 => k_get); k_whole))
    k_with "execs cons" => (refine seqK ?_; intro K9 tk9 hK9; (try dsimp only))
    k_with "KK next" => (refine' kk_next ?h9 ?_; (case h9 => with_reducible assumption))
    k_with "KK ret" => (refine' kk_ret ?h9 ?_; (case h9 => with_reducible assumption); (try dsimp only))
    k_with "KK brk" => (refine' kk_brk ?h9 ?_; (case h9 => with_reducible assumption); (try dsimp only))
    k_with "KK cont" => (refine' kk_cont ?h9 ?_; (case h9 => with_reducible assumption); (try dsimp only))
    k_with "ktr_unf" => (k_dflt (first | (refine' enterP ?zqk1 ?zqk2 ?zqk3 ?zqk4 ?zqk5 ?zqkA ?zqkF ?zqkK ?zqk6 ?zqk7 ?zqk8 ?zqk9 ?zqkB ?_ ?zqc2 ?zqc3 ?zqc4 ?zqc5; (case zqkA => exact rfl); (case zqkF => assumption); (case zqkK => assumption); (case zqk1 => k_asm); (case zqk2 => k_asm); (case zqk3 => k_asm); (case zqk4 => k_asm); (case zqk5 => k_asm); (case zqk6 => k_is); (case zqk7 => k_is); (case zqk8 => k_room); (case zqk9 => exact BindsTo.of_eq rfl); (case zqc5 => decide); (case zqkB => exact locs rfl); (case zqc2 => exact rfl); (case zqc3 => exact rfl); (case zqc4 => exact rfl); k_whole; intro g' L' h' F' N' B' X' T' l1; (try k_lt l1); (try dsimp only); (try k_lift B'); (try k_fold)) | (refine' enterPC ?zqk1 ?zqk2 ?zqk3 ?zqk4 ?zqk5 ?zqkA ?zqkF ?zqkK ?zqk6 ?zqk7 ?zqk8 ?zqk9 ?zqkB ?zqkD ?_ ?zqc2 ?zqc3 ?zqc4; (case zqkA => exact rfl); (case zqkF => assumption); (case zqkK => assumption); (case zqk1 => k_asm); (case zqk2 => k_asm); (case zqk3 => k_asm); (case zqk4 => k_asm); (case zqk5 => k_asm); (case zqk6 => k_is); (case zqk7 => k_is); (case zqk8 => k_room); (case zqk9 => exact BindsTo.of_eq rfl); (case zqkB => exact rfl); (case zqkD => decide +kernel); (case zqc2 => exact rfl); (case zqc3 => exact rfl); (case zqc4 => exact rfl); k_whole; intro g' L' h' tk' cells' F' N' Y' B' X' T' l1; (try k_lt l1); k_cells Y'; (try simp only [List.cons_append, List.nil_append] at N'); (try dsimp only); (try k_lift B'); (try k_fold))))
    k_with "setAttr ref" => (k_here; k_dflt (refine' fn_set ?zqn ?zqF ?zqN ?zqU ?_; (case zqn => exact fn_noread); (case zqF => k_asm); (case zqN => k_asm); (case zqU => k_updF); k_whole; intro d' h' F' N' l1; (try dsimp only at N'); (try k_lt l1)))
    k_with "ktr_unf" => (k_dflt (refine' enterN ?zqk1 ?zqk2 ?zqk3 ?zqk4 ?zqk5 ?zqkA ?zqkF ?zqkK ?zqk6 ?zqk7 ?zqk8 ?zqk9 ?zqkB ?_ ?zqc2 ?zqc3 ?zqc4 ?zqc5; (case zqkA => exact rfl); (case zqkF => assumption); (case zqkK => assumption); (case zqk1 => k_asm); (case zqk2 => k_asm); (case zqk3 => k_asm); (case zqk4 => k_asm); (case zqk5 => k_asm); (case zqk6 => k_mem); (case zqk7 => exact codeRec_news (by k_asm) (by k_mem) (by assumption) (by assumption)); (case zqk8 => k_room); (case zqk9 => exact BindsTo.of_eq rfl); (case zqc5 => decide); (case zqkB => exact locs rfl); (case zqc2 => exact rfl); (case zqc3 => exact rfl); (case zqc4 => exact rfl); k_whole; intro g' L' h' F' N' B' X' T' l1; (try k_lt l1); (try dsimp only); (try k_lift B'); (try k_fold)))
    replace N := cb_drop N hl
    clear hl
    ktr_unf
    clear F N B X T
    k_steps
    dsimp only [List.getD_cons_zero, Int.toNat_zero]
    obtain ⟨i', hr, hi'⟩ := slice_read (x := x) (i := i) hi
    exact read_end hi' (by assumption) (by assumption) n1 n2 n3 n4 n5 n6 (fun tj k => ret _ _ i' tj _ _ hr k)

end
end Mine
end
section
open PySem PySem.W PyProof.Rows PySem.Calls PySem.Spec
namespace Mine
section
variable {prog : Program} {w : World} {A₀ A : Around} {E : Value → Shared → Prop} {s : Shared} {base h₀ : Heap} {outer : List Env} {L : Addr} {m : Str → Option Value} {env : Env} {news : List (Addr × Obj)} {K : Frag}
  {Q : Value → Shared → Prop} {name qual : Str} {params : Arguments} {body : List Stmt} {scope : Scope} {dV kV doc pm cdv ct oc : Value} {an od : Option Addr} {osl : Array (Option Value)} {f : Addr} {vals : List Value} {binds : List (Str × Value)}
  {p : Program} {loose : List Str} {mean : ExcName → Option Value} {mg mb : Str → Option Value}
theorem enterPc (B : Below A₀ base outer h₀) (F : Fr h₀ L s.heap m) (X₀ : K.In h₀) (N : News h₀ L s.heap news) (T : Top p loose mean mg mb h₀) (hA : A.frames = some (env :: outer)) (hf : env.frame = some L) (hke : env.scope.kind = .function)
    (ho : K.lookup f = some ⟨oc, od, .func (fnOf name qual params body scope dV kV doc pm an cdv ct), osl⟩) (hcd : codeIn K cdv qual = true) (hroom : A.depth < recursionLimit)
    (hbind : BindsTo s (fnOf name qual params body scope dV kV doc pm an cdv ct) ⟨vals, []⟩ binds) (hloc : ∀ y ∈ binds, scope.names.lookup y.1 = some .local)
    (h : ∀ g L' h₁, Fr g L' h₁ (fun y => binds.reverse.lookup y) → News g L' h₁ news → Below A base (env :: outer) g → K.In g → Top p loose mean mg mb g → (∀ q ∈ news, q.1 < L') →
      wpAny (model prog w) (A.deeper (envOf qual scope L' f cdv)) (execs body (envOf qual scope L' f cdv))
        (fun fl s' => EndG s news g L' Q (match fl with | .ret v => v | _ => .none) s') (fun _ _ => False) { s with heap := h₁, toks := s.toks + binds.length })
    (hco : scope.isCoroutine = false) (hgen : scope.isGenerator = false) (hk : scope.kind = .function)
    (hcell : ∀ x ∈ scope.names, x.2 ≠ .cell) : codeAny (model prog w) A (.call (.ref f) ⟨vals, []⟩) (fun r s' => match r with | .ok (.ret v) => Q v s' | .ok _ => False | .error e => E e s') s := by
  obtain ⟨BG, st⟩ := ground_of B F N hA hf hke
  refine (codeAny_call_def (fd := fnX name qual params body scope [] dV kV doc pm an cdv ct) (body := body) (binds := binds) hroom ((X₀.keeps F.keep) _ _ ho) rfl (T.nolimit.keeps F.keep) (codeRec_of (X₀.keeps F.keep) hcd) rfl hbind hcell hloc (fun h₁ hns hk₁ => ?_) hco hgen hk)
  refine wpAny_mono (h _ s.heap.objs.size h₁ ⟨hns, fun b o e => hk₁ b o (of_hideAll _ e), Nat.le_of_eq (hideAll_size _ _)⟩
    (fun q hq => ⟨hk₁ _ _ (N q hq).1, Nat.ne_of_lt (Heap.lt_size (N q hq).1), hideAll_none _ (List.mem_map_of_mem hq)⟩) BG (X₀.keeps st) (T.keeps st) (fun q hq => Heap.lt_size (N q hq).1)) (fun fl s' hl => ?_) fun _ _ y => y.elim
  obtain ⟨m', news', F', N', k⟩ := hl
  have G := fun (b : Addr) (o : Obj) (e : s.heap.get? b = some o) (n : b ∉ news.map (·.1)) => hideAll_get (news.map (·.1)) e n
  exact k (fun b o e n => F'.keep b o (G b o e n)) (fun q hq => (N q hq).1) (fresh_after G N')

end
theorem slot_cit_next : Slot "callable_iterator" "__next__" "callable_iterator.__next__" :=
  .of (owner := "callable_iterator") (n := "__next__") (by rw [typeLookup_type, builtinLookup_eq_fast]; kernel_rfl) (by decide +kernel) (by decide +kernel) (by decide +kernel)
    (by first | exact .inl (by decide +kernel) | exact .inr (by decide +kernel)) (by rw [isSubtype_type]; kernel_rfl)
theorem slot_cit_iter : Slot "callable_iterator" "__iter__" "callable_iterator.__iter__" :=
  .of (owner := "callable_iterator") (n := "__iter__") (by rw [typeLookup_type, builtinLookup_eq_fast]; kernel_rfl) (by decide +kernel) (by decide +kernel) (by decide +kernel)
    (by first | exact .inl (by decide +kernel) | exact .inr (by decide +kernel)) (by rw [isSubtype_type]; kernel_rfl)
theorem entry_cit_next : entryFor table "callable_iterator.__next__" = some Builtin.«callable_iterator.__next__» := entryFor_of_tree (by kernel_rfl)
theorem entry_cit_iter : entryFor table "callable_iterator.__iter__" = some Builtin.«dict_keyiterator.__iter__» :=
  entryFor_alias (id' := "dict_keyiterator.__iter__") (by kernel_rfl) rfl (by decide +kernel) (by kernel_rfl)
theorem args_cit_next (a : Value) : argsOk "callable_iterator.__next__" ⟨[a], []⟩ := by unfold argsOk; kernel_rfl
theorem args_cit_iter (a : Value) : argsOk "callable_iterator.__iter__" ⟨[a], []⟩ := by unfold argsOk; kernel_rfl
theorem args_iter2 (a b : Value) : argsOk "iter" ⟨[a, b], []⟩ := by unfold argsOk; kernel_rfl
theorem meth_callable : typeLookup (.type "method") "__call__" = pure (some (.builtin "method.__call__")) := by rw [typeLookup_type, builtinLookup_eq_fast]; kernel_rfl

noncomputable abbrev citObj (q : Addr) (t : Tok) : Obj := { cls := .type "callable_iterator", data := .fields #[.ref q, .str ⟨#[]⟩ t, .bool false] }
section
variable {prog : Program} {w : World} {M : Model} {A : Around} {E : Value → Shared → Prop} {s : Shared} {h₀ : Heap} {L it q : Addr} {m : Str → Option Value} {news : List (Addr × Obj)} {g : Obj → List (Addr × Obj)}
theorem wpAny_callBorrowed {f : Value} {pos : List Value} {Q : Value → Shared → Prop} (hc : codeAny M A (.call f ⟨pos, []⟩) (fun r s' => match r with | .ok (.ret v) => Q v s' | .ok _ => False | .error e => E e s') s) :
    wpAny M A (callBorrowed f pos) Q E s := fun Γ p hΓ => by
  unfold callBorrowed
  rw [Sem.wp_call]
  refine wpCode_mono (fun r s' h => ?_) (hc _ p rfl (hΓ.enter (.call f ⟨pos, []⟩) none p (by intro x; cases x)))
  rcases r with e | (v | _ | _ | _)
  · exact h
  all_goals first | exact h | exact h.elim
theorem iter_callable {t : Tok} {f self : Value} {Q : Value → Shared → Prop} (F : Fr h₀ L s.heap m) (N : News h₀ L s.heap news) (hq : (q, methodObj f self) ∈ news)
    (h : ∀ I h', Fr h₀ L h' m → News h₀ L h' ((I, citObj q t) :: news) → (∀ q ∈ news, q.1 < I) → Q (.ref I) { s with heap := h' }) : wpAny (model prog w) A (call (.builtin "iter") [.ref q, .str ⟨#[]⟩ t]) Q E s := by
  refine call_function_entry (by decide +kernel) (by decide +kernel) kdk_entry_iter (args_iter2 _ _) ?_
  unfold Builtin.«iter»
  refine wpAny_bind (m := someArgs "iter" 1 2 _) (wpAny_of_eq (a := [Value.ref q, Value.str ⟨#[]⟩ t]) (by first | rfl | kernel_rfl!) ?_)
  (try dsimp only)
  refine wpAny_bind (wpAny_specialOf (T := "method") ⟨_, (N _ hq).1, rfl⟩ meth_callable ?_)
  rw [if_neg (by decide)]
  refine wpAny_bind (wpAny_rule (wpAny_bind (wpAny_newObj_type ?_ (by size_fits))))
  exact wpAny_pure ⟨_, rfl, h _ _ (F.push _) (News.push F N _ rfl) fun q hq => Heap.lt_size (N q hq).1⟩
theorem iter_cit {t : Tok} {Q : Value → Shared → Prop} (hit : s.heap.get? it = some (citObj q t)) (h : Q (.ref it) s) : wpAny (model prog w) A (pyIter (.ref it)) Q E s := by
  have hT : s.TypeIs (.ref it) "callable_iterator" := ⟨_, hit, rfl⟩
  refine wpAny_pyIter_slot hT slot_cit_iter (wpAny_call_entry slot_cit_iter hT entry_cit_iter ?_ (args_cit_iter _))
  show wpAny _ _ (ret (.ref it)) _ _ s
  exact wpAny_pure ⟨_, rfl, "callable_iterator", _, hT, slot_cit_next.lookup, h⟩

theorem borrows_meth {a : Addr} {self : Value} {o : Obj} {fd : FuncData} {Q : Bool → Shared → Prop} (hq : s.heap.get? q = some (methodObj (.ref a) self)) (ha : s.heap.get? a = some o) (hfd : o.data = .func fd) (h : Q true s) : wpAny M A (borrowsExactly (.ref q)) Q E s := by
  unfold borrowsExactly
  (try dsimp only)
  refine wpAny_bind (wpAny_load hq ?_)
  (try dsimp only)
  rw [if_pos (by decide)]
  show wpAny _ _ (load a >>= _) _ _ _
  refine wpAny_bind (wpAny_load ha ?_)
  rw [hfd]
  exact wpAny_pure h
noncomputable abbrev citOver : Obj := { cls := .type "callable_iterator", data := .fields #[.none, .none, .bool true] }
theorem next_cit {t : Tok} {x : Addr} {fd : FuncData} {Q : Option Value → Shared → Prop} (hh : A.handled = none) (hit : s.heap.get? it = some (citObj q t)) (hq : s.heap.get? q = some (methodObj (.ref 35) (.ref x))) {o35 : Obj} (h35 : s.heap.get? 35 = some o35) (hfd : o35.data = .func fd)
    (h : codeAny (model prog w) A.in1 (.call (.ref 35) ⟨[.ref x], []⟩) (fun r s' => match r with
      | .ok (.ret v) => ∃ (y : Str) (ty : Tok), v = .str y ty ∧ s'.heap.get? it = some (citObj q t) ∧ s'.heap.get? q = some (methodObj (.ref 35) (.ref x)) ∧ s'.heap.get? 35 = some o35 ∧
          (y ≠ ⟨#[]⟩ → Q (some v) s') ∧ (y = ⟨#[]⟩ → ∀ h', h'.get? it = some { cls := .type "callable_iterator", data := .fields #[.none, .none, .bool true] } → Heap.ExtBut it s'.heap h' → Q none { s' with heap := h' })
      | _ => False) s) : wpAny (model prog w) A (pyNext (.ref it)) Q E s := by
  have hT : s.TypeIs (.ref it) "callable_iterator" := ⟨_, hit, rfl⟩
  unfold pyNext
  refine wpAny_bind (wpAny_attempt (wpAny_callSpecial?_slot (name := Str.ofString "__next__") hT slot_cit_next
    (wpAny_call_entry slot_cit_next hT entry_cit_next ?_ (args_cit_next _))))
  unfold Builtin.«callable_iterator.__next__»
  refine wpAny_bind (m := slotArgs "__next__" 0 _) (wpAny_of_eq (a := (Value.ref it, [])) (by first | rfl | kernel_rfl!) ?_)
  (try dsimp only)
  refine wpAny_bind (wpAny_field hit rfl (x := .bool false) rfl ?_)
  rw [if_neg (by decide)]
  refine wpAny_bind (wpAny_field hit rfl (x := .ref q) rfl ?_)
  refine wpAny_bind (wpAny_attempt ?_)
  unfold callOutOfASlot
  refine wpAny_bind (borrows_meth hq h35 hfd ?_)
  rw [if_pos rfl]
  refine wpAny_callBorrowed (method_call hq (codeAny_mono h fun r s' hr => ?_))
  have hr' : ∃ v, r = .ok (.ret v) := by
    rcases r with e | f
    · exact hr.elim
    · cases f <;> first | exact hr.elim | exact ⟨_, rfl⟩
  obtain ⟨v, rfl⟩ := hr'
  dsimp only at hr ⊢
  obtain ⟨y, ty, rfl, hit', hq', h35', hy, he⟩ := hr
  refine wpAny_bind (wpAny_field hit' rfl (x := .bool false) rfl ?_)
  rw [if_neg (by decide)]
  refine wpAny_bind (wpAny_field hit' rfl (x := .str ⟨#[]⟩ t) rfl ?_)
  refine wpAny_bind (wpAny_holding (wpAny_eqBool_str ?_))
  by_cases hy0 : y = ⟨#[]⟩
  · subst hy0
    rw [if_neg (by simp)]
    refine wpAny_bind (wpAny_rule (wpAny_bind ?_))
    show wpAny _ _ (field (.ref it) 0 >>= _) _ _ _
    refine wpAny_bind (wpAny_field hit' rfl (x := .ref q) rfl ?_)
    refine wpAny_bind (m := slotLetsGo _ _ _) ?_
    unfold slotLetsGo
    (try dsimp only)
    refine wpAny_bind (borrows_meth hq' h35' hfd ?_)
    rw [if_pos rfl]
    refine wpAny_pure ?_
    refine wpAny_bind (wpAny_setField_rec hit' (by simp) fun h1 hh1 hs1 => ?_)
    refine wpAny_bind (wpAny_setField_rec hh1 (by simp) fun h2 hh2 hs2 => ?_)
    refine wpAny_setField_rec hh2 (by simp) fun h3 hh3 hs3 => ?_
    (try dsimp only)
    unfold Builtin.SmallTypes.stopIteration
    show wpAny _ _ (newExc (.type "StopIteration") [] >>= _) _ _ _
    refine wpAny_bind ?_
    simp only [newExc, newTuple]
    refine wpAny_bind (wpAny_newObj_type ?_ (by size_fits))
    refine wpAny_bind (m := firstArgMember _ _) (wpAny_of_eq (a := Value.none) (by first | rfl | (simp only [firstArgMember]; rfl)) ?_)
    refine wpAny_newObj_type ?_ (by size_fits)
    simp only [raiseNew]
    refine wpAny_bind (wpAny_handled ?_)
    rw [show A.in1.handled = none from hh]
    refine wpAny_bind (wpAny_pure (wpAny_throw ?_))
    refine wpAny_bind (wpAny_isInstance (T := "StopIteration") (b := true) ⟨_, Heap.get?_push_size _ rfl, rfl⟩ isSubtype_stop ?_)
    refine wpAny_pure (he rfl _ ?_ ?_)
    · exact Heap.get?_push_of_some _ (Heap.get?_push_of_some _ hh3)
    · exact fun b o hb e => Heap.get?_push_of_some _ (Heap.get?_push_of_some _ (hs3.extBut b o hb (hs2.extBut b o hb (hs1.extBut b o hb e))))
  · rw [if_pos (by simpa using fun e => hy0 e.symm)]
    exact wpAny_pure ⟨_, rfl, wpAny_pure (hy hy0)⟩
theorem next_over {Q : Option Value → Shared → Prop} (hh : A.handled = none) (hit : s.heap.get? it = some citOver) (h : ∀ h', (∀ b o, s.heap.get? b = some o → h'.get? b = some o) → Q none { s with heap := h' }) : wpAny (model prog w) A (pyNext (.ref it)) Q E s := by
  have hT : s.TypeIs (.ref it) "callable_iterator" := ⟨_, hit, rfl⟩
  unfold pyNext
  refine wpAny_bind (wpAny_attempt (wpAny_callSpecial?_slot (name := Str.ofString "__next__") hT slot_cit_next
    (wpAny_call_entry slot_cit_next hT entry_cit_next ?_ (args_cit_next _))))
  unfold Builtin.«callable_iterator.__next__»
  refine wpAny_bind (m := slotArgs "__next__" 0 _) (wpAny_of_eq (a := (Value.ref it, [])) (by first | rfl | kernel_rfl!) ?_)
  (try dsimp only)
  refine wpAny_bind (wpAny_field hit rfl (x := .bool true) rfl ?_)
  rw [if_pos (by decide)]
  refine wpAny_bind (wpAny_rule ?_)
  refine wpAny_bind ?_
  unfold Builtin.SmallTypes.stopIteration
  show wpAny _ _ (newExc (.type "StopIteration") [] >>= _) _ _ _
  refine wpAny_bind ?_
  simp only [newExc, newTuple]
  refine wpAny_bind (wpAny_newObj_type ?_ (by size_fits))
  refine wpAny_bind (m := firstArgMember _ _) (wpAny_of_eq (a := Value.none) (by first | rfl | (simp only [firstArgMember]; rfl)) ?_)
  refine wpAny_newObj_type ?_ (by size_fits)
  simp only [raiseNew]
  refine wpAny_bind (wpAny_handled ?_)
  rw [show A.in1.handled = none from hh]
  refine wpAny_bind (wpAny_pure (wpAny_throw ?_))
  refine wpAny_bind (wpAny_isInstance (T := "StopIteration") (b := true) ⟨_, Heap.get?_push_size _ rfl, rfl⟩ isSubtype_stop ?_)
  exact wpAny_pure (h _ fun b o e => Heap.get?_push_of_some _ (Heap.get?_push_of_some _ e))
end
end Mine
end
section
open PySem PySem.W PyProof.Rows PySem.Calls PySem.Spec
namespace Mine


section
variable {w : World} {p : Program} {loose : List Str} {mean : ExcName → Option Value} {mg mb : Str → Option Value} {dp un : Nat} {gd : Option (List Code)} {env : Env} {outer : List Env} {A₀ : Around} {base h₀ : Heap} {L : Addr} {m : Str → Option Value} {news : List (Addr × Obj)} {s : Shared} {Q E : Value → Shared → Prop}

noncomputable def rdP : Arguments := Classical.choose stream_read
noncomputable def rdB : List Stmt := Classical.choose (Classical.choose_spec stream_read)
noncomputable def rdS : Scope := Classical.choose (Classical.choose_spec (Classical.choose_spec stream_read))
theorem stream_c : StreamC rdP rdB rdS := (Classical.choose_spec (Classical.choose_spec (Classical.choose_spec stream_read))).1
theorem read_c : ReadC rdP rdB rdS := (Classical.choose_spec (Classical.choose_spec (Classical.choose_spec stream_read))).2
noncomputable abbrev Strm.lg (S : Strm) (i : Nat) (ti : Tok) : List (Addr × Obj) := S.led rdP rdB rdS i ti

structure Lx where
  (x dx pb f : Addr) (h1 h2 h3 h4 : Int) (k1 k2 k3 k4 tw : Tok)
noncomputable abbrev Lx.D (Y : Lx) (ln : Int) (tl : Tok) : Obj := dictOf [⟨Y.h1, .str (Str.ofString "lineno") Y.k1, .int ln tl⟩, ⟨Y.h2, .str (Str.ofString "instream") Y.k2, .ref Y.f⟩, ⟨Y.h3, .str (Str.ofString "whitespace") Y.k3, .str (Str.ofString "\n\t\x0d ") Y.tw⟩, ⟨Y.h4, .str (Str.ofString "pushback") Y.k4, .ref Y.pb⟩] 4
noncomputable abbrev Lx.led (Y : Lx) (ln : Int) (tl : Tok) (ps : Array Value) (np : Nat) : List (Addr × Obj) := [(Y.pb, listOf ps np), (Y.x, instObj 52 Y.dx), (Y.dx, Y.D ln tl)]
/-- the lexer's own parts are none of the stream's -/
noncomputable abbrev Lx.off (Y : Lx) (S : Strm) : Prop := Y.f = S.f ∧ @Ne Nat Y.pb Y.dx ∧ @Ne Nat Y.x Y.dx ∧ @Ne Nat S.d Y.dx ∧ @Ne Nat S.f Y.dx ∧ @Ne Nat S.fr Y.dx ∧ @Ne Nat S.cr Y.dx ∧ @Ne Nat S.la Y.dx ∧ @Ne Nat S.ca Y.dx ∧ @Ne Nat S.ct Y.dx ∧ @Ne Nat Y.pb S.la ∧ @Ne Nat Y.x S.la

theorem ne_all {d : Addr} {r : List (Addr × Obj)} (h : ∀ p ∈ r, p.1 < d) : ∀ p ∈ r, p.1 ≠ d := fun p hp => Nat.ne_of_lt (h p hp)
theorem init_use (B : Below A₀ base outer h₀) (F : Fr h₀ L s.heap m) (X : (hd.heap_1 w.params).In h₀) (T : Top p loose mean mg mb h₀) (hf : env.frame = some L) (hke : env.scope.kind = .function) (hdp : dp + 2 < recursionLimit) (hu : un + 40 < cLine) (N : News h₀ L s.heap news) (f : Addr) (o : Obj) (hN : (f, o) ∈ news)
   (ret : ∀ (Y : Lx) tl h' tk', Y.f = f → Fr h₀ L h' m → News h₀ L h' (Y.led 1 tl #[] 0 ++ news) → (∀ q ∈ news, q.1 < Y.dx) → Y.dx < Y.x → Y.x < Y.pb → Q (.ref Y.x) { s with heap := h', toks := tk' }) :
   wpAny (model PySem.Challenge.rw_sr0006_01.row.prog w) (Am dp un gd env outer) (call (.ref 52) [.ref f]) Q E s := by
  k_with_none
  k_with "k_lk" => (first | (refine' lt_get ?h9 ?m9; (case h9 => with_reducible assumption); (case m9 => k_mem)) | (refine' Ne.symm (lt_get ?h9 ?m9); (case h9 => with_reducible assumption); (case m9 => k_mem)) | (refine' ana_get ?h9 ?m9; (case h9 => with_reducible assumption); (case m9 => k_mem)) | (refine' Ne.symm (ana_get ?h9 ?m9); (case h9 => with_reducible assumption); (case m9 => k_mem)) | with_reducible assumption | (refine Ne.symm ?_; with_reducible assumption) | fail "k_lk")
  k_with "k_ne" => first | k_extra "k_lk" | omega
  k_with "k_all" => (first | with_reducible assumption | (refine' lt_all ?h9; (case h9 => with_reducible assumption)) | fail "k_all")
  k_with "k_mem" => (first | exact mI0 | exact mI1 | exact mI2 | exact mI3 | exact mI4 | exact mI5 | exact mI6 | exact mI7 | exact mI8 | exact mI9 | exact mI10 | exact mI11 | (refine mS12 ?_; k_mem))
  k_with "k_room" => first | (refine' rm0 ?h9 ?k9; (case h9 => with_reducible assumption); (case k9 => exact Nat.le_of_ble_eq_true rfl)) | (refine' rm1 ?h9 ?k9; (case h9 => with_reducible assumption); (case k9 => exact Nat.le_of_ble_eq_true rfl)) | (refine' rm2 ?h9; (case h9 => with_reducible assumption)) | (refine' rm4 ?h9; (case h9 => with_reducible assumption)) | (simp only [depth_under_make, depth_under_kw, depth_in1, depth_deeper, depth_caller, recursionLimit] at *; omega)
  k_with "k_units" => first | (refine' rm0 ?h9 ?k9; (case h9 => with_reducible assumption); (case k9 => exact Nat.le_of_ble_eq_true rfl)) | (refine' rm1 ?h9 ?k9; (case h9 => with_reducible assumption); (case k9 => exact Nat.le_of_ble_eq_true rfl)) | (refine' rm2 ?h9; (case h9 => with_reducible assumption)) | (refine' rm4 ?h9; (case h9 => with_reducible assumption)) | (simp only [units_in1, units_deeper, Around.mark_units, units_caller, cLine] at *; omega)
  k_with "om" => (first | (refine neN ?_; (try dsimp only); k_extra "k_lk") | with_reducible assumption | exact Nat.le_of_ble_eq_true rfl | (refine' le_lit ?h9 ?k9; (case h9 => with_reducible assumption); (case k9 => exact Nat.le_of_ble_eq_true rfl)) | (refine' lt_lit ?h9 ?k9; (case h9 => with_reducible assumption); (case k9 => exact Nat.le_of_ble_eq_true rfl)) | (refine' rm0 ?h9 ?k9; (case h9 => with_reducible assumption); (case k9 => exact Nat.le_of_ble_eq_true rfl)) | (refine' rm1 ?h9 ?k9; (case h9 => with_reducible assumption); (case k9 => exact Nat.le_of_ble_eq_true rfl)) | (refine' rm2 ?h9; (case h9 => with_reducible assumption)) | (refine' rm4 ?h9; (case h9 => with_reducible assumption)) | omega (config := { splitDisjunctions := false }) | ((repeat (first | (rename _ ≠ _ ∧ _ => hq9; clear hq9) | (rename (_ ≠ _ ∧ _) ∧ _ => hq9; clear hq9))); omega (config := { splitDisjunctions := true })) | omega (config := { splitDisjunctions := true }) | ((repeat (rename (∀ p ∈ (_ : List (PySem.Addr × PySem.Obj)), @LT.lt Nat _ p.1 _) => hq9; (have hq8 := PySem.W.allLt_of hq9); clear hq9; simp only [PySem.W.AllLt, and_true] at hq8)); omega (config := { splitDisjunctions := true })))
  k_with "callWith ref" => (k_here; k_dflt (refine' callWith_K ?zs1 ?zs2 ?_; (case zs1 => k_asm); (case zs2 => k_is); k_whole))
  k_with "call builtin:len" => (k_here; (with_reducible show wpAny _ _ (call (Value.builtin _) [Value.ref _]) _ _ _); (with_unfolding_all refine' len_ints_fit ?zs1 ?zs2 ?zs3 ?_; (case zs1 => is_list); (case zs2 => l_ints); (case zs3 => l_fit); k_whole); (try simp only [List.length_append, List.length_cons, List.length_nil, Nat.zero_add]))
  k_with "subscriptTail Name" => (k_here; (with_reducible show wpAny _ _ (subscriptTail _ _ (Value.ref _) (Value.int _ _)) _ _ _); kim_at)
  k_with "getMethod ref" => (k_here; k_dflt (refine' method_inst ?zs1 ?zs2 ?zs3 ?zs4 ?zs5 ?zs6 ?zs7 ?_; (case zs1 => k_asm); (case zs2 => k_asm); (case zs3 => k_inst); (case zs4 => k_is); (case zs5 => k_is); (case zs6 => k_is); (case zs7 => k_get); k_whole))
  k_with "execs cons" => (refine seqK ?_; intro K9 tk9 hK9; (try dsimp only))
  k_with "KK next" => (refine' kk_next ?h9 ?_; (case h9 => with_reducible assumption))
  k_with "KK ret" => (refine' kk_ret ?h9 ?_; (case h9 => with_reducible assumption); (try dsimp only))
  k_with "KK brk" => (refine' kk_brk ?h9 ?_; (case h9 => with_reducible assumption); (try dsimp only))
  k_with "KK cont" => (refine' kk_cont ?h9 ?_; (case h9 => with_reducible assumption); (try dsimp only))
  k_with "call ref" => (k_here; k_dflt (refine' call_cls ?zqk1 ?zqk2 ?zqk3 ?zqk4 ?zqk5 ?zqk6 ?_; (case zqk1 => k_asm); (case zqk2 => k_asm); (case zqk3 => k_asm); (case zqk4 => k_is); (case zqk5 => k_is); (case zqk6 => k_is); k_whole; intro x' d' h' F' N' l1 l2; (try k_lt l1); (try k_lt2 l2); (try k_sweep); (refine' code_def ?zqk1 ?zqk2 ?zqk3 ?zqk4 ?zqk5 ?zqkA ?zqkF ?zqkK ?zqk6 ?zqk7 ?zqk8 ?zqk9 ?zqkB ?_ ?zqc2 ?zqc3 ?zqc4 ?zqc5; (case zqkA => exact rfl); (case zqkF => assumption); (case zqkK => assumption); (case zqk1 => k_asm); (case zqk2 => k_asm); (case zqk3 => k_asm); (case zqk4 => k_asm); (case zqk5 => k_asm); (case zqk6 => k_is); (case zqk7 => k_is); (case zqk8 => k_room); (case zqk9 => first | exact BindsTo.of_eq rfl | exact binds_K (by k_in) rfl (by k_is) rfl rfl rfl | fail "k_enter: no rule for these arguments"); (case zqc5 => decide); (case zqkB => exact locs rfl); (case zqc2 => exact rfl); (case zqc3 => exact rfl); (case zqc4 => exact rfl); k_whole; intro g' L' h' FG' F' N' B' X' T'; (try dsimp only); (try k_lift B'); (try k_fold))))
  revert X; k_fill; intro X
  k_steps
  refine' ret ⟨?x, ?dx, ?pb, f, ?h1, ?h2, ?h3, ?h4, ?k1, ?k2, ?k3, ?k4, ?tw⟩ ?tl _ _ rfl ?F ?N ?c1 ?c2 ?c3
  case F => assumption
  case N => assumption
  case c1 => assumption
  case c2 => assumption
  case c3 => (show @LT.lt Nat _ _ _; dsimp only; omega)

end
end Mine
end
section
open PySem PySem.W PyProof.Rows PySem.Calls PySem.Spec
namespace Mine


section
variable {w : World} {p : Program} {loose : List Str} {mean : ExcName → Option Value} {mg mb : Str → Option Value} {dp un : Nat} {gd : Option (List Code)} {env : Env} {outer : List Env} {A₀ : Around} {base h₀ : Heap} {L : Addr} {m : Str → Option Value} {news : List (Addr × Obj)} {s : Shared} {Q E : Value → Shared → Prop}

theorem nl_yes {v : Str} (h : (v == Str.ofString "\n") = true) : v = ⟨#[10]⟩ := (eq_of_beq h).trans (by decide)
theorem nl_no {v : Str} (h : (v == Str.ofString "\n") = false) : v ≠ ⟨#[10]⟩ := fun e => by
  rw [e, show (Str.ofString "\n") = (⟨#[10]⟩ : Str) from by decide] at h
  simp at h
theorem rc_end {g h' : Heap} {L' la d f fr cr ca ct pb xx dx : Addr} {o1 o2 o3 o4 o6 o7 p1 p2 p3 p3' : Obj} {m' : Str → Option Value} {tk : Nat} {R : Value → Shared → Prop} {v : Value} {i i' : Nat} {ti ti' : Tok}
   (F' : Fr g L' h' m') (N' : News g L' h' [(pb, p1), (xx, p2), (dx, p3'), (d, o1), (f, o2), (fr, o3), (cr, o4), (la, listOf #[.int (i' : Nat) ti'] 0), (ca, o6), (ct, o7)])
   (k : Led' s.heap h' [dx, la] [(dx, p3'), (la, listOf #[.int (i' : Nat) ti'] 0)] → R v { s with heap := h', toks := tk }) :
   EndG s [(pb, p1), (xx, p2), (dx, p3), (d, o1), (f, o2), (fr, o3), (cr, o4), (la, listOf #[.int (i : Nat) ti] 0), (ca, o6), (ct, o7)] g L' R v { s with heap := h', toks := tk } := by
  refine end_led (turned := [dx, la]) (made := [(dx, p3'), (la, listOf #[.int (i' : Nat) ti'] 0)]) F' N' (fun q hq => ?_) (fun q hq => ?_) (fun q hq => ?_) k
  · simp only [List.mem_cons, List.not_mem_nil, or_false] at hq ⊢
    rcases hq with h | h | h | h | h | h | h | h | h | h <;> simp [h]
  · simp only [List.mem_cons, List.not_mem_nil, or_false] at hq ⊢
    rcases hq with h | h <;> simp [h]
  · simp only [List.mem_cons, List.not_mem_nil, or_false] at hq ⊢
    rcases hq with h | h <;> simp [h]
theorem upd_ne {d a : Addr} {o o' : Obj} {g : Obj → List (Addr × Obj)} (U : UpdF d o news g) (hm : (a, o') ∈ news) (hne : o' ≠ o) : @Ne Nat a d := by
  obtain ⟨pre, post, rfl, _, h1, h2⟩ := U.split
  rcases List.mem_append.mp hm with h | h
  · exact h1 _ h
  · rcases List.mem_cons.mp h with h | h
    · cases h; exact absurd rfl hne
    · exact h2 _ h
theorem read1_use (B : Below A₀ base outer h₀) (F : Fr h₀ L s.heap m) (X : (hd.heap_1 w.params).In h₀) (T : Top p loose mean mg mb h₀) (hf : env.frame = some L) (hke : env.scope.kind = .function) (hdp : dp + 2 < recursionLimit) (hu : un + 40 < cLine) (C : CodeHd base 97 93) (N : News h₀ L s.heap news) {f d fr cr la ca ct : Addr} {fd : FuncData} {oc oca oct : Obj} {hk : Int} {kt tx ti tq : Tok} {qual x : Str} {doc pm ctv : Value} {vs : Array Value} {g : Obj → List (Addr × Obj)} {i : Nat} (t1 : Tok)
   (m3 : (fr, fnMade (Str.ofString "read") qual rdP rdB rdS [(Str.ofString "text", ct), (Str.ofString "at", ca)] doc pm cr ctv) ∈ news) (m1 : (d, dictOf [⟨hk, .str (Str.ofString "read") kt, .ref fr⟩] 1) ∈ news) (m2 : (f, { cls := .type "function", dict := some d, data := .func fd }) ∈ news)
   (m4 : (cr, oc) ∈ news) (m6 : (ca, oca) ∈ news) (m7 : (ct, oct) ∈ news) (k1 : oc.data = .fields vs) (k2 : vs[1]? = some (.str qual tq)) (k3 : oca.data = .cell (some (.ref la))) (k4 : oct.data = .cell (some (.str x tx)))
   (U : UpdF la (listOf #[.int (i : Nat) ti] 0) news g) (hi : i ≤ x.length) (hx : x.length ≤ 10000)
   (ret : ∀ v t i' ti' h' tk', ReadTo x i v i' → Fr h₀ L h' m → News h₀ L h' (g (listOf #[.int (i' : Nat) ti'] 0)) → Q (.str v t) { s with heap := h', toks := tk' }) :
   wpAny (model PySem.Challenge.rw_sr0006_01.row.prog w) (Am dp un gd env outer) (call (.ref fr) [.int 1 t1]) Q E s :=
  read_c B F X T hf hke hdp hu C N ⟨f, d, fr, cr, la, ca, ct, fd, oc, oca, oct, hk, kt, qual, doc, pm, ctv, x, tx⟩
    ⟨⟨vs, tq, k1, k2⟩, k3, k4, upd_ne U m1 (fun e => by have := congrArg Obj.data e; cases this), upd_ne U m2 (fun e => by have := congrArg Obj.data e; cases this), upd_ne U m3 (fun e => by have := congrArg Obj.data e; cases this),
      upd_ne U m4 (fun e => by rw [e] at k1; cases k1), upd_ne U m6 (fun e => by rw [e] at k3; cases k3), upd_ne U m7 (fun e => by rw [e] at k4; cases k4)⟩ i ti
    (fun q hq => by
      simp only [List.mem_cons, List.not_mem_nil, or_false] at hq
      rcases hq with rfl | rfl | rfl | rfl | rfl | rfl | rfl
      · exact m1
      · exact m2
      · exact m3
      · exact m4
      · exact upd_mem U
      · exact m6
      · exact m7) hi hx t1 fun v t i' ti' h' tk' hr k =>
    let ⟨F', N'⟩ := took_upd F N U (fun b o hb e => k.1 b o (by simpa using hb) e) (k.2 _ (.head _)).2
    ret v t i' ti' h' tk' hr F' N'
theorem readchar_code (B : Below A₀ base outer h₀) (F : Fr h₀ L s.heap m) (X : (hd.heap_1 w.params).In h₀) (T : Top p loose mean mg mb h₀) (hf : env.frame = some L) (hke : env.scope.kind = .function) (hdp : dp + 6 < recursionLimit) (hu : un + 90 < cLine) (C : CodeHd base 97 93) (N : News h₀ L s.heap news) (S : Strm) (ok : S.ok) (Y : Lx) (i : Nat) (ti : Tok) (ln : Int) (tl : Tok) (ps : Array Value) (np : Nat) (off : Y.off S) (hl : ∀ q ∈ S.lg i ti, q ∈ news) (hy : ∀ q ∈ Y.led ln tl ps np, q ∈ news) (hi : i ≤ S.x.length) (hx : S.x.length ≤ 10000)
   (ret : ∀ v t i' ti' ln' tl' h' tk', ReadTo S.x i v i' → ln' = ln + (if v = ⟨#[10]⟩ then 1 else 0) → Led' s.heap h' [Y.dx, S.la] [(Y.dx, Y.D ln' tl'), (S.la, listOf #[.int (i' : Nat) ti'] 0)] → Q (.str v t) { s with heap := h', toks := tk' }) :
   codeAny (model PySem.Challenge.rw_sr0006_01.row.prog w) (Am dp un gd env outer) (.call (.ref 35) ⟨[.ref Y.x], []⟩) (fun r s' => match r with | .ok (.ret v) => Q v s' | .ok _ => False | .error e => E e s') s := by
  obtain ⟨f, d, fr, cr, la, ca, ct, fd, oc, oca, oct, hk, kt, qual, doc, pm, ctv, x, tx⟩ := S
  obtain ⟨xx, dx, pb, f', h1, h2, h3, h4, k1, k2, k3, k4, tw⟩ := Y
  obtain ⟨rfl, a1, a2, a3, a4, a5, a6, a7, a8, a9, a10, a11⟩ := off
  have ok' := ok
  obtain ⟨⟨vs, tq, o1, o2⟩, o3, o4, n1, n2, n3, n4, n5, n6⟩ := ok'
  dsimp only at hi hx o1 o2 o3 o4 n1 n2 n3 n4 n5 n6 a1 a2 a3 a4 a5 a6 a7 a8 a9 a10 a11 ret ⊢
  revert X; k_fill; intro X; k_with_none
  k_with "k_lk" => (first | (refine' lt_get ?h9 ?m9; (case h9 => with_reducible assumption); (case m9 => k_mem)) | (refine' Ne.symm (lt_get ?h9 ?m9); (case h9 => with_reducible assumption); (case m9 => k_mem)) | (refine' ana_get ?h9 ?m9; (case h9 => with_reducible assumption); (case m9 => k_mem)) | (refine' Ne.symm (ana_get ?h9 ?m9); (case h9 => with_reducible assumption); (case m9 => k_mem)) | with_reducible assumption | (refine Ne.symm ?_; with_reducible assumption) | fail "k_lk")
  k_with "k_ne" => first | k_extra "k_lk" | omega
  k_with "k_all" => (first | with_reducible assumption | (refine' lt_all ?h9; (case h9 => with_reducible assumption)) | fail "k_all")
  k_with "k_mem" => (first | exact mI0 | exact mI1 | exact mI2 | exact mI3 | exact mI4 | exact mI5 | exact mI6 | exact mI7 | exact mI8 | exact mI9 | exact mI10 | exact mI11 | (refine mS12 ?_; k_mem))
  k_with "k_room" => first | (refine' rm0 ?h9 ?k9; (case h9 => with_reducible assumption); (case k9 => exact Nat.le_of_ble_eq_true rfl)) | (refine' rm1 ?h9 ?k9; (case h9 => with_reducible assumption); (case k9 => exact Nat.le_of_ble_eq_true rfl)) | (refine' rm2 ?h9; (case h9 => with_reducible assumption)) | (refine' rm4 ?h9; (case h9 => with_reducible assumption)) | (simp only [depth_under_make, depth_under_kw, depth_in1, depth_deeper, depth_caller, recursionLimit] at *; omega)
  k_with "k_units" => first | (refine' rm0 ?h9 ?k9; (case h9 => with_reducible assumption); (case k9 => exact Nat.le_of_ble_eq_true rfl)) | (refine' rm1 ?h9 ?k9; (case h9 => with_reducible assumption); (case k9 => exact Nat.le_of_ble_eq_true rfl)) | (refine' rm2 ?h9; (case h9 => with_reducible assumption)) | (refine' rm4 ?h9; (case h9 => with_reducible assumption)) | (simp only [units_in1, units_deeper, Around.mark_units, units_caller, cLine] at *; omega)
  k_with "om" => (first | (refine neN ?_; (try dsimp only); k_extra "k_lk") | with_reducible assumption | exact Nat.le_of_ble_eq_true rfl | (refine' le_lit ?h9 ?k9; (case h9 => with_reducible assumption); (case k9 => exact Nat.le_of_ble_eq_true rfl)) | (refine' lt_lit ?h9 ?k9; (case h9 => with_reducible assumption); (case k9 => exact Nat.le_of_ble_eq_true rfl)) | (refine' rm0 ?h9 ?k9; (case h9 => with_reducible assumption); (case k9 => exact Nat.le_of_ble_eq_true rfl)) | (refine' rm1 ?h9 ?k9; (case h9 => with_reducible assumption); (case k9 => exact Nat.le_of_ble_eq_true rfl)) | (refine' rm2 ?h9; (case h9 => with_reducible assumption)) | (refine' rm4 ?h9; (case h9 => with_reducible assumption)) | omega (config := { splitDisjunctions := false }) | ((repeat (first | (rename _ ≠ _ ∧ _ => hq9; clear hq9) | (rename (_ ≠ _ ∧ _) ∧ _ => hq9; clear hq9))); omega (config := { splitDisjunctions := true })) | omega (config := { splitDisjunctions := true }) | ((repeat (rename (∀ p ∈ (_ : List (PySem.Addr × PySem.Obj)), @LT.lt Nat _ p.1 _) => hq9; (have hq8 := PySem.W.allLt_of hq9); clear hq9; simp only [PySem.W.AllLt, and_true] at hq8)); omega (config := { splitDisjunctions := true })))
  k_with "callWith ref" => (k_here; k_dflt (refine' callWith_K ?zs1 ?zs2 ?_; (case zs1 => k_asm); (case zs2 => k_is); k_whole))
  k_with "call builtin:len" => (k_here; (with_reducible show wpAny _ _ (call (Value.builtin _) [Value.ref _]) _ _ _); (with_unfolding_all refine' len_ints_fit ?zs1 ?zs2 ?zs3 ?_; (case zs1 => is_list); (case zs2 => l_ints); (case zs3 => l_fit); k_whole); (try simp only [List.length_append, List.length_cons, List.length_nil, Nat.zero_add]))
  k_with "subscriptTail Name" => (k_here; (with_reducible show wpAny _ _ (subscriptTail _ _ (Value.ref _) (Value.int _ _)) _ _ _); kim_at)
  k_with "getMethod ref" => (k_here; k_dflt (refine' method_inst ?zs1 ?zs2 ?zs3 ?zs4 ?zs5 ?zs6 ?zs7 ?_; (case zs1 => k_asm); (case zs2 => k_asm); (case zs3 => k_inst); (case zs4 => k_is); (case zs5 => k_is); (case zs6 => k_is); (case zs7 => k_get); k_whole))
  k_with "execs cons" => (refine seqK ?_; intro K9 tk9 hK9; (try dsimp only))
  k_with "KK next" => (refine' kk_next ?h9 ?_; (case h9 => with_reducible assumption))
  k_with "KK ret" => (refine' kk_ret ?h9 ?_; (case h9 => with_reducible assumption); (try dsimp only))
  k_with "KK brk" => (refine' kk_brk ?h9 ?_; (case h9 => with_reducible assumption); (try dsimp only))
  k_with "KK cont" => (refine' kk_cont ?h9 ?_; (case h9 => with_reducible assumption); (try dsimp only))
  k_with "ktr_unf" => (k_dflt (first | (refine' enterP ?zqk1 ?zqk2 ?zqk3 ?zqk4 ?zqk5 ?zqkA ?zqkF ?zqkK ?zqk6 ?zqk7 ?zqk8 ?zqk9 ?zqkB ?_ ?zqc2 ?zqc3 ?zqc4 ?zqc5; (case zqkA => exact rfl); (case zqkF => assumption); (case zqkK => assumption); (case zqk1 => k_asm); (case zqk2 => k_asm); (case zqk3 => k_asm); (case zqk4 => k_asm); (case zqk5 => k_asm); (case zqk6 => k_is); (case zqk7 => k_is); (case zqk8 => k_room); (case zqk9 => exact BindsTo.of_eq rfl); (case zqc5 => decide); (case zqkB => exact locs rfl); (case zqc2 => exact rfl); (case zqc3 => exact rfl); (case zqc4 => exact rfl); k_whole; intro g' L' h' F' N' B' X' T' l1; (try k_lt l1); (try dsimp only); (try k_lift B'); (try k_fold)) | (refine' enterPC ?zqk1 ?zqk2 ?zqk3 ?zqk4 ?zqk5 ?zqkA ?zqkF ?zqkK ?zqk6 ?zqk7 ?zqk8 ?zqk9 ?zqkB ?zqkD ?_ ?zqc2 ?zqc3 ?zqc4; (case zqkA => exact rfl); (case zqkF => assumption); (case zqkK => assumption); (case zqk1 => k_asm); (case zqk2 => k_asm); (case zqk3 => k_asm); (case zqk4 => k_asm); (case zqk5 => k_asm); (case zqk6 => k_is); (case zqk7 => k_is); (case zqk8 => k_room); (case zqk9 => exact BindsTo.of_eq rfl); (case zqkB => exact rfl); (case zqkD => decide +kernel); (case zqc2 => exact rfl); (case zqc3 => exact rfl); (case zqc4 => exact rfl); k_whole; intro g' L' h' tk' cells' F' N' Y' B' X' T' l1; (try k_lt l1); k_cells Y'; (try simp only [List.cons_append, List.nil_append] at N'); (try dsimp only); (try k_lift B'); (try k_fold))))
  k_with "ktr_unf" => (k_dflt (first | (refine' enterPc ?zqk1 ?zqk2 ?zqk3 ?zqk4 ?zqk5 ?zqkA ?zqkF ?zqkK ?zqk6 ?zqk7 ?zqk8 ?zqk9 ?zqkB ?_ ?zqc2 ?zqc3 ?zqc4 ?zqc5; (case zqkA => exact rfl); (case zqkF => assumption); (case zqkK => assumption); (case zqk1 => k_asm); (case zqk2 => k_asm); (case zqk3 => k_asm); (case zqk4 => k_asm); (case zqk5 => k_asm); (case zqk6 => k_is); (case zqk7 => k_is); (case zqk8 => k_room); (case zqk9 => exact BindsTo.of_eq rfl); (case zqc5 => decide); (case zqkB => exact locs rfl); (case zqc2 => exact rfl); (case zqc3 => exact rfl); (case zqc4 => exact rfl); k_whole; intro g' L' h' F' N' B' X' T' l1; (try k_lt l1); (try dsimp only); (try k_lift B'); (try k_fold)) | (refine' enterPC ?zqk1 ?zqk2 ?zqk3 ?zqk4 ?zqk5 ?zqkA ?zqkF ?zqkK ?zqk6 ?zqk7 ?zqk8 ?zqk9 ?zqkB ?zqkD ?_ ?zqc2 ?zqc3 ?zqc4; (case zqkA => exact rfl); (case zqkF => assumption); (case zqkK => assumption); (case zqk1 => k_asm); (case zqk2 => k_asm); (case zqk3 => k_asm); (case zqk4 => k_asm); (case zqk5 => k_asm); (case zqk6 => k_is); (case zqk7 => k_is); (case zqk8 => k_room); (case zqk9 => exact BindsTo.of_eq rfl); (case zqkB => exact rfl); (case zqkD => decide +kernel); (case zqc2 => exact rfl); (case zqc3 => exact rfl); (case zqc4 => exact rfl); k_whole; intro g' L' h' tk' cells' F' N' Y' B' X' T' l1; (try k_lt l1); k_cells Y'; (try simp only [List.cons_append, List.nil_append] at N'); (try dsimp only); (try k_lift B'); (try k_fold))))
  k_with "getMethod ref" => (k_here; k_dflt (refine' fn_method ?zqn ?zqf ?zqd ?zqv ?_; (case zqn => exact fn_noread); (case zqf => exact (News.get (by k_asm) (by k_mem))); (case zqd => exact (News.get (by k_asm) (by k_mem))); (case zqv => exact rfl); k_whole))
  k_with "call ref" => (k_here; (with_reducible show wpAny _ _ (call (Value.ref _) [Value.int _ _]) _ _ _); k_dflt (refine' read1_use ?zqk1 ?zqk2 ?zqk3 ?zqk4 ?zqk5 ?zqk6 ?zqk7 ?zqk8 ?zqC ?zqN _ ?zqm3 ?zqm1 ?zqm2 ?zqm4 ?zqm6 ?zqm7 ?zqo1 ?zqo2 ?zqo3 ?zqo4 ?zqU ?zqhi ?zqhx ?_; (case zqk1 => k_asm); (case zqk2 => k_asm); (case zqk3 => k_asm); (case zqk4 => k_asm); (case zqk5 => first | exact rfl | assumption); (case zqk6 => first | exact rfl | assumption); (case zqk7 => k_room); (case zqk8 => k_units); (case zqC => kn_code); (case zqN => k_asm); (case zqm3 => k_mem); (case zqm1 => k_mem); (case zqm2 => k_mem); (case zqm4 => k_mem); (case zqm6 => k_mem); (case zqm7 => k_mem); (case zqo1 => assumption); (case zqo2 => assumption); (case zqo3 => assumption); (case zqo4 => assumption); (case zqU => k_updF); (case zqhi => k_extra "hi"); (case zqhx => k_extra "hx"); k_whole; intro v' t' i' ti' h' tk' hr' F' N'; (try dsimp only at N')))
  replace N := cb_drop N (fun q hq => (List.mem_append.mp hq).elim (hy q) (hl q))
  dsimp only [Lx.led, Lx.D, Strm.lg, Strm.led, List.cons_append, List.nil_append] at N
  clear hl hy
  ktr_unf
  clear F N B X T
  k_with "hi" => assumption
  k_with "hx" => assumption
  k_steps
  · (try dsimp only)
    exact rc_end (by assumption) (by assumption) (fun k => ret _ _ _ _ _ _ _ _ (by assumption) (by rw [if_pos (nl_yes (by assumption))]) k)
  · (try dsimp only)
    exact rc_end (by assumption) (by assumption) (fun k => ret _ _ _ _ _ _ _ _ (by assumption) (by rw [if_neg (nl_no (by assumption))]; exact (Int.add_zero _).symm) k)

end
end Mine
end
section
open PySem
namespace Mine
/-- a sign that ends a bare word -/
noncomputable def isWs (c : Nat) : Bool := c == 10 || c == 9 || c == 13 || c == 32
/-- the rest of a word between marks: the word, and what is left -/
noncomputable def inQ : List Nat → List Nat → List Nat × List Nat
  | acc, [] => (acc, [])
  | acc, [c] => if c = 34 then (acc, []) else if c = 92 then (acc, []) else (acc ++ [c], [])
  | acc, c :: d :: r => if c = 34 then (acc, d :: r) else if c = 92 then inQ (acc ++ [d]) r else inQ (acc ++ [c]) (d :: r)
termination_by _ l => l.length
/-- the rest of a bare word -/
noncomputable def inB : List Nat → List Nat → List Nat × List Nat
  | acc, [] => (acc, [])
  | acc, [c] => if isWs c = true then (acc, []) else if c = 92 then (acc, []) else (acc ++ [c], [])
  | acc, c :: d :: r => if isWs c = true then (acc, d :: r) else if c = 92 then inB (acc ++ [d]) r else inB (acc ++ [c]) (d :: r)
termination_by _ l => l.length
/-- a word read off a stream -/
noncomputable def tokOf : List Nat → List Nat × List Nat
  | [] => ([], [])
  | c :: r => if isWs c = true then tokOf r else if c = 34 then inQ [] r else if c = 92 then (match r with | [] => ([], []) | d :: r' => inB [d] r') else inB [c] r
theorem inQ_end {acc r : List Nat} : inQ acc (34 :: r) = (acc, r) := by
  cases r <;> simp [inQ]
theorem inQ_esc {acc r : List Nat} {d : Nat} : inQ acc (92 :: d :: r) = inQ (acc ++ [d]) r := by simp [inQ]
theorem inQ_esc0 {acc : List Nat} : inQ acc [92] = inQ acc [] := by simp [inQ]
theorem inQ_sign {acc r : List Nat} {c : Nat} (h1 : c ≠ 34) (h2 : c ≠ 92) : inQ acc (c :: r) = inQ (acc ++ [c]) r := by
  cases r <;> simp [inQ, h1, h2]
theorem inB_end {acc r : List Nat} {c : Nat} (h : isWs c = true) : inB acc (c :: r) = (acc, r) := by
  cases r <;> simp [inB, h]
theorem inB_esc {acc r : List Nat} {d : Nat} : inB acc (92 :: d :: r) = inB (acc ++ [d]) r := by simp [inB, isWs]
theorem inB_esc0 {acc : List Nat} : inB acc [92] = inB acc [] := by simp [inB, isWs]
theorem inB_sign {acc r : List Nat} {c : Nat} (h1 : isWs c = false) (h2 : c ≠ 92) : inB acc (c :: r) = inB (acc ++ [c]) r := by
  cases r <;> simp [inB, h1, h2]
end Mine
end
section
open PySem PySem.W PyProof.Rows PySem.Calls PySem.Spec
namespace Mine

section
variable {w : World} {p : Program} {loose : List Str} {mean : ExcName → Option Value} {mg mb : Str → Option Value} {dp un : Nat} {gd : Option (List Code)} {env : Env} {outer : List Env} {A₀ : Around} {base h₀ : Heap} {L : Addr} {m : Str → Option Value} {news : List (Addr × Obj)} {s : Shared} {Q E : Value → Shared → Prop}

theorem k35 {ps : Params} : ∃ o fd, (hd.heap_1 ps).lookup 35 = some o ∧ o.data = Data.func fd := by
  have h : (match (hd.heap_1 ps).lookup 35 with | some ⟨_, _, .func _, _⟩ => true | _ => false) = true := by kernel_rfl
  split at h
  · rename_i e; exact ⟨_, _, e, rfl⟩
  · cases h
noncomputable abbrev lexNews (q : Addr) (Y : Lx) (S : Strm) (i : Nat) (ti : Tok) (ln : Int) (tl : Tok) (ps : Array Value) (np : Nat) : List (Addr × Obj) := (q, methodObj (.ref 35) (.ref Y.x)) :: (Y.led ln tl ps np ++ S.lg i ti)
noncomputable abbrev lexAddrs (q : Addr) (Y : Lx) (S : Strm) : List Addr := [q, Y.pb, Y.x, Y.dx, S.d, S.f, S.fr, S.cr, S.la, S.ca, S.ct]
theorem lexAddrs_ne {it q : Addr} {Y : Lx} {S : Strm} {i : Nat} {ti : Tok} {ln : Int} {tl : Tok} {ps : Array Value} {np : Nat} (h : ∀ a ∈ lexAddrs q Y S, @Ne Nat a it) : ∀ p ∈ lexNews q Y S i ti ln tl ps np, p.1 ≠ it := fun p hp =>
  h p.1 (List.mem_map_of_mem (f := (·.1)) hp : p.1 ∈ (lexNews q Y S i ti ln tl ps np).map (·.1))
theorem readTo_some {x : Str} {i i' : Nat} {v : Str} (h : ReadTo x i v i') (hv : v ≠ ⟨#[]⟩) : ∃ c, x.cps[i]? = some c ∧ v = ⟨#[c]⟩ ∧ i' = i + 1 := by
  rcases h with h | ⟨_, h, _⟩
  · exact h
  · exact absurd h hv
theorem readTo_none {x : Str} {i i' : Nat} {v : Str} (h : ReadTo x i v i') (hv : v = ⟨#[]⟩) : i = x.length ∧ i' = i := by
  rcases h with ⟨c, _, h, _⟩ | ⟨h, _, h'⟩
  · rw [h] at hv; cases hv
  · exact ⟨h, h'⟩
theorem lex_took {it : Addr} {oi : Obj} (F : Fr h₀ L s.heap m) (S : Strm) (ok : S.ok) (Y : Lx) {q : Addr} {i i' : Nat} {ti ti' : Tok} {ln ln' : Int} {tl tl' : Tok} {ps : Array Value} {np : Nat} (off : Y.off S)
   (N : News h₀ L s.heap ((it, oi) :: lexNews q Y S i ti ln tl ps np)) (hne : ∀ p ∈ lexNews q Y S i ti ln tl ps np, p.1 ≠ it) (hq1 : q ≠ Y.dx) (hq2 : q ≠ S.la) {h' : Heap} (k : Led' s.heap h' [Y.dx, S.la] [(Y.dx, Y.D ln' tl'), (S.la, listOf #[.int (i' : Nat) ti'] 0)]) :
   Fr h₀ L h' m ∧ News h₀ L h' ((it, oi) :: lexNews q Y S i' ti' ln' tl' ps np) := by
  obtain ⟨o1, o3, o4, n1, n2, n3, n4, n5, n6⟩ := ok
  obtain ⟨_, a1, a2, a3, a4, a5, a6, a7, a8, a9, a10, a11⟩ := off
  have hd : @Ne Nat Y.dx it := hne (Y.dx, Y.D ln tl) (by simp)
  have hl : @Ne Nat S.la it := hne (S.la, listOf #[.int (i : Nat) ti] 0) (by simp)
  refine took_led (new := []) F N k (fun b hb => ?_) (fun q hq => nomatch hq) (fun p hp => ?_)
  · simp only [List.mem_cons, List.not_mem_nil, or_false] at hb
    rcases hb with rfl | rfl
    · exact ⟨Y.D ln tl, by simp⟩
    · exact ⟨listOf #[.int (i : Nat) ti] 0, by simp⟩
  · simp only [lexNews, Lx.led, Strm.lg, Strm.led, List.cons_append, List.nil_append, List.mem_cons, List.not_mem_nil, or_false] at hp ⊢
    rcases hp with rfl | rfl | rfl | rfl | rfl | rfl | rfl | rfl | rfl | rfl | rfl | rfl
    · exact .inl ⟨fun e => e.elim (fun e => hd e.symm) (fun e => hl e.symm), .inl rfl⟩
    · exact .inl ⟨fun e => e.elim hq1 hq2, by simp⟩
    · exact .inl ⟨fun e => e.elim a1 a10, by simp⟩
    · exact .inl ⟨fun e => e.elim a2 a11, by simp⟩
    · exact .inr (by simp)
    · exact .inl ⟨fun e => e.elim a3 n1, by simp⟩
    · exact .inl ⟨fun e => e.elim a4 n2, by simp⟩
    · exact .inl ⟨fun e => e.elim a5 n3, by simp⟩
    · exact .inl ⟨fun e => e.elim a6 n4, by simp⟩
    · exact .inr (by simp)
    · exact .inl ⟨fun e => e.elim a8 n5, by simp⟩
    · exact .inl ⟨fun e => e.elim a9 n6, by simp⟩
theorem next_lex (B : Below A₀ base outer h₀) (F : Fr h₀ L s.heap m) (X : (hd.heap_1 w.params).In h₀) (T : Top p loose mean mg mb h₀) (hf : env.frame = some L) (hke : env.scope.kind = .function) (hdp : dp + 6 < recursionLimit) (hu : un + 95 < cLine) (C : CodeHd base 97 93) {it q : Addr} {t ti tl : Tok} {ln : Int} {i np : Nat} {ps : Array Value} (S : Strm) (ok : S.ok) (Y : Lx) (off : Y.off S) (hq1 : q ≠ Y.dx) (hq2 : q ≠ S.la) (N : News h₀ L s.heap ((it, citObj q t) :: lexNews q Y S i ti ln tl ps np)) (hneA : ∀ a ∈ lexAddrs q Y S, @Ne Nat a it)
   (hi : i ≤ S.x.length) (hx : S.x.length ≤ 10000) {R : Option Value → Shared → Prop}
   (h1 : ∀ c t' ti' tl' h' tk', S.x.cps[i]? = some c → Fr h₀ L h' m → News h₀ L h' ((it, citObj q t) :: lexNews q Y S (i + 1) ti' (ln + if c = 10 then 1 else 0) tl' ps np) → R (some (.str ⟨#[c]⟩ t')) { s with heap := h', toks := tk' })
   (h2 : ∀ ti' tl' h' tk', i = S.x.length → Fr h₀ L h' m → News h₀ L h' ((it, citOver) :: lexNews q Y S i ti' ln tl' ps np) → R none { s with heap := h', toks := tk' }) :
   wpAny (model PySem.Challenge.rw_sr0006_01.row.prog w) (Am dp un gd env outer) (pyNext (.ref it)) R E s := by
  have hne := lexAddrs_ne (i := i) (ti := ti) (ln := ln) (tl := tl) (ps := ps) (np := np) hneA
  obtain ⟨o35, fd35, hk, hfd⟩ := k35 (ps := w.params)
  have g35 := X _ _ hk
  have hit := (N _ (.head _)).1
  have hq := (N (q, methodObj (.ref 35) (.ref Y.x)) (.tail _ (.head _))).1
  refine next_cit (x := Y.x) rfl hit hq (F.keep _ _ g35) hfd (codeAny_mono (readchar_code (A₀ := A₀) (base := base) (h₀ := h₀) (m := m) (Q := fun v s' => ∃ v' t' i' ti' ln' tl' h' tk', v = .str v' t' ∧ s' = { s with heap := h', toks := tk' } ∧ ReadTo S.x i v' i' ∧ ln' = ln + (if v' = ⟨#[10]⟩ then 1 else 0) ∧ Led' s.heap h' [Y.dx, S.la] [(Y.dx, Y.D ln' tl'), (S.la, listOf #[.int (i' : Nat) ti'] 0)])
    (E := fun _ _ => False) B F X T hf hke (un := un + 1) hdp (by omega) C (fun p hp => N p (.tail _ hp)) S ok Y i ti ln tl ps np off (fun p hp => .tail _ (List.mem_append_right _ hp)) (fun p hp => .tail _ (List.mem_append_left _ hp)) hi hx
    (fun v t' i' ti' ln' tl' h' tk' hr hl k => ⟨v, t', i', ti', ln', tl', h', tk', rfl, rfl, hr, hl, k⟩)) fun r s' hr => ?_)
  have hr' : ∃ v, r = .ok (.ret v) := by
    rcases r with e | f
    · exact hr.elim
    · cases f <;> first | exact hr.elim | exact ⟨_, rfl⟩
  obtain ⟨v, rfl⟩ := hr'
  dsimp only at hr ⊢
  obtain ⟨v', t', i', ti', ln', tl', h', tk', rfl, rfl, hr, hl, k⟩ := hr
  obtain ⟨F', N'⟩ := lex_took F S ok Y off N hne hq1 hq2 k
  refine ⟨v', t', rfl, (N' _ (.head _)).1, (N' (q, methodObj (.ref 35) (.ref Y.x)) (.tail _ (.head _))).1, F'.keep _ _ g35, fun hv => ?_, fun hv h'' ho hx'' => ?_⟩
  · obtain ⟨c, hc, rfl, rfl⟩ := readTo_some hr hv
    have e : ln' = ln + if c = 10 then 1 else 0 := by rw [hl]; by_cases h : c = 10 <;> simp [h]
    rw [e] at N'
    exact h1 c t' ti' tl' h' tk' hc F' N'
  · obtain ⟨e1, rfl⟩ := readTo_none hr hv
    have e : ln' = ln := by rw [hl, hv]; simp
    rw [e] at N'
    have h9 := N' _ (.head _)
    refine h2 ti' tl' h'' tk' e1 ⟨F'.ns.at' fun o e => hx'' _ o h9.2.1.symm e, fun b o e => hx'' b o (fun z => ?_) (F'.keep b o e), F'.above⟩ fun p hp => ?_
    · rw [z, h9.2.2] at e; cases e
    · rcases List.mem_cons.mp hp with rfl | hp
      · exact ⟨ho, h9.2⟩
      · refine ⟨hx'' _ _ ?_ (N' p (.tail _ hp)).1, (N' p (.tail _ hp)).2⟩
        have hm : p.1 ∈ (lexNews q Y S i' ti ln tl ps np).map (·.1) := (List.mem_map_of_mem (f := (·.1)) hp : p.1 ∈ (lexNews q Y S i' ti' ln tl' ps np).map (·.1))
        obtain ⟨p', hp', e'⟩ := List.mem_map.mp hm
        rw [← e']; exact hne p' hp'
theorem readchar_use (B : Below A₀ base outer h₀) (F : Fr h₀ L s.heap m) (X : (hd.heap_1 w.params).In h₀) (T : Top p loose mean mg mb h₀) (hf : env.frame = some L) (hke : env.scope.kind = .function) (hdp : dp + 6 < recursionLimit) (hu : un + 90 < cLine) (C : CodeHd base 97 93) {it q : Addr} {oi : Obj} {ti tl : Tok} {ln : Int} {i np : Nat} {ps : Array Value} (S : Strm) (ok : S.ok) (Y : Lx) (off : Y.off S) (hq1 : q ≠ Y.dx) (hq2 : q ≠ S.la) (N : News h₀ L s.heap ((it, oi) :: lexNews q Y S i ti ln tl ps np)) (hneA : ∀ a ∈ lexAddrs q Y S, @Ne Nat a it)
   (hi : i ≤ S.x.length) (hx : S.x.length ≤ 10000)
   (ret : ∀ v t' i' ti' tl' h' tk', ReadTo S.x i v i' → Fr h₀ L h' m → News h₀ L h' ((it, oi) :: lexNews q Y S i' ti' (ln + if v = ⟨#[10]⟩ then 1 else 0) tl' ps np) → Q (.str v t') { s with heap := h', toks := tk' }) :
   wpAny (model PySem.Challenge.rw_sr0006_01.row.prog w) (Am dp un gd env outer) (call (.ref 35) [.ref Y.x]) Q E s :=
  wpAny_call (readchar_code B F X T hf hke hdp hu C (fun p hp => N p (.tail _ hp)) S ok Y i ti ln tl ps np off (fun p hp => .tail _ (List.mem_append_right _ hp)) (fun p hp => .tail _ (List.mem_append_left _ hp)) hi hx
    fun v t' i' ti' ln' tl' h' tk' hr hl k => by
      obtain ⟨F', N'⟩ := lex_took F S ok Y off N (lexAddrs_ne hneA) hq1 hq2 k
      subst hl
      exact ret v t' i' ti' tl' h' tk' hr F' N')

end
end Mine
end
section
open PySem PyProof.Rows
namespace Mine
open Builtin.Str in
theorem occ_ws (c : Nat) : (!(occurrences (Str.ofString "\n\t\x0d ") ⟨#[c]⟩ 0 (Str.ofString "\n\t\x0d ").length 1).isEmpty) = isWs c := by
  have e : Str.ofString "\n\t\x0d " = ⟨#[10, 9, 13, 32]⟩ := by decide
  rw [e]
  have s0 : subAt ⟨#[10, 9, 13, 32]⟩ ⟨#[c]⟩ 0 = (10 == c) := by simp [subAt, Str.length]
  have s1 : subAt ⟨#[10, 9, 13, 32]⟩ ⟨#[c]⟩ 1 = (9 == c) := by simp [subAt, Str.length]
  have s2 : subAt ⟨#[10, 9, 13, 32]⟩ ⟨#[c]⟩ 2 = (13 == c) := by simp [subAt, Str.length]
  have s3 : subAt ⟨#[10, 9, 13, 32]⟩ ⟨#[c]⟩ 3 = (32 == c) := by simp [subAt, Str.length]
  have h : ∀ b0 b1 b2 b3 : Bool, subAt ⟨#[10, 9, 13, 32]⟩ ⟨#[c]⟩ 0 = b0 → subAt ⟨#[10, 9, 13, 32]⟩ ⟨#[c]⟩ 1 = b1 → subAt ⟨#[10, 9, 13, 32]⟩ ⟨#[c]⟩ 2 = b2 → subAt ⟨#[10, 9, 13, 32]⟩ ⟨#[c]⟩ 3 = b3 →
      (!(occurrences ⟨#[10, 9, 13, 32]⟩ ⟨#[c]⟩ 0 4 1).isEmpty) = (b0 || b1 || b2 || b3) := by
    intro b0 b1 b2 b3 h0 h1 h2 h3
    unfold occurrences
    have hl : (⟨#[c]⟩ : Str).length = 1 := rfl
    simp only [hl, Std.Legacy.Range.forIn_eq_forIn_range', Std.Legacy.Range.size, List.range'_succ, Id.run]
    cases b0 <;> cases b1 <;> cases b2 <;> cases b3 <;> simp [h0, h1, h2, h3, List.range'] <;> rfl
  show (!(occurrences ⟨#[10, 9, 13, 32]⟩ ⟨#[c]⟩ 0 4 1).isEmpty) = isWs c
  rw [h _ _ _ _ s0 s1 s2 s3]
  unfold isWs
  rw [Bool.beq_comm (a := c), Bool.beq_comm (a := c) (b := 9), Bool.beq_comm (a := c) (b := 13), Bool.beq_comm (a := c) (b := 32)]
end Mine
end
section
open PySem PySem.W PyProof.Rows PySem.Calls PySem.Spec
namespace Mine

section
variable {w : World} {p : Program} {loose : List Str} {mean : ExcName → Option Value} {mg mb : Str → Option Value} {dp un : Nat} {gd : Option (List Code)} {env : Env} {outer : List Env} {A₀ : Around} {base h₀ : Heap} {L : Addr} {m : Str → Option Value} {news : List (Addr × Obj)} {s : Shared} {Q E : Value → Shared → Prop}

noncomputable abbrev GS := Nat × Tok × Int × Tok × List Nat × Tok × Bool
noncomputable abbrev gLed (it q : Addr) (tc : Tok) (Y : Lx) (S : Strm) (np : Nat) (c : GS) : List (Addr × Obj) := (it, bif c.2.2.2.2.2.2 then citOver else citObj q tc) :: lexNews q Y S c.1 c.2.1 c.2.2.1 c.2.2.2.1 #[] np
noncomputable abbrev gPs (it : Addr) (Y : Lx) (c : GS) : List (Str × Value) := [("token", .str ⟨c.2.2.2.2.1.toArray⟩ c.2.2.2.2.2.1), ("self", .ref Y.x), ("fiter", .ref it)]
noncomputable def gP (S : Strm) (K : Int) (Inv : List Nat → List Nat → Bool → Prop) (c : GS) : Prop := c.1 ≤ S.x.length ∧ (c.2.2.2.2.2.2 = true → c.1 = S.x.length) ∧ c.2.2.1 + ((S.x.cps.toList.drop c.1).count 10 : Nat) = K ∧ Inv c.2.2.2.2.1 (S.x.cps.toList.drop c.1) c.2.2.2.2.2.2
noncomputable abbrev gMu (S : Strm) (c : GS) : Nat := (S.x.length - c.1) + (bif c.2.2.2.2.2.2 then 0 else 1)
theorem drop_at {x : Str} {i c : Nat} (h : x.cps[i]? = some c) : x.cps.toList.drop i = c :: x.cps.toList.drop (i + 1) ∧ i < x.length := by
  have hi : i < x.cps.size := by
    rcases Nat.lt_or_ge i x.cps.size with h' | h'
    · exact h'
    · rw [Array.getElem?_eq_none h'] at h; cases h
  refine ⟨?_, hi⟩
  have hi' : i < x.cps.toList.length := by simpa using hi
  rw [List.drop_eq_getElem_cons hi']
  congr 1
  rw [Array.getElem?_eq_getElem hi] at h
  simpa using h
theorem forG {L : Addr} {m₀ : Str → Option Value} {news : List (Addr × Obj)} (B : Below A₀ base outer h₀) (F : Fr h₀ L s.heap m₀) (X : (hd.heap_1 w.params).In h₀) (T : Top p loose mean mg mb h₀) (hL : env.locals = L) (hf : env.frame = some L) (hke : env.scope.kind = .function) (hdp : dp + 6 < recursionLimit) (hu : un + 95 < cLine) (C : CodeHd base 97 93)
   (S : Strm) (ok : S.ok) (Y : Lx) (off : Y.off S) {it q : Addr} {tc : Tok} (hq1 : q ≠ Y.dx) (hq2 : q ≠ S.la) (hneA : ∀ a ∈ lexAddrs q Y S, @Ne Nat a it) (hx : S.x.length ≤ 10000) {np : Nat} {x : Str} {px : Pos} {body : List Stmt} {Qf : Flow → Shared → Prop} (K : Int) (Inv : List Nat → List Nat → Bool → Prop) (c₀ : GS)
   (N : News h₀ L s.heap news) (hk : ∀ q ∈ gPs it Y c₀, m₀ q.1 = some q.2) (hn : ∀ p ∈ gLed it q tc Y S np c₀, p ∈ news) (hp : gP S K Inv c₀)
   (turn : q ≠ Y.dx → q ≠ S.la → (∀ a ∈ lexAddrs q Y S, @Ne Nat a it) → ∀ i ti ln tl acc t tk c u h t', i < S.x.length → S.x.cps.toList.drop i = c :: S.x.cps.toList.drop (i + 1) → Inv acc (c :: S.x.cps.toList.drop (i + 1)) false → ln + ((S.x.cps.toList.drop (i + 1)).count 10 : Nat) = K →
      Fr h₀ L h (kstB u (gPs it Y (0, 0, 0, 0, acc, t, false))) → News h₀ L h ((it, citObj q tc) :: lexNews q Y S (i + 1) ti ln tl #[] np) →
      wpAny (model PySem.Challenge.rw_sr0006_01.row.prog w) (Am dp un gd env outer) (storeName env x (.str ⟨#[c]⟩ t')) (fun _ s₃ => wpAny (model PySem.Challenge.rw_sr0006_01.row.prog w) (Am dp un gd env outer) (execs body env)
        (LPost h₀ L s (gLed it q tc Y S np) (gPs it Y) (fun c' => gP S K Inv c' ∧ gMu S c' < (S.x.length - i) + 1) Qf) E s₃) E { s with heap := h, toks := tk })
   (fin : q ≠ Y.dx → q ≠ S.la → (∀ a ∈ lexAddrs q Y S, @Ne Nat a it) → ∀ ti ln tl acc t over tk u h, Inv acc [] over → ln = K → Fr h₀ L h (kstB u (gPs it Y (0, 0, 0, 0, acc, t, true))) → News h₀ L h ((it, citOver) :: lexNews q Y S S.x.length ti ln tl #[] np) → Qf .next { s with heap := h, toks := tk }) :
   ForAt PySem.Challenge.rw_sr0006_01.row.prog w (Am dp un gd env outer) h₀ env (.Name x px) body Qf E (.ref it) s := by
  subst hL
  refine ForAt.intro (gLed it q tc Y S np) (gPs it Y) (gP S K Inv) (gMu S) c₀ F N hk hn hp ?_
  intro c u h tk htk hc F1 N1
  obtain ⟨i, ti, ln, tl, acc, t, over⟩ := c
  obtain ⟨hi, ho, hK, hI⟩ := hc
  dsimp only at hi ho hK hI F1 N1 ⊢
  have dl : S.x.cps.toList.drop S.x.length = [] := List.drop_eq_nil_of_le (by simp [Str.length])
  cases over with
  | true =>
    have e := ho rfl
    subst e
    rw [dl] at hI hK
    refine next_over rfl (N1 _ (.head _)).1 fun h' hk => ?_
    exact fin hq1 hq2 hneA ti ln tl acc t true tk u h' hI (by simpa using hK) (F1.keeps hk) fun p hp => ⟨hk _ _ (N1 p hp).1, (N1 p hp).2⟩
  | false =>
    refine next_lex (s := { s with heap := h, toks := tk }) B F1 X T hf hke hdp hu C S ok Y off hq1 hq2 N1 hneA hi hx (fun c t' ti' tl' h' tk' hc F' N' => ?_) fun ti' tl' h' tk' he F' N' => ?_
    · obtain ⟨hd, hlt⟩ := drop_at hc
      rw [hd] at hI hK
      refine no_letgo (assign_name ?_)
      refine turn hq1 hq2 hneA i ti' _ tl' acc t tk' c u h' t' hlt hd hI ?_ F' N'
      rw [List.count_cons] at hK
      by_cases h10 : c = 10 <;> simp [h10] at hK ⊢ <;> omega
    · subst he
      rw [dl] at hI hK
      exact fin hq1 hq2 hneA ti' ln tl' acc t false tk' u h' hI (by simpa using hK) F' N'

theorem readTo_cases {x : Str} {j j' : Nat} {v : Str} (h : ReadTo x j v j') : (∃ d, v = ⟨#[d]⟩ ∧ j' = j + 1 ∧ j < x.length ∧ x.cps.toList.drop j = d :: x.cps.toList.drop (j + 1)) ∨ (v = ⟨#[]⟩ ∧ j' = j ∧ x.cps.toList.drop j = [] ∧ j = x.length) := by
  rcases h with ⟨d, hd, rfl, rfl⟩ | ⟨rfl, rfl, rfl⟩
  · obtain ⟨h1, h2⟩ := drop_at hd
    exact .inl ⟨d, rfl, rfl, h2, h1⟩
  · exact .inr ⟨rfl, rfl, List.drop_eq_nil_of_le (by simp [Str.length]), rfl⟩
theorem read_le {x : Str} {j j' : Nat} {v : Str} (h : ReadTo x j v j') : j ≤ j' ∧ j' ≤ x.length ∧ v.length ≤ 1 := by
  rcases readTo_cases h with ⟨d, rfl, rfl, h1, _⟩ | ⟨rfl, rfl, _, rfl⟩
  · exact ⟨by omega, by omega, Nat.le_refl _⟩
  · exact ⟨Nat.le_refl _, Nat.le_refl _, Nat.zero_le _⟩
theorem q_esc {x : Str} {j j' : Nat} {v : Str} {acc : List Nat} (h : ReadTo x j v j') : inQ acc (92 :: x.cps.toList.drop j) = inQ (acc ++ v.cps.toList) (x.cps.toList.drop j') := by
  rcases readTo_cases h with ⟨d, rfl, rfl, _, e⟩ | ⟨rfl, rfl, e, _⟩
  · rw [e, inQ_esc]
  · rw [e, inQ_esc0]; simp
theorem b_esc {x : Str} {j j' : Nat} {v : Str} {acc : List Nat} (h : ReadTo x j v j') : inB acc (92 :: x.cps.toList.drop j) = inB (acc ++ v.cps.toList) (x.cps.toList.drop j') := by
  rcases readTo_cases h with ⟨d, rfl, rfl, _, e⟩ | ⟨rfl, rfl, e, _⟩
  · rw [e, inB_esc]
  · rw [e, inB_esc0]; simp
theorem t_esc {x : Str} {j j' : Nat} {v : Str} (h : ReadTo x j v j') : tokOf (92 :: x.cps.toList.drop j) = inB ([] ++ v.cps.toList) (x.cps.toList.drop j') := by
  rcases readTo_cases h with ⟨d, rfl, rfl, _, e⟩ | ⟨rfl, rfl, e, _⟩
  · rw [e]; simp [tokOf, isWs]
  · rw [e]; simp [tokOf, isWs, inB]
theorem cnt_read {x : Str} {j j' : Nat} {v : Str} (h : ReadTo x j v j') : (((x.cps.toList.drop j).count 10 : Nat) : Int) = (if v = ⟨#[10]⟩ then 1 else 0) + ((x.cps.toList.drop j').count 10 : Nat) := by
  rcases readTo_cases h with ⟨d, rfl, rfl, _, e⟩ | ⟨rfl, rfl, e, _⟩
  · rw [e, List.count_cons]
    by_cases h10 : d = 10 <;> simp [h10] <;> omega
  · rw [e]; simp
theorem len_read {x : Str} {j j' : Nat} {v : Str} (h : ReadTo x j v j') : v.cps.toList.length + (x.cps.toList.drop j').length = (x.cps.toList.drop j).length := by
  rcases readTo_cases h with ⟨d, rfl, rfl, _, e⟩ | ⟨rfl, rfl, e, _⟩
  · rw [e]; simp; omega
  · rw [e]; simp
theorem iadd_any {acc : List Nat} {y : Str} {t u : Tok} (hsz : acc.length ≤ 10000) (hy : y.length ≤ 1) (h : ∀ t' tk, Q (.str ⟨(acc ++ y.cps.toList).toArray⟩ t') { s with toks := tk }) {M : World} {A : Around} : wpAny (model PySem.Challenge.rw_sr0006_01.row.prog M) A (inplaceOp .Add (.str ⟨acc.toArray⟩ t) (.str y u)) Q E s := by
  refine PyProof.Rows.iadd_str (fun t' tk => ?_) (by
    have : y.cps.size ≤ 1 := hy
    have h2 : (⟨acc.toArray⟩ : Str).length = acc.length := by simp [Str.length]
    rw [h2, sizeLine_eq]; omega)
  have e : (⟨acc.toArray⟩ ++ y : Str) = ⟨(acc ++ y.cps.toList).toArray⟩ := by
    show (⟨acc.toArray ++ y.cps⟩ : Str) = _
    congr 1
    simp
  rw [e]; exact h t' tk

end
end Mine
end
section
open PySem PySem.W PyProof.Rows PySem.Calls PySem.Spec
namespace Mine


section
variable {w : World} {p : Program} {loose : List Str} {mean : ExcName → Option Value} {mg mb : Str → Option Value} {dp un : Nat} {gd : Option (List Code)} {env : Env} {outer : List Env} {A₀ : Around} {base h₀ : Heap} {L : Addr} {m : Str → Option Value} {news : List (Addr × Obj)} {s : Shared} {Q E : Value → Shared → Prop}
theorem in_ws {prog : Program} {A : Around} {c : Nat} {t u : Tok} (h : Q (.bool (isWs c)) s) : wpAny (model prog w) A (compareOp .In (.str ⟨#[c]⟩ u) (.str (Str.ofString "\n\t\x0d ") t)) Q E s := in_str (by rw [occ_ws]; exact h)
theorem lcont2 {σ : Type} {h₀ h' : Heap} {L : Addr} {s : Shared} {Led : σ → List (Addr × Obj)} {ps : σ → List (Str × Value)} {P : σ → Prop} {Q : Flow → Shared → Prop} {m' : Str → Option Value} {news' : List (Addr × Obj)} {tk : Nat} (c : σ)
    (F : Fr h₀ L h' m') (N : News h₀ L h' news') (hk : ∀ q ∈ ps c, m' q.1 = some q.2) (hn : ∀ q ∈ Led c, q ∈ news') (hp : P c) : LPost h₀ L s Led ps P Q .cont { s with heap := h', toks := tk } :=
  ⟨c, h', tk, m', news', rfl, F, N, hn, hk, hp⟩
theorem drop_len (x : Str) : x.cps.toList.drop x.length = [] := List.drop_eq_nil_of_le (by simp [Str.length])
theorem gt_end {g h' : Heap} {L' it q : Addr} {oi : Obj} {m' : Str → Option Value} {tk np i i' : Nat} {ti tl ti' tl' : Tok} {ln ln' : Int} {S : Strm} {Y : Lx} {R : Value → Shared → Prop} {v : Value}
   (F' : Fr g L' h' m') (N' : News g L' h' ((it, oi) :: lexNews q Y S i' ti' ln' tl' #[] np)) (k : Led' s.heap h' [Y.dx, S.la] [(Y.dx, Y.D ln' tl'), (S.la, listOf #[.int (i' : Nat) ti'] 0)] → R v { s with heap := h', toks := tk }) :
   EndG s (Y.led ln tl #[] np ++ S.lg i ti) g L' R v { s with heap := h', toks := tk } := by
  refine end_led (turned := [Y.dx, S.la]) (made := [(Y.dx, Y.D ln' tl'), (S.la, listOf #[.int (i' : Nat) ti'] 0)]) F' N' (fun q hq => ?_) (fun q hq => ?_) (fun q hq => ?_) k
  · simp only [Lx.led, Strm.lg, Strm.led, lexNews, List.cons_append, List.nil_append, List.mem_cons, List.not_mem_nil, or_false] at hq ⊢
    rcases hq with h | h | h | h | h | h | h | h | h | h <;> simp [h]
  · simp only [Lx.led, Strm.lg, Strm.led, lexNews, List.cons_append, List.nil_append, List.mem_cons, List.not_mem_nil, or_false] at hq ⊢
    rcases hq with h | h <;> simp [h]
  · simp only [List.mem_cons, List.not_mem_nil, or_false] at hq ⊢
    rcases hq with h | h <;> simp [h]
theorem sign_is {c : Nat} (h : ((⟨#[c]⟩ : Str) == Str.ofString "\"") = true) : c = 34 := by
  have h := eq_of_beq h
  rw [show Str.ofString "\"" = (⟨#[34]⟩ : Str) from by decide] at h
  simpa using h
theorem sign_not {c : Nat} (h : ((⟨#[c]⟩ : Str) == Str.ofString "\"") = false) : c ≠ 34 := fun e => by
  subst e
  rw [show Str.ofString "\"" = (⟨#[34]⟩ : Str) from by decide] at h
  simp at h
theorem back_is {c : Nat} (h : ((⟨#[c]⟩ : Str) == Str.ofString "\\") = true) : c = 92 := by
  have h := eq_of_beq h
  rw [show Str.ofString "\\" = (⟨#[92]⟩ : Str) from by decide] at h
  simpa using h
theorem back_not {c : Nat} (h : ((⟨#[c]⟩ : Str) == Str.ofString "\\") = false) : c ≠ 92 := fun e => by
  subst e
  rw [show Str.ofString "\\" = (⟨#[92]⟩ : Str) from by decide] at h
  simp at h
theorem gettoken_read (B : Below A₀ base outer h₀) (F : Fr h₀ L s.heap m) (X : (hd.heap_1 w.params).In h₀) (T : Top p loose mean mg mb h₀) (hf : env.frame = some L) (hke : env.scope.kind = .function) (hdp : dp + 8 < recursionLimit) (hu : un + 130 < cLine) (C : CodeHd base 97 93) (N : News h₀ L s.heap news) (S : Strm) (ok : S.ok) (Y : Lx) (i : Nat) (ti : Tok) (ln : Int) (tl : Tok) (np : Nat) (off : Y.off S) (hl : ∀ q ∈ S.lg i ti, q ∈ news) (hy : ∀ q ∈ Y.led ln tl #[] np, q ∈ news) (hi : i ≤ S.x.length) (hx : S.x.length ≤ 10000)
   (ret : ∀ W R (i' : Nat) t ti' ln' tl' h' tk', tokOf (S.x.cps.toList.drop i) = (W, R) → i' ≤ S.x.length → S.x.cps.toList.drop i' = R → ln' + (R.count 10 : Nat) = ln + ((S.x.cps.toList.drop i).count 10 : Nat) → Led' s.heap h' [Y.dx, S.la] [(Y.dx, Y.D ln' tl'), (S.la, listOf #[.int (i' : Nat) ti'] 0)] → Q (.str ⟨W.toArray⟩ t) { s with heap := h', toks := tk' }) :
   wpAny (model PySem.Challenge.rw_sr0006_01.row.prog w) (Am dp un gd env outer) (call (.ref 42) [.ref Y.x]) Q E s := by
  have ok' := ok
  obtain ⟨⟨vs, tq, o1, o2⟩, o3, o4, n1, n2, n3, n4, n5, n6⟩ := ok'
  have off' := off
  obtain ⟨a0, a1, a2, a3, a4, a5, a6, a7, a8, a9, a10, a11⟩ := off'
  revert X; k_fill; intro X; k_with_none
  k_with "k_lk" => (first | (refine' lt_get ?h9 ?m9; (case h9 => with_reducible assumption); (case m9 => k_mem)) | (refine' Ne.symm (lt_get ?h9 ?m9); (case h9 => with_reducible assumption); (case m9 => k_mem)) | (refine' ana_get ?h9 ?m9; (case h9 => with_reducible assumption); (case m9 => k_mem)) | (refine' Ne.symm (ana_get ?h9 ?m9); (case h9 => with_reducible assumption); (case m9 => k_mem)) | with_reducible assumption | (refine Ne.symm ?_; with_reducible assumption) | fail "k_lk")
  k_with "k_ne" => first | k_extra "k_lk" | omega
  k_with "k_all" => (first | with_reducible assumption | (refine' lt_all ?h9; (case h9 => with_reducible assumption)) | fail "k_all")
  k_with "k_mem" => (first | exact mI0 | exact mI1 | exact mI2 | exact mI3 | exact mI4 | exact mI5 | exact mI6 | exact mI7 | exact mI8 | exact mI9 | exact mI10 | exact mI11 | (refine mS12 ?_; k_mem))
  k_with "k_room" => first | (refine' rm0 ?h9 ?k9; (case h9 => with_reducible assumption); (case k9 => exact Nat.le_of_ble_eq_true rfl)) | (refine' rm1 ?h9 ?k9; (case h9 => with_reducible assumption); (case k9 => exact Nat.le_of_ble_eq_true rfl)) | (refine' rm2 ?h9; (case h9 => with_reducible assumption)) | (refine' rm4 ?h9; (case h9 => with_reducible assumption)) | (simp only [depth_under_make, depth_under_kw, depth_in1, depth_deeper, depth_caller, recursionLimit] at *; omega)
  k_with "k_units" => first | (refine' rm0 ?h9 ?k9; (case h9 => with_reducible assumption); (case k9 => exact Nat.le_of_ble_eq_true rfl)) | (refine' rm1 ?h9 ?k9; (case h9 => with_reducible assumption); (case k9 => exact Nat.le_of_ble_eq_true rfl)) | (refine' rm2 ?h9; (case h9 => with_reducible assumption)) | (refine' rm4 ?h9; (case h9 => with_reducible assumption)) | (simp only [units_in1, units_deeper, Around.mark_units, units_caller, cLine] at *; omega)
  k_with "om" => (first | (refine neN ?_; (try dsimp only); k_extra "k_lk") | with_reducible assumption | exact Nat.le_of_ble_eq_true rfl | (refine' le_lit ?h9 ?k9; (case h9 => with_reducible assumption); (case k9 => exact Nat.le_of_ble_eq_true rfl)) | (refine' lt_lit ?h9 ?k9; (case h9 => with_reducible assumption); (case k9 => exact Nat.le_of_ble_eq_true rfl)) | (refine' rm0 ?h9 ?k9; (case h9 => with_reducible assumption); (case k9 => exact Nat.le_of_ble_eq_true rfl)) | (refine' rm1 ?h9 ?k9; (case h9 => with_reducible assumption); (case k9 => exact Nat.le_of_ble_eq_true rfl)) | (refine' rm2 ?h9; (case h9 => with_reducible assumption)) | (refine' rm4 ?h9; (case h9 => with_reducible assumption)) | omega (config := { splitDisjunctions := false }) | ((repeat (first | (rename _ ≠ _ ∧ _ => hq9; clear hq9) | (rename (_ ≠ _ ∧ _) ∧ _ => hq9; clear hq9))); omega (config := { splitDisjunctions := true })) | omega (config := { splitDisjunctions := true }) | ((repeat (rename (∀ p ∈ (_ : List (PySem.Addr × PySem.Obj)), @LT.lt Nat _ p.1 _) => hq9; (have hq8 := PySem.W.allLt_of hq9); clear hq9; simp only [PySem.W.AllLt, and_true] at hq8)); omega (config := { splitDisjunctions := true })))
  k_with "callWith ref" => (k_here; k_dflt (refine' callWith_K ?zs1 ?zs2 ?_; (case zs1 => k_asm); (case zs2 => k_is); k_whole))
  k_with "call builtin:len" => (k_here; (with_reducible show wpAny _ _ (call (Value.builtin _) [Value.ref _]) _ _ _); (with_unfolding_all refine' len_ints_fit ?zs1 ?zs2 ?zs3 ?_; (case zs1 => is_list); (case zs2 => l_ints); (case zs3 => l_fit); k_whole); (try simp only [List.length_append, List.length_cons, List.length_nil, Nat.zero_add]))
  k_with "subscriptTail Name" => (k_here; (with_reducible show wpAny _ _ (subscriptTail _ _ (Value.ref _) (Value.int _ _)) _ _ _); kim_at)
  k_with "getMethod ref" => (k_here; k_dflt (refine' method_inst ?zs1 ?zs2 ?zs3 ?zs4 ?zs5 ?zs6 ?zs7 ?_; (case zs1 => k_asm); (case zs2 => k_asm); (case zs3 => k_inst); (case zs4 => k_is); (case zs5 => k_is); (case zs6 => k_is); (case zs7 => k_get); k_whole))
  k_with "execs cons" => (refine seqK ?_; intro K9 tk9 hK9; (try dsimp only))
  k_with "KK next" => (refine' kk_next ?h9 ?_; (case h9 => with_reducible assumption))
  k_with "KK ret" => (refine' kk_ret ?h9 ?_; (case h9 => with_reducible assumption); (try dsimp only))
  k_with "KK brk" => (refine' kk_brk ?h9 ?_; (case h9 => with_reducible assumption); (try dsimp only))
  k_with "KK cont" => (refine' kk_cont ?h9 ?_; (case h9 => with_reducible assumption); (try dsimp only))
  k_with "ktr_unf" => (k_dflt (first | (refine' enterP ?zqk1 ?zqk2 ?zqk3 ?zqk4 ?zqk5 ?zqkA ?zqkF ?zqkK ?zqk6 ?zqk7 ?zqk8 ?zqk9 ?zqkB ?_ ?zqc2 ?zqc3 ?zqc4 ?zqc5; (case zqkA => exact rfl); (case zqkF => assumption); (case zqkK => assumption); (case zqk1 => k_asm); (case zqk2 => k_asm); (case zqk3 => k_asm); (case zqk4 => k_asm); (case zqk5 => k_asm); (case zqk6 => k_is); (case zqk7 => k_is); (case zqk8 => k_room); (case zqk9 => exact BindsTo.of_eq rfl); (case zqc5 => decide); (case zqkB => exact locs rfl); (case zqc2 => exact rfl); (case zqc3 => exact rfl); (case zqc4 => exact rfl); k_whole; intro g' L' h' F' N' B' X' T' l1; (try k_lt l1); (try dsimp only); (try k_lift B'); (try k_fold)) | (refine' enterPC ?zqk1 ?zqk2 ?zqk3 ?zqk4 ?zqk5 ?zqkA ?zqkF ?zqkK ?zqk6 ?zqk7 ?zqk8 ?zqk9 ?zqkB ?zqkD ?_ ?zqc2 ?zqc3 ?zqc4; (case zqkA => exact rfl); (case zqkF => assumption); (case zqkK => assumption); (case zqk1 => k_asm); (case zqk2 => k_asm); (case zqk3 => k_asm); (case zqk4 => k_asm); (case zqk5 => k_asm); (case zqk6 => k_is); (case zqk7 => k_is); (case zqk8 => k_room); (case zqk9 => exact BindsTo.of_eq rfl); (case zqkB => exact rfl); (case zqkD => decide +kernel); (case zqc2 => exact rfl); (case zqc3 => exact rfl); (case zqc4 => exact rfl); k_whole; intro g' L' h' tk' cells' F' N' Y' B' X' T' l1; (try k_lt l1); k_cells Y'; (try simp only [List.cons_append, List.nil_append] at N'); (try dsimp only); (try k_lift B'); (try k_fold))))
  k_with "compareOp In str str" => (k_here; k_dflt (refine' in_ws ?_; k_whole))
  k_with "inplaceOp Add str str" => (k_here; k_dflt (refine' iadd_any ?zqa ?zqb ?_; (case zqa => k_extra "wsz"); (case zqb => k_extra "vsz"); k_whole; intro tA' tkA'))
  k_with "getMethod ref" => (k_here; k_dflt (refine' fn_method ?zqn ?zqf ?zqd ?zqv ?_; (case zqn => exact fn_noread); (case zqf => exact (News.get (by k_asm) (by k_mem))); (case zqd => exact (News.get (by k_asm) (by k_mem))); (case zqv => exact rfl); k_whole))
  k_with "call builtin:iter" => (k_here; (with_reducible show wpAny _ _ (call (Value.builtin "iter") [Value.ref _, Value.str _ _]) _ _ _); k_dflt (refine' iter_callable (f := Value.ref 35) ?zqF ?zqN ?zql ?_; (case zqF => k_asm); (case zqN => k_asm); (case zql => k_mem); k_whole; intro I' h' F' N' l1; (try k_lt l1)))
  k_with "exec For Name Name cons nil" => (k_here; k_dflt (rename Fr _ _ _ _ => lF; refine' my_for lF ?_ ?zqhs ?zqhE; (case zqhE => exact fun _ _ h => h); (case zqhs => exact fun _ => rfl); k_whole))
  replace N := cb_drop N (fun q hq => (List.mem_append.mp hq).elim (hy q) (hl q))
  dsimp only [Lx.led, Lx.D, Strm.lg, Strm.led, List.cons_append, List.nil_append] at N
  clear hl hy
  ktr_unf
  clear F N B X T
  k_with "pyIter ref" => k_dflt (first
    | (have h34 : c = 34 := sign_is (by assumption)
       subst h34
       refine' iter_cit (News.get (by k_asm) (by k_mem)) ?_
       refine' forG (by k_asm) (by k_asm) (by k_asm) (by k_asm) rfl rfl rfl (by k_room) (by k_units) C S ok Y off hq1 hq2 hneA hx (ln + ((S.x.cps.toList.drop i).count 10 : Nat))
         (fun acc r over => acc.length + r.length ≤ S.x.length ∧ over = false ∧ inQ acc r = tokOf (S.x.cps.toList.drop i)) (i1 + 1, ti1, ln1, tl1, [], _, false) (by k_asm) (by kst_all) (by kcj_all)
         (by refine ⟨hlt, fun h => (Bool.false_ne_true h).elim, hK, ?_, rfl, ?_⟩
             · simp [Str.length]
             · rw [← hW]; simp [tokOf, isWs]) ?_ ?_
       intro _ _ _ i2 ti2 ln2 tl2 acc2 t2 tk2 c2 u2 h2 tc2 hlt2 hd2 hI2 hK2 F2 N2
       obtain ⟨hsz2, _, hW2⟩ := hI2
       dsimp only [lexNews, Lx.led, Lx.D, Strm.lg, Strm.led, List.cons_append, List.nil_append, gPs] at F2 N2
       rotate_left
       intro _ _ _ tiF lnF tlF accF tF over tkF uF hF hI hKF F2 N2
       have hWF : tokOf (S.x.cps.toList.drop i) = (accF, []) := by rw [← hI.2.2]; simp [inQ]
       have hsF := hI.1
       clear hI
       dsimp only [lexNews, Lx.led, Lx.D, Strm.lg, Strm.led, List.cons_append, List.nil_append, gPs] at F2 N2)
    | (have h34 : c ≠ 34 := sign_not (by assumption)
       refine' iter_cit (News.get (by k_asm) (by k_mem)) ?_
       refine' forG (by k_asm) (by k_asm) (by k_asm) (by k_asm) rfl rfl rfl (by k_room) (by k_units) C S ok Y off hq1 hq2 hneA hx (ln + ((S.x.cps.toList.drop i).count 10 : Nat))
         (fun acc r over => acc.length + r.length ≤ S.x.length ∧ over = false ∧ inB acc r = tokOf (S.x.cps.toList.drop i)) (_, _, _, _, _, _, false) (by k_asm) (by kst_all) (by kcj_all)
         (by
           first
           | (have h92 : c ≠ 92 := back_not (by assumption)
              have hws : isWs c = false := by assumption
              refine ⟨hlt, fun h => (Bool.false_ne_true h).elim, hK, ?_, rfl, ?_⟩
              · (have hlt' : i1 < S.x.cps.size := hlt; simp [Str.length]; omega)
              · rw [← hW]; simp [tokOf, h34, h92, hws])
           | (
              have h92 : c = 92 := back_is (by assumption)
              have h9 := cnt_read hrR
              have h8 := len_read hrR
              have h7 := t_esc hrR
              have h6 := hrL.2.1
              refine ⟨h6, fun h => (Bool.false_ne_true h).elim, ?_, ?_, rfl, ?_⟩
              · ((try dsimp only); omega)
              · (simp [Str.length] at h8 ⊢; omega)
              · rw [← hW, h92]; exact h7.symm)) ?_ ?_
       intro _ _ _ i2 ti2 ln2 tl2 acc2 t2 tk2 c2 u2 h2 tc2 hlt2 hd2 hI2 hK2 F2 N2
       obtain ⟨hsz2, _, hW2⟩ := hI2
       dsimp only [lexNews, Lx.led, Lx.D, Strm.lg, Strm.led, List.cons_append, List.nil_append, gPs] at F2 N2
       rotate_left
       intro _ _ _ tiF lnF tlF accF tF over tkF uF hF hI hKF F2 N2
       have hWF : tokOf (S.x.cps.toList.drop i) = (accF, []) := by rw [← hI.2.2]; simp [inB]
       have hsF := hI.1
       clear hI
       dsimp only [lexNews, Lx.led, Lx.D, Strm.lg, Strm.led, List.cons_append, List.nil_append, gPs] at F2 N2)
    | (refine' iter_cit (News.get (by k_asm) (by k_mem)) ?_
       refine' forG (by k_asm) (by k_asm) (by k_asm) (by k_asm) rfl rfl rfl (by k_room) (by k_units) C S ok Y off ?_ ?_ ?_ hx (ln + ((S.x.cps.toList.drop i).count 10 : Nat))
         (fun acc r over => acc.length + r.length ≤ S.x.length ∧ ((over = false ∧ acc = [] ∧ tokOf r = tokOf (S.x.cps.toList.drop i)) ∨ (over = true ∧ tokOf (S.x.cps.toList.drop i) = (acc, r)))) (i, ti, ln, tl, [], _, false) (by k_asm) (by kst_all) (by kcj_all) (by refine ⟨hi, fun h => (Bool.false_ne_true h).elim, rfl, ?_, .inl ⟨rfl, rfl, rfl⟩⟩; simp [Str.length]) ?_ ?_
       · k_ne
       · k_ne
       · (intro a ha; simp only [lexAddrs, List.mem_cons, List.not_mem_nil, or_false] at ha; rcases ha with rfl | rfl | rfl | rfl | rfl | rfl | rfl | rfl | rfl | rfl | rfl <;> k_ne)
       intro hq1 hq2 hneA i1 ti1 ln1 tl1 acc1 t1 tk1 c u1 h1 tc1 hlt hd hI hK F1 N1
       have hI2 := hI.2.resolve_right (fun h => (Bool.false_ne_true h.1).elim)
       clear hI
       obtain ⟨_, rfl, hW⟩ := hI2
       dsimp only [lexNews, Lx.led, Lx.D, Strm.lg, Strm.led, List.cons_append, List.nil_append, gPs] at F1 N1
       rotate_left
       intro hq1 hq2 hneA tiF lnF tlF accF tF over tkF uF hF hI hKF F1 N1
       have hW : tokOf (S.x.cps.toList.drop i) = (accF, []) := by
         rcases hI.2 with ⟨_, rfl, h⟩ | ⟨_, h⟩
         · rw [← h]; rfl
         · exact h
       clear hI
       dsimp only [lexNews, Lx.led, Lx.D, Strm.lg, Strm.led, List.cons_append, List.nil_append, gPs] at F1 N1))
  k_with "wsz" => (first | omega | (simp; done) | (simp; omega))
  k_with "vsz" => (first | exact Nat.le_refl _ | omega)
  k_with "call ref" => k_dflt (
    refine' readchar_use (by k_asm) (by k_asm) (by k_asm) (by k_asm) rfl rfl (by k_room) (by k_units) C S ok Y off hq1 hq2 (by k_asm) hneA (by omega) hx ?_
    k_whole
    intro vR tR iR tiR tlR hR tkR hrR FR NR
    have hrL := read_le hrR
    dsimp only [lexNews, Lx.led, Lx.D, Strm.lg, Strm.led, List.cons_append, List.nil_append] at NR)
  k_steps
  all_goals first
    | ((try dsimp only); (exact gt_end (by assumption) (by assumption) (fun k => ret _ _ _ _ _ _ _ _ _ hW (Nat.le_refl _) (drop_len _) (by rw [hKF]; simp) k)))
    | (have h34' : c2 = 34 := sign_is (by assumption)
       (dsimp only [LPost]; (repeat (refine' kk_ret ?h9 ?_; (case h9 => with_reducible assumption); (try dsimp only [LPost]))))
       exact gt_end (by assumption) (by assumption) (fun k => ret _ _ _ _ _ _ _ _ _ (hW2.symm.trans (by rw [h34']; exact inQ_end)) hlt2 rfl hK2 k))
    | ((dsimp only [LPost]; (repeat (refine' kk_ret ?h9 ?_; (case h9 => with_reducible assumption); (try dsimp only [LPost])))); exact gt_end (by assumption) (by assumption) (fun k => ret _ _ _ _ _ _ _ _ _ (hW2.symm.trans (inB_end (by assumption))) hlt2 rfl hK2 k))
    | (have hws : isWs c = true := by assumption
       refine' lcont2 (i1 + 1, ti1, ln1, tl1, [], _, false) (by k_asm) (by k_asm) (by kst_all) (by kcj_all) (by
         refine ⟨⟨hlt, fun h => (Bool.false_ne_true h).elim, hK, ?_, .inl ⟨rfl, rfl, ?_⟩⟩, ?_⟩
         · simp [Str.length]
         · rw [← hW]; simp [tokOf, hws]
         · show (S.x.length - (i1 + 1)) + 1 < _; omega))
    | (refine' lend2 (S.x.length, tiF, lnF, tlF, accF, _, true) (by k_asm) (by k_asm) (by kst_all) (by kcj_all) (by
         refine ⟨⟨Nat.le_refl _, fun _ => rfl, ?_, ?_, .inr ⟨rfl, ?_⟩⟩, ?_⟩
         · dsimp only; rw [drop_len, hKF]; simp
         · dsimp only; rw [drop_len]; exact hsF
         · dsimp only; rw [drop_len]; exact hWF
         · show (S.x.length - S.x.length) + 0 < _; omega))
    | (have h92 : c2 ≠ 92 := back_not (by assumption)
       have h9 := hsz2
       have hWn := hW2
       first
       | rw [inQ_sign (sign_not (by assumption)) h92] at hWn
       | rw [inB_sign (by assumption) h92] at hWn
       refine' lend2 (i2 + 1, ti2, ln2, tl2, acc2 ++ [c2], _, false) (by k_asm) (by k_asm) (by kst_all) (by kcj_all) (by
         refine ⟨⟨hlt2, fun h => (Bool.false_ne_true h).elim, hK2, ?_, rfl, hWn⟩, ?_⟩
         · simp only [List.length_append, List.length_cons, List.length_nil] at h9 ⊢; omega
         · show (S.x.length - (i2 + 1)) + 1 < _; omega))
    | (have h92 : c2 = 92 := back_is (by assumption)
       have hR := hrR
       have h9 := hsz2
       have hWn := hW2
       rw [h92] at hWn
       first
       | rw [q_esc hR] at hWn
       | rw [b_esc hR] at hWn
       refine' lend2 (_, _, _, _, acc2 ++ _, _, false) (by k_asm) (by k_asm) (by kst_all) (by kcj_all) (by
         refine ⟨⟨hrL.2.1, fun h => (Bool.false_ne_true h).elim, ?_, ?_, rfl, hWn⟩, ?_⟩
         · have := cnt_read hR; dsimp only; omega
         · have := len_read hR; simp only [List.length_append, List.length_cons] at h9 ⊢; omega
         · have := hrL.1; show (S.x.length - _) + 1 < _; omega))
    | skip

end
end Mine
end
section
open PySem PySem.W PyProof.Rows PySem.Calls PySem.Spec
namespace Mine


section
variable {w : World} {p : Program} {loose : List Str} {mean : ExcName → Option Value} {mg mb : Str → Option Value} {dp un : Nat} {gd : Option (List Code)} {env : Env} {outer : List Env} {A₀ : Around} {base h₀ : Heap} {L : Addr} {m : Str → Option Value} {news : List (Addr × Obj)} {s : Shared} {Q E : Value → Shared → Prop}

theorem led_ne {a b : Addr} {o o' : Obj} (N : News h₀ L s.heap news) (ha : (a, o) ∈ news) (hb : (b, o') ∈ news) (h : o.cls ≠ o'.cls) : @Ne Nat a b := fun e => by
  have h1 := (N _ ha).1
  have h2 := (N _ hb).1
  rw [show (a, o).1 = (b, o').1 from e, h2] at h1
  exact h (congrArg Obj.cls (Option.some.inj h1)).symm
theorem pb_end {g h' : Heap} {L' a b c : Addr} {o o' o2 o3 : Obj} {m' : Str → Option Value} {tk : Nat} {R : Value → Shared → Prop} {v : Value} (F' : Fr g L' h' m') (N' : News g L' h' [(a, o'), (b, o2), (c, o3)])
   (k : Led' s.heap h' [a] [(a, o')] → R v { s with heap := h', toks := tk }) : EndG s [(a, o), (b, o2), (c, o3)] g L' R v { s with heap := h', toks := tk } := by
  refine end_led (turned := [a]) (made := [(a, o')]) F' N' (fun q hq => ?_) (fun q hq => ?_) (fun q hq => ?_) k
  · simp only [List.mem_cons, List.not_mem_nil, or_false] at hq ⊢
    rcases hq with h | h | h <;> simp [h]
  · rw [List.mem_singleton.mp hq]; exact .head _
  · rw [List.mem_singleton.mp hq]; exact .inl (.head _)
theorem seq0 {n : Nat} (h : 0 < n) : seqIndex? 0 n = some 0 := by
  unfold seqIndex?
  simp; omega

theorem pop_tok (B : Below A₀ base outer h₀) (F : Fr h₀ L s.heap m) (X : (hd.heap_1 w.params).In h₀) (T : Top p loose mean mg mb h₀) (hf : env.frame = some L) (hke : env.scope.kind = .function) (hdp : dp + 2 < recursionLimit) (hu : un + 40 < cLine) (N : News h₀ L s.heap news) (Y : Lx) (ln : Int) (tl : Tok) (x : Str) (tx : Tok) (vs : List Value) (np : Nat) (hy : ∀ q ∈ Y.led ln tl (Value.str x tx :: vs).toArray np, q ∈ news) (hz : vs.length ≤ 1000)
   (ret : ∀ np' h' tk', Led' s.heap h' [Y.pb] [(Y.pb, listOf vs.toArray np')] → Q (.str x tx) { s with heap := h', toks := tk' }) :
   wpAny (model PySem.Challenge.rw_sr0006_01.row.prog w) (Am dp un gd env outer) (call (.ref 42) [.ref Y.x]) Q E s := by
  have n1 : @Ne Nat Y.pb Y.x := led_ne N (hy _ (.head _)) (hy _ (.tail _ (.head _))) (by simp)
  have n2 : @Ne Nat Y.pb Y.dx := led_ne N (hy _ (.head _)) (hy _ (.tail _ (.tail _ (.head _)))) (by simp)
  revert X; k_fill; intro X; k_with_none
  k_with "k_lk" => (first | (refine' lt_get ?h9 ?m9; (case h9 => with_reducible assumption); (case m9 => k_mem)) | (refine' Ne.symm (lt_get ?h9 ?m9); (case h9 => with_reducible assumption); (case m9 => k_mem)) | (refine' ana_get ?h9 ?m9; (case h9 => with_reducible assumption); (case m9 => k_mem)) | (refine' Ne.symm (ana_get ?h9 ?m9); (case h9 => with_reducible assumption); (case m9 => k_mem)) | with_reducible assumption | (refine Ne.symm ?_; with_reducible assumption) | fail "k_lk")
  k_with "k_ne" => first | k_extra "k_lk" | omega
  k_with "k_all" => (first | with_reducible assumption | (refine' lt_all ?h9; (case h9 => with_reducible assumption)) | fail "k_all")
  k_with "k_mem" => (first | exact mI0 | exact mI1 | exact mI2 | exact mI3 | exact mI4 | exact mI5 | exact mI6 | exact mI7 | exact mI8 | exact mI9 | exact mI10 | exact mI11 | (refine mS12 ?_; k_mem))
  k_with "k_room" => first | (refine' rm0 ?h9 ?k9; (case h9 => with_reducible assumption); (case k9 => exact Nat.le_of_ble_eq_true rfl)) | (refine' rm1 ?h9 ?k9; (case h9 => with_reducible assumption); (case k9 => exact Nat.le_of_ble_eq_true rfl)) | (refine' rm2 ?h9; (case h9 => with_reducible assumption)) | (refine' rm4 ?h9; (case h9 => with_reducible assumption)) | (simp only [depth_under_make, depth_under_kw, depth_in1, depth_deeper, depth_caller, recursionLimit] at *; omega)
  k_with "k_units" => first | (refine' rm0 ?h9 ?k9; (case h9 => with_reducible assumption); (case k9 => exact Nat.le_of_ble_eq_true rfl)) | (refine' rm1 ?h9 ?k9; (case h9 => with_reducible assumption); (case k9 => exact Nat.le_of_ble_eq_true rfl)) | (refine' rm2 ?h9; (case h9 => with_reducible assumption)) | (refine' rm4 ?h9; (case h9 => with_reducible assumption)) | (simp only [units_in1, units_deeper, Around.mark_units, units_caller, cLine] at *; omega)
  k_with "om" => (first | (refine neN ?_; (try dsimp only); k_extra "k_lk") | with_reducible assumption | exact Nat.le_of_ble_eq_true rfl | (refine' le_lit ?h9 ?k9; (case h9 => with_reducible assumption); (case k9 => exact Nat.le_of_ble_eq_true rfl)) | (refine' lt_lit ?h9 ?k9; (case h9 => with_reducible assumption); (case k9 => exact Nat.le_of_ble_eq_true rfl)) | (refine' rm0 ?h9 ?k9; (case h9 => with_reducible assumption); (case k9 => exact Nat.le_of_ble_eq_true rfl)) | (refine' rm1 ?h9 ?k9; (case h9 => with_reducible assumption); (case k9 => exact Nat.le_of_ble_eq_true rfl)) | (refine' rm2 ?h9; (case h9 => with_reducible assumption)) | (refine' rm4 ?h9; (case h9 => with_reducible assumption)) | omega (config := { splitDisjunctions := false }) | ((repeat (first | (rename _ ≠ _ ∧ _ => hq9; clear hq9) | (rename (_ ≠ _ ∧ _) ∧ _ => hq9; clear hq9))); omega (config := { splitDisjunctions := true })) | omega (config := { splitDisjunctions := true }) | ((repeat (rename (∀ p ∈ (_ : List (PySem.Addr × PySem.Obj)), @LT.lt Nat _ p.1 _) => hq9; (have hq8 := PySem.W.allLt_of hq9); clear hq9; simp only [PySem.W.AllLt, and_true] at hq8)); omega (config := { splitDisjunctions := true })))
  k_with "callWith ref" => (k_here; k_dflt (refine' callWith_K ?zs1 ?zs2 ?_; (case zs1 => k_asm); (case zs2 => k_is); k_whole))
  k_with "call builtin:len" => (k_here; (with_reducible show wpAny _ _ (call (Value.builtin _) [Value.ref _]) _ _ _); (with_unfolding_all refine' len_ints_fit ?zs1 ?zs2 ?zs3 ?_; (case zs1 => is_list); (case zs2 => l_ints); (case zs3 => l_fit); k_whole); (try simp only [List.length_append, List.length_cons, List.length_nil, Nat.zero_add]))
  k_with "subscriptTail Name" => (k_here; (with_reducible show wpAny _ _ (subscriptTail _ _ (Value.ref _) (Value.int _ _)) _ _ _); kim_at)
  k_with "getMethod ref" => (k_here; k_dflt (refine' method_inst ?zs1 ?zs2 ?zs3 ?zs4 ?zs5 ?zs6 ?zs7 ?_; (case zs1 => k_asm); (case zs2 => k_asm); (case zs3 => k_inst); (case zs4 => k_is); (case zs5 => k_is); (case zs6 => k_is); (case zs7 => k_get); k_whole))
  k_with "execs cons" => (refine seqK ?_; intro K9 tk9 hK9; (try dsimp only))
  k_with "KK next" => (refine' kk_next ?h9 ?_; (case h9 => with_reducible assumption))
  k_with "KK ret" => (refine' kk_ret ?h9 ?_; (case h9 => with_reducible assumption); (try dsimp only))
  k_with "KK brk" => (refine' kk_brk ?h9 ?_; (case h9 => with_reducible assumption); (try dsimp only))
  k_with "KK cont" => (refine' kk_cont ?h9 ?_; (case h9 => with_reducible assumption); (try dsimp only))
  k_with "ktr_unf" => (k_dflt (first | (refine' enterP ?zqk1 ?zqk2 ?zqk3 ?zqk4 ?zqk5 ?zqkA ?zqkF ?zqkK ?zqk6 ?zqk7 ?zqk8 ?zqk9 ?zqkB ?_ ?zqc2 ?zqc3 ?zqc4 ?zqc5; (case zqkA => exact rfl); (case zqkF => assumption); (case zqkK => assumption); (case zqk1 => k_asm); (case zqk2 => k_asm); (case zqk3 => k_asm); (case zqk4 => k_asm); (case zqk5 => k_asm); (case zqk6 => k_is); (case zqk7 => k_is); (case zqk8 => k_room); (case zqk9 => exact BindsTo.of_eq rfl); (case zqc5 => decide); (case zqkB => exact locs rfl); (case zqc2 => exact rfl); (case zqc3 => exact rfl); (case zqc4 => exact rfl); k_whole; intro g' L' h' F' N' B' X' T' l1; (try k_lt l1); (try dsimp only); (try k_lift B'); (try k_fold)) | (refine' enterPC ?zqk1 ?zqk2 ?zqk3 ?zqk4 ?zqk5 ?zqkA ?zqkF ?zqkK ?zqk6 ?zqk7 ?zqk8 ?zqk9 ?zqkB ?zqkD ?_ ?zqc2 ?zqc3 ?zqc4; (case zqkA => exact rfl); (case zqkF => assumption); (case zqkK => assumption); (case zqk1 => k_asm); (case zqk2 => k_asm); (case zqk3 => k_asm); (case zqk4 => k_asm); (case zqk5 => k_asm); (case zqk6 => k_is); (case zqk7 => k_is); (case zqk8 => k_room); (case zqk9 => exact BindsTo.of_eq rfl); (case zqkB => exact rfl); (case zqkD => decide +kernel); (case zqc2 => exact rfl); (case zqc3 => exact rfl); (case zqc4 => exact rfl); k_whole; intro g' L' h' tk' cells' F' N' Y' B' X' T' l1; (try k_lt l1); k_cells Y'; (try simp only [List.cons_append, List.nil_append] at N'); (try dsimp only); (try k_lift B'); (try k_fold))))
  replace N := cb_drop N hy
  dsimp only [Lx.led, Lx.D] at N
  clear hy
  ktr_unf
  clear F N B X T
  k_with "call builtin:list.pop" => k_dflt (
    refine' kl_popAt (its := (Value.str x tx :: vs).toArray) (p := []) (q := vs) (y := Value.str x tx) (k := 0) (by k_asm) (by k_asm) (by decide) (seq0 (by simp)) rfl (by k_upd) (by rw [sizeLine_eq]; simp; omega) ?_
    intro hP FP NP)
  k_steps
  (try dsimp only)
  exact pb_end (by assumption) (by assumption) (fun k => ret _ _ _ k)

end
end Mine
end
section
open PySem PySem.W PyProof.Rows PySem.Calls PySem.Spec
namespace Mine


section
variable {w : World} {p : Program} {loose : List Str} {mean : ExcName → Option Value} {mg mb : Str → Option Value} {dp un : Nat} {gd : Option (List Code)} {env : Env} {outer : List Env} {A₀ : Around} {base h₀ : Heap} {L : Addr} {m : Str → Option Value} {news : List (Addr × Obj)} {s : Shared} {Q E : Value → Shared → Prop}

theorem push_tok (B : Below A₀ base outer h₀) (F : Fr h₀ L s.heap m) (X : (hd.heap_1 w.params).In h₀) (T : Top p loose mean mg mb h₀) (hf : env.frame = some L) (hke : env.scope.kind = .function) (hdp : dp + 2 < recursionLimit) (hu : un + 40 < cLine) (N : News h₀ L s.heap news) (Y : Lx) (ln : Int) (tl : Tok) (v : Value) (vs : List Value) (np : Nat) (hy : ∀ q ∈ Y.led ln tl vs.toArray np, q ∈ news) (hz : vs.length ≤ 1000)
   (ret : ∀ np' h' tk', Led' s.heap h' [Y.pb] [(Y.pb, listOf (vs ++ [v]).toArray np')] → Q .none { s with heap := h', toks := tk' }) :
   wpAny (model PySem.Challenge.rw_sr0006_01.row.prog w) (Am dp un gd env outer) (call (.ref 49) [.ref Y.x, v]) Q E s := by
  have n1 : @Ne Nat Y.pb Y.x := led_ne N (hy _ (.head _)) (hy _ (.tail _ (.head _))) (by simp)
  have n2 : @Ne Nat Y.pb Y.dx := led_ne N (hy _ (.head _)) (hy _ (.tail _ (.tail _ (.head _)))) (by simp)
  revert X; k_fill; intro X; k_with_none
  k_with "k_lk" => (first | (refine' lt_get ?h9 ?m9; (case h9 => with_reducible assumption); (case m9 => k_mem)) | (refine' Ne.symm (lt_get ?h9 ?m9); (case h9 => with_reducible assumption); (case m9 => k_mem)) | (refine' ana_get ?h9 ?m9; (case h9 => with_reducible assumption); (case m9 => k_mem)) | (refine' Ne.symm (ana_get ?h9 ?m9); (case h9 => with_reducible assumption); (case m9 => k_mem)) | with_reducible assumption | (refine Ne.symm ?_; with_reducible assumption) | fail "k_lk")
  k_with "k_ne" => first | k_extra "k_lk" | omega
  k_with "k_all" => (first | with_reducible assumption | (refine' lt_all ?h9; (case h9 => with_reducible assumption)) | fail "k_all")
  k_with "k_mem" => (first | exact mI0 | exact mI1 | exact mI2 | exact mI3 | exact mI4 | exact mI5 | exact mI6 | exact mI7 | exact mI8 | exact mI9 | exact mI10 | exact mI11 | (refine mS12 ?_; k_mem))
  k_with "k_room" => first | (refine' rm0 ?h9 ?k9; (case h9 => with_reducible assumption); (case k9 => exact Nat.le_of_ble_eq_true rfl)) | (refine' rm1 ?h9 ?k9; (case h9 => with_reducible assumption); (case k9 => exact Nat.le_of_ble_eq_true rfl)) | (refine' rm2 ?h9; (case h9 => with_reducible assumption)) | (refine' rm4 ?h9; (case h9 => with_reducible assumption)) | (simp only [depth_under_make, depth_under_kw, depth_in1, depth_deeper, depth_caller, recursionLimit] at *; omega)
  k_with "k_units" => first | (refine' rm0 ?h9 ?k9; (case h9 => with_reducible assumption); (case k9 => exact Nat.le_of_ble_eq_true rfl)) | (refine' rm1 ?h9 ?k9; (case h9 => with_reducible assumption); (case k9 => exact Nat.le_of_ble_eq_true rfl)) | (refine' rm2 ?h9; (case h9 => with_reducible assumption)) | (refine' rm4 ?h9; (case h9 => with_reducible assumption)) | (simp only [units_in1, units_deeper, Around.mark_units, units_caller, cLine] at *; omega)
  k_with "om" => (first | (refine neN ?_; (try dsimp only); k_extra "k_lk") | with_reducible assumption | exact Nat.le_of_ble_eq_true rfl | (refine' le_lit ?h9 ?k9; (case h9 => with_reducible assumption); (case k9 => exact Nat.le_of_ble_eq_true rfl)) | (refine' lt_lit ?h9 ?k9; (case h9 => with_reducible assumption); (case k9 => exact Nat.le_of_ble_eq_true rfl)) | (refine' rm0 ?h9 ?k9; (case h9 => with_reducible assumption); (case k9 => exact Nat.le_of_ble_eq_true rfl)) | (refine' rm1 ?h9 ?k9; (case h9 => with_reducible assumption); (case k9 => exact Nat.le_of_ble_eq_true rfl)) | (refine' rm2 ?h9; (case h9 => with_reducible assumption)) | (refine' rm4 ?h9; (case h9 => with_reducible assumption)) | omega (config := { splitDisjunctions := false }) | ((repeat (first | (rename _ ≠ _ ∧ _ => hq9; clear hq9) | (rename (_ ≠ _ ∧ _) ∧ _ => hq9; clear hq9))); omega (config := { splitDisjunctions := true })) | omega (config := { splitDisjunctions := true }) | ((repeat (rename (∀ p ∈ (_ : List (PySem.Addr × PySem.Obj)), @LT.lt Nat _ p.1 _) => hq9; (have hq8 := PySem.W.allLt_of hq9); clear hq9; simp only [PySem.W.AllLt, and_true] at hq8)); omega (config := { splitDisjunctions := true })))
  k_with "callWith ref" => (k_here; k_dflt (refine' callWith_K ?zs1 ?zs2 ?_; (case zs1 => k_asm); (case zs2 => k_is); k_whole))
  k_with "call builtin:len" => (k_here; (with_reducible show wpAny _ _ (call (Value.builtin _) [Value.ref _]) _ _ _); (with_unfolding_all refine' len_ints_fit ?zs1 ?zs2 ?zs3 ?_; (case zs1 => is_list); (case zs2 => l_ints); (case zs3 => l_fit); k_whole); (try simp only [List.length_append, List.length_cons, List.length_nil, Nat.zero_add]))
  k_with "subscriptTail Name" => (k_here; (with_reducible show wpAny _ _ (subscriptTail _ _ (Value.ref _) (Value.int _ _)) _ _ _); kim_at)
  k_with "getMethod ref" => (k_here; k_dflt (refine' method_inst ?zs1 ?zs2 ?zs3 ?zs4 ?zs5 ?zs6 ?zs7 ?_; (case zs1 => k_asm); (case zs2 => k_asm); (case zs3 => k_inst); (case zs4 => k_is); (case zs5 => k_is); (case zs6 => k_is); (case zs7 => k_get); k_whole))
  k_with "execs cons" => (refine seqK ?_; intro K9 tk9 hK9; (try dsimp only))
  k_with "KK next" => (refine' kk_next ?h9 ?_; (case h9 => with_reducible assumption))
  k_with "KK ret" => (refine' kk_ret ?h9 ?_; (case h9 => with_reducible assumption); (try dsimp only))
  k_with "KK brk" => (refine' kk_brk ?h9 ?_; (case h9 => with_reducible assumption); (try dsimp only))
  k_with "KK cont" => (refine' kk_cont ?h9 ?_; (case h9 => with_reducible assumption); (try dsimp only))
  k_with "ktr_unf" => (k_dflt (first | (refine' enterP ?zqk1 ?zqk2 ?zqk3 ?zqk4 ?zqk5 ?zqkA ?zqkF ?zqkK ?zqk6 ?zqk7 ?zqk8 ?zqk9 ?zqkB ?_ ?zqc2 ?zqc3 ?zqc4 ?zqc5; (case zqkA => exact rfl); (case zqkF => assumption); (case zqkK => assumption); (case zqk1 => k_asm); (case zqk2 => k_asm); (case zqk3 => k_asm); (case zqk4 => k_asm); (case zqk5 => k_asm); (case zqk6 => k_is); (case zqk7 => k_is); (case zqk8 => k_room); (case zqk9 => exact BindsTo.of_eq rfl); (case zqc5 => decide); (case zqkB => exact locs rfl); (case zqc2 => exact rfl); (case zqc3 => exact rfl); (case zqc4 => exact rfl); k_whole; intro g' L' h' F' N' B' X' T' l1; (try k_lt l1); (try dsimp only); (try k_lift B'); (try k_fold)) | (refine' enterPC ?zqk1 ?zqk2 ?zqk3 ?zqk4 ?zqk5 ?zqkA ?zqkF ?zqkK ?zqk6 ?zqk7 ?zqk8 ?zqk9 ?zqkB ?zqkD ?_ ?zqc2 ?zqc3 ?zqc4; (case zqkA => exact rfl); (case zqkF => assumption); (case zqkK => assumption); (case zqk1 => k_asm); (case zqk2 => k_asm); (case zqk3 => k_asm); (case zqk4 => k_asm); (case zqk5 => k_asm); (case zqk6 => k_is); (case zqk7 => k_is); (case zqk8 => k_room); (case zqk9 => exact BindsTo.of_eq rfl); (case zqkB => exact rfl); (case zqkD => decide +kernel); (case zqc2 => exact rfl); (case zqc3 => exact rfl); (case zqc4 => exact rfl); k_whole; intro g' L' h' tk' cells' F' N' Y' B' X' T' l1; (try k_lt l1); k_cells Y'; (try simp only [List.cons_append, List.nil_append] at N'); (try dsimp only); (try k_lift B'); (try k_fold))))
  replace N := cb_drop N hy
  dsimp only [Lx.led, Lx.D] at N
  clear hy
  ktr_unf
  clear F N B X T
  k_steps
  (try dsimp only)
  refine pb_end (by assumption) (by assumption) (fun k => ret (np + 1) _ _ ?_)
  simpa using k

end
end Mine
end
section
open PySem PySem.W PyProof.Rows PySem.Calls PySem.Spec
namespace Mine


section
variable {w : World} {p : Program} {loose : List Str} {mean : ExcName → Option Value} {mg mb : Str → Option Value} {dp un : Nat} {gd : Option (List Code)} {env : Env} {outer : List Env} {A₀ : Around} {base h₀ : Heap} {L : Addr} {m : Str → Option Value} {news : List (Addr × Obj)} {s : Shared} {Q E : Value → Shared → Prop}

noncomputable abbrev Wd := Str × Tok × List Int
noncomputable def vals (qs : List Wd) : List Value := qs.map fun q => Value.str q.1 q.2.1
/-- so many turns of the round: what is read, and what waits -/
noncomputable def runT (qs : List Wd) : Nat → List Int × List Wd
  | 0 => ([], qs)
  | t + 1 => match (runT qs t).2 with
    | p :: q => ((runT qs t).1 ++ p.2.2, q ++ [p])
    | [] => ((runT qs t).1, [])
theorem runT_succ {qs : List Wd} {t : Nat} {p : Wd} {q : List Wd} (h : (runT qs t).2 = p :: q) : runT qs (t + 1) = ((runT qs t).1 ++ p.2.2, q ++ [p]) := by
  show (match (runT qs t).2 with | p :: q => ((runT qs t).1 ++ p.2.2, q ++ [p]) | [] => ((runT qs t).1, [])) = _
  rw [h]
theorem runT_all {P : Wd → Prop} {qs : List Wd} (h : ∀ q ∈ qs, P q) : ∀ t, (∀ q ∈ (runT qs t).2, P q) ∧ (runT qs t).2.length = qs.length
  | 0 => ⟨h, rfl⟩
  | t + 1 => by
    obtain ⟨h1, h2⟩ := runT_all h t
    cases e : (runT qs t).2 with
    | nil =>
      have : runT qs (t + 1) = ((runT qs t).1, []) := by
        show (match (runT qs t).2 with | p :: q => ((runT qs t).1 ++ p.2.2, q ++ [p]) | [] => ((runT qs t).1, [])) = _
        rw [e]
      rw [this]
      rw [e] at h2
      exact ⟨fun q hq => (nomatch hq), h2⟩
    | cons p q =>
      rw [runT_succ e]
      rw [e] at h1 h2
      refine ⟨fun x hx => ?_, by simpa using h2⟩
      rcases List.mem_append.mp hx with hx | hx
      · exact h1 x (.tail _ hx)
      · rw [List.mem_singleton.mp hx]; exact h1 p (.head _)
theorem runT_len {qs : List Wd} (hq : qs ≠ []) (h : ∀ q ∈ qs, 1 ≤ q.2.2.length) : ∀ t, t ≤ (runT qs t).1.length
  | 0 => Nat.zero_le _
  | t + 1 => by
    have ih := runT_len hq h t
    obtain ⟨h1, h2⟩ := runT_all h t
    cases e : (runT qs t).2 with
    | nil => rw [e] at h2; exact absurd (List.length_eq_zero_iff.mp h2.symm) hq
    | cons p q =>
      rw [runT_succ e]
      rw [e] at h1
      have := h1 p (.head _)
      simp only [List.length_append]; omega
noncomputable def WdOk (q : Wd) : Prop := Rd (q.1.cps.toList.map fun (c : Nat) => (c : Int)) 0 q.2.2 ∧ q.1.length ≤ 1000 ∧ 1 ≤ q.2.2.length ∧ q.2.2.length ≤ 40
theorem rn_end {g h' : Heap} {L' l D r pb x dx : Addr} {o1 o2 o3 o4 o4' o5 o6 : Obj} {m' : Str → Option Value} {tk : Nat} {R : Value → Shared → Prop} (F' : Fr g L' h' m') (N' : News g L' h' [(l, o1), (D, o2), (r, o3), (pb, o4'), (x, o5), (dx, o6)])
   (hl : @LT.lt Nat _ D l ∧ @LT.lt Nat _ r l ∧ @LT.lt Nat _ pb l ∧ @LT.lt Nat _ x l ∧ @LT.lt Nat _ dx l) (hD : @LT.lt Nat _ r D ∧ @LT.lt Nat _ pb D ∧ @LT.lt Nat _ x D ∧ @LT.lt Nat _ dx D)
   (k : Led' s.heap h' [pb] [(l, o1), (D, o2), (pb, o4')] → R (.ref l) { s with heap := h', toks := tk }) : EndG s [(pb, o4), (x, o5), (dx, o6)] g L' R (.ref l) { s with heap := h', toks := tk } := by
  obtain ⟨_, _, a1, a2, a3⟩ := hl
  obtain ⟨_, b1, b2, b3⟩ := hD
  refine end_led (turned := [pb]) (made := [(l, o1), (D, o2), (pb, o4')]) F' N' (fun q hq => ?_) (fun q hq => ?_) (fun q hq => ?_) k
  · simp only [List.mem_cons, List.not_mem_nil, or_false] at hq ⊢
    rcases hq with h | h | h <;> simp [h]
  · simp only [List.mem_cons, List.not_mem_nil, or_false] at hq ⊢
    rcases hq with h | h | h <;> simp [h]
  · simp only [List.mem_cons, List.not_mem_nil, or_false] at hq ⊢
    rcases hq with rfl | rfl | rfl
    · right; intro q hq
      rcases hq with rfl | rfl | rfl
      · exact Nat.ne_of_lt a1
      · exact Nat.ne_of_lt a2
      · exact Nat.ne_of_lt a3
    · right; intro q hq
      rcases hq with rfl | rfl | rfl
      · exact Nat.ne_of_lt b1
      · exact Nat.ne_of_lt b2
      · exact Nat.ne_of_lt b3
    · exact .inl rfl
theorem pop_use (B : Below A₀ base outer h₀) (F : Fr h₀ L s.heap m) (X : (hd.heap_1 w.params).In h₀) (T : Top p loose mean mg mb h₀) (hf : env.frame = some L) (hke : env.scope.kind = .function) (hdp : dp + 2 < recursionLimit) (hu : un + 40 < cLine) (N : News h₀ L s.heap news) (Y : Lx) (ln : Int) (tl : Tok) (x : Str) (tx : Tok) (vs : List Value) (np : Nat) {g : Obj → List (Addr × Obj)} (h2 : (Y.x, instObj 52 Y.dx) ∈ news) (h3 : (Y.dx, Y.D ln tl) ∈ news) (U : UpdF Y.pb (listOf (Value.str x tx :: vs).toArray np) news g) (hz : vs.length ≤ 1000)
   (ret : ∀ np' h' tk', Fr h₀ L h' m → News h₀ L h' (g (listOf vs.toArray np')) → Q (.str x tx) { s with heap := h', toks := tk' }) :
   wpAny (model PySem.Challenge.rw_sr0006_01.row.prog w) (Am dp un gd env outer) (call (.ref 42) [.ref Y.x]) Q E s :=
  pop_tok B F X T hf hke hdp hu N Y ln tl x tx vs np (fun q hq => by
    simp only [List.mem_cons, List.not_mem_nil, or_false] at hq
    rcases hq with rfl | rfl | rfl
    · exact upd_mem U
    · exact h2
    · exact h3) hz fun np' h' tk' k =>
    let ⟨F', N'⟩ := took_upd F N U (fun b o hb e => k.1 b o (by simpa using hb) e) (k.2 _ (.head _)).2
    ret np' h' tk' F' N'
theorem push_use (B : Below A₀ base outer h₀) (F : Fr h₀ L s.heap m) (X : (hd.heap_1 w.params).In h₀) (T : Top p loose mean mg mb h₀) (hf : env.frame = some L) (hke : env.scope.kind = .function) (hdp : dp + 2 < recursionLimit) (hu : un + 40 < cLine) (N : News h₀ L s.heap news) (Y : Lx) (ln : Int) (tl : Tok) (v : Value) (vs : List Value) (np : Nat) {g : Obj → List (Addr × Obj)} (h2 : (Y.x, instObj 52 Y.dx) ∈ news) (h3 : (Y.dx, Y.D ln tl) ∈ news) (U : UpdF Y.pb (listOf vs.toArray np) news g) (hz : vs.length ≤ 1000)
   (ret : ∀ np' h' tk', Fr h₀ L h' m → News h₀ L h' (g (listOf (vs ++ [v]).toArray np')) → Q .none { s with heap := h', toks := tk' }) :
   wpAny (model PySem.Challenge.rw_sr0006_01.row.prog w) (Am dp un gd env outer) (call (.ref 49) [.ref Y.x, v]) Q E s :=
  push_tok B F X T hf hke hdp hu N Y ln tl v vs np (fun q hq => by
    simp only [List.mem_cons, List.not_mem_nil, or_false] at hq
    rcases hq with rfl | rfl | rfl
    · exact upd_mem U
    · exact h2
    · exact h3) hz fun np' h' tk' k =>
    let ⟨F', N'⟩ := took_upd F N U (fun b o hb e => k.1 b o (by simpa using hb) e) (k.2 _ (.head _)).2
    ret np' h' tk' F' N'

theorem round_spec (B : Below A₀ base outer h₀) (F : Fr h₀ L s.heap m) (X : (hd.heap_1 w.params).In h₀) (T : Top p loose mean mg mb h₀) (hf : env.frame = some L) (hke : env.scope.kind = .function) (hdp : dp + 6 < recursionLimit) (hu : un + 90 < cLine) (N : News h₀ L s.heap news) (Y : Lx) (ln : Int) (tl : Tok) (qs : List Wd) (np : Nat) (hy : ∀ q ∈ Y.led ln tl (vals qs).toArray np, q ∈ news) (hok : ∀ q ∈ qs, WdOk q) (hq0 : qs ≠ []) (hql : qs.length ≤ 100) (many : Nat) (tm : Tok) (hm : many ≤ 100)
   (ret : ∀ (r a : Addr) vs ep t tt np' h' tk', many ≤ (runT qs t).1.length → IntsAre vs ((runT qs t).1.take many) → t ≤ many → Led' s.heap h' [Y.pb] [(r, listOf #[.ref a, .int (t : Nat) tt] 0), (a, listOf (List.toArray vs) ep), (Y.pb, listOf (vals (runT qs t).2).toArray np')] → Q (.ref r) { s with heap := h', toks := tk' }) :
   wpAny (model PySem.Challenge.rw_sr0006_01.row.prog w) (Am dp un gd env outer) (call (.ref 148) [.ref Y.x, .int (many : Nat) tm]) Q E s := by
  have n1 : @Ne Nat Y.pb Y.x := led_ne N (hy _ (.head _)) (hy _ (.tail _ (.head _))) (by simp)
  have n2 : @Ne Nat Y.pb Y.dx := led_ne N (hy _ (.head _)) (hy _ (.tail _ (.tail _ (.head _)))) (by simp)
  revert X; k_fill; intro X; k_with_none
  k_with "k_lk" => (first | (refine' lt_get ?h9 ?m9; (case h9 => with_reducible assumption); (case m9 => k_mem)) | (refine' Ne.symm (lt_get ?h9 ?m9); (case h9 => with_reducible assumption); (case m9 => k_mem)) | (refine' ana_get ?h9 ?m9; (case h9 => with_reducible assumption); (case m9 => k_mem)) | (refine' Ne.symm (ana_get ?h9 ?m9); (case h9 => with_reducible assumption); (case m9 => k_mem)) | with_reducible assumption | (refine Ne.symm ?_; with_reducible assumption) | fail "k_lk")
  k_with "k_ne" => first | k_extra "k_lk" | omega
  k_with "k_all" => (first | with_reducible assumption | (refine' lt_all ?h9; (case h9 => with_reducible assumption)) | fail "k_all")
  k_with "k_mem" => (first | exact mI0 | exact mI1 | exact mI2 | exact mI3 | exact mI4 | exact mI5 | exact mI6 | exact mI7 | exact mI8 | exact mI9 | exact mI10 | exact mI11 | (refine mS12 ?_; k_mem))
  k_with "k_room" => first | (refine' rm0 ?h9 ?k9; (case h9 => with_reducible assumption); (case k9 => exact Nat.le_of_ble_eq_true rfl)) | (refine' rm1 ?h9 ?k9; (case h9 => with_reducible assumption); (case k9 => exact Nat.le_of_ble_eq_true rfl)) | (refine' rm2 ?h9; (case h9 => with_reducible assumption)) | (refine' rm4 ?h9; (case h9 => with_reducible assumption)) | (simp only [depth_under_make, depth_under_kw, depth_in1, depth_deeper, depth_caller, recursionLimit] at *; omega)
  k_with "k_units" => first | (refine' rm0 ?h9 ?k9; (case h9 => with_reducible assumption); (case k9 => exact Nat.le_of_ble_eq_true rfl)) | (refine' rm1 ?h9 ?k9; (case h9 => with_reducible assumption); (case k9 => exact Nat.le_of_ble_eq_true rfl)) | (refine' rm2 ?h9; (case h9 => with_reducible assumption)) | (refine' rm4 ?h9; (case h9 => with_reducible assumption)) | (simp only [units_in1, units_deeper, Around.mark_units, units_caller, cLine] at *; omega)
  k_with "om" => (first | (refine neN ?_; (try dsimp only); k_extra "k_lk") | with_reducible assumption | exact Nat.le_of_ble_eq_true rfl | (refine' le_lit ?h9 ?k9; (case h9 => with_reducible assumption); (case k9 => exact Nat.le_of_ble_eq_true rfl)) | (refine' lt_lit ?h9 ?k9; (case h9 => with_reducible assumption); (case k9 => exact Nat.le_of_ble_eq_true rfl)) | (refine' rm0 ?h9 ?k9; (case h9 => with_reducible assumption); (case k9 => exact Nat.le_of_ble_eq_true rfl)) | (refine' rm1 ?h9 ?k9; (case h9 => with_reducible assumption); (case k9 => exact Nat.le_of_ble_eq_true rfl)) | (refine' rm2 ?h9; (case h9 => with_reducible assumption)) | (refine' rm4 ?h9; (case h9 => with_reducible assumption)) | omega (config := { splitDisjunctions := false }) | ((repeat (first | (rename _ ≠ _ ∧ _ => hq9; clear hq9) | (rename (_ ≠ _ ∧ _) ∧ _ => hq9; clear hq9))); omega (config := { splitDisjunctions := true })) | omega (config := { splitDisjunctions := true }) | ((repeat (rename (∀ p ∈ (_ : List (PySem.Addr × PySem.Obj)), @LT.lt Nat _ p.1 _) => hq9; (have hq8 := PySem.W.allLt_of hq9); clear hq9; simp only [PySem.W.AllLt, and_true] at hq8)); omega (config := { splitDisjunctions := true })))
  k_with "callWith ref" => (k_here; k_dflt (refine' callWith_K ?zs1 ?zs2 ?_; (case zs1 => k_asm); (case zs2 => k_is); k_whole))
  k_with "call builtin:len" => (k_here; (with_reducible show wpAny _ _ (call (Value.builtin _) [Value.ref _]) _ _ _); (with_unfolding_all refine' len_ints_fit ?zs1 ?zs2 ?zs3 ?_; (case zs1 => is_list); (case zs2 => l_ints); (case zs3 => l_fit); k_whole); (try simp only [List.length_append, List.length_cons, List.length_nil, Nat.zero_add]))
  k_with "subscriptTail Name" => (k_here; (with_reducible show wpAny _ _ (subscriptTail _ _ (Value.ref _) (Value.int _ _)) _ _ _); kim_at)
  k_with "getMethod ref" => (k_here; k_dflt (refine' method_inst ?zs1 ?zs2 ?zs3 ?zs4 ?zs5 ?zs6 ?zs7 ?_; (case zs1 => k_asm); (case zs2 => k_asm); (case zs3 => k_inst); (case zs4 => k_is); (case zs5 => k_is); (case zs6 => k_is); (case zs7 => k_get); k_whole))
  k_with "execs cons" => (refine seqK ?_; intro K9 tk9 hK9; (try dsimp only))
  k_with "KK next" => (refine' kk_next ?h9 ?_; (case h9 => with_reducible assumption))
  k_with "KK ret" => (refine' kk_ret ?h9 ?_; (case h9 => with_reducible assumption); (try dsimp only))
  k_with "KK brk" => (refine' kk_brk ?h9 ?_; (case h9 => with_reducible assumption); (try dsimp only))
  k_with "KK cont" => (refine' kk_cont ?h9 ?_; (case h9 => with_reducible assumption); (try dsimp only))
  k_with "ktr_unf" => (k_dflt (first | (refine' enterP ?zqk1 ?zqk2 ?zqk3 ?zqk4 ?zqk5 ?zqkA ?zqkF ?zqkK ?zqk6 ?zqk7 ?zqk8 ?zqk9 ?zqkB ?_ ?zqc2 ?zqc3 ?zqc4 ?zqc5; (case zqkA => exact rfl); (case zqkF => assumption); (case zqkK => assumption); (case zqk1 => k_asm); (case zqk2 => k_asm); (case zqk3 => k_asm); (case zqk4 => k_asm); (case zqk5 => k_asm); (case zqk6 => k_is); (case zqk7 => k_is); (case zqk8 => k_room); (case zqk9 => exact BindsTo.of_eq rfl); (case zqc5 => decide); (case zqkB => exact locs rfl); (case zqc2 => exact rfl); (case zqc3 => exact rfl); (case zqc4 => exact rfl); k_whole; intro g' L' h' F' N' B' X' T' l1; (try k_lt l1); (try dsimp only); (try k_lift B'); (try k_fold)) | (refine' enterPC ?zqk1 ?zqk2 ?zqk3 ?zqk4 ?zqk5 ?zqkA ?zqkF ?zqkK ?zqk6 ?zqk7 ?zqk8 ?zqk9 ?zqkB ?zqkD ?_ ?zqc2 ?zqc3 ?zqc4; (case zqkA => exact rfl); (case zqkF => assumption); (case zqkK => assumption); (case zqk1 => k_asm); (case zqk2 => k_asm); (case zqk3 => k_asm); (case zqk4 => k_asm); (case zqk5 => k_asm); (case zqk6 => k_is); (case zqk7 => k_is); (case zqk8 => k_room); (case zqk9 => exact BindsTo.of_eq rfl); (case zqkB => exact rfl); (case zqkD => decide +kernel); (case zqc2 => exact rfl); (case zqc3 => exact rfl); (case zqc4 => exact rfl); k_whole; intro g' L' h' tk' cells' F' N' Y' B' X' T' l1; (try k_lt l1); k_cells Y'; (try simp only [List.cons_append, List.nil_append] at N'); (try dsimp only); (try k_lift B'); (try k_fold))))
  replace N := cb_drop N hy
  dsimp only [Lx.led, Lx.D] at N
  clear hy
  ktr_unf
  clear F N B X T
  k_with "exec While BoolOp cons nil" => k_dflt (
    refine' my_while (σ := Nat × Addr × List Value × Nat × Nat × Tok)
      (fun c => [(c.2.1, listOf c.2.2.1.toArray c.2.2.2.1), (Y.pb, listOf (vals (runT qs c.1).2).toArray c.2.2.2.2.1), (Y.x, instObj 52 Y.dx), (Y.dx, Y.D ln tl)])
      (fun c => [("row", .ref c.2.1), ("turns", .int (c.1 : Nat) c.2.2.2.2.2), ("many", .int (many : Nat) tm), ("lexer", .ref Y.x)])
      (fun c => @Ne Nat c.2.1 Y.pb ∧ @Ne Nat c.2.1 Y.x ∧ @Ne Nat c.2.1 Y.dx ∧ IntsAre c.2.2.1 (runT qs c.1).1 ∧ c.1 ≤ many ∧ (runT qs c.1).1.length ≤ many + 40)
      (fun c => many - c.1) (0, _, [], _, np, _) (by k_asm) (by k_asm) (by kcj_all) (by kst_all) (by
        (try dsimp only)
        refine ⟨by omega, by omega, by omega, IntsAre.nil, Nat.zero_le _, Nat.zero_le _⟩) ?_ (fun _ _ h => h)
    intro c u h1 tk1 htk1 hc F1 N1
    obtain ⟨t, r, rvs, rep, np1, tt⟩ := c
    dsimp only at hc F1 N1 ⊢
    obtain ⟨hn1, hn2, hn3, hiv, htm, hlen⟩ := hc
    have hall := runT_all hok t
    have hrl := runT_len hq0 (fun q hq => (hok q hq).2.2.1) t
    have hrv := hiv.length
    obtain ⟨p, q', hpq⟩ : ∃ p q', (runT qs t).2 = p :: q' := by
      cases e : (runT qs t).2 with
      | nil => have h9 := hall.2; rw [e] at h9; exact absurd (List.length_eq_zero_iff.mp h9.symm) hq0
      | cons p q => exact ⟨p, q, rfl⟩
    obtain ⟨w0, t0, r0⟩ := p
    have hp0 := hall.1 (w0, t0, r0) (by rw [hpq]; exact .head _)
    obtain ⟨hp1, hp2, hp3, hp4⟩ := hp0
    dsimp only at hp1 hp2 hp3 hp4
    have hq9 : q'.length + 1 ≤ 100 := by have h9 := hall.2; rw [hpq] at h9; simp at h9; omega
    have hvq : (vals q').length ≤ 1000 := by simp [vals]; omega
    rw [hpq] at N1
    dsimp only [vals, List.map_cons] at N1
    change News _ _ _ [_, (Y.pb, listOf (Value.str w0 t0 :: vals q').toArray np1), _, _] at N1)
  k_with "call ref" => k_dflt (first
    | (refine' pop_use (by k_asm) (by k_asm) (by k_asm) (by k_asm) rfl rfl (by k_room) (by k_units) (by k_asm) Y ln tl w0 t0 (vals q') _ (by k_mem) (by k_mem) (by k_updF) hvq ?_
       k_whole
       intro np2 h2 tk2 F2 N2
       (try dsimp only at N2))
    | (refine' push_use (by k_asm) (by k_asm) (by k_asm) (by k_asm) rfl rfl (by k_room) (by k_units) (by k_asm) Y ln tl (Value.str w0 t0) (vals q') _ (by k_mem) (by k_mem) (by k_updF) hvq ?_
       k_whole
       intro np2 h2 tk2 F2 N2
       (try dsimp only at N2))
    | (refine' read_use (by k_asm) (by k_asm) (by k_asm) (by k_asm) rfl rfl (by k_room) (by k_units) (by k_asm) w0 t0 hp2 r0 (by omega) hp1 ?_
       k_whole
       intro r3 vs3 ep3 h3 tk3 F3 N3 l3 hI3
       have hz3 := hI3.length
       replace l3 := allNe_of l3
       simp only [AllNe, and_true] at l3))
  k_steps
  · have e9 := runT_succ hpq
    have e8 : vals (runT qs (t + 1)).2 = vals q' ++ [Value.str w0 t0] := by rw [e9]; simp [vals]
    have e7 : ((t + 1 : Nat) : Int) = (t : Int) + 1 := by omega
    k_dflt refine' lend2 (t + 1, _, _, _, np2, _) (by k_asm) (by k_asm) (by dsimp only; rw [e7]; kst_all) (by dsimp only; rw [e8]; kcj_all) (by
      (try dsimp only)
      refine ⟨⟨by omega, by omega, by omega, by rw [e9]; assumption, by omega, by rw [e9]; simp only [List.length_append]; omega⟩, by omega⟩)
  · (try dsimp only)
    exact rn_end (by assumption) (by assumption) (by omega) (by omega) (fun k => ret _ _ _ _ t _ _ _ _ (by omega) (by assumption) htm (by rw [hpq]; exact k))

end
end Mine
end
section
open PySem PySem.W PyProof.Rows PySem.Calls PySem.Spec
namespace Mine
noncomputable def lawD (p : Params) : { q : FnParts // (hd.heap_1 p).lookup 160 = some ⟨.type "function", none, .func (fnOf q.name q.qual q.params q.body q.scope q.dV q.kV q.doc q.pm q.an q.cdv q.ct), #[]⟩ } := by
  refine' ⟨⟨Str.ofString "law", Str.ofString "law", ?c, ?d, ?e, ?f, ?g, ?h, ?i, ?j, ?k, ?l⟩, ?z⟩
  case z => exact rfl
noncomputable def lawBody (p : Params) : List Stmt := (lawD p).1.body
noncomputable abbrev lawEnv (p : Params) (L fa : Addr) (cd : Value) : Env := envOfC (lawD p).1.qual (lawD p).1.scope L fa cd
structure Hide (P : Prop) : Prop where
  h : P
theorem ana_of {r : Addr} {news : List (Addr × Obj)} (h : ∀ q ∈ news, q.1 ≠ r) : AllNeA r (news.map (·.1)) := fun a ha => by
  obtain ⟨q, hq, rfl⟩ := List.mem_map.mp ha
  exact h q hq
theorem str_bne {x : Str} {P : Prop} (h : (x != x) = true) : P := by simp at h
theorem rdb {l : List Int} (h : ∀ e ∈ l, 1 ≤ e ∧ e ≤ 255) : ∀ n ∈ l, 0 < n ∧ n < 262144 := fun n hn => ⟨by have := h n hn; omega, by have := h n hn; omega⟩
theorem rdrow {n1 f : Int} {ws : List Int} (h : ∀ e ∈ ws, e = 256 ∨ e = n1) (hn : 257 ≤ n1 ∧ n1 ≤ 10256) (hf : f = 256 ∨ f = n1 := by first | exact .inl rfl | exact .inr rfl) : ∀ n ∈ f :: ws, 0 < n ∧ n < 262144 := fun n hm => by
  rcases List.mem_cons.mp hm with rfl | hm
  · rcases hf with rfl | rfl <;> omega
  · rcases h n hm with rfl | rfl <;> omega
noncomputable def StopHere (P : Prop) : Prop := P
theorem stop_here {P : Prop} (h : StopHere P) : P := h
theorem bnd255 {l : List Int} (h : ∀ e ∈ l, 1 ≤ e ∧ e ≤ 255) : ∀ n ∈ l, 0 ≤ n ∧ n < 262144 := fun n hn => ⟨by have := h n hn; omega, by have := h n hn; omega⟩
theorem bndrow {f x y : Int} {ws : List Int} (h : ∀ e ∈ ws, e = x ∨ e = y) (hf : 0 ≤ f ∧ f < 262144) (hx : 0 ≤ x ∧ x < 262144) (hy : 0 ≤ y ∧ y < 262144) : ∀ n ∈ f :: ws, 0 ≤ n ∧ n < 262144 := fun n hn => by
  rcases List.mem_cons.mp hn with rfl | hn
  · exact hf
  · rcases h n hn with rfl | rfl <;> assumption
noncomputable def IsNote (n : List Nat) : Prop := n = [] ∨ n = [39] ∨ n = [97, 39] ∨ n = [39, 98, 39, 99]
theorem note_item {prog : Program} {w : World} {A : Around} {E : Value → Shared → Prop} {s : Shared} {value slice : PySem.Expr} {l : Addr} {i : Int} {ta tb tc td u : Tok} {Q : Value → Shared → Prop}
    (hl : s.heap.IsList l #[.str (Str.ofString "") ta, .str (Str.ofString "'") tb, .str (Str.ofString "a'") tc, .str (Str.ofString "'b'c") td]) (h0 : 0 ≤ i) (h1 : i < 4) (h : ∀ n t', IsNote n → Q (.str ⟨n.toArray⟩ t') s)
    (hs : subscripted slice false (.ref l) (.int i u) = operate [.ref l, .int i u] (getItem (.ref l) (.int i u)) := by with_unfolding_all rfl) :
    wpAny (model prog w) A (subscriptTail value slice (.ref l) (.int i u)) Q E s := by
  refine KTb.item_list (vs := [.str (Str.ofString "") ta, .str (Str.ofString "'") tb, .str (Str.ofString "a'") tc, .str (Str.ofString "'b'c") td]) hl (.cons _ _ (.cons _ _ (.cons _ _ (.cons _ _ .nil)))) h0 (by simpa using h1) (by omega) (fun t' _ => ?_) hs
  obtain rfl | rfl | rfl | rfl : i = 0 ∨ i = 1 ∨ i = 2 ∨ i = 3 := by omega
  · exact (show Str.ofString "" = ⟨([] : List Nat).toArray⟩ by decide) ▸ h [] t' (.inl rfl)
  · exact (show Str.ofString "'" = ⟨([39] : List Nat).toArray⟩ by decide) ▸ h [39] t' (.inr (.inl rfl))
  · exact (show Str.ofString "a'" = ⟨([97, 39] : List Nat).toArray⟩ by decide) ▸ h [97, 39] t' (.inr (.inr (.inl rfl)))
  · exact (show Str.ofString "'b'c" = ⟨([39, 98, 39, 99] : List Nat).toArray⟩ by decide) ▸ h [39, 98, 39, 99] t' (.inr (.inr (.inr rfl)))
theorem spell_len (bits : Int) (row : List Int) : (spell bits row).length ≤ 3 * (row.length + 1) := by
  have := octs_len row
  rw [spell, signed_length]; exact this
theorem note_small {n : List Nat} (h : IsNote n) : ∀ c ∈ n, c < 1000 := by
  rcases h with rfl | rfl | rfl | rfl <;> decide
theorem note_len {n : List Nat} (h : IsNote n) : n.length ≤ 4 := by
  rcases h with rfl | rfl | rfl | rfl <;> decide
noncomputable def jo3 (A B C : List Nat) : List Nat := A ++ 39 :: (B ++ 39 :: C)
theorem jo3_len (A B C : List Nat) : (jo3 A B C).length = A.length + B.length + C.length + 2 := by simp [jo3]; omega
theorem jo3_ne (A B C : List Nat) : jo3 A B C ≠ [] := by simp [jo3]
theorem join3_eq (A B C : List Nat) : Txt.join (Str.ofString "'") [⟨A.toArray⟩, ⟨B.toArray⟩, ⟨C.toArray⟩] = ⟨(jo3 A B C).toArray⟩ := by
  rw [show Str.ofString "'" = (⟨#[39]⟩ : Str) by decide, eq_of_beq (join_closes (sep := ⟨#[39]⟩) (sep' := ⟨#[39]⟩) (ys := [⟨A.toArray⟩, ⟨B.toArray⟩, ⟨C.toArray⟩]) rfl)]
  show (⟨(A.toArray ++ #[39] ++ (B.toArray ++ #[39] ++ C.toArray))⟩ : Str) = _
  unfold jo3
  congr 1
  simp
theorem join3 {prog : Program} {w : World} {M : Around} {E : Value → Shared → Prop} {s : Shared} {D : Addr} {A B C : List Nat} {ta tb tc t : Tok} {Q : Value → Shared → Prop} (hl : s.heap.IsList D #[.str ⟨A.toArray⟩ ta, .str ⟨B.toArray⟩ tb, .str ⟨C.toArray⟩ tc]) (hz : A.length + B.length + C.length ≤ 10000)
    (h : ∀ t' k, Q (.str ⟨(jo3 A B C).toArray⟩ t') { s with toks := k }) : wpAny (model prog w) M (call (.builtin "str.join") [.str (Str.ofString "'") t, .ref D]) Q E s :=
  join_listW hl (ys := [⟨A.toArray⟩, ⟨B.toArray⟩, ⟨C.toArray⟩]) (.cons _ _ (.cons _ _ (.cons _ _ .nil))) (by decide) (by simp [Str.length]; omega) (fun t' k => by rw [join3_eq]; exact h t' k)
end Mine
end
section
open PySem PySem.W PyProof.Rows PySem.Calls PySem.Spec
namespace Mine
section
open LCg
variable {prog : Program} {w : World} {A : Around} {s : Shared} {h₀ : Heap} {L : Addr} {m : Str → Option Value} {env : Env} {elt : Expr} {x : Str} {scope : Scope} {cl : List (Str × Addr)} {S : List (Addr × Obj) → Prop} {P : Nat → Value → Prop} {Fin : List Value → List (Addr × Obj) → Prop} {news : List (Addr × Obj)}
theorem comp2_pure {v0 v1 : Value} (G0 G1 : Value → Prop) (hS : S news) (hP0 : ∀ v, P 0 v → v = v0) (hP1 : ∀ v, P 1 v → v = v1)
    (turn0 : ∀ (I : Addr) oI (C : Addr) oC (D : Addr) m₂ h tk (E' : Value → Shared → Prop), NsObj oC m₂ → m₂ x = some v0 → Fr h₀ L h m → News h₀ L h ((I, oI) :: (C, oC) :: (D, lst []) :: news) → Off3 I C D news → ((@Ne Nat I C) ∧ (@Ne Nat I D) ∧ (@Ne Nat C D)) →
      wpAny (model prog w) A (eval elt (compEnvC scope cl C env)) (CompEnd h₀ L m { s with heap := h, toks := tk } I oI C oC D (lst []) S (fun y news' => news' = news ∧ G0 y)) E' { s with heap := h, toks := tk })
    (turn1 : ∀ (I : Addr) oI (C : Addr) oC (D : Addr) m₂ y0 h tk (E' : Value → Shared → Prop), NsObj oC m₂ → m₂ x = some v1 → Fr h₀ L h m → News h₀ L h ((I, oI) :: (C, oC) :: (D, lst [y0]) :: news) → Off3 I C D news → ((@Ne Nat I C) ∧ (@Ne Nat I D) ∧ (@Ne Nat C D)) →
      wpAny (model prog w) A (eval elt (compEnvC scope cl C env)) (CompEnd h₀ L m { s with heap := h, toks := tk } I oI C oC D (lst [y0]) S (fun y news' => news' = news ∧ G1 y)) E' { s with heap := h, toks := tk })
    (fin : ∀ y0 y1, G0 y0 → G1 y1 → Fin [y0, y1] news) : CompRest prog w A h₀ L m env elt x scope cl s S P Fin 2 0 [] news := by
  refine CompRest.succ fun v I oI C oC D m₂ h tk E' hP hC hx F N off hne => ?_
  have e := hP0 v hP
  subst e
  refine wpAny_mono (turn0 I oI C oC D m₂ h tk E' hC hx F N off hne) (fun y s₂ q => ?_) fun _ _ e => e
  obtain ⟨h', tk', news', rfl, F', N', off', hS', rfl, hy⟩ := q
  refine ⟨h', tk', _, rfl, F', N', off', hS', CompRest.succ fun v I oI C oC D m₂ h tk E' hP hC hx F N off hne => ?_⟩
  have e := hP1 v hP
  subst e
  refine wpAny_mono (turn1 I oI C oC D m₂ y h tk E' hC hx F N off hne) (fun y1 s₂ q => ?_) fun _ _ e => e
  obtain ⟨h2, tk2, news2, rfl, F2, N2, off2, hS2, e2, hy1⟩ := q
  subst e2
  exact ⟨h2, tk2, _, rfl, F2, N2, off2, hS2, CompRest.zero (fin y y1 hy hy1)⟩
end
end Mine
end
section
open PySem PySem.W PyProof.Rows PySem.Calls PySem.Spec
namespace Mine
noncomputable def SelAt (G : Nat → Value → Prop) : List Nat → List Value → Prop
  | [], [] => True
  | i :: is, y :: ys => G i y ∧ SelAt G is ys
  | _, _ => False
theorem SelAt.snoc {G : Nat → Value → Prop} {i : Nat} {y : Value} (h : G i y) : ∀ {is : List Nat} {ys : List Value}, SelAt G is ys → SelAt G (is ++ [i]) (ys ++ [y])
  | [], [], _ => ⟨h, trivial⟩
  | _ :: _, _ :: _, k => ⟨k.1, SelAt.snoc h k.2⟩
  | [], _ :: _, k => k.elim
  | _ :: _, [], k => k.elim
section
open LCg LCt
variable {prog : Program} {w : World} {A : Around} {s : Shared} {h₀ : Heap} {L : Addr} {m : Str → Option Value} {env : Env} {ct elt : Expr} {x : Str} {scope : Scope} {cl : List (Str × Addr)} {S : List (Addr × Obj) → Prop} {P : Nat → Value → Prop} {Fin : List Value → List (Addr × Obj) → Prop} {news : List (Addr × Obj)}
theorem compT_pure (n : Nat) (f : Nat → Bool) (G : Nat → Value → Prop) (hS : S news)
    (turn : ∀ (i : Nat) v (I : Addr) oI (C : Addr) oC (D : Addr) m₂ ys h tk (E' : Value → Shared → Prop), i < n → P i v → NsObj oC m₂ → m₂ x = some v → Fr h₀ L h m → News h₀ L h ((I, oI) :: (C, oC) :: (D, lst ys) :: news) → Off3 I C D news → ((@Ne Nat I C) ∧ (@Ne Nat I D) ∧ (@Ne Nat C D)) →
      wpAny (model prog w) A (isTrue ct (compEnvC scope cl C env) (eval ct (compEnvC scope cl C env))) (fun ok s' => if ok = true then
        wpAny (model prog w) A (eval elt (compEnvC scope cl C env)) (CompEnd h₀ L m { s with heap := h, toks := tk } I oI C oC D (lst ys) S (fun y news' => news' = news ∧ f i = true ∧ G i y)) E' s'
        else CompEnd h₀ L m { s with heap := h, toks := tk } I oI C oC D (lst ys) S (fun _ news' => news' = news ∧ f i = false) Value.none s') E' { s with heap := h, toks := tk })
    (fin : ∀ ys, SelAt G ((List.range n).filter f) ys → Fin ys news) : CompRestT prog w A h₀ L m env ct elt x scope cl s S P Fin n 0 [] news := by
  have key : ∀ k i ys, i + k = n → SelAt G ((List.range i).filter f) ys → CompRestT prog w A h₀ L m env ct elt x scope cl s S P Fin k i ys news := by
    intro k
    induction k with
    | zero =>
      intro i ys hl hG
      have : i = n := by omega
      subst this
      exact CompRestT.zero (fin ys hG)
    | succ k ih =>
      intro i ys hl hG
      refine CompRestT.succ fun v I oI C oC D m₂ h tk E' hP hC hx F N off hne => ?_
      refine wpAny_mono (turn i v I oI C oC D m₂ ys h tk E' (by omega) hP hC hx F N off hne) (fun ok s₂ q => ?_) fun _ _ e => e
      have hr : (List.range (i + 1)).filter f = (List.range i).filter f ++ (if f i = true then [i] else []) := by
        rw [List.range_succ, List.filter_append]
        congr 1
        by_cases hf : f i = true <;> simp [hf]
      cases ok with
      | true =>
        simp only [if_true] at q ⊢
        refine wpAny_mono q (fun y s₃ q => ?_) fun _ _ e => e
        obtain ⟨h', tk', news2, rfl, F', N', off', hS', e2, hf, hy⟩ := q
        subst e2
        refine ⟨h', tk', _, rfl, F', N', off', hS', ih (i + 1) (ys ++ [y]) (by omega) ?_⟩
        rw [hr, if_pos hf]
        exact SelAt.snoc hy hG
      | false =>
        simp only [Bool.false_eq_true, if_false] at q ⊢
        obtain ⟨h', tk', news2, rfl, F', N', off', hS', e2, hf⟩ := q
        subst e2
        refine ⟨h', tk', _, rfl, F', N', off', hS', ih (i + 1) ys (by omega) ?_⟩
        rw [hr, if_neg (by rw [hf]; decide), List.append_nil]
        exact hG
  exact key n 0 [] (Nat.zero_add n) trivial
/-- no element passes -/
theorem compT_none (n : Nat) (hS : S news)
    (turn : ∀ (i : Nat) v (I : Addr) oI (C : Addr) oC (D : Addr) m₂ ys h tk (E' : Value → Shared → Prop), i < n → P i v → NsObj oC m₂ → m₂ x = some v → Fr h₀ L h m → News h₀ L h ((I, oI) :: (C, oC) :: (D, lst ys) :: news) → Off3 I C D news → ((@Ne Nat I C) ∧ (@Ne Nat I D) ∧ (@Ne Nat C D)) →
      wpAny (model prog w) A (isTrue ct (compEnvC scope cl C env) (eval ct (compEnvC scope cl C env))) (fun ok s' => if ok = true then
        wpAny (model prog w) A (eval elt (compEnvC scope cl C env)) (CompEnd h₀ L m { s with heap := h, toks := tk } I oI C oC D (lst ys) S (fun _ _ => False)) E' s'
        else CompEnd h₀ L m { s with heap := h, toks := tk } I oI C oC D (lst ys) S (fun _ news' => news' = news ∧ true = true) Value.none s') E' { s with heap := h, toks := tk })
    (fin : Fin [] news) : CompRestT prog w A h₀ L m env ct elt x scope cl s S P Fin n 0 [] news := by
  refine compT_pure n (fun _ => false) (fun _ _ => False) hS (fun i v I oI C oC D m₂ ys h tk E' a b c d e f g hh => ?_) fun ys hy => ?_
  · refine wpAny_mono (turn i v I oI C oC D m₂ ys h tk E' a b c d e f g hh) (fun ok s₂ q => ?_) fun _ _ e => e
    cases ok with
    | true =>
      simp only [if_true] at q ⊢
      refine wpAny_mono q (fun y s₃ q => ?_) fun _ _ e => e
      obtain ⟨_, _, _, _, _, _, _, _, q⟩ := q
      exact q.elim
    | false =>
      simp only [Bool.false_eq_true, if_false] at q ⊢
      obtain ⟨h', tk', news2, rfl, F', N', off', hS', e2, _⟩ := q
      exact ⟨h', tk', news2, rfl, F', N', off', hS', e2, trivial⟩
  · have e : (List.range n).filter (fun _ => false) = [] := by simp
    rw [e] at hy
    cases ys with
    | nil => exact fin
    | cons _ _ => exact hy.elim
end
end Mine
end
section
open PySem PySem.W PyProof.Rows PySem.Calls PySem.Spec
namespace Mine
theorem esc_cons (c d : Nat) (l : List Nat) : esc c (d :: l) = (if d = c then [92, c] else [d]) ++ esc c l := rfl
noncomputable def eq2 (c : Nat) : List Nat := if c = 92 then [92, 92] else if c = 34 then [92, 34] else [c]
theorem escq_cons (c : Nat) (l : List Nat) : esc 34 (esc 92 (c :: l)) = eq2 c ++ esc 34 (esc 92 l) := by
  rw [esc_cons, esc_append]
  congr 1
  unfold eq2
  by_cases h : c = 92
  · simp [h, esc]
  · by_cases h' : c = 34 <;> simp [h, h', esc]
theorem scan_q : ∀ (l acc : List Nat), inQ acc (esc 34 (esc 92 l) ++ [34]) = (acc ++ l, [])
  | [], acc => by simp [esc, inQ]
  | c :: l, acc => by
    rw [escq_cons]
    unfold eq2
    by_cases h : c = 92
    · simp only [h, if_true, List.cons_append, List.nil_append]
      rw [inQ_esc, scan_q l]; simp
    · by_cases h' : c = 34
      · simp only [h', if_true, List.cons_append, List.nil_append]
        rw [if_neg (by decide)]
        simp only [List.cons_append, List.nil_append]
        rw [inQ_esc, scan_q l]; simp
      · simp only [h, h', if_false, List.cons_append, List.nil_append]
        rw [inQ_sign h' h, scan_q l]; simp
noncomputable def eqb (c : Nat) : List Nat := if c = 92 ∨ c = 34 ∨ isWs c = true then [92, c] else [c]
theorem stage_cons (c : Nat) (l : List Nat) : stage 4 (esc 34 (esc 92 (c :: l))) = eqb c ++ stage 4 (esc 34 (esc 92 l)) := by
  rw [escq_cons]
  simp only [stage, esc_append]
  congr 1
  unfold eq2 eqb isWs
  by_cases h1 : c = 92
  · simp [h1, esc]
  · by_cases h2 : c = 34
    · simp [h2, esc]
    · by_cases h3 : c = 10
      · simp [h3, esc]
      · by_cases h4 : c = 9
        · simp [h4, esc]
        · by_cases h5 : c = 13
          · simp [h5, esc]
          · by_cases h6 : c = 32 <;> simp [h1, h2, h3, h4, h5, h6, esc]
theorem scan_b : ∀ (l acc : List Nat), inB acc (stage 4 (esc 34 (esc 92 l))) = (acc ++ l, [])
  | [], acc => by simp [esc, stage, inB]
  | c :: l, acc => by
    rw [stage_cons]
    unfold eqb
    by_cases h : c = 92 ∨ c = 34 ∨ isWs c = true
    · simp only [h, if_true, List.cons_append, List.nil_append]
      rw [inB_esc, scan_b l]; simp
    · rw [if_neg h]
      simp only [List.cons_append, List.nil_append]
      rw [inB_sign (by simpa using fun e => h (.inr (.inr e))) (fun e => h (.inl e)), scan_b l]; simp
theorem scan_written (b : Bool) (l : List Nat) (hl : l ≠ []) : tokOf (writtenL b l) = (l, []) := by
  unfold writtenL
  cases b with
  | false =>
    simp only [Bool.false_eq_true, if_false]
    have := scan_q l []
    simpa [tokOf, isWs] using this
  | true =>
    simp only [if_true]
    obtain ⟨c, l, rfl⟩ : ∃ c r, l = c :: r := by cases l with | nil => exact absurd rfl hl | cons c r => exact ⟨c, r, rfl⟩
    rw [stage_cons]
    unfold eqb
    by_cases h : c = 92 ∨ c = 34 ∨ isWs c = true
    · simp only [h, if_true, List.cons_append, List.nil_append]
      have := scan_b l [c]
      simpa [tokOf, isWs] using this
    · rw [if_neg h]
      simp only [List.cons_append, List.nil_append]
      have h1 : isWs c = false := by simpa using fun e => h (.inr (.inr e))
      have h2 : c ≠ 92 := fun e => h (.inl e)
      have h3 : c ≠ 34 := fun e => h (.inr (.inl e))
      have := scan_b l [c]
      simpa [tokOf, h1, h2, h3] using this
theorem escq_len : ∀ l : List Nat, (esc 34 (esc 92 l)).length ≤ 2 * l.length
  | [] => by simp [esc]
  | c :: l => by
    have := escq_len l
    rw [escq_cons, List.length_append, List.length_cons]
    have : (eq2 c).length ≤ 2 := by unfold eq2; split <;> (try split) <;> simp
    omega
theorem stage_len2 : ∀ l : List Nat, (stage 4 (esc 34 (esc 92 l))).length ≤ 2 * l.length
  | [] => by simp [esc, stage]
  | c :: l => by
    have := stage_len2 l
    rw [stage_cons, List.length_append, List.length_cons]
    have : (eqb c).length ≤ 2 := by unfold eqb; split <;> simp
    omega
theorem written_len (b : Bool) (l : List Nat) : (writtenL b l).length ≤ 2 * l.length + 2 := by
  unfold writtenL
  cases b with
  | false => have := escq_len l; simp; omega
  | true => have := stage_len2 l; simp; omega
theorem spell_no39 (bits : Int) (row : List Int) : 39 ∉ spell bits row := by
  intro h
  unfold spell signed at h
  obtain ⟨i, hi, e⟩ := List.mem_mapIdx.mp h
  have := octs_oct row (octs row)[i] (List.getElem_mem hi)
  unfold sgn at e
  split at e <;> omega
end Mine
end
section
open PySem PySem.W PyProof.Rows PySem.Calls PySem.Spec
namespace Mine

section
variable {w : World} {p : Program} {loose : List Str} {mean : ExcName → Option Value} {mg mb : Str → Option Value} {dp un : Nat} {gd : Option (List Code)} {env : Env} {outer : List Env} {A₀ : Around} {base h₀ : Heap} {L : Addr} {m : Str → Option Value} {news : List (Addr × Obj)} {s : Shared} {Q E : Value → Shared → Prop}

theorem stream_use (B : Below A₀ base outer h₀) (F : Fr h₀ L s.heap m) (X : (hd.heap_1 w.params).In h₀) (T : Top p loose mean mg mb h₀) (hf : env.frame = some L) (hke : env.scope.kind = .function) (hdp : dp + 2 < recursionLimit) (hu : un + 40 < cLine) (C : CodeHd base 97 93) {g : Obj → List (Addr × Obj)} (N : News h₀ L s.heap news) (U : UpdF 93 (tabObj #[]) news g) (x : Str) (tx : Tok)
   (ret : ∀ (S : Strm) ps ti h' tk', S.x = x → S.tx = tx → Hide S.ok → AllNeA S.la (news.map (·.1) ++ [S.d, S.f, S.fr, S.cr, S.ca, S.ct]) → (AllNeA S.d (news.map (·.1)) ∧ AllNeA S.f (news.map (·.1)) ∧ AllNeA S.fr (news.map (·.1)) ∧ AllNeA S.cr (news.map (·.1)) ∧ AllNeA S.ca (news.map (·.1)) ∧ AllNeA S.ct (news.map (·.1))) → Fr h₀ L h' m → News h₀ L h' (S.lg 0 ti ++ g (tabObj ps)) → Q (.ref S.f) { s with heap := h', toks := tk' }) :
   wpAny (model PySem.Challenge.rw_sr0006_01.row.prog w) (Am dp un gd env outer) (call (.ref 98) [.str x tx]) Q E s := by
  obtain ⟨pre, post, e, hg, a, b⟩ := U.split
  have hm : (93, tabObj #[]) ∈ news := upd_mem U
  refine stream_c B F X T hf hke hdp hu C N hm x tx fun S ps ti h' tk' e1 e2 ok h93 k => ?_
  obtain ⟨F', N'⟩ := took_led (new := S.lg 0 ti) (old := g (tabObj ps)) F N k (fun b hb => ⟨tabObj #[], by rw [List.mem_singleton.mp hb]; exact hm⟩) (fun q hq => .tail _ hq) (fun q hq => by
    rw [hg] at hq
    rcases List.mem_append.mp hq with h | h
    · exact .inl ⟨by simpa using a q h, by rw [e]; exact List.mem_append_left _ h⟩
    · rcases List.mem_cons.mp h with rfl | h
      · exact .inr (.head _)
      · exact .inl ⟨by simpa using b q h, by rw [e]; exact List.mem_append_right _ (.tail _ h)⟩)
  have fresh : ∀ p ∈ S.lg 0 ti, AllNeA p.1 (news.map (·.1)) := fun p hp => ana_of fun q hq => k.fresh (.tail _ hp) (N q hq).1 (fun h => h93 p hp (List.mem_singleton.mp h))
  refine ret S ps ti h' tk' e1 e2 ⟨ok⟩ (fun a ha => ?_) ⟨fresh _ (.head _), fresh _ (.tail _ (.head _)), fresh _ (.tail _ (.tail _ (.head _))), fresh _ (.tail _ (.tail _ (.tail _ (.head _)))), fresh _ (.tail _ (.tail _ (.tail _ (.tail _ (.tail _ (.head _)))))), fresh _ (.tail _ (.tail _ (.tail _ (.tail _ (.tail _ (.tail _ (.head _)))))))⟩ F' N'
  rcases List.mem_append.mp ha with ha | ha
  · exact fresh _ (.tail _ (.tail _ (.tail _ (.tail _ (.head _))))) a ha
  · obtain ⟨_, _, _, n1, n2, n3, n4, n5, n6⟩ := ok
    simp only [List.mem_cons, List.not_mem_nil, or_false] at ha
    rcases ha with rfl | rfl | rfl | rfl | rfl | rfl <;> assumption
theorem gettok_use (B : Below A₀ base outer h₀) (F : Fr h₀ L s.heap m) (X : (hd.heap_1 w.params).In h₀) (T : Top p loose mean mg mb h₀) (hf : env.frame = some L) (hke : env.scope.kind = .function) (hdp : dp + 8 < recursionLimit) (hu : un + 130 < cLine) (C : CodeHd base 97 93) {g : Obj → List (Addr × Obj)} {g' : Obj → Obj → List (Addr × Obj)} {np i : Nat} {ti tl : Tok} {ln : Int} (N : News h₀ L s.heap news) (S : Strm) (ok : S.ok) (Y : Lx) (hYf : Y.f = S.f)
   (m1 : (S.d, dictOf [⟨S.hk, .str (Str.ofString "read") S.kt, .ref S.fr⟩] 1) ∈ news) (m2 : (S.f, { cls := .type "function", dict := some S.d, data := .func S.fd }) ∈ news) (m3 : (S.fr, fnMade (Str.ofString "read") S.qual rdP rdB rdS [(Str.ofString "text", S.ct), (Str.ofString "at", S.ca)] S.doc S.pm S.cr S.ctv) ∈ news)
   (m4 : (S.cr, S.oc) ∈ news) (m6 : (S.ca, S.oca) ∈ news) (m7 : (S.ct, S.oct) ∈ news) (m8 : (Y.pb, listOf #[] np) ∈ news) (m9 : (Y.x, instObj 52 Y.dx) ∈ news) (U : UpdF Y.dx (Y.D ln tl) news g) (U' : ∀ o, UpdF S.la (listOf #[.int (i : Nat) ti] 0) (g o) (g' o))
   (hi : i ≤ S.x.length) (hx : S.x.length ≤ 10000)
   (ret : ∀ W R (i' : Nat) t ti' ln' tl' h' tk', tokOf (S.x.cps.toList.drop i) = (W, R) → i' ≤ S.x.length → S.x.cps.toList.drop i' = R → ln' + (R.count 10 : Nat) = ln + ((S.x.cps.toList.drop i).count 10 : Nat) → Fr h₀ L h' m → News h₀ L h' (g' (Y.D ln' tl') (listOf #[.int (i' : Nat) ti'] 0)) → Q (.str ⟨W.toArray⟩ t) { s with heap := h', toks := tk' }) :
   wpAny (model PySem.Challenge.rw_sr0006_01.row.prog w) (Am dp un gd env outer) (call (.ref 42) [.ref Y.x]) Q E s := by
  have ok' := ok
  obtain ⟨⟨vs, tq, o1, o2⟩, o3, o4, _⟩ := ok'
  obtain ⟨pre, post, e, hg, a, b⟩ := U.split
  have ne : ∀ {x : Addr} {o : Obj}, (x, o) ∈ news → o ≠ Y.D ln tl → @Ne Nat x Y.dx := fun hm ho => upd_ne U hm ho
  have hU := U' (Y.D ln tl)
  have hgN : g (Y.D ln tl) = news := by rw [hg, e]
  rw [hgN] at hU
  have m5 := upd_mem hU
  have ne2 : ∀ {x : Addr} {o : Obj}, (x, o) ∈ news → o ≠ listOf #[.int (i : Nat) ti] 0 → @Ne Nat x S.la := fun hm ho => upd_ne hU hm ho
  have dt : ∀ {o o' : Obj}, o.data ≠ o'.data → o ≠ o' := fun h e => h (congrArg Obj.data e)
  have mD := upd_mem U
  have off : Y.off S := ⟨hYf, ne m8 (dt (by simp)), ne m9 (dt (by simp)), ne m1 (dt (by simp)), ne m2 (dt (by simp)), ne m3 (dt (by simp)), ne m4 (dt (by rw [o1]; simp)), ne m5 (dt (by simp)), ne m6 (dt (by rw [o3]; simp)), ne m7 (dt (by rw [o4]; simp)), ne2 m8 (dt (by simp)), ne2 m9 (dt (by simp))⟩
  refine gettoken_read B F X T hf hke hdp hu C N S ok Y i ti ln tl np off (fun q hq => ?_) (fun q hq => ?_) hi hx fun W R i' t ti' ln' tl' h' tk' h1 h2 h3 h4 k => ?_
  · simp only [Strm.lg, Strm.led, List.mem_cons, List.not_mem_nil, or_false] at hq
    rcases hq with rfl | rfl | rfl | rfl | rfl | rfl | rfl <;> assumption
  · simp only [Lx.led, List.mem_cons, List.not_mem_nil, or_false] at hq
    rcases hq with rfl | rfl | rfl <;> assumption
  · have hla : @Ne Nat S.la Y.dx := off.2.2.2.2.2.2.2.1
    obtain ⟨pre2, post2, e2, hg2, a2, b2⟩ := (U' (Y.D ln' tl')).split
    obtain ⟨F', N'⟩ := took_led (new := []) (old := g' (Y.D ln' tl') (listOf #[.int (i' : Nat) ti'] 0)) F N k (fun b hb => by
      simp only [List.mem_cons, List.not_mem_nil, or_false] at hb
      rcases hb with rfl | rfl
      · exact ⟨_, mD⟩
      · exact ⟨_, m5⟩) (fun q hq => nomatch hq) (fun q hq => by
      have key : ∀ q ∈ g (Y.D ln' tl'), q.1 ≠ S.la → (q.1 ∉ [Y.dx, S.la] ∧ q ∈ news) ∨ q ∈ [(Y.dx, Y.D ln' tl'), (S.la, listOf #[.int (i' : Nat) ti'] 0)] := fun q hq hl => by
        rw [hg] at hq
        rcases List.mem_append.mp hq with h | h
        · refine .inl ⟨fun hm => ?_, by rw [e]; exact List.mem_append_left _ h⟩
          rcases List.mem_cons.mp hm with h9 | h9
          · exact a q h h9
          · exact hl (List.mem_singleton.mp h9)
        · rcases List.mem_cons.mp h with rfl | h
          · exact .inr (.head _)
          · refine .inl ⟨fun hm => ?_, by rw [e]; exact List.mem_append_right _ (.tail _ h)⟩
            rcases List.mem_cons.mp hm with h9 | h9
            · exact b q h h9
            · exact hl (List.mem_singleton.mp h9)
      rw [hg2] at hq
      rcases List.mem_append.mp hq with h | h
      · exact key q (by rw [e2]; exact List.mem_append_left _ h) (a2 q h)
      · rcases List.mem_cons.mp h with rfl | h
        · exact .inr (.tail _ (.head _))
        · exact key q (by rw [e2]; exact List.mem_append_right _ (.tail _ h)) (b2 q h))
    exact ret W R i' t ti' ln' tl' h' tk' h1 h2 h3 h4 F' N'

theorem gettok_a (B : Below A₀ base outer h₀) (F : Fr h₀ L s.heap m) (X : (hd.heap_1 w.params).In h₀) (T : Top p loose mean mg mb h₀) (hf : env.frame = some L) (hke : env.scope.kind = .function) (hdp : dp + 8 < recursionLimit) (hu : un + 130 < cLine) (C : CodeHd base 97 93) {g : Obj → List (Addr × Obj)} {g' : Obj → Obj → List (Addr × Obj)} {np : Nat} {ti tl : Tok} {ln : Int} (N : News h₀ L s.heap news) (S : Strm) (ok : Hide S.ok) (Y : Lx) (hYf : Y.f = S.f) (b : Bool) (w0 : List Nat) (hS : S.x = ⟨(writtenL b w0).toArray⟩) (hw0 : w0 ≠ []) (hwl : w0.length ≤ 4000)
   (m1 : (S.d, dictOf [⟨S.hk, .str (Str.ofString "read") S.kt, .ref S.fr⟩] 1) ∈ news) (m2 : (S.f, { cls := .type "function", dict := some S.d, data := .func S.fd }) ∈ news) (m3 : (S.fr, fnMade (Str.ofString "read") S.qual rdP rdB rdS [(Str.ofString "text", S.ct), (Str.ofString "at", S.ca)] S.doc S.pm S.cr S.ctv) ∈ news)
   (m4 : (S.cr, S.oc) ∈ news) (m6 : (S.ca, S.oca) ∈ news) (m7 : (S.ct, S.oct) ∈ news) (m8 : (Y.pb, listOf #[] np) ∈ news) (m9 : (Y.x, instObj 52 Y.dx) ∈ news) (U : UpdF Y.dx (Y.D ln tl) news g) (U' : ∀ o, UpdF S.la (listOf #[.int (0 : Nat) ti] 0) (g o) (g' o))
   (ret : ∀ t ti' tl' h' tk', Fr h₀ L h' m → News h₀ L h' (g' (Y.D (ln + ((writtenL b w0).count 10 : Nat)) tl') (listOf #[.int (S.x.length : Nat) ti'] 0)) → Q (.str ⟨w0.toArray⟩ t) { s with heap := h', toks := tk' }) :
   wpAny (model PySem.Challenge.rw_sr0006_01.row.prog w) (Am dp un gd env outer) (call (.ref 42) [.ref Y.x]) Q E s :=
  gettok_use B F X T hf hke hdp hu C N S ok.h Y hYf m1 m2 m3 m4 m6 m7 m8 m9 U U' (Nat.zero_le _) (by rw [hS]; have := written_len b w0; simp [Str.length]; omega) fun W R i' t ti' ln' tl' h' tk' h1 h2 h3 h4 F' N' => by
    have e1 : S.x.cps.toList.drop 0 = writtenL b w0 := by rw [hS]; rfl
    rw [e1, scan_written b w0 hw0] at h1
    rw [e1] at h4
    cases h1
    have e2 : i' = S.x.length := by
      have := congrArg List.length h3
      simp at this
      have h9 : S.x.length = S.x.cps.size := rfl
      omega
    subst e2
    have e3 : ln' = ln + ((writtenL b w0).count 10 : Nat) := by simpa using h4
    subst e3
    exact ret t ti' tl' h' tk' F' N'
theorem gettok_b (B : Below A₀ base outer h₀) (F : Fr h₀ L s.heap m) (X : (hd.heap_1 w.params).In h₀) (T : Top p loose mean mg mb h₀) (hf : env.frame = some L) (hke : env.scope.kind = .function) (hdp : dp + 8 < recursionLimit) (hu : un + 130 < cLine) (C : CodeHd base 97 93) {g : Obj → List (Addr × Obj)} {g' : Obj → Obj → List (Addr × Obj)} {np : Nat} {ti tl : Tok} {ln : Int} (N : News h₀ L s.heap news) (S : Strm) (ok : Hide S.ok) (Y : Lx) (hYf : Y.f = S.f) (b : Bool) (w0 : List Nat) (hS : S.x = ⟨(writtenL b w0).toArray⟩) (hwl : w0.length ≤ 4000)
   (m1 : (S.d, dictOf [⟨S.hk, .str (Str.ofString "read") S.kt, .ref S.fr⟩] 1) ∈ news) (m2 : (S.f, { cls := .type "function", dict := some S.d, data := .func S.fd }) ∈ news) (m3 : (S.fr, fnMade (Str.ofString "read") S.qual rdP rdB rdS [(Str.ofString "text", S.ct), (Str.ofString "at", S.ca)] S.doc S.pm S.cr S.ctv) ∈ news)
   (m4 : (S.cr, S.oc) ∈ news) (m6 : (S.ca, S.oca) ∈ news) (m7 : (S.ct, S.oct) ∈ news) (m8 : (Y.pb, listOf #[] np) ∈ news) (m9 : (Y.x, instObj 52 Y.dx) ∈ news) (U : UpdF Y.dx (Y.D ln tl) news g) (U' : ∀ o, UpdF S.la (listOf #[.int (S.x.length : Nat) ti] 0) (g o) (g' o))
   (ret : ∀ t ti' tl' h' tk', Fr h₀ L h' m → News h₀ L h' (g' (Y.D ln tl') (listOf #[.int (S.x.length : Nat) ti'] 0)) → Q (.str ⟨#[]⟩ t) { s with heap := h', toks := tk' }) :
   wpAny (model PySem.Challenge.rw_sr0006_01.row.prog w) (Am dp un gd env outer) (call (.ref 42) [.ref Y.x]) Q E s :=
  gettok_use B F X T hf hke hdp hu C N S ok.h Y hYf m1 m2 m3 m4 m6 m7 m8 m9 U U' (Nat.le_refl _) (by rw [hS]; have := written_len b w0; simp [Str.length]; omega) fun W R i' t ti' ln' tl' h' tk' h1 h2 h3 h4 F' N' => by
    have e1 : S.x.cps.toList.drop S.x.length = [] := drop_len _
    rw [e1, show tokOf [] = ([], []) from rfl] at h1
    rw [e1] at h4
    cases h1
    have e2 : i' = S.x.length := by
      have := congrArg List.length h3
      simp at this
      have h9 : S.x.length = S.x.cps.size := rfl
      omega
    subst e2
    have e3 : ln' = ln := by simpa using h4
    subst e3
    exact ret t ti' tl' h' tk' F' N'

end
end Mine
end
section
open PySem PySem.W PyProof.Rows PySem.Calls PySem.Spec PyProof.V
namespace Mine
noncomputable def OkAll (ws : List Str) : Prop := ∀ x ∈ ws, PyData.canLay0 (.str x) = true
theorem ks_lay : ∀ {ws : List Str}, OkAll ws → PyData.canLayAll0 (ws.map PyData.str) = true
  | [], _ => rfl
  | x :: r, h => by
    have h1 := h x (.head _)
    have h2 := ks_lay (ws := r) fun y hy => h y (.tail _ hy)
    simp only [List.map_cons, PyData.canLayAll0, h1, h2, Bool.and_self]
theorem ks_depth : ∀ ws : List Str, PyData.depthAll (ws.map PyData.str) = 0
  | [] => rfl
  | _ :: r => by simp [PyData.depthAll, PyData.depth, ks_depth r]
theorem ks_shaped {ws : List Str} (h : OkAll ws) : SeqAt.shaped (.list (ws.map PyData.str)) = true := by
  have h1 : PyData.canLay0 (.list (ws.map PyData.str)) = true := ks_lay h
  simp [SeqAt.shaped, h1, PyData.depth, ks_depth]
theorem ks_sameAll : ∀ ns ms : List Str, PySem.Spec.sameAll (ns.map PyData.str) (ms.map PyData.str) = decide (ns = ms)
  | [], [] => by simp [PySem.Spec.sameAll]
  | [], _ :: _ => by simp [PySem.Spec.sameAll]
  | _ :: _, [] => by simp [PySem.Spec.sameAll]
  | a :: r, b :: t => by
    simp only [List.map_cons, PySem.Spec.sameAll, PySem.Spec.same, ks_sameAll r t]
    by_cases h : a = b <;> by_cases h' : r = t <;> simp [h, h']
theorem ks_same (ns ms : List Str) : PySem.Spec.same (.list (ns.map PyData.str)) (.list (ms.map PyData.str)) = decide (ns = ms) := by
  simp only [PySem.Spec.same]; exact ks_sameAll ns ms
theorem ks_carried : ∀ {vs : List Value} {ns : List Str}, StrsAre vs ns → CarriedAll vs (ns.map PyData.str)
  | _, _, .nil => .nil
  | _, _, .cons _ t r => .cons (.str _ t) (ks_carried r)
section
variable {prog : Program} {w : World} {A : Around} {E : Value → Shared → Prop} {s : Shared} {a b : Addr} {xs ys : List Value} {ns ms : List Str} {Q : Value → Shared → Prop}
theorem ks_ne (ha : s.heap.IsList a xs.toArray) (hb : s.heap.IsList b ys.toArray) (hi : StrsAre xs ns) (hj : StrsAre ys ms) (oi : OkAll ns) (oj : OkAll ms) (hu : A.units + 64 < cLine) (h : Q (.bool (!decide (ns = ms))) s) :
    wpAny (model prog w) A (compareOp .NotEq (.ref a) (.ref b)) Q E s :=
  ne_dataH_same (reads_newData ha (ks_carried hi)) (reads_newData hb (ks_carried hj)) (ks_shaped oi) (ks_shaped oj) hu (SeqAt.noMix_of_shape (.list .str) rfl _ _ (list_map_has fun _ => rfl) (list_map_has fun _ => rfl)) (by rw [ks_same]; exact h)
/-- two lists of the same texts -/
theorem ks_ne_same (ha : s.heap.IsList a xs.toArray) (hb : s.heap.IsList b ys.toArray) (hi : StrsAre xs ns) (hj : StrsAre ys ns) (oi : OkAll ns) (hu : A.units + 64 < cLine) (h : Q (.bool false) s) :
    wpAny (model prog w) A (compareOp .NotEq (.ref a) (.ref b)) Q E s := ks_ne ha hb hi hj oi oi hu (by simpa using h)
theorem ne3 {x1 x2 x3 : Str} {t1 t2 t3 u1 u2 u3 : Tok} (ha : s.heap.IsList a #[.str x1 t1, .str x2 t2, .str x3 t3]) (hb : s.heap.IsList b #[.str x1 u1, .str x2 u2, .str x3 u3])
    (o1 : PyData.canLay0 (.str x1) = true) (o2 : PyData.canLay0 (.str x2) = true) (o3 : PyData.canLay0 (.str x3) = true) (hu : A.units + 64 < cLine) (h : Q (.bool false) s) :
    wpAny (model prog w) A (compareOp .NotEq (.ref a) (.ref b)) Q E s :=
  ks_ne_same (xs := [_, _, _]) (ys := [_, _, _]) (ns := [x1, x2, x3]) ha hb (.cons _ _ (.cons _ _ (.cons _ _ .nil))) (.cons _ _ (.cons _ _ (.cons _ _ .nil))) (fun x hx => by
    simp only [List.mem_cons, List.not_mem_nil, or_false] at hx
    rcases hx with rfl | rfl | rfl <;> assumption) hu h
theorem ne5 {x1 x2 x3 x4 x5 : Str} {t1 t2 t3 t4 t5 u1 u2 u3 u4 u5 : Tok} (ha : s.heap.IsList a #[.str x1 t1, .str x2 t2, .str x3 t3, .str x4 t4, .str x5 t5]) (hb : s.heap.IsList b #[.str x1 u1, .str x2 u2, .str x3 u3, .str x4 u4, .str x5 u5])
    (o1 : PyData.canLay0 (.str x1) = true) (o2 : PyData.canLay0 (.str x2) = true) (o3 : PyData.canLay0 (.str x3) = true) (o4 : PyData.canLay0 (.str x4) = true) (o5 : PyData.canLay0 (.str x5) = true) (hu : A.units + 64 < cLine) (h : Q (.bool false) s) :
    wpAny (model prog w) A (compareOp .NotEq (.ref a) (.ref b)) Q E s :=
  ks_ne_same (xs := [_, _, _, _, _]) (ys := [_, _, _, _, _]) (ns := [x1, x2, x3, x4, x5]) ha hb (.cons _ _ (.cons _ _ (.cons _ _ (.cons _ _ (.cons _ _ .nil))))) (.cons _ _ (.cons _ _ (.cons _ _ (.cons _ _ (.cons _ _ .nil))))) (fun x hx => by
    simp only [List.mem_cons, List.not_mem_nil, or_false] at hx
    rcases hx with rfl | rfl | rfl | rfl | rfl <;> assumption) hu h
end
theorem ok_of (l : List Nat) (h : ∀ c ∈ l, c < 1000) : PyData.canLay0 (.str ⟨l.toArray⟩) = true := by
  show (l.toArray).all (· < 0x110000) = true
  simp only [List.all_toArray, List.all_eq_true, decide_eq_true_eq]
  intro c hc; have := h c hc; omega
theorem spell_small (bits : Int) (row : List Int) : ∀ c ∈ spell bits row, c < 1000 := by
  intro c hc
  unfold spell signed at hc
  obtain ⟨i, hi, e⟩ := List.mem_mapIdx.mp hc
  have := octs_oct row (octs row)[i] (List.getElem_mem hi)
  unfold sgn at e
  split at e <;> omega
theorem jo_small {A B C : List Nat} (ha : ∀ c ∈ A, c < 1000) (hb : ∀ c ∈ B, c < 1000) (hc : ∀ c ∈ C, c < 1000) : ∀ c ∈ A ++ 39 :: (B ++ 39 :: C), c < 1000 := by
  intro c hm
  simp only [List.mem_append, List.mem_cons] at hm
  rcases hm with h | h | h | h | h
  · exact ha c h
  · omega
  · exact hb c h
  · omega
  · exact hc c h
end Mine
end
section
open PySem PySem.W PyProof.Rows PySem.Calls PySem.Spec
namespace Mine


section
variable {w : World} {p : Program} {loose : List Str} {mean : ExcName → Option Value} {mg mb : Str → Option Value} {dp un : Nat} {gd : Option (List Code)} {env : Env} {outer : List Env} {A₀ : Around} {base h₀ : Heap} {L : Addr} {m : Str → Option Value} {news : List (Addr × Obj)} {s : Shared} {Q E : Value → Shared → Prop}
noncomputable def forBody (p : Params) : List Stmt := match (lawBody p).drop 17 with
  | Stmt.For _ _ b _ _ :: _ => b
  | _ => []
noncomputable def forNames (p : Params) : Stmt := (forBody p).getD 2 (.Pass ⟨0, 0, 0, 0⟩)
noncomputable def wdOf (X Y : Str) (tX tY : Tok) (xl yl : List Int) (e : Int) : Wd := if e = 256 then (X, tX, xl) else (Y, tY, yl)
theorem ne_head {a I : Addr} {o o' : Obj} {r : List (Addr × Obj)} (h : ∀ q ∈ (a, o) :: r, q.1 ≠ I) : ∀ q ∈ (a, o') :: r, q.1 ≠ I := fun q hq => by
  rcases List.mem_cons.mp hq with rfl | hq
  · exact h (a, o) (.head _)
  · exact h q (.tail _ hq)
theorem ints_at : ∀ {vs : List Value} {ns : List Int} {i : Nat} {v : Value}, IntsAre vs ns → vs.toArray[i]? = some v → ∃ e t, v = .int e t ∧ ns[i]? = some e := by
  intro vs ns i v h hv
  rw [List.getElem?_toArray] at hv
  induction h generalizing i with
  | nil => simp at hv
  | cons a t r ih =>
    cases i with
    | zero => simp at hv; exact ⟨_, _, hv.symm, rfl⟩
    | succ i =>
      obtain ⟨e, t', h1, h2⟩ := ih (by simpa using hv)
      exact ⟨e, t', h1, by simpa using h2⟩
section
variable {prog : Program} {A : Around}
theorem lay2 {n1 : Int} (h : 257 ≤ n1 ∧ n1 ≤ 10256) : (PyData.list ([256, n1].map PyData.int)).layable0 = true := by
  have h1 : n1.natAbs.log2 ≤ n1.natAbs := Nat.log2_le_self _
  have h2 : Nat.log2 256 ≤ 256 := Nat.log2_le_self _
  simp [PyData.layable0, PyData.canLay0, PyData.canLayAll0, PyData.depth, PyData.depthAll, PyData.weight, PyData.weightAll]
  split <;> omega
theorem idx2a {l : Addr} {n1 : Int} {ta tb t : Tok} (hb : 257 ≤ n1 ∧ n1 ≤ 10256) (hl : s.heap.IsList l #[.int 256 ta, .int n1 tb]) (h : ∀ t' tk, Q (.int 0 t') { s with toks := tk }) : wpAny (model prog w) A (call (.builtin "list.index") [.ref l, .int 256 t]) Q E s :=
  index_list_ints (vs := [.int 256 ta, .int n1 tb]) (ns := [256, n1]) hl (.cons _ _ (.cons _ _ .nil)) (lay2 hb) (.head _) (by simpa using h _ _)
theorem idx2b {l : Addr} {n1 : Int} {ta tb t : Tok} (hb : 257 ≤ n1 ∧ n1 ≤ 10256) (hl : s.heap.IsList l #[.int 256 ta, .int n1 tb]) (h : ∀ t' tk, Q (.int 1 t') { s with toks := tk }) : wpAny (model prog w) A (call (.builtin "list.index") [.ref l, .int n1 t]) Q E s :=
  index_list_ints (vs := [.int 256 ta, .int n1 tb]) (ns := [256, n1]) hl (.cons _ _ (.cons _ _ .nil)) (lay2 hb) (.tail _ (.head _)) (by
    have e : List.idxOf n1 [256, n1] = 1 := by
      rw [List.idxOf_cons]
      have : ((256 : Int) == n1) = false := by (simp; omega)
      rw [this]; simp
    rw [e]; simpa using h _ _)
end
theorem push_loop0 (B : Below A₀ base [] h₀) (X : (hd.heap_1 w.params).In h₀) (T : Top p loose mean mg mb h₀) (C : CodeHd base 97 93) (hdp : dp + 12 < recursionLimit) (hu : un + 300 < cLine) {Qf : Flow → Shared → Prop} {fa : Addr} {cd : Value} {rn ll tl ax ay rw rb : Addr} {tk0 ttt tb1 tb2 tt1 tt2 : Tok} {tx : List Nat} {m₀ : Str → Option Value} {row : List Int} {vs tds : List Value} {en np : Nat} {n1 ln : Int} {tl0 : Tok} {X9 Y9 : Str} {ob : Obj} {Y0 Y1 : Lx} {g : Obj → List (Addr × Obj)} (xl yl : List Int) {k0 : Int} (hk0 : k0 = 0)
   (F : Fr h₀ L s.heap m₀) (N : News h₀ L s.heap news) (hk : ∀ q ∈ ([("names", .ref rn), ("lexers", .ref ll), ("told", .ref tl), ("k", .int k0 tk0), ("x", .ref ax), ("y", .ref ay), ("rows", .ref rw), ("text", .str ⟨tx.toArray⟩ ttt)] : List (Str × Value)), m₀ q.1 = some q.2) (U : UpdF Y0.pb (listOf #[] np) news g)
   (m1 : (rn, listOf vs.toArray en) ∈ news) (m2 : (Y0.x, instObj 52 Y0.dx) ∈ news) (m3 : (Y0.dx, Y0.D ln tl0) ∈ news) (m4 : (tl, listOf (Value.str X9 tt1 :: Value.str Y9 tt2 :: tds).toArray 0) ∈ news) (m5 : (ll, listOf #[.ref Y0.x, .ref Y1.x] 0) ∈ news) (m6 : (rb, listOf #[.int 256 tb1, .int n1 tb2] 0) ∈ news) (m7 : (L + 1 + 1 + 1, ob) ∈ news) (hob : ob.data = .cell (some (.ref rb)))
   (hi : IntsAre vs row) (hrow : ∀ e ∈ row, e = 256 ∨ e = n1) (hn1 : 257 ≤ n1 ∧ n1 ≤ 10256) (hrl : row.length ≤ 100) (hr0 : row ≠ [])
   (ret : ∀ u np' h' tk', Fr h₀ L h' (kstB u [("names", .ref rn), ("lexers", .ref ll), ("told", .ref tl), ("k", .int k0 tk0), ("x", .ref ax), ("y", .ref ay), ("rows", .ref rw), ("text", .str ⟨tx.toArray⟩ ttt)]) → News h₀ L h' (g (listOf (vals (row.map (wdOf X9 Y9 tt1 tt2 xl yl))).toArray np')) → Qf .next { s with heap := h', toks := tk' }) :
   wpAny (model PySem.Challenge.rw_sr0006_01.row.prog w) (Am dp un gd (lawEnv w.params L fa cd) []) (exec (forNames w.params) (lawEnv w.params L fa cd)) Qf (fun _ _ => False) s := by
  k_with_none
  k_with "k_lk" => (first | (refine' lt_get ?h9 ?m9; (case h9 => with_reducible assumption); (case m9 => k_mem)) | (refine' Ne.symm (lt_get ?h9 ?m9); (case h9 => with_reducible assumption); (case m9 => k_mem)) | (refine' ana_get ?h9 ?m9; (case h9 => with_reducible assumption); (case m9 => k_mem)) | (refine' Ne.symm (ana_get ?h9 ?m9); (case h9 => with_reducible assumption); (case m9 => k_mem)) | with_reducible assumption | (refine Ne.symm ?_; with_reducible assumption) | fail "k_lk")
  k_with "k_ne" => first | k_extra "k_lk" | omega
  k_with "k_all" => (first | with_reducible assumption | (refine' lt_all ?h9; (case h9 => with_reducible assumption)) | fail "k_all")
  k_with "k_mem" => (first | exact mI0 | exact mI1 | exact mI2 | exact mI3 | exact mI4 | exact mI5 | exact mI6 | exact mI7 | exact mI8 | exact mI9 | exact mI10 | exact mI11 | (refine mS12 ?_; k_mem))
  k_with "k_room" => first | (refine' rm0 ?h9 ?k9; (case h9 => with_reducible assumption); (case k9 => exact Nat.le_of_ble_eq_true rfl)) | (refine' rm1 ?h9 ?k9; (case h9 => with_reducible assumption); (case k9 => exact Nat.le_of_ble_eq_true rfl)) | (refine' rm2 ?h9; (case h9 => with_reducible assumption)) | (refine' rm4 ?h9; (case h9 => with_reducible assumption)) | (simp only [depth_under_make, depth_under_kw, depth_in1, depth_deeper, depth_caller, recursionLimit] at *; omega)
  k_with "k_units" => first | (refine' rm0 ?h9 ?k9; (case h9 => with_reducible assumption); (case k9 => exact Nat.le_of_ble_eq_true rfl)) | (refine' rm1 ?h9 ?k9; (case h9 => with_reducible assumption); (case k9 => exact Nat.le_of_ble_eq_true rfl)) | (refine' rm2 ?h9; (case h9 => with_reducible assumption)) | (refine' rm4 ?h9; (case h9 => with_reducible assumption)) | (simp only [units_in1, units_deeper, Around.mark_units, units_caller, cLine] at *; omega)
  k_with "om" => (first | (refine neN ?_; (try dsimp only); k_extra "k_lk") | with_reducible assumption | exact Nat.le_of_ble_eq_true rfl | (refine' le_lit ?h9 ?k9; (case h9 => with_reducible assumption); (case k9 => exact Nat.le_of_ble_eq_true rfl)) | (refine' lt_lit ?h9 ?k9; (case h9 => with_reducible assumption); (case k9 => exact Nat.le_of_ble_eq_true rfl)) | (refine' rm0 ?h9 ?k9; (case h9 => with_reducible assumption); (case k9 => exact Nat.le_of_ble_eq_true rfl)) | (refine' rm1 ?h9 ?k9; (case h9 => with_reducible assumption); (case k9 => exact Nat.le_of_ble_eq_true rfl)) | (refine' rm2 ?h9; (case h9 => with_reducible assumption)) | (refine' rm4 ?h9; (case h9 => with_reducible assumption)) | omega (config := { splitDisjunctions := false }) | ((repeat (first | (rename _ ≠ _ ∧ _ => hq9; clear hq9) | (rename (_ ≠ _ ∧ _) ∧ _ => hq9; clear hq9))); omega (config := { splitDisjunctions := true })) | omega (config := { splitDisjunctions := true }) | ((repeat (rename (∀ p ∈ (_ : List (PySem.Addr × PySem.Obj)), @LT.lt Nat _ p.1 _) => hq9; (have hq8 := PySem.W.allLt_of hq9); clear hq9; simp only [PySem.W.AllLt, and_true] at hq8)); omega (config := { splitDisjunctions := true })))
  k_with "callWith ref" => (k_here; k_dflt (refine' callWith_K ?zs1 ?zs2 ?_; (case zs1 => k_asm); (case zs2 => k_is); k_whole))
  k_with "call builtin:len" => (k_here; (with_reducible show wpAny _ _ (call (Value.builtin _) [Value.ref _]) _ _ _); (with_unfolding_all refine' len_ints_fit ?zs1 ?zs2 ?zs3 ?_; (case zs1 => is_list); (case zs2 => l_ints); (case zs3 => l_fit); k_whole); (try simp only [List.length_append, List.length_cons, List.length_nil, Nat.zero_add]))
  k_with "subscriptTail Name" => (k_here; (with_reducible show wpAny _ _ (subscriptTail _ _ (Value.ref _) (Value.int _ _)) _ _ _); kim_at)
  k_with "getMethod ref" => (k_here; k_dflt (refine' method_inst ?zs1 ?zs2 ?zs3 ?zs4 ?zs5 ?zs6 ?zs7 ?_; (case zs1 => k_asm); (case zs2 => k_asm); (case zs3 => k_inst); (case zs4 => k_is); (case zs5 => k_is); (case zs6 => k_is); (case zs7 => k_get); k_whole))
  k_with "execs cons" => (refine seqK ?_; intro K9 tk9 hK9; (try dsimp only))
  k_with "KK next" => (refine' kk_next ?h9 ?_; (case h9 => with_reducible assumption))
  k_with "KK ret" => (refine' kk_ret ?h9 ?_; (case h9 => with_reducible assumption); (try dsimp only))
  k_with "KK brk" => (refine' kk_brk ?h9 ?_; (case h9 => with_reducible assumption); (try dsimp only))
  k_with "KK cont" => (refine' kk_cont ?h9 ?_; (case h9 => with_reducible assumption); (try dsimp only))
  k_with "call builtin:list.index" => (k_here; k_dflt (first | (refine' idx2a ?zqn ?zql ?_; (case zql => exact News.isList (by k_asm) (by k_mem)); (case zqn => k_extra "n1b"); k_whole; intro ti' tki') | (refine' idx2b ?zqn ?zql ?_; (case zql => exact News.isList (by k_asm) (by k_mem)); (case zqn => k_extra "n1b"); k_whole; intro ti' tki')))
  k_with "exec For Name Name cons nil" => (k_here; k_dflt (rename Fr _ _ _ _ => lF; refine' my_for lF ?_ ?zqhs ?zqhE; (case zqhE => exact fun _ _ h => h); (case zqhs => exact fun _ => rfl); k_whole))
  subst hk0
  obtain ⟨pre, post, rfl, hg, na, nb⟩ := U.split
  have nall : ∀ p ∈ pre ++ post, p.1 ≠ Y0.pb := fun p hp => (List.mem_append.mp hp).elim (na p) (nb p)
  have dt : ∀ {o o' : Obj}, o.data ≠ o'.data → o ≠ o' := fun h e => h (congrArg Obj.data e)
  have ms : ∀ {a : Addr} {o : Obj}, (a, o) ∈ pre ++ (Y0.pb, listOf #[] np) :: post → a ≠ Y0.pb → (a, o) ∈ pre ++ post := fun h ne => by
    rcases List.mem_append.mp h with h | h
    · exact List.mem_append_left _ h
    · rcases List.mem_cons.mp h with h | h
      · cases h; exact absurd rfl ne
      · exact List.mem_append_right _ h
  have dne : ∀ {a b : Addr} {o o' : Obj}, (a, o) ∈ pre ++ (Y0.pb, listOf #[] np) :: post → (b, o') ∈ pre ++ (Y0.pb, listOf #[] np) :: post → o ≠ o' → a ≠ b := fun ha hb h e => by
    have h1 := (N _ ha).1
    have h2 := (N _ hb).1
    rw [show (_, _).1 = _ from e, h2] at h1
    exact h (Option.some.inj h1).symm
  have mp : (Y0.pb, listOf #[] np) ∈ pre ++ (Y0.pb, listOf #[] np) :: post := List.mem_append_right _ (.head _)
  have mr := ms m1 (dne m1 mp (dt (fun h => by
    cases vs with
    | nil => cases hi; exact hr0 rfl
    | cons v r => simp at h)))
  have mx := ms m2 (dne m2 mp (dt (by simp)))
  have md := ms m3 (dne m3 mp (dt (by simp)))
  have mt := ms m4 (dne m4 mp (dt (by simp)))
  have ml := ms m5 (dne m5 mp (dt (by simp)))
  have mb := ms m6 (dne m6 mp (dt (by simp)))
  have mc := ms m7 (dne m7 mp (dt (by rw [hob]; simp)))
  clear m1 m2 m3 m4 m5 m6 m7 dne ms
  generalize hrest : pre ++ post = rest at nall mr mx md mt ml mb mc
  replace N : News h₀ L s.heap ((Y0.pb, listOf #[] np) :: (rn, listOf vs.toArray en) :: (Y0.x, instObj 52 Y0.dx) :: (Y0.dx, Y0.D ln tl0) :: (tl, listOf (Value.str X9 tt1 :: Value.str Y9 tt2 :: tds).toArray 0) :: (ll, listOf #[.ref Y0.x, .ref Y1.x] 0) :: (rb, listOf #[.int 256 tb1, .int n1 tb2] 0) :: (L + 1 + 1 + 1, ob) :: rest) := cb_drop N (fun q hq => by
    simp only [List.mem_cons] at hq
    have up : q ∈ rest → q ∈ pre ++ (Y0.pb, listOf #[] np) :: post := fun h => by
      rw [← hrest] at h
      rcases List.mem_append.mp h with h | h
      · exact List.mem_append_left _ h
      · exact List.mem_append_right _ (.tail _ h)
    rcases hq with rfl | rfl | rfl | rfl | rfl | rfl | rfl | rfl | hq
    · exact mp
    all_goals exact up (by assumption))
  have hA : AllNeA Y0.pb [rn, Y0.x, Y0.dx, tl, ll, rb, L + 1 + 1 + 1] := fun a ha => by
    simp only [List.mem_cons, List.not_mem_nil, or_false] at ha
    rcases ha with rfl | rfl | rfl | rfl | rfl | rfl | rfl
    · exact nall _ mr
    · exact nall _ mx
    · exact nall _ md
    · exact nall _ mt
    · exact nall _ ml
    · exact nall _ mb
    · exact nall _ mc
  have F9 : Fr h₀ L s.heap (kstB m₀ [("names", .ref rn), ("lexers", .ref ll), ("told", .ref tl), ("k", .int 0 tk0), ("x", .ref ax), ("y", .ref ay), ("rows", .ref rw), ("text", .str ⟨tx.toArray⟩ ttt)]) := by rw [kstB_of hk]; exact F
  clear F mr mx md mt ml mb mc na nb dt U mp
  unfold forNames forBody lawBody lawEnv lawD
  dsimp only [List.drop, List.getD, List.getElem?_cons_succ, List.getElem?_cons_zero, Option.getD]
  revert X; k_fill; intro X
  k_with "n1b" => exact hn1
  k_with "pyIter ref" => k_dflt (
    refine' iter_list (by k_asm) (by k_asm) (News.isList (by k_asm) (by k_mem)) ?_
    intro I h1 F1 N1 l1
    have hI : ∀ q ∈ ((Y0.pb, listOf #[] np) :: (rn, listOf vs.toArray en) :: (Y0.x, instObj 52 Y0.dx) :: (Y0.dx, Y0.D ln tl0) :: (tl, listOf (Value.str X9 tt1 :: Value.str Y9 tt2 :: tds).toArray 0) :: (ll, listOf #[.ref Y0.x, .ref Y1.x] 0) :: (rb, listOf #[.int 256 tb1, .int n1 tb2] 0) :: (L + 1 + 1 + 1, ob) :: rest), q.1 ≠ I := fun q hq => Nat.ne_of_lt (l1 q hq)
    have hpI : @Ne Nat Y0.pb I := hI _ (.head _)
    clear l1
    refine' ForAt.intro (σ := Nat × Nat)
      (fun c => (I, litObj rn c.1) :: (Y0.pb, listOf (vals ((row.take c.1).map (wdOf X9 Y9 tt1 tt2 xl yl))).toArray c.2) :: (rn, listOf vs.toArray en) :: (Y0.x, instObj 52 Y0.dx) :: (Y0.dx, Y0.D ln tl0) :: (tl, listOf (Value.str X9 tt1 :: Value.str Y9 tt2 :: tds).toArray 0) :: (ll, listOf #[.ref Y0.x, .ref Y1.x] 0) :: (rb, listOf #[.int 256 tb1, .int n1 tb2] 0) :: (L + 1 + 1 + 1, ob) :: rest)
      (fun c => [("names", .ref rn), ("lexers", .ref ll), ("told", .ref tl), ("k", .int 0 tk0), ("x", .ref ax), ("y", .ref ay), ("rows", .ref rw), ("text", .str ⟨tx.toArray⟩ ttt)]) (fun c => c.1 ≤ row.length) (fun c => row.length - c.1) (0, np) F1 N1 (by kst_all) (fun q hq => hq) (Nat.zero_le _) ?_
    intro c u h2 tk2 htk2 hc F2 N2
    obtain ⟨i, np2⟩ := c
    dsimp only at hc F2 N2 ⊢
    have hvl := hi.length
    refine' next_listC rfl F2 N2 (ne_head hI) (News.isList N2 (by k_mem)) (by rw [List.size_toArray]; omega) (fun v h3 hv F3 N3 => ?_) (fun h3 he F3 N3 => ?_)
    all_goals dsimp only
    rotate_left
    have he' : i = row.length := by rw [List.size_toArray] at he; omega
    subst he'
    rotate_left
    obtain ⟨e, te, rfl, hre⟩ := ints_at hi hv
    have hwl : (vals ((row.take i).map (wdOf X9 Y9 tt1 tt2 xl yl))).length ≤ 1000 := by simp [vals]; omega
    have hec := hrow e (List.mem_of_getElem? hre)
    have hil : i < row.length := (List.getElem?_eq_some_iff.mp hre).1
    refine no_letgo (assign_name ?_)
    rcases hec with rfl | rfl)
  k_with "call ref" => k_dflt (
    refine' push_use (by k_asm) (by k_asm) (by k_asm) (by k_asm) rfl rfl (by k_room) (by k_units) (by k_asm) Y0 ln tl0 _ (vals ((row.take i).map (wdOf X9 Y9 tt1 tt2 xl yl))) _ (by k_mem) (by k_mem) (by k_updF) hwl ?_
    k_whole
    intro np3 h4 tk4 F4 N4
    (try dsimp only at N4))
  k_steps
  · have e9 : vals ((row.take (i + 1)).map (wdOf X9 Y9 tt1 tt2 xl yl)) = vals ((row.take i).map (wdOf X9 Y9 tt1 tt2 xl yl)) ++ [Value.str X9 tt1] := by
      rw [List.take_add_one, hre]; simp [vals, wdOf]
    k_dflt refine' lend2 (i + 1, np3) (by k_asm) (by k_asm) (by kst_all) (by dsimp only; rw [e9]; exact fun q hq => hq) (by dsimp only; exact ⟨by omega, by omega⟩)
  · have hne : e ≠ 256 := by omega
    have e9 : vals ((row.take (i + 1)).map (wdOf X9 Y9 tt1 tt2 xl yl)) = vals ((row.take i).map (wdOf X9 Y9 tt1 tt2 xl yl)) ++ [Value.str Y9 tt2] := by
      rw [List.take_add_one, hre]; simp [vals, wdOf, hne]
    k_dflt refine' lend2 (i + 1, np3) (by k_asm) (by k_asm) (by kst_all) (by dsimp only; rw [e9]; exact fun q hq => hq) (by dsimp only; exact ⟨by omega, by omega⟩)
  · rw [List.take_length] at N3
    refine ret u np2 h3 _ F3 (fun q hq => ?_)
    rw [hg] at hq
    rcases List.mem_append.mp hq with h | h
    · exact N3 q (.tail _ (.tail _ (.tail _ (.tail _ (.tail _ (.tail _ (.tail _ (.tail _ (by rw [← hrest]; exact List.mem_append_left _ h)))))))))
    · rcases List.mem_cons.mp h with rfl | h
      · exact N3 _ (.head _)
      · exact N3 q (.tail _ (.tail _ (.tail _ (.tail _ (.tail _ (.tail _ (.tail _ (.tail _ (by rw [← hrest]; exact List.mem_append_right _ h)))))))))

theorem push_loop1 (B : Below A₀ base [] h₀) (X : (hd.heap_1 w.params).In h₀) (T : Top p loose mean mg mb h₀) (C : CodeHd base 97 93) (hdp : dp + 12 < recursionLimit) (hu : un + 300 < cLine) {Qf : Flow → Shared → Prop} {fa : Addr} {cd : Value} {rn ll tl ax ay rw rb : Addr} {tk0 ttt tb1 tb2 tt1 tt2 : Tok} {tx : List Nat} {m₀ : Str → Option Value} {row : List Int} {vs tds : List Value} {en np : Nat} {n1 ln : Int} {tl0 : Tok} {X9 Y9 : Str} {ob : Obj} {Y0 Y1 : Lx} {g : Obj → List (Addr × Obj)} (xl yl : List Int) {k0 : Int} (hk0 : k0 = 1)
   (F : Fr h₀ L s.heap m₀) (N : News h₀ L s.heap news) (hk : ∀ q ∈ ([("names", .ref rn), ("lexers", .ref ll), ("told", .ref tl), ("k", .int k0 tk0), ("x", .ref ax), ("y", .ref ay), ("rows", .ref rw), ("text", .str ⟨tx.toArray⟩ ttt)] : List (Str × Value)), m₀ q.1 = some q.2) (U : UpdF Y1.pb (listOf #[] np) news g)
   (m1 : (rn, listOf vs.toArray en) ∈ news) (m2 : (Y1.x, instObj 52 Y1.dx) ∈ news) (m3 : (Y1.dx, Y1.D ln tl0) ∈ news) (m4 : (tl, listOf (Value.str X9 tt1 :: Value.str Y9 tt2 :: tds).toArray 0) ∈ news) (m5 : (ll, listOf #[.ref Y0.x, .ref Y1.x] 0) ∈ news) (m6 : (rb, listOf #[.int 256 tb1, .int n1 tb2] 0) ∈ news) (m7 : (L + 1 + 1 + 1, ob) ∈ news) (hob : ob.data = .cell (some (.ref rb)))
   (hi : IntsAre vs row) (hrow : ∀ e ∈ row, e = 256 ∨ e = n1) (hn1 : 257 ≤ n1 ∧ n1 ≤ 10256) (hrl : row.length ≤ 100) (hr0 : row ≠ [])
   (ret : ∀ u np' h' tk', Fr h₀ L h' (kstB u [("names", .ref rn), ("lexers", .ref ll), ("told", .ref tl), ("k", .int k0 tk0), ("x", .ref ax), ("y", .ref ay), ("rows", .ref rw), ("text", .str ⟨tx.toArray⟩ ttt)]) → News h₀ L h' (g (listOf (vals (row.map (wdOf X9 Y9 tt1 tt2 xl yl))).toArray np')) → Qf .next { s with heap := h', toks := tk' }) :
   wpAny (model PySem.Challenge.rw_sr0006_01.row.prog w) (Am dp un gd (lawEnv w.params L fa cd) []) (exec (forNames w.params) (lawEnv w.params L fa cd)) Qf (fun _ _ => False) s := by
  k_with_none
  k_with "k_lk" => (first | (refine' lt_get ?h9 ?m9; (case h9 => with_reducible assumption); (case m9 => k_mem)) | (refine' Ne.symm (lt_get ?h9 ?m9); (case h9 => with_reducible assumption); (case m9 => k_mem)) | (refine' ana_get ?h9 ?m9; (case h9 => with_reducible assumption); (case m9 => k_mem)) | (refine' Ne.symm (ana_get ?h9 ?m9); (case h9 => with_reducible assumption); (case m9 => k_mem)) | with_reducible assumption | (refine Ne.symm ?_; with_reducible assumption) | fail "k_lk")
  k_with "k_ne" => first | k_extra "k_lk" | omega
  k_with "k_all" => (first | with_reducible assumption | (refine' lt_all ?h9; (case h9 => with_reducible assumption)) | fail "k_all")
  k_with "k_mem" => (first | exact mI0 | exact mI1 | exact mI2 | exact mI3 | exact mI4 | exact mI5 | exact mI6 | exact mI7 | exact mI8 | exact mI9 | exact mI10 | exact mI11 | (refine mS12 ?_; k_mem))
  k_with "k_room" => first | (refine' rm0 ?h9 ?k9; (case h9 => with_reducible assumption); (case k9 => exact Nat.le_of_ble_eq_true rfl)) | (refine' rm1 ?h9 ?k9; (case h9 => with_reducible assumption); (case k9 => exact Nat.le_of_ble_eq_true rfl)) | (refine' rm2 ?h9; (case h9 => with_reducible assumption)) | (refine' rm4 ?h9; (case h9 => with_reducible assumption)) | (simp only [depth_under_make, depth_under_kw, depth_in1, depth_deeper, depth_caller, recursionLimit] at *; omega)
  k_with "k_units" => first | (refine' rm0 ?h9 ?k9; (case h9 => with_reducible assumption); (case k9 => exact Nat.le_of_ble_eq_true rfl)) | (refine' rm1 ?h9 ?k9; (case h9 => with_reducible assumption); (case k9 => exact Nat.le_of_ble_eq_true rfl)) | (refine' rm2 ?h9; (case h9 => with_reducible assumption)) | (refine' rm4 ?h9; (case h9 => with_reducible assumption)) | (simp only [units_in1, units_deeper, Around.mark_units, units_caller, cLine] at *; omega)
  k_with "om" => (first | (refine neN ?_; (try dsimp only); k_extra "k_lk") | with_reducible assumption | exact Nat.le_of_ble_eq_true rfl | (refine' le_lit ?h9 ?k9; (case h9 => with_reducible assumption); (case k9 => exact Nat.le_of_ble_eq_true rfl)) | (refine' lt_lit ?h9 ?k9; (case h9 => with_reducible assumption); (case k9 => exact Nat.le_of_ble_eq_true rfl)) | (refine' rm0 ?h9 ?k9; (case h9 => with_reducible assumption); (case k9 => exact Nat.le_of_ble_eq_true rfl)) | (refine' rm1 ?h9 ?k9; (case h9 => with_reducible assumption); (case k9 => exact Nat.le_of_ble_eq_true rfl)) | (refine' rm2 ?h9; (case h9 => with_reducible assumption)) | (refine' rm4 ?h9; (case h9 => with_reducible assumption)) | omega (config := { splitDisjunctions := false }) | ((repeat (first | (rename _ ≠ _ ∧ _ => hq9; clear hq9) | (rename (_ ≠ _ ∧ _) ∧ _ => hq9; clear hq9))); omega (config := { splitDisjunctions := true })) | omega (config := { splitDisjunctions := true }) | ((repeat (rename (∀ p ∈ (_ : List (PySem.Addr × PySem.Obj)), @LT.lt Nat _ p.1 _) => hq9; (have hq8 := PySem.W.allLt_of hq9); clear hq9; simp only [PySem.W.AllLt, and_true] at hq8)); omega (config := { splitDisjunctions := true })))
  k_with "callWith ref" => (k_here; k_dflt (refine' callWith_K ?zs1 ?zs2 ?_; (case zs1 => k_asm); (case zs2 => k_is); k_whole))
  k_with "call builtin:len" => (k_here; (with_reducible show wpAny _ _ (call (Value.builtin _) [Value.ref _]) _ _ _); (with_unfolding_all refine' len_ints_fit ?zs1 ?zs2 ?zs3 ?_; (case zs1 => is_list); (case zs2 => l_ints); (case zs3 => l_fit); k_whole); (try simp only [List.length_append, List.length_cons, List.length_nil, Nat.zero_add]))
  k_with "subscriptTail Name" => (k_here; (with_reducible show wpAny _ _ (subscriptTail _ _ (Value.ref _) (Value.int _ _)) _ _ _); kim_at)
  k_with "getMethod ref" => (k_here; k_dflt (refine' method_inst ?zs1 ?zs2 ?zs3 ?zs4 ?zs5 ?zs6 ?zs7 ?_; (case zs1 => k_asm); (case zs2 => k_asm); (case zs3 => k_inst); (case zs4 => k_is); (case zs5 => k_is); (case zs6 => k_is); (case zs7 => k_get); k_whole))
  k_with "execs cons" => (refine seqK ?_; intro K9 tk9 hK9; (try dsimp only))
  k_with "KK next" => (refine' kk_next ?h9 ?_; (case h9 => with_reducible assumption))
  k_with "KK ret" => (refine' kk_ret ?h9 ?_; (case h9 => with_reducible assumption); (try dsimp only))
  k_with "KK brk" => (refine' kk_brk ?h9 ?_; (case h9 => with_reducible assumption); (try dsimp only))
  k_with "KK cont" => (refine' kk_cont ?h9 ?_; (case h9 => with_reducible assumption); (try dsimp only))
  k_with "call builtin:list.index" => (k_here; k_dflt (first | (refine' idx2a ?zqn ?zql ?_; (case zql => exact News.isList (by k_asm) (by k_mem)); (case zqn => k_extra "n1b"); k_whole; intro ti' tki') | (refine' idx2b ?zqn ?zql ?_; (case zql => exact News.isList (by k_asm) (by k_mem)); (case zqn => k_extra "n1b"); k_whole; intro ti' tki')))
  k_with "exec For Name Name cons nil" => (k_here; k_dflt (rename Fr _ _ _ _ => lF; refine' my_for lF ?_ ?zqhs ?zqhE; (case zqhE => exact fun _ _ h => h); (case zqhs => exact fun _ => rfl); k_whole))
  subst hk0
  obtain ⟨pre, post, rfl, hg, na, nb⟩ := U.split
  have nall : ∀ p ∈ pre ++ post, p.1 ≠ Y1.pb := fun p hp => (List.mem_append.mp hp).elim (na p) (nb p)
  have dt : ∀ {o o' : Obj}, o.data ≠ o'.data → o ≠ o' := fun h e => h (congrArg Obj.data e)
  have ms : ∀ {a : Addr} {o : Obj}, (a, o) ∈ pre ++ (Y1.pb, listOf #[] np) :: post → a ≠ Y1.pb → (a, o) ∈ pre ++ post := fun h ne => by
    rcases List.mem_append.mp h with h | h
    · exact List.mem_append_left _ h
    · rcases List.mem_cons.mp h with h | h
      · cases h; exact absurd rfl ne
      · exact List.mem_append_right _ h
  have dne : ∀ {a b : Addr} {o o' : Obj}, (a, o) ∈ pre ++ (Y1.pb, listOf #[] np) :: post → (b, o') ∈ pre ++ (Y1.pb, listOf #[] np) :: post → o ≠ o' → a ≠ b := fun ha hb h e => by
    have h1 := (N _ ha).1
    have h2 := (N _ hb).1
    rw [show (_, _).1 = _ from e, h2] at h1
    exact h (Option.some.inj h1).symm
  have mp : (Y1.pb, listOf #[] np) ∈ pre ++ (Y1.pb, listOf #[] np) :: post := List.mem_append_right _ (.head _)
  have mr := ms m1 (dne m1 mp (dt (fun h => by
    cases vs with
    | nil => cases hi; exact hr0 rfl
    | cons v r => simp at h)))
  have mx := ms m2 (dne m2 mp (dt (by simp)))
  have md := ms m3 (dne m3 mp (dt (by simp)))
  have mt := ms m4 (dne m4 mp (dt (by simp)))
  have ml := ms m5 (dne m5 mp (dt (by simp)))
  have mb := ms m6 (dne m6 mp (dt (by simp)))
  have mc := ms m7 (dne m7 mp (dt (by rw [hob]; simp)))
  clear m1 m2 m3 m4 m5 m6 m7 dne ms
  generalize hrest : pre ++ post = rest at nall mr mx md mt ml mb mc
  replace N : News h₀ L s.heap ((Y1.pb, listOf #[] np) :: (rn, listOf vs.toArray en) :: (Y1.x, instObj 52 Y1.dx) :: (Y1.dx, Y1.D ln tl0) :: (tl, listOf (Value.str X9 tt1 :: Value.str Y9 tt2 :: tds).toArray 0) :: (ll, listOf #[.ref Y0.x, .ref Y1.x] 0) :: (rb, listOf #[.int 256 tb1, .int n1 tb2] 0) :: (L + 1 + 1 + 1, ob) :: rest) := cb_drop N (fun q hq => by
    simp only [List.mem_cons] at hq
    have up : q ∈ rest → q ∈ pre ++ (Y1.pb, listOf #[] np) :: post := fun h => by
      rw [← hrest] at h
      rcases List.mem_append.mp h with h | h
      · exact List.mem_append_left _ h
      · exact List.mem_append_right _ (.tail _ h)
    rcases hq with rfl | rfl | rfl | rfl | rfl | rfl | rfl | rfl | hq
    · exact mp
    all_goals exact up (by assumption))
  have hA : AllNeA Y1.pb [rn, Y1.x, Y1.dx, tl, ll, rb, L + 1 + 1 + 1] := fun a ha => by
    simp only [List.mem_cons, List.not_mem_nil, or_false] at ha
    rcases ha with rfl | rfl | rfl | rfl | rfl | rfl | rfl
    · exact nall _ mr
    · exact nall _ mx
    · exact nall _ md
    · exact nall _ mt
    · exact nall _ ml
    · exact nall _ mb
    · exact nall _ mc
  have F9 : Fr h₀ L s.heap (kstB m₀ [("names", .ref rn), ("lexers", .ref ll), ("told", .ref tl), ("k", .int 1 tk0), ("x", .ref ax), ("y", .ref ay), ("rows", .ref rw), ("text", .str ⟨tx.toArray⟩ ttt)]) := by rw [kstB_of hk]; exact F
  clear F mr mx md mt ml mb mc na nb dt U mp
  unfold forNames forBody lawBody lawEnv lawD
  dsimp only [List.drop, List.getD, List.getElem?_cons_succ, List.getElem?_cons_zero, Option.getD]
  revert X; k_fill; intro X
  k_with "n1b" => exact hn1
  k_with "pyIter ref" => k_dflt (
    refine' iter_list (by k_asm) (by k_asm) (News.isList (by k_asm) (by k_mem)) ?_
    intro I h1 F1 N1 l1
    have hI : ∀ q ∈ ((Y1.pb, listOf #[] np) :: (rn, listOf vs.toArray en) :: (Y1.x, instObj 52 Y1.dx) :: (Y1.dx, Y1.D ln tl0) :: (tl, listOf (Value.str X9 tt1 :: Value.str Y9 tt2 :: tds).toArray 0) :: (ll, listOf #[.ref Y0.x, .ref Y1.x] 0) :: (rb, listOf #[.int 256 tb1, .int n1 tb2] 0) :: (L + 1 + 1 + 1, ob) :: rest), q.1 ≠ I := fun q hq => Nat.ne_of_lt (l1 q hq)
    have hpI : @Ne Nat Y1.pb I := hI _ (.head _)
    clear l1
    refine' ForAt.intro (σ := Nat × Nat)
      (fun c => (I, litObj rn c.1) :: (Y1.pb, listOf (vals ((row.take c.1).map (wdOf X9 Y9 tt1 tt2 xl yl))).toArray c.2) :: (rn, listOf vs.toArray en) :: (Y1.x, instObj 52 Y1.dx) :: (Y1.dx, Y1.D ln tl0) :: (tl, listOf (Value.str X9 tt1 :: Value.str Y9 tt2 :: tds).toArray 0) :: (ll, listOf #[.ref Y0.x, .ref Y1.x] 0) :: (rb, listOf #[.int 256 tb1, .int n1 tb2] 0) :: (L + 1 + 1 + 1, ob) :: rest)
      (fun c => [("names", .ref rn), ("lexers", .ref ll), ("told", .ref tl), ("k", .int 1 tk0), ("x", .ref ax), ("y", .ref ay), ("rows", .ref rw), ("text", .str ⟨tx.toArray⟩ ttt)]) (fun c => c.1 ≤ row.length) (fun c => row.length - c.1) (0, np) F1 N1 (by kst_all) (fun q hq => hq) (Nat.zero_le _) ?_
    intro c u h2 tk2 htk2 hc F2 N2
    obtain ⟨i, np2⟩ := c
    dsimp only at hc F2 N2 ⊢
    have hvl := hi.length
    refine' next_listC rfl F2 N2 (ne_head hI) (News.isList N2 (by k_mem)) (by rw [List.size_toArray]; omega) (fun v h3 hv F3 N3 => ?_) (fun h3 he F3 N3 => ?_)
    all_goals dsimp only
    rotate_left
    have he' : i = row.length := by rw [List.size_toArray] at he; omega
    subst he'
    rotate_left
    obtain ⟨e, te, rfl, hre⟩ := ints_at hi hv
    have hwl : (vals ((row.take i).map (wdOf X9 Y9 tt1 tt2 xl yl))).length ≤ 1000 := by simp [vals]; omega
    have hec := hrow e (List.mem_of_getElem? hre)
    have hil : i < row.length := (List.getElem?_eq_some_iff.mp hre).1
    refine no_letgo (assign_name ?_)
    rcases hec with rfl | rfl)
  k_with "call ref" => k_dflt (
    refine' push_use (by k_asm) (by k_asm) (by k_asm) (by k_asm) rfl rfl (by k_room) (by k_units) (by k_asm) Y1 ln tl0 _ (vals ((row.take i).map (wdOf X9 Y9 tt1 tt2 xl yl))) _ (by k_mem) (by k_mem) (by k_updF) hwl ?_
    k_whole
    intro np3 h4 tk4 F4 N4
    (try dsimp only at N4))
  k_steps
  · have e9 : vals ((row.take (i + 1)).map (wdOf X9 Y9 tt1 tt2 xl yl)) = vals ((row.take i).map (wdOf X9 Y9 tt1 tt2 xl yl)) ++ [Value.str X9 tt1] := by
      rw [List.take_add_one, hre]; simp [vals, wdOf]
    k_dflt refine' lend2 (i + 1, np3) (by k_asm) (by k_asm) (by kst_all) (by dsimp only; rw [e9]; exact fun q hq => hq) (by dsimp only; exact ⟨by omega, by omega⟩)
  · have hne : e ≠ 256 := by omega
    have e9 : vals ((row.take (i + 1)).map (wdOf X9 Y9 tt1 tt2 xl yl)) = vals ((row.take i).map (wdOf X9 Y9 tt1 tt2 xl yl)) ++ [Value.str Y9 tt2] := by
      rw [List.take_add_one, hre]; simp [vals, wdOf, hne]
    k_dflt refine' lend2 (i + 1, np3) (by k_asm) (by k_asm) (by kst_all) (by dsimp only; rw [e9]; exact fun q hq => hq) (by dsimp only; exact ⟨by omega, by omega⟩)
  · rw [List.take_length] at N3
    refine ret u np2 h3 _ F3 (fun q hq => ?_)
    rw [hg] at hq
    rcases List.mem_append.mp hq with h | h
    · exact N3 q (.tail _ (.tail _ (.tail _ (.tail _ (.tail _ (.tail _ (.tail _ (.tail _ (by rw [← hrest]; exact List.mem_append_left _ h)))))))))
    · rcases List.mem_cons.mp h with rfl | h
      · exact N3 _ (.head _)
      · exact N3 q (.tail _ (.tail _ (.tail _ (.tail _ (.tail _ (.tail _ (.tail _ (.tail _ (by rw [← hrest]; exact List.mem_append_right _ h)))))))))

end
end Mine
end
section
open PySem PySem.W PyProof.Rows PySem.Calls PySem.Spec
namespace Mine

section
variable {w : World} {p : Program} {loose : List Str} {mean : ExcName → Option Value} {mg mb : Str → Option Value} {dp un : Nat} {gd : Option (List Code)} {env : Env} {outer : List Env} {A₀ : Around} {base h₀ : Heap} {L : Addr} {m : Str → Option Value} {news : List (Addr × Obj)} {s : Shared} {Q E : Value → Shared → Prop}

theorem round_use (B : Below A₀ base outer h₀) (F : Fr h₀ L s.heap m) (X : (hd.heap_1 w.params).In h₀) (T : Top p loose mean mg mb h₀) (hf : env.frame = some L) (hke : env.scope.kind = .function) (hdp : dp + 6 < recursionLimit) (hu : un + 90 < cLine) {g : Obj → List (Addr × Obj)} {np : Nat} {ln : Int} {tl : Tok} (N : News h₀ L s.heap news) (Y : Lx) (qs : List Wd) (m2 : (Y.x, instObj 52 Y.dx) ∈ news) (m3 : (Y.dx, Y.D ln tl) ∈ news) (U : UpdF Y.pb (listOf (vals qs).toArray np) news g) (hok : ∀ q ∈ qs, WdOk q) (hq0 : qs ≠ []) (hql : qs.length ≤ 100) (many : Nat) (mi : Int) (hmi : mi = (many : Nat)) (tm : Tok) (hm : many ≤ 100)
   (ret : ∀ (r a : Addr) vs ep t tt np' h' tk', many ≤ (runT qs t).1.length → IntsAre vs ((runT qs t).1.take many) → t ≤ many → Fr h₀ L h' m → News h₀ L h' ((r, listOf #[.ref a, .int (t : Nat) tt] 0) :: (a, listOf (List.toArray vs) ep) :: g (listOf (vals (runT qs t).2).toArray np')) → AllNeA r (news.map (·.1)) → AllNeA a (news.map (·.1)) → Q (.ref r) { s with heap := h', toks := tk' }) :
   wpAny (model PySem.Challenge.rw_sr0006_01.row.prog w) (Am dp un gd env outer) (call (.ref 148) [.ref Y.x, .int mi tm]) Q E s := by
  subst hmi
  obtain ⟨pre, post, e, hg, na, nb⟩ := U.split
  have mp := upd_mem U
  refine round_spec B F X T hf hke hdp hu N Y ln tl qs np (fun q hq => ?_) hok hq0 hql many tm hm fun r a vs ep t tt np' h' tk' h1 h2 h3 k => ?_
  · simp only [Lx.led, List.mem_cons, List.not_mem_nil, or_false] at hq
    rcases hq with rfl | rfl | rfl <;> assumption
  · obtain ⟨F', N'⟩ := took_led (new := [(r, listOf #[.ref a, .int (t : Nat) tt] 0), (a, listOf (List.toArray vs) ep)]) (old := g (listOf (vals (runT qs t).2).toArray np')) F N k (fun b hb => ⟨listOf (vals qs).toArray np, by rw [List.mem_singleton.mp hb]; exact mp⟩) (fun q hq => by
      simp only [List.mem_cons, List.not_mem_nil, or_false] at hq ⊢
      rcases hq with h | h <;> simp [h]) (fun q hq => by
      rw [hg] at hq
      rcases List.mem_append.mp hq with h | h
      · exact .inl ⟨by simpa using na q h, by rw [e]; exact List.mem_append_left _ h⟩
      · rcases List.mem_cons.mp h with rfl | h
        · exact .inr (.tail _ (.tail _ (.head _)))
        · exact .inl ⟨by simpa using nb q h, by rw [e]; exact List.mem_append_right _ (.tail _ h)⟩)
    have hpb := (N' (Y.pb, listOf (vals (runT qs t).2).toArray np') (List.mem_append_right _ (by rw [hg]; exact List.mem_append_right _ (.head _)))).1
    have fr : ∀ p ∈ [(r, listOf #[.ref a, .int (t : Nat) tt] 0), (a, listOf (List.toArray vs) ep)], p.1 ≠ Y.pb → AllNeA p.1 (news.map (·.1)) := fun p hp hne => ana_of fun q hq => k.fresh (p := p) (by
      simp only [List.mem_cons, List.not_mem_nil, or_false] at hp ⊢
      rcases hp with h | h <;> simp [h]) (N q hq).1 (fun h => hne (List.mem_singleton.mp h))
    refine ret r a vs ep t tt np' h' tk' h1 h2 h3 F' N' (fr _ (.head _) ?_) (fr _ (.tail _ (.head _)) ?_)
    · intro e9
      have h5 := (N' _ (.head _)).1
      dsimp only at h5 e9 hpb
      rw [e9, hpb] at h5
      have h6 := congrArg Obj.data (Option.some.inj h5)
      have h7 : vals (runT qs t).2 = [.ref a, .int (t : Nat) tt] := by
        have := (Data.seq.inj h6).1
        simpa using this
      cases hq : (runT qs t).2 with
      | nil => rw [hq] at h7; cases h7
      | cons p q => rw [hq] at h7; cases h7
    · intro e9
      have h5 := (N' _ (.tail _ (.head _))).1
      dsimp only at h5 e9 hpb
      rw [e9, hpb] at h5
      have h6 := congrArg Obj.data (Option.some.inj h5)
      have h7 : vals (runT qs t).2 = vs := by
        have := (Data.seq.inj h6).1
        simpa using this
      have h8 := (runT_all hok t).2
      cases hq : (runT qs t).2 with
      | nil => rw [hq] at h8; exact hq0 (List.length_eq_zero_iff.mp h8.symm)
      | cons p q =>
        rw [hq] at h7
        rw [← h7] at h2
        cases h2
theorem runT_mem {qs : List Wd} : ∀ t, (∀ e ∈ (runT qs t).1, ∃ q ∈ qs, e ∈ q.2.2) ∧ (∀ q ∈ (runT qs t).2, q ∈ qs)
  | 0 => ⟨fun e he => (nomatch he), fun q hq => hq⟩
  | t + 1 => by
    obtain ⟨h1, h2⟩ := runT_mem (qs := qs) t
    cases e : (runT qs t).2 with
    | nil =>
      have : runT qs (t + 1) = ((runT qs t).1, []) := by
        show (match (runT qs t).2 with | p :: q => ((runT qs t).1 ++ p.2.2, q ++ [p]) | [] => ((runT qs t).1, [])) = _
        rw [e]
      rw [this]
      exact ⟨h1, fun q hq => (nomatch hq)⟩
    | cons p q =>
      rw [runT_succ e]
      rw [e] at h2
      refine ⟨fun x hx => ?_, fun x hx => ?_⟩
      · rcases List.mem_append.mp hx with hx | hx
        · exact h1 x hx
        · exact ⟨p, h2 p (.head _), hx⟩
      · rcases List.mem_append.mp hx with hx | hx
        · exact h2 x (.tail _ hx)
        · rw [List.mem_singleton.mp hx]; exact h2 p (.head _)
theorem wd_small {X Y : Str} {tX tY : Tok} {xl yl : List Int} {row : List Int} {many t : Nat} {e : Int} (hx : ∀ e ∈ xl, 1 ≤ e ∧ e ≤ 255) (hy : ∀ e ∈ yl, 1 ≤ e ∧ e ≤ 255) (he : e ∈ (runT (row.map (wdOf X Y tX tY xl yl)) t).1.take many) : e < 256 := by
  obtain ⟨q, hq, hm⟩ := (runT_mem t).1 e (List.mem_of_mem_take he)
  obtain ⟨n, _, rfl⟩ := List.mem_map.mp hq
  unfold wdOf at hm
  split at hm
  · have := hx e hm; omega
  · have := hy e hm; omega
theorem wd_ok {bits : Int} {tX tY : Tok} {xl yl : List Int} {row : List Int} (hx : ∀ e ∈ xl, 1 ≤ e ∧ e ≤ 255) (hy : ∀ e ∈ yl, 1 ≤ e ∧ e ≤ 255) (lx : 1 ≤ xl.length) (ly : 1 ≤ yl.length) (hl : xl.length + yl.length ≤ 32) :
    ∀ q ∈ row.map (wdOf ⟨(spell bits xl).toArray⟩ ⟨(spell bits yl).toArray⟩ tX tY xl yl), WdOk q := fun q hq => by
  obtain ⟨n, _, rfl⟩ := List.mem_map.mp hq
  have h1 := spell_len bits xl
  have h2 := spell_len bits yl
  unfold wdOf
  split
  · exact ⟨rd_spell bits xl (rdb hx), by simp [Str.length]; omega, lx, by dsimp only; omega⟩
  · exact ⟨rd_spell bits yl (rdb hy), by simp [Str.length]; omega, ly, by dsimp only; omega⟩

end
end Mine
end
section
namespace Mine
section
variable {α : Type} [DecidableEq α]
/-- words laid together, by a row of choices -/
noncomputable def cat (x y : List α) (ws : List Bool) : List α := ws.flatMap fun b => if b then x else y
theorem cat_cons (x y : List α) (b : Bool) (ws : List Bool) : cat x y (b :: ws) = (if b then x else y) ++ cat x y ws := rfl
theorem cat_append (x y : List α) (a b : List Bool) : cat x y (a ++ b) = cat x y a ++ cat x y b := by simp [cat]
theorem cat_swap (x y : List α) (ws : List Bool) : cat x y ws = cat y x (ws.map (!·)) := by
  induction ws with
  | nil => rfl
  | cons b ws ih => rw [cat_cons, List.map_cons, cat_cons, ih]; cases b <;> rfl
/-- y = x ++ y': each y is an x and a y' -/
noncomputable def spread : List Bool → List Bool
  | [] => []
  | true :: ws => true :: spread ws
  | false :: ws => true :: false :: spread ws
theorem cat_spread (x y' : List α) : ∀ ws, cat x (x ++ y') ws = cat x y' (spread ws)
  | [] => rfl
  | true :: ws => by
    show x ++ cat x (x ++ y') ws = x ++ cat x y' (spread ws)
    rw [cat_spread x y' ws]
  | false :: ws => by
    show (x ++ y') ++ cat x (x ++ y') ws = x ++ (y' ++ cat x y' (spread ws))
    rw [cat_spread x y' ws, List.append_assoc]
theorem spread_head : ∀ (ws : List Bool), ws ≠ [] → ∃ vs, spread ws = true :: vs
  | [], h => absurd rfl h
  | true :: ws, _ => ⟨_, rfl⟩
  | false :: ws, _ => ⟨_, rfl⟩
/-- the parting of x y and y x -/
structure Parts (x y : List α) (m : Nat) : Prop where
  lt : m + Nat.gcd x.length y.length < x.length + y.length
  ne : (x ++ y)[m]? ≠ (y ++ x)[m]?
  eq : (x ++ y).take m = (y ++ x).take m
  fst : ∀ ws, m < (cat x y (true :: ws)).length → (cat x y (true :: ws)).take (m + 1) = (x ++ y).take (m + 1)
  snd : ∀ ws, m < (cat x y (false :: ws)).length → (cat x y (false :: ws)).take (m + 1) = (y ++ x).take (m + 1)
theorem Parts.swap {x y : List α} {m : Nat} (h : Parts x y m) : Parts y x m where
  lt := by have := h.lt; rw [Nat.gcd_comm]; omega
  ne := h.ne.symm
  eq := h.eq.symm
  fst := fun ws hw => by
    rw [cat_swap] at hw ⊢
    exact h.snd _ hw
  snd := fun ws hw => by
    rw [cat_swap] at hw ⊢
    exact h.fst _ hw
theorem take_short {a b c : List α} {m : Nat} (h : m < a.length) : (a ++ b).take (m + 1) = (a ++ c).take (m + 1) := by
  rw [List.take_append_of_le_length (by omega), List.take_append_of_le_length (by omega)]
/-- the first place where two words part, if neither begins the other -/
theorem first_apart : ∀ (x y : List α), ¬ x <+: y → ¬ y <+: x → ∃ m, m < x.length ∧ m < y.length ∧ x[m]? ≠ y[m]? ∧ x.take m = y.take m
  | [], y, h, _ => absurd (List.nil_prefix) h
  | _ :: _, [], _, h => absurd (List.nil_prefix) h
  | a :: x, b :: y, h1, h2 => by
    by_cases hab : a = b
    · subst hab
      obtain ⟨m, a1, a2, a3, a4⟩ := first_apart x y (fun h => h1 (by simpa using h)) (fun h => h2 (by simpa using h))
      exact ⟨m + 1, by simpa using a1, by simpa using a2, by simpa using a3, by simpa using a4⟩
    · exact ⟨0, by simp, by simp, by simpa using hab, rfl⟩
theorem parts_of : ∀ (n : Nat) (x y : List α), x.length + y.length ≤ n → x.length ≤ y.length → x ≠ [] → x ++ y ≠ y ++ x → ∃ m, Parts x y m
  | 0, x, y, hn, _, hx, _ => absurd (List.length_eq_zero_iff.mp (by omega)) hx
  | n + 1, x, y, hn, hl, hx, hne => by
    have hx1 : 0 < x.length := List.length_pos_iff.mpr hx
    by_cases hp : x <+: y
    · obtain ⟨y', rfl⟩ := hp
      have hne' : x ++ y' ≠ y' ++ x := fun e => hne (by rw [List.append_assoc, ← e])
      have hy' : y' ≠ [] := fun e => hne' (by rw [e]; simp)
      have ih : ∃ m, Parts x y' m := by
        simp only [List.length_append] at hn hl
        rcases Nat.le_total x.length y'.length with h | h
        · exact parts_of n x y' (by omega) h hx hne'
        · obtain ⟨m, hm⟩ := parts_of n y' x (by omega) h hy' (fun e => hne' e.symm)
          exact ⟨m, hm.swap⟩
      obtain ⟨m, hm⟩ := ih
      refine ⟨x.length + m, ?_, ?_, ?_, ?_, ?_⟩
      · have := hm.lt
        rw [List.length_append, show Nat.gcd x.length (x.length + y'.length) = Nat.gcd x.length y'.length by rw [Nat.add_comm, Nat.gcd_add_self_right]]
        omega
      · have e1 : ∀ l : List α, (x ++ l)[x.length + m]? = l[m]? := fun l => by rw [List.getElem?_append_right (by omega)]; simp
        rw [List.append_assoc, e1, e1]; exact hm.ne
      · rw [List.append_assoc, List.take_length_add_append, List.take_length_add_append, hm.eq]
      · intro ws hw
        rw [cat_cons] at hw ⊢
        simp only [if_true, List.length_append] at hw ⊢
        rw [cat_spread] at hw ⊢
        have hws : ws ≠ [] := fun e => by subst e; simp [spread, cat] at hw; omega
        obtain ⟨vs, hv⟩ := spread_head ws hws
        rw [hv] at hw ⊢
        rw [Nat.add_assoc, List.take_length_add_append, List.take_length_add_append, hm.fst vs (by omega)]
      · intro ws hw
        rw [cat_cons] at hw ⊢
        simp only [Bool.false_eq_true, if_false, List.length_append] at hw ⊢
        rw [cat_spread] at hw ⊢
        have e : y' ++ cat x y' (spread ws) = cat x y' (false :: spread ws) := rfl
        rw [List.append_assoc, List.append_assoc, Nat.add_assoc, List.take_length_add_append, List.take_length_add_append, e, hm.snd (spread ws) (by rw [← e, List.length_append]; omega)]
    · have hp2 : ¬ y <+: x := fun h => by
        have := h.length_le
        have e : y = x := h.eq_of_length (by omega)
        exact hp (by rw [e]; exact List.prefix_rfl)
      obtain ⟨m, a1, a2, a3, a4⟩ := first_apart x y hp hp2
      refine ⟨m, ?_, ?_, ?_, ?_, ?_⟩
      · have := Nat.gcd_le_right x.length (n := y.length) (by omega)
        omega
      · rw [List.getElem?_append_left a1, List.getElem?_append_left a2]; exact a3
      · rw [List.take_append_of_le_length (by omega), List.take_append_of_le_length (by omega)]; exact a4
      · intro ws _
        rw [cat_cons]; exact take_short a1
      · intro ws _
        rw [cat_cons]; exact take_short a2
theorem parts {x y : List α} (hx : x ≠ []) (hy : y ≠ []) (h : x ++ y ≠ y ++ x) : ∃ m, Parts x y m := by
  rcases Nat.le_total x.length y.length with hl | hl
  · exact parts_of _ x y (Nat.le_refl _) hl hx h
  · obtain ⟨m, hm⟩ := parts_of _ y x (Nat.le_refl _) hl hy (fun e => h e.symm)
    exact ⟨m, hm.swap⟩
noncomputable def rep (k : Nat) (r : List α) : List α := (List.replicate k r).flatten
omit [DecidableEq α] in
theorem rep_add (a b : Nat) (r : List α) : rep (a + b) r = rep a r ++ rep b r := by
  unfold rep
  rw [← List.replicate_append_replicate, List.flatten_append]
omit [DecidableEq α] in
theorem rep_len (a : Nat) (r : List α) : (rep a r).length = a * r.length := by
  induction a with
  | zero => simp [rep]
  | succ a ih => rw [rep_add, List.length_append, ih]; simp [rep, Nat.add_mul]
omit [DecidableEq α] in
theorem rep_one (r : List α) : rep 1 r = r := by simp [rep]
omit [DecidableEq α] in
theorem roots_of : ∀ (n : Nat) (x y : List α), x.length + y.length ≤ n → x.length ≤ y.length → x ≠ [] → x ++ y = y ++ x → ∃ r a b, r.length = Nat.gcd x.length y.length ∧ x = rep a r ∧ y = rep b r
  | 0, x, y, hn, _, hx, _ => absurd (List.length_eq_zero_iff.mp (by omega)) hx
  | n + 1, x, y, hn, hl, hx, he => by
    have hx1 : 0 < x.length := List.length_pos_iff.mpr hx
    have hp : x <+: y := by
      have h1 : x <+: y ++ x := ⟨y, he⟩
      exact List.prefix_of_prefix_length_le h1 (List.prefix_append y x) hl
    obtain ⟨y', rfl⟩ := hp
    have he' : x ++ y' = y' ++ x := by
      rw [List.append_assoc] at he
      exact List.append_cancel_left he
    by_cases hy : y' = []
    · subst hy
      exact ⟨x, 1, 1, by simp, (rep_one x).symm, by simp [rep_one]⟩
    · simp only [List.length_append] at hn hl
      have hg : Nat.gcd x.length (x ++ y').length = Nat.gcd x.length y'.length := by simp
      have ih : ∃ r a b, r.length = Nat.gcd x.length y'.length ∧ x = rep a r ∧ y' = rep b r := by
        rcases Nat.le_total x.length y'.length with h | h
        · exact roots_of n x y' (by omega) h hx he'
        · obtain ⟨r, a, b, h1, h2, h3⟩ := roots_of n y' x (by omega) h hy he'.symm
          exact ⟨r, b, a, by rw [h1, Nat.gcd_comm], h3, h2⟩
      obtain ⟨r, a, b, h1, h2, h3⟩ := ih
      exact ⟨r, a, a + b, by rw [hg, h1], h2, by rw [rep_add, ← h2, ← h3]⟩
omit [DecidableEq α] in
theorem roots {x y : List α} (hx : x ≠ []) (hy : y ≠ []) (h : x ++ y = y ++ x) : ∃ r a b, r.length = Nat.gcd x.length y.length ∧ x = rep a r ∧ y = rep b r := by
  rcases Nat.le_total x.length y.length with hl | hl
  · exact roots_of _ x y (Nat.le_refl _) hl hx h
  · obtain ⟨r, a, b, h1, h2, h3⟩ := roots_of _ y x (Nat.le_refl _) hl hy h.symm
    exact ⟨r, b, a, by rw [h1, Nat.gcd_comm], h3, h2⟩
omit [DecidableEq α] in
theorem cat_rep (a b : Nat) (r : List α) : ∀ ws, ∃ k, cat (rep a r) (rep b r) ws = rep k r
  | [] => ⟨0, by simp [cat, rep]⟩
  | true :: ws => by
    obtain ⟨k, hk⟩ := cat_rep a b r ws
    refine ⟨a + k, ?_⟩
    show rep a r ++ cat (rep a r) (rep b r) ws = _
    rw [hk, rep_add]
  | false :: ws => by
    obtain ⟨k, hk⟩ := cat_rep a b r ws
    refine ⟨b + k, ?_⟩
    show rep b r ++ cat (rep a r) (rep b r) ws = _
    rw [hk, rep_add]
omit [DecidableEq α] in
theorem rep_take {k m : Nat} {r : List α} (h : m * r.length ≤ (rep k r).length) (hr : r ≠ []) : (rep k r).take (m * r.length) = rep m r := by
  have h1 : 0 < r.length := List.length_pos_iff.mpr hr
  rw [rep_len] at h
  have hm : m ≤ k := Nat.le_of_mul_le_mul_right h h1
  obtain ⟨j, rfl⟩ := Nat.exists_eq_add_of_le hm
  rw [rep_add, ← rep_len, List.take_left]
/-- if the two words are powers of one, every long row of them begins alike -/
theorem alike {x y : List α} (hx : x ≠ []) (hy : y ≠ []) (h : x ++ y = y ++ x) : ∃ r a b, r.length = Nat.gcd x.length y.length ∧ r ≠ [] ∧ x = rep a r ∧ y = rep b r ∧
    ∀ ws, x.length + y.length ≤ (cat x y ws).length → (cat x y ws).take (x.length + y.length) = rep (a + b) r := by
  obtain ⟨r, a, b, h1, h2, h3⟩ := roots hx hy h
  have hr : r ≠ [] := fun e => by
    subst e
    have : x.length = 0 := by rw [h2, rep_len]; simp
    exact hx (List.length_eq_zero_iff.mp this)
  refine ⟨r, a, b, h1, hr, h2, h3, fun ws hw => ?_⟩
  obtain ⟨k, hk⟩ := cat_rep a b r ws
  have e : x.length + y.length = (a + b) * r.length := by
    have e1 : x.length = a * r.length := (congrArg List.length h2).trans (rep_len a r)
    have e2 : y.length = b * r.length := (congrArg List.length h3).trans (rep_len b r)
    rw [e1, e2, Nat.add_mul]
  have hc : cat x y ws = rep k r := by rw [← hk, ← h2, ← h3]
  rw [hc, e] at hw ⊢
  exact rep_take hw hr
end
end Mine
end
section
open PySem PySem.W PyProof.Rows PySem.Calls PySem.Spec
namespace Mine
theorem cat_snoc (x y : List Int) (ws : List Bool) (b : Bool) : cat x y (ws ++ [b]) = cat x y ws ++ (if b then x else y) := by
  rw [cat_append]; congr 1; simp [cat]
/-- what the round reads is a row of the two words that begins with the row's first -/
theorem runT_cat {X Y : Str} {tX tY : Tok} {xl yl : List Int} {f : Int} {names : List Int} : ∀ t, ∃ vs, (runT ((f :: names).map (wdOf X Y tX tY xl yl)) (t + 1)).1 = cat xl yl (decide (f = 256) :: vs)
  | 0 => by
    refine ⟨[], ?_⟩
    rw [runT_succ (p := wdOf X Y tX tY xl yl f) (q := names.map (wdOf X Y tX tY xl yl)) rfl]
    show [] ++ (wdOf X Y tX tY xl yl f).2.2 = _
    unfold wdOf
    by_cases h : f = 256 <;> simp [h, cat]
  | t + 1 => by
    obtain ⟨vs, ih⟩ := runT_cat (X := X) (Y := Y) (tX := tX) (tY := tY) (xl := xl) (yl := yl) (f := f) (names := names) t
    obtain ⟨_, hm⟩ := runT_mem (qs := (f :: names).map (wdOf X Y tX tY xl yl)) (t + 1)
    have hl := (runT_all (P := fun _ => True) (qs := (f :: names).map (wdOf X Y tX tY xl yl)) (fun _ _ => trivial) (t + 1)).2
    cases e : (runT ((f :: names).map (wdOf X Y tX tY xl yl)) (t + 1)).2 with
    | nil => rw [e] at hl; simp at hl
    | cons p q =>
      rw [runT_succ e, ih]
      obtain ⟨n, _, hn⟩ := List.mem_map.mp (hm p (by rw [e]; exact .head _))
      refine ⟨vs ++ [decide (n = 256)], ?_⟩
      rw [← List.cons_append, cat_snoc]
      congr 1
      rw [← hn]
      unfold wdOf
      by_cases h : n = 256 <;> simp [h]
/-- the waiting row stands turned -/
theorem runT_turn {qs : List Wd} (hq : qs ≠ []) : ∀ t, (runT qs t).2 = qs.drop (t % qs.length) ++ qs.take (t % qs.length)
  | 0 => by simp [runT]
  | t + 1 => by
    have hn : 0 < qs.length := List.length_pos_iff.mpr hq
    have ih := runT_turn hq t
    have hk : t % qs.length < qs.length := Nat.mod_lt _ hn
    rw [List.drop_eq_getElem_cons hk, List.cons_append] at ih
    rw [runT_succ ih]
    show (qs.drop (t % qs.length + 1) ++ qs.take (t % qs.length)) ++ [qs[t % qs.length]] = _
    rw [List.append_assoc, List.take_append_getElem hk]
    rcases Nat.lt_or_ge (t % qs.length + 1) qs.length with h | h
    · have e : (t + 1) % qs.length = t % qs.length + 1 := by
        rw [Nat.add_mod]
        rcases Nat.lt_or_ge 1 qs.length with h1 | h1
        · rw [Nat.mod_eq_of_lt h1, Nat.mod_eq_of_lt h]
        · omega
      rw [e]
    · have e1 : t % qs.length + 1 = qs.length := by omega
      have e : (t + 1) % qs.length = 0 := by
        have h2 := Nat.div_add_mod t qs.length
        have h3 : t + 1 = qs.length * (t / qs.length + 1) := by rw [Nat.mul_add]; omega
        rw [h3]; exact Nat.mul_mod_right _ _
      rw [e, e1]; simp
end Mine
end
section
open PySem PyProof.Rows
namespace Mine
theorem occL_count (c : Nat) : ∀ (l : List Nat) (i k : Nat), l.length ≤ k → (occL c i l k).length = l.count c
  | [], i, k, _ => by simp [occL]
  | d :: r, i, 0, h => by simp at h
  | d :: r, i, k + 1, h => by
    unfold occL
    by_cases hd : d = c
    · subst hd
      simp [occL_count d r (i + 1) k (by simpa using h)]
    · have := occL_count c r (i + 1) (k + 1) (by simp at h; omega)
      simp [hd, this]
open Builtin.Str in
theorem count10 (l : List Nat) : Txt.count ⟨l.toArray⟩ (Str.ofString "\n") = (l.count 10 : Nat) := by
  rw [show Str.ofString "\n" = (⟨#[10]⟩ : Str) by decide]
  unfold Txt.count
  rw [occ_is]
  have := occL_count 10 l 0
  simp only [Str.length, List.size_toArray]
  rw [this _ (by omega)]
end Mine
end
section
open PySem PySem.W PyProof.Rows PySem.Calls PySem.Spec
namespace Mine

section
variable {w : World} {p : Program} {loose : List Str} {mean : ExcName → Option Value} {mg mb : Str → Option Value} {dp un : Nat} {gd : Option (List Code)} {env : Env} {outer : List Env} {A₀ : Around} {base h₀ : Heap} {L : Addr} {m : Str → Option Value} {news : List (Addr × Obj)} {s : Shared} {Q E : Value → Shared → Prop}

theorem off1_ana {D : Addr} : ∀ {news : List (Addr × Obj)}, LCg.Off1 D news → AllNeA D (news.map (·.1))
  | [], _ => fun _ h => (nomatch h)
  | p :: r, h => fun a ha => by
    rcases List.mem_cons.mp ha with rfl | ha
    · exact h.1
    · exact off1_ana h.2 a ha

end
end Mine
end
section
namespace Mine
noncomputable def apartL (n : Nat) (m0 m1 : List Int) : List Int := ((List.range n).filter fun i => decide (m0[i]? ≠ m1[i]?)).map fun i : Nat => (i : Int)
theorem rep_flat (k : Nat) (r : List Int) : (List.replicate k r).flatten = rep k r := rfl
theorem law_comm {x y m0 m1 : List Int} (hx : 1 ≤ x.length) (hy : 1 ≤ y.length) (h : x ++ y = y ++ x)
    (h0 : ∃ vs, x.length + y.length ≤ (cat x y (true :: vs)).length ∧ m0 = (cat x y (true :: vs)).take (x.length + y.length))
    (h1 : ∃ vs, x.length + y.length ≤ (cat x y (false :: vs)).length ∧ m1 = (cat x y (false :: vs)).take (x.length + y.length)) :
    apartL (x.length + y.length) m0 m1 = [] ∧ (List.replicate ((x.length + y.length) / Nat.gcd x.length y.length) (m0.take (Nat.gcd x.length y.length))).flatten = m0 ∧ m0.take x.length = x := by
  have hxn : x ≠ [] := fun e => by subst e; simp at hx
  have hyn : y ≠ [] := fun e => by subst e; simp at hy
  obtain ⟨r, a, b, e1, hr, e2, e3, hall⟩ := alike hxn hyn h
  obtain ⟨vs, l0, rfl⟩ := h0
  obtain ⟨us, l1, rfl⟩ := h1
  have a0 := hall _ l0
  have a1 := hall _ l1
  have hrl : 0 < r.length := List.length_pos_iff.mpr hr
  have ex : x.length = a * r.length := (congrArg List.length e2).trans (rep_len a r)
  have ey : y.length = b * r.length := (congrArg List.length e3).trans (rep_len b r)
  refine ⟨?_, ?_, ?_⟩
  · rw [a0, a1]
    unfold apartL
    simp
  · rw [a0, ← e1, rep_flat]
    have hn : (x.length + y.length) / r.length = a + b := by
      rw [ex, ey, ← Nat.add_mul, Nat.mul_div_cancel _ hrl]
    have ha : 1 ≤ a := by
      rcases Nat.eq_zero_or_pos a with h | h
      · subst h; omega
      · exact h
    have ht : (rep (a + b) r).take r.length = r := by
      have h2 := rep_take (k := a + b) (m := 1) (r := r) (by rw [rep_len]; exact Nat.mul_le_mul_right _ (by omega)) hr
      rw [Nat.one_mul, rep_one] at h2
      exact h2
    rw [ht, hn]
  · rw [a0, rep_add, ← e2, List.take_left]
theorem filter_head {p : Nat → Bool} {m n : Nat} (hm : m < n) (hp : p m = true) (hb : ∀ i < m, p i = false) : ∃ r, (List.range n).filter p = m :: r := by
  obtain ⟨k, rfl⟩ := Nat.exists_eq_add_of_lt hm
  have e : List.range (m + k + 1) = List.range m ++ (m :: (List.range' (m + 1) k)) := by
    rw [List.range_eq_range', List.range_eq_range', show m + k + 1 = m + (k + 1) by omega]
    rw [← List.range'_append (s := 0) (m := m) (n := k + 1) (step := 1)]
    congr 1
    rw [List.range'_succ]; simp
  refine ⟨(List.range' (m + 1) k).filter p, ?_⟩
  rw [e, List.filter_append, List.filter_cons, hp]
  have : (List.range m).filter p = [] := by
    rw [List.filter_eq_nil_iff]
    intro i hi
    rw [hb i (List.mem_range.mp hi)]; simp
  rw [this]; simp
theorem take_get {l k : List Int} {m i : Nat} (h : l.take m = k.take m) (hi : i < m) : l[i]? = k[i]? := by
  have := congrArg (·[i]?) h
  simpa [List.getElem?_take, hi] using this
theorem law_parts {x y m0 m1 : List Int} (hx : 1 ≤ x.length) (hy : 1 ≤ y.length) (h : x ++ y ≠ y ++ x)
    (h0 : ∃ vs, x.length + y.length ≤ (cat x y (true :: vs)).length ∧ m0 = (cat x y (true :: vs)).take (x.length + y.length))
    (h1 : ∃ vs, x.length + y.length ≤ (cat x y (false :: vs)).length ∧ m1 = (cat x y (false :: vs)).take (x.length + y.length)) :
    ∃ (m : Nat) (r : List Int), apartL (x.length + y.length) m0 m1 = (m : Int) :: r ∧ m + Nat.gcd x.length y.length < x.length + y.length ∧ m0.take (m + 1) = (x ++ y).take (m + 1) ∧ m1.take (m + 1) = (y ++ x).take (m + 1) := by
  have hxn : x ≠ [] := fun e => by subst e; simp at hx
  have hyn : y ≠ [] := fun e => by subst e; simp at hy
  obtain ⟨m, P⟩ := parts hxn hyn h
  obtain ⟨vs, l0, rfl⟩ := h0
  obtain ⟨us, l1, rfl⟩ := h1
  have hlt := P.lt
  have hm : m < x.length + y.length := by omega
  have f0 := P.fst vs (by omega)
  have f1 := P.snd us (by omega)
  have t0 : ((cat x y (true :: vs)).take (x.length + y.length)).take (m + 1) = (x ++ y).take (m + 1) := by
    rw [List.take_take, Nat.min_eq_left (by omega)]; exact f0
  have t1 : ((cat x y (false :: us)).take (x.length + y.length)).take (m + 1) = (y ++ x).take (m + 1) := by
    rw [List.take_take, Nat.min_eq_left (by omega)]; exact f1
  have hp : ((cat x y (true :: vs)).take (x.length + y.length))[m]? ≠ ((cat x y (false :: us)).take (x.length + y.length))[m]? := by
    rw [take_get t0 (Nat.lt_succ_self m), take_get t1 (Nat.lt_succ_self m)]; exact P.ne
  have hb : ∀ i < m, ((cat x y (true :: vs)).take (x.length + y.length))[i]? = ((cat x y (false :: us)).take (x.length + y.length))[i]? := fun i hi => by
    rw [take_get t0 (Nat.lt_succ_of_lt hi), take_get t1 (Nat.lt_succ_of_lt hi)]; exact take_get P.eq hi
  obtain ⟨r, hr⟩ := filter_head (p := fun i => decide (((cat x y (true :: vs)).take (x.length + y.length))[i]? ≠ ((cat x y (false :: us)).take (x.length + y.length))[i]?)) hm (decide_eq_true hp) (fun i hi => decide_eq_false (fun hn => hn (hb i hi)))
  refine ⟨m, r.map fun i : Nat => (i : Int), ?_, hlt, t0, t1⟩
  unfold apartL
  rw [hr]; rfl
end Mine
end
section
open PySem PySem.W PyProof.Rows PySem.Calls PySem.Spec
namespace Mine


section
variable {w : World} {p : Program} {loose : List Str} {mean : ExcName → Option Value} {mg mb : Str → Option Value} {dp un : Nat} {gd : Option (List Code)} {env : Env} {outer : List Env} {A₀ : Around} {base h₀ : Heap} {L : Addr} {m : Str → Option Value} {news : List (Addr × Obj)} {s : Shared} {Q E : Value → Shared → Prop}
noncomputable def tailBody (p : Params) : List Stmt := (forBody p).drop 5
noncomputable def wtx (X Y : Str) (e : Int) : Str := if e = 256 then X else Y
theorem strs_of : ∀ {ys : List Value} {ns : List Str}, ys.length = ns.length → (∀ (i : Nat) (y : Value), ys[i]? = some y → ∃ x t, ns[i]? = some x ∧ y = Value.str x t) → StrsAre ys ns
  | [], [], _, _ => .nil
  | [], _ :: _, h, _ => by simp at h
  | _ :: _, [], h, _ => by simp at h
  | y :: ys, n :: ns, h, k => by
    obtain ⟨x, t, h1, rfl⟩ := k 0 y rfl
    simp at h1; subst h1
    exact .cons _ _ (strs_of (by simpa using h) fun i y hy => by
      obtain ⟨x, t, h1, h2⟩ := k (i + 1) y (by simpa using hy)
      exact ⟨x, t, by simpa using h1, h2⟩)
theorem wtx_cases {X Y : Str} {e n1 : Int} (hn : 257 ≤ n1 ∧ n1 ≤ 10256) (h : e = 256 ∨ e = n1) : (e = 256 ∧ wtx X Y e = X) ∨ (e = n1 ∧ wtx X Y e = Y) := by
  rcases h with rfl | rfl
  · exact .inl ⟨rfl, rfl⟩
  · exact .inr ⟨rfl, if_neg (by omega)⟩
theorem waits {X Y : Str} {row : List Int} {ys : List Value} (hl : ys.length = row.length) (h : ∀ (i : Nat) (y : Value), ys[i]? = some y → ∃ e ty, row[i]? = some e ∧ y = Value.str (wtx X Y e) ty) : StrsAre ys (row.map (wtx X Y)) :=
  strs_of (by rw [List.length_map]; exact hl) fun i y hy => by
    obtain ⟨e, ty, h1, h2⟩ := h i y hy
    exact ⟨_, ty, by rw [List.getElem?_map, h1]; rfl, h2⟩
theorem vals_strs : ∀ (qs : List Wd), StrsAre (vals qs) (qs.map (·.1))
  | [] => .nil
  | q :: r => .cons _ _ (vals_strs r)
theorem wd_fst (X Y : Str) (tX tY : Tok) (xl yl : List Int) (row : List Int) : (row.map (wdOf X Y tX tY xl yl)).map (·.1) = row.map (wtx X Y) := by
  simp only [List.map_map]
  refine List.map_congr_left fun e _ => ?_
  show (wdOf X Y tX tY xl yl e).1 = wtx X Y e
  unfold wdOf wtx
  split <;> rfl
theorem okTurned {X Y : Str} {tX tY : Tok} {xl yl row : List Int} {t : Nat} (hX : PyData.canLay0 (.str X) = true) (hY : PyData.canLay0 (.str Y) = true) : OkAll ((runT (row.map (wdOf X Y tX tY xl yl)) t).2.map (·.1)) := fun x hx => by
  obtain ⟨q, hq, rfl⟩ := List.mem_map.mp hx
  obtain ⟨e, _, rfl⟩ := List.mem_map.mp ((runT_mem t).2 q hq)
  unfold wdOf
  split
  · exact hX
  · exact hY
theorem fr_kst {h₀ h : Heap} {L : Addr} {m : Str → Option Value} {ps : List (Str × Value)} (F : Fr h₀ L h m) (hk : ∀ q ∈ ps, m q.1 = some q.2) : Fr h₀ L h (kstB m ps) := by
  rw [kstB_of hk]; exact F
theorem pick_from {ys : List Value} {k : Int} (h : 0 ≤ k) : (slicePick ys.toArray (some k) none none).toList = ys.drop k.toNat := by
  have ek : k = (k.toNat : Int) := by omega
  have e9 : (k.toNat : Int).toNat = k.toNat := by omega
  rw [ek, slicePick_from' ys.toArray k.toNat, e9]
theorem pick_upto {ys : List Value} {k : Int} (h : 0 ≤ k) : (slicePick ys.toArray none (some k) none).toList = ys.take k.toNat := by
  have ek : k = (k.toNat : Int) := by omega
  have e9 : (k.toNat : Int).toNat = k.toNat := by omega
  rw [ek, slicePick_upto' ys.toArray k.toNat, e9]
theorem addl (a b : List Value) : a.toArray.toList ++ b.toArray.toList = a ++ b := rfl
theorem turned_txt {X Y : Str} {tX tY : Tok} {xl yl row : List Int} (hr : row ≠ []) (t : Nat) : (runT (row.map (wdOf X Y tX tY xl yl)) t).2.map (·.1) = (row.map (wtx X Y)).drop (t % row.length) ++ (row.map (wtx X Y)).take (t % row.length) := by
  rw [runT_turn (by simpa using hr), List.map_append, List.map_drop, List.map_take, wd_fst, List.length_map]
theorem turn_tail0 (B : Below A₀ base [] h₀) (X : (hd.heap_1 w.params).In h₀) (T : Top p loose mean mg mb h₀) (C : CodeHd base 97 93) (hdp : dp + 12 < recursionLimit) (hu : un + 300 < cLine) {Qf : Flow → Shared → Prop} {fa : Addr} {cd : Value} {rr ra a0 r0 r1 ll tl ax ay rw rt rb : Addr} {tk0 tt ttt tb1 tb2 tt1 tt2 tX tY : Tok} {tx : List Nat} {m₀ : Str → Option Value} {row : List Int} {vs : List Value} {en np nr t : Nat} {n1 ln : Int} {tl0 : Tok} {X9 Y9 : Str} {ob ot orr : Obj} {Y0 Y1 : Lx} {g : Obj → List (Addr × Obj)} (xl yl : List Int) {k0 : Int} (hk0 : k0 = 0)
   (F : Fr h₀ L s.heap m₀) (N : News h₀ L s.heap news) (hk : ∀ q ∈ ([("letters", .ref ra), ("turns", .int (t : Nat) tt), ("lexers", .ref ll), ("told", .ref tl), ("k", .int k0 tk0), ("x", .ref ax), ("y", .ref ay), ("rows", .ref rw), ("text", .str ⟨tx.toArray⟩ ttt)] : List (Str × Value)), m₀ q.1 = some q.2) (U : UpdF rr (listOf #[] nr) news g)
   (m1 : (rw, listOf #[.ref r0, .ref r1] 0) ∈ news) (m2 : (r0, listOf vs.toArray en) ∈ news) (m3 : (rt, listOf #[.str X9 tX, .str Y9 tY] 0) ∈ news) (m4 : (rb, listOf #[.int 256 tb1, .int n1 tb2] 0) ∈ news) (m5 : (ll, listOf #[.ref Y0.x, .ref Y1.x] 0) ∈ news) (m6 : (L + 1 + 1 + 1, ob) ∈ news) (m7 : (L + 1 + 1, ot) ∈ news) (m11 : (L + 1 + 1 + 1 + 1, orr) ∈ news) (m8 : (Y0.x, instObj 52 Y0.dx) ∈ news) (m9 : (Y0.dx, Y0.D ln tl0) ∈ news) (m10 : (Y0.pb, listOf (vals (runT (row.map (wdOf X9 Y9 tt1 tt2 xl yl)) t).2).toArray np) ∈ news)
   (hob : ob.data = .cell (some (.ref rb))) (hot : ot.data = .cell (some (.ref rt))) (hor : orr.data = .cell (some (.ref rr)))
   (hi : IntsAre vs row) (hrow : ∀ e ∈ row, e = 256 ∨ e = n1) (hn1 : 257 ≤ n1 ∧ n1 ≤ 10256) (hrl : row.length ≤ 3) (hr0 : row ≠ []) (okX : PyData.canLay0 (.str X9) = true) (okY : PyData.canLay0 (.str Y9) = true)
   (ret : ∀ u nr' h' tk', Fr h₀ L h' (kstB u [("lexers", .ref ll), ("told", .ref tl), ("x", .ref ax), ("y", .ref ay), ("rows", .ref rw), ("text", .str ⟨tx.toArray⟩ ttt)]) → News h₀ L h' (g (listOf #[.ref ra] nr')) → Qf .next { s with heap := h', toks := tk' }) :
   wpAny (model PySem.Challenge.rw_sr0006_01.row.prog w) (Am dp un gd (lawEnv w.params L fa cd) []) (execs (tailBody w.params) (lawEnv w.params L fa cd)) Qf (fun _ _ => False) s := by
  k_with_none
  k_with "k_lk" => (first | (refine' lt_get ?h9 ?m9; (case h9 => with_reducible assumption); (case m9 => k_mem)) | (refine' Ne.symm (lt_get ?h9 ?m9); (case h9 => with_reducible assumption); (case m9 => k_mem)) | (refine' ana_get ?h9 ?m9; (case h9 => with_reducible assumption); (case m9 => k_mem)) | (refine' Ne.symm (ana_get ?h9 ?m9); (case h9 => with_reducible assumption); (case m9 => k_mem)) | with_reducible assumption | (refine Ne.symm ?_; with_reducible assumption) | fail "k_lk")
  k_with "k_ne" => first | k_extra "k_lk" | omega
  k_with "k_all" => (first | with_reducible assumption | (refine' lt_all ?h9; (case h9 => with_reducible assumption)) | fail "k_all")
  k_with "k_mem" => (first | exact mI0 | exact mI1 | exact mI2 | exact mI3 | exact mI4 | exact mI5 | exact mI6 | exact mI7 | exact mI8 | exact mI9 | exact mI10 | exact mI11 | (refine mS12 ?_; k_mem))
  k_with "k_room" => first | (refine' rm0 ?h9 ?k9; (case h9 => with_reducible assumption); (case k9 => exact Nat.le_of_ble_eq_true rfl)) | (refine' rm1 ?h9 ?k9; (case h9 => with_reducible assumption); (case k9 => exact Nat.le_of_ble_eq_true rfl)) | (refine' rm2 ?h9; (case h9 => with_reducible assumption)) | (refine' rm4 ?h9; (case h9 => with_reducible assumption)) | (simp only [depth_under_make, depth_under_kw, depth_in1, depth_deeper, depth_caller, recursionLimit] at *; omega)
  k_with "k_units" => first | (refine' rm0 ?h9 ?k9; (case h9 => with_reducible assumption); (case k9 => exact Nat.le_of_ble_eq_true rfl)) | (refine' rm1 ?h9 ?k9; (case h9 => with_reducible assumption); (case k9 => exact Nat.le_of_ble_eq_true rfl)) | (refine' rm2 ?h9; (case h9 => with_reducible assumption)) | (refine' rm4 ?h9; (case h9 => with_reducible assumption)) | (simp only [units_in1, units_deeper, Around.mark_units, units_caller, cLine] at *; omega)
  k_with "om" => (first | (refine neN ?_; (try dsimp only); k_extra "k_lk") | with_reducible assumption | exact Nat.le_of_ble_eq_true rfl | (refine' le_lit ?h9 ?k9; (case h9 => with_reducible assumption); (case k9 => exact Nat.le_of_ble_eq_true rfl)) | (refine' lt_lit ?h9 ?k9; (case h9 => with_reducible assumption); (case k9 => exact Nat.le_of_ble_eq_true rfl)) | (refine' rm0 ?h9 ?k9; (case h9 => with_reducible assumption); (case k9 => exact Nat.le_of_ble_eq_true rfl)) | (refine' rm1 ?h9 ?k9; (case h9 => with_reducible assumption); (case k9 => exact Nat.le_of_ble_eq_true rfl)) | (refine' rm2 ?h9; (case h9 => with_reducible assumption)) | (refine' rm4 ?h9; (case h9 => with_reducible assumption)) | omega (config := { splitDisjunctions := false }) | ((repeat (first | (rename _ ≠ _ ∧ _ => hq9; clear hq9) | (rename (_ ≠ _ ∧ _) ∧ _ => hq9; clear hq9))); omega (config := { splitDisjunctions := true })) | omega (config := { splitDisjunctions := true }) | ((repeat (rename (∀ p ∈ (_ : List (PySem.Addr × PySem.Obj)), @LT.lt Nat _ p.1 _) => hq9; (have hq8 := PySem.W.allLt_of hq9); clear hq9; simp only [PySem.W.AllLt, and_true] at hq8)); omega (config := { splitDisjunctions := true })))
  k_with "callWith ref" => (k_here; k_dflt (refine' callWith_K ?zs1 ?zs2 ?_; (case zs1 => k_asm); (case zs2 => k_is); k_whole))
  k_with "call builtin:len" => (k_here; (with_reducible show wpAny _ _ (call (Value.builtin _) [Value.ref _]) _ _ _); (with_unfolding_all refine' len_ints_fit ?zs1 ?zs2 ?zs3 ?_; (case zs1 => is_list); (case zs2 => l_ints); (case zs3 => l_fit); k_whole); (try simp only [List.length_append, List.length_cons, List.length_nil, Nat.zero_add]))
  k_with "subscriptTail Name" => (k_here; (with_reducible show wpAny _ _ (subscriptTail _ _ (Value.ref _) (Value.int _ _)) _ _ _); kim_at)
  k_with "getMethod ref" => (k_here; k_dflt (refine' method_inst ?zs1 ?zs2 ?zs3 ?zs4 ?zs5 ?zs6 ?zs7 ?_; (case zs1 => k_asm); (case zs2 => k_asm); (case zs3 => k_inst); (case zs4 => k_is); (case zs5 => k_is); (case zs6 => k_is); (case zs7 => k_get); k_whole))
  k_with "execs cons" => (refine seqK ?_; intro K9 tk9 hK9; (try dsimp only))
  k_with "KK next" => (refine' kk_next ?h9 ?_; (case h9 => with_reducible assumption))
  k_with "KK ret" => (refine' kk_ret ?h9 ?_; (case h9 => with_reducible assumption); (try dsimp only))
  k_with "KK brk" => (refine' kk_brk ?h9 ?_; (case h9 => with_reducible assumption); (try dsimp only))
  k_with "KK cont" => (refine' kk_cont ?h9 ?_; (case h9 => with_reducible assumption); (try dsimp only))
  k_with "FinA" => (k_here; (unfold LCg.FinA); intro D' h' tk' F' N' o1'; (replace o1' := off1_ana o1'); (try dsimp only [List.map_cons, List.map_nil] at o1'); (try simp only [List.nil_append, List.cons_append] at N'); (try dsimp only))
  k_with "FinE" => (k_here; (unfold LCg.FinE); intro D' h' tk' F' N' o1'; (replace o1' := off1_ana o1'); (try dsimp only [List.map_cons, List.map_nil] at o1'); (try simp only [List.nil_append, List.cons_append] at N'); (try dsimp only))
  k_with "call builtin:list.index" => (k_here; k_dflt (first | (refine' idx2a ?zqn ?zql ?_; (case zql => exact News.isList (by k_asm) (by k_mem)); (case zqn => k_extra "n1b"); k_whole; intro ti' tki') | (refine' idx2b ?zqn ?zql ?_; (case zql => exact News.isList (by k_asm) (by k_mem)); (case zqn => k_extra "n1b"); k_whole; intro ti' tki')))
  k_with "subscriptTail Name Slice ref ref" => (k_here; (with_reducible show wpAny _ _ (subscriptTail _ (PySem.Expr.Slice _ _ none _) (Value.ref _) (Value.ref _)) _ _ _); k_dflt (refine' kmk_slice3_lit ?zqF ?zqN ?zql ?zqp ?zqq IsPart.none ?zqo ?zqe ?_ ?zqs ?zqt ?zqz; (case zqF => k_asm); (case zqN => k_asm); (case zql => kmk_list); (case zqp => kmk_part); (case zqq => kmk_part); (case zqo => decide); (case zqe => k_extra "pick"); (case zqs => with_unfolding_all rfl); (case zqt => kmk_pure); (case zqz => k_extra "lsz")); intro D' h' F' N' l1; (try k_lt l1))
  k_with "binaryOp Add ref ref" => (k_here; (with_reducible show wpAny _ _ (binaryOp _ (Value.ref _) (Value.ref _)) _ _ _); k_dflt (refine' kmk_add_lit ?zqF ?zqN ?zqa ?zqb ?zqe ?_ ?zqz; (case zqF => k_asm); (case zqN => k_asm); (case zqa => kmk_list); (case zqb => kmk_list); (case zqe => exact addl _ _); (case zqz => k_extra "addz")); intro D' h' F' N' l1; (try k_lt l1))
  k_with "compareOp NotEq ref ref" => (k_here; k_extra "neq")
  k_with "call builtin:len" => (k_here; (with_reducible show wpAny _ _ (call (Value.builtin "len") [Value.ref _]) _ _ _); k_dflt (refine' kun_lenL ?zqk1 ?zqk2 ?zqk3 ?_; (case zqk1 => exact News.isList (by k_asm) (by k_mem)); (case zqk2 => k_extra "wlenq"); (case zqk3 => omega); k_whole))
  k_with "CompSrc" => (k_here; k_extra "csrc")
  k_with "CompEnd" => k_extra "cend"
  subst hk0
  obtain ⟨pre, post, rfl, hg, na, nb⟩ := U.split
  have nall : ∀ p ∈ pre ++ post, p.1 ≠ rr := fun p hp => (List.mem_append.mp hp).elim (na p) (nb p)
  have dt : ∀ {o o' : Obj}, o.data ≠ o'.data → o ≠ o' := fun h e => h (congrArg Obj.data e)
  have ms : ∀ {a : Addr} {o : Obj}, (a, o) ∈ pre ++ (rr, listOf #[] nr) :: post → a ≠ rr → (a, o) ∈ pre ++ post := fun h ne => by
    rcases List.mem_append.mp h with h | h
    · exact List.mem_append_left _ h
    · rcases List.mem_cons.mp h with h | h
      · cases h; exact absurd rfl ne
      · exact List.mem_append_right _ h
  have dne : ∀ {a b : Addr} {o o' : Obj}, (a, o) ∈ pre ++ (rr, listOf #[] nr) :: post → (b, o') ∈ pre ++ (rr, listOf #[] nr) :: post → o ≠ o' → a ≠ b := fun ha hb h e => by
    have h1 := (N _ ha).1
    have h2 := (N _ hb).1
    rw [show (_, _).1 = _ from e, h2] at h1
    exact h (Option.some.inj h1).symm
  have mp : (rr, listOf #[] nr) ∈ pre ++ (rr, listOf #[] nr) :: post := List.mem_append_right _ (.head _)
  have x1 := ms m1 (dne m1 mp (dt (by simp)))
  have x2 := ms m2 (dne m2 mp (dt (fun h => by
    cases vs with
    | nil => cases hi; exact hr0 rfl
    | cons v r => cases hi; simp at h)))
  have x3 := ms m3 (dne m3 mp (dt (by simp)))
  have x4 := ms m4 (dne m4 mp (dt (by simp)))
  have x5 := ms m5 (dne m5 mp (dt (by simp)))
  have x6 := ms m6 (dne m6 mp (dt (by rw [hob]; simp)))
  have x7 := ms m7 (dne m7 mp (dt (by rw [hot]; simp)))
  have x11 := ms m11 (dne m11 mp (dt (by rw [hor]; simp)))
  have x8 := ms m8 (dne m8 mp (dt (by simp)))
  have x9 := ms m9 (dne m9 mp (dt (by simp)))
  have x10 := ms m10 (dne m10 mp (dt (fun h => by
    have hl9 := (runT_all (P := fun _ => True) (qs := row.map (wdOf X9 Y9 tt1 tt2 xl yl)) (fun _ _ => trivial) t).2
    cases hq : (runT (row.map (wdOf X9 Y9 tt1 tt2 xl yl)) t).2 with
    | nil => rw [hq] at hl9; simp at hl9; exact hr0 (List.length_eq_zero_iff.mp hl9.symm)
    | cons p q => rw [hq] at h; simp [vals] at h)))
  clear m1 m2 m3 m4 m5 m6 m7 m11 m8 m9 m10 dne ms
  generalize hrest : pre ++ post = rest at nall x1 x2 x3 x4 x5 x6 x7 x11 x8 x9 x10
  replace N : News h₀ L s.heap ((rr, listOf #[] nr) :: (rw, listOf #[.ref r0, .ref r1] 0) :: (r0, listOf vs.toArray en) :: (rt, listOf #[.str X9 tX, .str Y9 tY] 0) :: (rb, listOf #[.int 256 tb1, .int n1 tb2] 0) :: (ll, listOf #[.ref Y0.x, .ref Y1.x] 0) :: (L + 1 + 1 + 1, ob) :: (L + 1 + 1, ot) :: (L + 1 + 1 + 1 + 1, orr) :: (Y0.x, instObj 52 Y0.dx) :: (Y0.dx, Y0.D ln tl0) :: (Y0.pb, listOf (vals (runT (row.map (wdOf X9 Y9 tt1 tt2 xl yl)) t).2).toArray np) :: rest) := cb_drop N (fun q hq => by
    simp only [List.mem_cons] at hq
    have up : q ∈ rest → q ∈ pre ++ (rr, listOf #[] nr) :: post := fun h => by
      rw [← hrest] at h
      rcases List.mem_append.mp h with h | h
      · exact List.mem_append_left _ h
      · exact List.mem_append_right _ (.tail _ h)
    rcases hq with rfl | rfl | rfl | rfl | rfl | rfl | rfl | rfl | rfl | rfl | rfl | rfl | hq
    · exact mp
    all_goals exact up (by assumption))
  have hA : AllNeA rr [rw, r0, rt, rb, ll, L + 1 + 1 + 1, L + 1 + 1, L + 1 + 1 + 1 + 1, Y0.x, Y0.dx, Y0.pb] := fun a ha => by
    simp only [List.mem_cons, List.not_mem_nil, or_false] at ha
    rcases ha with rfl | rfl | rfl | rfl | rfl | rfl | rfl | rfl | rfl | rfl | rfl
    · exact nall _ x1
    · exact nall _ x2
    · exact nall _ x3
    · exact nall _ x4
    · exact nall _ x5
    · exact nall _ x6
    · exact nall _ x7
    · exact nall _ x11
    · exact nall _ x8
    · exact nall _ x9
    · exact nall _ x10
  have F9 : Fr h₀ L s.heap (kstB m₀ [("letters", .ref ra), ("turns", .int (t : Nat) tt), ("lexers", .ref ll), ("told", .ref tl), ("k", .int 0 tk0), ("x", .ref ax), ("y", .ref ay), ("rows", .ref rw), ("text", .str ⟨tx.toArray⟩ ttt)]) := by rw [kstB_of hk]; exact F
  clear F x1 x2 x3 x4 x5 x6 x7 x11 x8 x9 x10 na nb dt U mp
  generalize hqs : vals (runT (row.map (wdOf X9 Y9 tt1 tt2 xl yl)) t).2 = qv at N
  have hvl := hi.length
  have hrp : 1 ≤ row.length := List.length_pos_iff.mpr hr0
  have htn : ((t : Int).fmod (row.length : Int)).toNat = t % row.length := by rw [← Int.ofNat_fmod, Int.toNat_natCast]
  have h0t : 0 ≤ (t : Int).fmod (row.length : Int) := by rw [← Int.ofNat_fmod]; omega
  have hsq : StrsAre qv ((runT (row.map (wdOf X9 Y9 tt1 tt2 xl yl)) t).2.map (·.1)) := by rw [← hqs]; exact vals_strs _
  have hsw : ∀ {ys : List Value}, StrsAre ys (row.map (wtx X9 Y9)) → StrsAre (ys.drop ((t : Int).fmod (row.length : Int)).toNat ++ ys.take ((t : Int).fmod (row.length : Int)).toNat) ((runT (row.map (wdOf X9 Y9 tt1 tt2 xl yl)) t).2.map (·.1)) := fun h => by
    rw [turned_txt hr0, htn]; exact (h.drop' _).append' (h.take' _)
  have hok2 : OkAll ((runT (row.map (wdOf X9 Y9 tt1 tt2 xl yl)) t).2.map (·.1)) := okTurned okX okY
  unfold tailBody forBody lawBody lawEnv lawD
  dsimp only [List.drop]
  revert X; k_fill; intro X
  k_with "n1b" => exact hn1
  k_with "cend" => (exact LCg.CompEnd.intro (by k_asm) (by k_asm) _ (fun p hp => hp) off (show LCg.SrcAt _ _ _ _ from Or.inr ⟨_, by k_mem, rfl, _, rfl⟩) ⟨rfl, _, _, hre, (congrArg (fun z => Value.str z _) hw).symm⟩)
  k_with "csrc" => k_dflt (
    refine' LCg.CompSrc.ledger rfl (by k_asm) (by k_asm) (by k_mem) (by rw [sizeLine_eq, List.size_toArray]; omega) ?_
    intro g
    refine' compRest_pure _ (fun i y => ∃ e ty, row[i]? = some e ∧ y = .str (wtx X9 Y9 e) ty) (show LCg.SrcAt _ _ _ _ from Or.inr ⟨_, by k_mem, rfl, _, rfl⟩) ?_ ?_
    intro i v I oI C oC D m₂ ys h tk E' hi9 hP hC hm F1 N1 off hne
    obtain ⟨e, te, rfl, hre⟩ := ints_at hi hP
    (rcases wtx_cases (X := X9) (Y := Y9) hn1 (hrow e (List.mem_of_getElem? hre)) with ⟨rfl, hw⟩ | ⟨rfl, hw⟩)
    rotate_left
    rotate_left
    intro ys2 hyl hyG
    rw [List.size_toArray, hvl] at hyl
    have hst : StrsAre ys2 (row.map (wtx X9 Y9)) := waits hyl hyG
    rotate_left
    rotate_left)
  k_with "pick" => (first | exact pick_from h0t | exact pick_upto h0t)
  k_with "lsz" => (rw [sizeLine_eq, List.size_toArray]; omega)
  k_with "addz" => (simp only [List.length_drop, List.length_take, sizeLine_eq]; omega)
  k_with "neq" => k_dflt (refine' ks_ne_same (News.isList (by k_asm) (by k_mem)) (News.isList (by k_asm) (by k_mem)) hsq (hsw hst) hok2 (by k_units) ?_; k_whole)
  k_with "wlenq" => (rw [List.size_toArray, hyl])
  k_steps
  k_dflt refine' ret _ (nr + 1) _ _ (fr_kst (by k_asm) (by kst_all)) ?_
  rename News _ _ _ _ => N9
  intro q hq
  rw [hg] at hq
  rcases List.mem_append.mp hq with h | h
  · have h2 : q ∈ rest := by rw [← hrest]; exact List.mem_append_left _ h
    exact N9 q (by repeat (first | exact h2 | apply List.mem_cons_of_mem))
  · rcases List.mem_cons.mp h with rfl | h
    · exact N9 _ (.tail _ (.tail _ (.tail _ (.tail _ (.head _)))))
    · have h2 : q ∈ rest := by rw [← hrest]; exact List.mem_append_right _ h
      exact N9 q (by repeat (first | exact h2 | apply List.mem_cons_of_mem))

theorem turn_tail1 (B : Below A₀ base [] h₀) (X : (hd.heap_1 w.params).In h₀) (T : Top p loose mean mg mb h₀) (C : CodeHd base 97 93) (hdp : dp + 12 < recursionLimit) (hu : un + 300 < cLine) {Qf : Flow → Shared → Prop} {fa : Addr} {cd : Value} {rr ra a0 r0 r1 ll tl ax ay rw rt rb : Addr} {tk0 tt ttt tb1 tb2 tt1 tt2 tX tY : Tok} {tx : List Nat} {m₀ : Str → Option Value} {row : List Int} {vs : List Value} {en np nr t : Nat} {n1 ln : Int} {tl0 : Tok} {X9 Y9 : Str} {ob ot orr : Obj} {Y0 Y1 : Lx} {g : Obj → List (Addr × Obj)} (xl yl : List Int) {k0 : Int} (hk0 : k0 = 1)
   (F : Fr h₀ L s.heap m₀) (N : News h₀ L s.heap news) (hk : ∀ q ∈ ([("letters", .ref ra), ("turns", .int (t : Nat) tt), ("lexers", .ref ll), ("told", .ref tl), ("k", .int k0 tk0), ("x", .ref ax), ("y", .ref ay), ("rows", .ref rw), ("text", .str ⟨tx.toArray⟩ ttt)] : List (Str × Value)), m₀ q.1 = some q.2) (U : UpdF rr (listOf #[.ref a0] nr) news g)
   (m1 : (rw, listOf #[.ref r0, .ref r1] 0) ∈ news) (m2 : (r1, listOf vs.toArray en) ∈ news) (m3 : (rt, listOf #[.str X9 tX, .str Y9 tY] 0) ∈ news) (m4 : (rb, listOf #[.int 256 tb1, .int n1 tb2] 0) ∈ news) (m5 : (ll, listOf #[.ref Y0.x, .ref Y1.x] 0) ∈ news) (m6 : (L + 1 + 1 + 1, ob) ∈ news) (m7 : (L + 1 + 1, ot) ∈ news) (m11 : (L + 1 + 1 + 1 + 1, orr) ∈ news) (m8 : (Y1.x, instObj 52 Y1.dx) ∈ news) (m9 : (Y1.dx, Y1.D ln tl0) ∈ news) (m10 : (Y1.pb, listOf (vals (runT (row.map (wdOf X9 Y9 tt1 tt2 xl yl)) t).2).toArray np) ∈ news)
   (hob : ob.data = .cell (some (.ref rb))) (hot : ot.data = .cell (some (.ref rt))) (hor : orr.data = .cell (some (.ref rr)))
   (hi : IntsAre vs row) (hrow : ∀ e ∈ row, e = 256 ∨ e = n1) (hn1 : 257 ≤ n1 ∧ n1 ≤ 10256) (hrl : row.length ≤ 3) (hr0 : row ≠ []) (okX : PyData.canLay0 (.str X9) = true) (okY : PyData.canLay0 (.str Y9) = true)
   (ret : ∀ u nr' h' tk', Fr h₀ L h' (kstB u [("lexers", .ref ll), ("told", .ref tl), ("x", .ref ax), ("y", .ref ay), ("rows", .ref rw), ("text", .str ⟨tx.toArray⟩ ttt)]) → News h₀ L h' (g (listOf #[.ref a0, .ref ra] nr')) → Qf .next { s with heap := h', toks := tk' }) :
   wpAny (model PySem.Challenge.rw_sr0006_01.row.prog w) (Am dp un gd (lawEnv w.params L fa cd) []) (execs (tailBody w.params) (lawEnv w.params L fa cd)) Qf (fun _ _ => False) s := by
  k_with_none
  k_with "k_lk" => (first | (refine' lt_get ?h9 ?m9; (case h9 => with_reducible assumption); (case m9 => k_mem)) | (refine' Ne.symm (lt_get ?h9 ?m9); (case h9 => with_reducible assumption); (case m9 => k_mem)) | (refine' ana_get ?h9 ?m9; (case h9 => with_reducible assumption); (case m9 => k_mem)) | (refine' Ne.symm (ana_get ?h9 ?m9); (case h9 => with_reducible assumption); (case m9 => k_mem)) | with_reducible assumption | (refine Ne.symm ?_; with_reducible assumption) | fail "k_lk")
  k_with "k_ne" => first | k_extra "k_lk" | omega
  k_with "k_all" => (first | with_reducible assumption | (refine' lt_all ?h9; (case h9 => with_reducible assumption)) | fail "k_all")
  k_with "k_mem" => (first | exact mI0 | exact mI1 | exact mI2 | exact mI3 | exact mI4 | exact mI5 | exact mI6 | exact mI7 | exact mI8 | exact mI9 | exact mI10 | exact mI11 | (refine mS12 ?_; k_mem))
  k_with "k_room" => first | (refine' rm0 ?h9 ?k9; (case h9 => with_reducible assumption); (case k9 => exact Nat.le_of_ble_eq_true rfl)) | (refine' rm1 ?h9 ?k9; (case h9 => with_reducible assumption); (case k9 => exact Nat.le_of_ble_eq_true rfl)) | (refine' rm2 ?h9; (case h9 => with_reducible assumption)) | (refine' rm4 ?h9; (case h9 => with_reducible assumption)) | (simp only [depth_under_make, depth_under_kw, depth_in1, depth_deeper, depth_caller, recursionLimit] at *; omega)
  k_with "k_units" => first | (refine' rm0 ?h9 ?k9; (case h9 => with_reducible assumption); (case k9 => exact Nat.le_of_ble_eq_true rfl)) | (refine' rm1 ?h9 ?k9; (case h9 => with_reducible assumption); (case k9 => exact Nat.le_of_ble_eq_true rfl)) | (refine' rm2 ?h9; (case h9 => with_reducible assumption)) | (refine' rm4 ?h9; (case h9 => with_reducible assumption)) | (simp only [units_in1, units_deeper, Around.mark_units, units_caller, cLine] at *; omega)
  k_with "om" => (first | (refine neN ?_; (try dsimp only); k_extra "k_lk") | with_reducible assumption | exact Nat.le_of_ble_eq_true rfl | (refine' le_lit ?h9 ?k9; (case h9 => with_reducible assumption); (case k9 => exact Nat.le_of_ble_eq_true rfl)) | (refine' lt_lit ?h9 ?k9; (case h9 => with_reducible assumption); (case k9 => exact Nat.le_of_ble_eq_true rfl)) | (refine' rm0 ?h9 ?k9; (case h9 => with_reducible assumption); (case k9 => exact Nat.le_of_ble_eq_true rfl)) | (refine' rm1 ?h9 ?k9; (case h9 => with_reducible assumption); (case k9 => exact Nat.le_of_ble_eq_true rfl)) | (refine' rm2 ?h9; (case h9 => with_reducible assumption)) | (refine' rm4 ?h9; (case h9 => with_reducible assumption)) | omega (config := { splitDisjunctions := false }) | ((repeat (first | (rename _ ≠ _ ∧ _ => hq9; clear hq9) | (rename (_ ≠ _ ∧ _) ∧ _ => hq9; clear hq9))); omega (config := { splitDisjunctions := true })) | omega (config := { splitDisjunctions := true }) | ((repeat (rename (∀ p ∈ (_ : List (PySem.Addr × PySem.Obj)), @LT.lt Nat _ p.1 _) => hq9; (have hq8 := PySem.W.allLt_of hq9); clear hq9; simp only [PySem.W.AllLt, and_true] at hq8)); omega (config := { splitDisjunctions := true })))
  k_with "callWith ref" => (k_here; k_dflt (refine' callWith_K ?zs1 ?zs2 ?_; (case zs1 => k_asm); (case zs2 => k_is); k_whole))
  k_with "call builtin:len" => (k_here; (with_reducible show wpAny _ _ (call (Value.builtin _) [Value.ref _]) _ _ _); (with_unfolding_all refine' len_ints_fit ?zs1 ?zs2 ?zs3 ?_; (case zs1 => is_list); (case zs2 => l_ints); (case zs3 => l_fit); k_whole); (try simp only [List.length_append, List.length_cons, List.length_nil, Nat.zero_add]))
  k_with "subscriptTail Name" => (k_here; (with_reducible show wpAny _ _ (subscriptTail _ _ (Value.ref _) (Value.int _ _)) _ _ _); kim_at)
  k_with "getMethod ref" => (k_here; k_dflt (refine' method_inst ?zs1 ?zs2 ?zs3 ?zs4 ?zs5 ?zs6 ?zs7 ?_; (case zs1 => k_asm); (case zs2 => k_asm); (case zs3 => k_inst); (case zs4 => k_is); (case zs5 => k_is); (case zs6 => k_is); (case zs7 => k_get); k_whole))
  k_with "execs cons" => (refine seqK ?_; intro K9 tk9 hK9; (try dsimp only))
  k_with "KK next" => (refine' kk_next ?h9 ?_; (case h9 => with_reducible assumption))
  k_with "KK ret" => (refine' kk_ret ?h9 ?_; (case h9 => with_reducible assumption); (try dsimp only))
  k_with "KK brk" => (refine' kk_brk ?h9 ?_; (case h9 => with_reducible assumption); (try dsimp only))
  k_with "KK cont" => (refine' kk_cont ?h9 ?_; (case h9 => with_reducible assumption); (try dsimp only))
  k_with "FinA" => (k_here; (unfold LCg.FinA); intro D' h' tk' F' N' o1'; (replace o1' := off1_ana o1'); (try dsimp only [List.map_cons, List.map_nil] at o1'); (try simp only [List.nil_append, List.cons_append] at N'); (try dsimp only))
  k_with "FinE" => (k_here; (unfold LCg.FinE); intro D' h' tk' F' N' o1'; (replace o1' := off1_ana o1'); (try dsimp only [List.map_cons, List.map_nil] at o1'); (try simp only [List.nil_append, List.cons_append] at N'); (try dsimp only))
  k_with "call builtin:list.index" => (k_here; k_dflt (first | (refine' idx2a ?zqn ?zql ?_; (case zql => exact News.isList (by k_asm) (by k_mem)); (case zqn => k_extra "n1b"); k_whole; intro ti' tki') | (refine' idx2b ?zqn ?zql ?_; (case zql => exact News.isList (by k_asm) (by k_mem)); (case zqn => k_extra "n1b"); k_whole; intro ti' tki')))
  k_with "subscriptTail Name Slice ref ref" => (k_here; (with_reducible show wpAny _ _ (subscriptTail _ (PySem.Expr.Slice _ _ none _) (Value.ref _) (Value.ref _)) _ _ _); k_dflt (refine' kmk_slice3_lit ?zqF ?zqN ?zql ?zqp ?zqq IsPart.none ?zqo ?zqe ?_ ?zqs ?zqt ?zqz; (case zqF => k_asm); (case zqN => k_asm); (case zql => kmk_list); (case zqp => kmk_part); (case zqq => kmk_part); (case zqo => decide); (case zqe => k_extra "pick"); (case zqs => with_unfolding_all rfl); (case zqt => kmk_pure); (case zqz => k_extra "lsz")); intro D' h' F' N' l1; (try k_lt l1))
  k_with "binaryOp Add ref ref" => (k_here; (with_reducible show wpAny _ _ (binaryOp _ (Value.ref _) (Value.ref _)) _ _ _); k_dflt (refine' kmk_add_lit ?zqF ?zqN ?zqa ?zqb ?zqe ?_ ?zqz; (case zqF => k_asm); (case zqN => k_asm); (case zqa => kmk_list); (case zqb => kmk_list); (case zqe => exact addl _ _); (case zqz => k_extra "addz")); intro D' h' F' N' l1; (try k_lt l1))
  k_with "compareOp NotEq ref ref" => (k_here; k_extra "neq")
  k_with "call builtin:len" => (k_here; (with_reducible show wpAny _ _ (call (Value.builtin "len") [Value.ref _]) _ _ _); k_dflt (refine' kun_lenL ?zqk1 ?zqk2 ?zqk3 ?_; (case zqk1 => exact News.isList (by k_asm) (by k_mem)); (case zqk2 => k_extra "wlenq"); (case zqk3 => omega); k_whole))
  k_with "CompSrc" => (k_here; k_extra "csrc")
  k_with "CompEnd" => k_extra "cend"
  subst hk0
  obtain ⟨pre, post, rfl, hg, na, nb⟩ := U.split
  have nall : ∀ p ∈ pre ++ post, p.1 ≠ rr := fun p hp => (List.mem_append.mp hp).elim (na p) (nb p)
  have dt : ∀ {o o' : Obj}, o.data ≠ o'.data → o ≠ o' := fun h e => h (congrArg Obj.data e)
  have ms : ∀ {a : Addr} {o : Obj}, (a, o) ∈ pre ++ (rr, listOf #[.ref a0] nr) :: post → a ≠ rr → (a, o) ∈ pre ++ post := fun h ne => by
    rcases List.mem_append.mp h with h | h
    · exact List.mem_append_left _ h
    · rcases List.mem_cons.mp h with h | h
      · cases h; exact absurd rfl ne
      · exact List.mem_append_right _ h
  have dne : ∀ {a b : Addr} {o o' : Obj}, (a, o) ∈ pre ++ (rr, listOf #[.ref a0] nr) :: post → (b, o') ∈ pre ++ (rr, listOf #[.ref a0] nr) :: post → o ≠ o' → a ≠ b := fun ha hb h e => by
    have h1 := (N _ ha).1
    have h2 := (N _ hb).1
    rw [show (_, _).1 = _ from e, h2] at h1
    exact h (Option.some.inj h1).symm
  have mp : (rr, listOf #[.ref a0] nr) ∈ pre ++ (rr, listOf #[.ref a0] nr) :: post := List.mem_append_right _ (.head _)
  have x1 := ms m1 (dne m1 mp (dt (by simp)))
  have x2 := ms m2 (dne m2 mp (dt (fun h => by
    cases vs with
    | nil => cases hi; exact hr0 rfl
    | cons v r => cases hi; simp at h)))
  have x3 := ms m3 (dne m3 mp (dt (by simp)))
  have x4 := ms m4 (dne m4 mp (dt (by simp)))
  have x5 := ms m5 (dne m5 mp (dt (by simp)))
  have x6 := ms m6 (dne m6 mp (dt (by rw [hob]; simp)))
  have x7 := ms m7 (dne m7 mp (dt (by rw [hot]; simp)))
  have x11 := ms m11 (dne m11 mp (dt (by rw [hor]; simp)))
  have x8 := ms m8 (dne m8 mp (dt (by simp)))
  have x9 := ms m9 (dne m9 mp (dt (by simp)))
  have x10 := ms m10 (dne m10 mp (dt (fun h => by
    have hl9 := (runT_all (P := fun _ => True) (qs := row.map (wdOf X9 Y9 tt1 tt2 xl yl)) (fun _ _ => trivial) t).2
    cases hq : (runT (row.map (wdOf X9 Y9 tt1 tt2 xl yl)) t).2 with
    | nil => rw [hq] at hl9; simp at hl9; exact hr0 (List.length_eq_zero_iff.mp hl9.symm)
    | cons p q => rw [hq] at h; simp [vals] at h)))
  clear m1 m2 m3 m4 m5 m6 m7 m11 m8 m9 m10 dne ms
  generalize hrest : pre ++ post = rest at nall x1 x2 x3 x4 x5 x6 x7 x11 x8 x9 x10
  replace N : News h₀ L s.heap ((rr, listOf #[.ref a0] nr) :: (rw, listOf #[.ref r0, .ref r1] 0) :: (r1, listOf vs.toArray en) :: (rt, listOf #[.str X9 tX, .str Y9 tY] 0) :: (rb, listOf #[.int 256 tb1, .int n1 tb2] 0) :: (ll, listOf #[.ref Y0.x, .ref Y1.x] 0) :: (L + 1 + 1 + 1, ob) :: (L + 1 + 1, ot) :: (L + 1 + 1 + 1 + 1, orr) :: (Y1.x, instObj 52 Y1.dx) :: (Y1.dx, Y1.D ln tl0) :: (Y1.pb, listOf (vals (runT (row.map (wdOf X9 Y9 tt1 tt2 xl yl)) t).2).toArray np) :: rest) := cb_drop N (fun q hq => by
    simp only [List.mem_cons] at hq
    have up : q ∈ rest → q ∈ pre ++ (rr, listOf #[.ref a0] nr) :: post := fun h => by
      rw [← hrest] at h
      rcases List.mem_append.mp h with h | h
      · exact List.mem_append_left _ h
      · exact List.mem_append_right _ (.tail _ h)
    rcases hq with rfl | rfl | rfl | rfl | rfl | rfl | rfl | rfl | rfl | rfl | rfl | rfl | hq
    · exact mp
    all_goals exact up (by assumption))
  have hA : AllNeA rr [rw, r1, rt, rb, ll, L + 1 + 1 + 1, L + 1 + 1, L + 1 + 1 + 1 + 1, Y1.x, Y1.dx, Y1.pb] := fun a ha => by
    simp only [List.mem_cons, List.not_mem_nil, or_false] at ha
    rcases ha with rfl | rfl | rfl | rfl | rfl | rfl | rfl | rfl | rfl | rfl | rfl
    · exact nall _ x1
    · exact nall _ x2
    · exact nall _ x3
    · exact nall _ x4
    · exact nall _ x5
    · exact nall _ x6
    · exact nall _ x7
    · exact nall _ x11
    · exact nall _ x8
    · exact nall _ x9
    · exact nall _ x10
  have F9 : Fr h₀ L s.heap (kstB m₀ [("letters", .ref ra), ("turns", .int (t : Nat) tt), ("lexers", .ref ll), ("told", .ref tl), ("k", .int 1 tk0), ("x", .ref ax), ("y", .ref ay), ("rows", .ref rw), ("text", .str ⟨tx.toArray⟩ ttt)]) := by rw [kstB_of hk]; exact F
  clear F x1 x2 x3 x4 x5 x6 x7 x11 x8 x9 x10 na nb dt U mp
  generalize hqs : vals (runT (row.map (wdOf X9 Y9 tt1 tt2 xl yl)) t).2 = qv at N
  have hvl := hi.length
  have hrp : 1 ≤ row.length := List.length_pos_iff.mpr hr0
  have htn : ((t : Int).fmod (row.length : Int)).toNat = t % row.length := by rw [← Int.ofNat_fmod, Int.toNat_natCast]
  have h0t : 0 ≤ (t : Int).fmod (row.length : Int) := by rw [← Int.ofNat_fmod]; omega
  have hsq : StrsAre qv ((runT (row.map (wdOf X9 Y9 tt1 tt2 xl yl)) t).2.map (·.1)) := by rw [← hqs]; exact vals_strs _
  have hsw : ∀ {ys : List Value}, StrsAre ys (row.map (wtx X9 Y9)) → StrsAre (ys.drop ((t : Int).fmod (row.length : Int)).toNat ++ ys.take ((t : Int).fmod (row.length : Int)).toNat) ((runT (row.map (wdOf X9 Y9 tt1 tt2 xl yl)) t).2.map (·.1)) := fun h => by
    rw [turned_txt hr0, htn]; exact (h.drop' _).append' (h.take' _)
  have hok2 : OkAll ((runT (row.map (wdOf X9 Y9 tt1 tt2 xl yl)) t).2.map (·.1)) := okTurned okX okY
  unfold tailBody forBody lawBody lawEnv lawD
  dsimp only [List.drop]
  revert X; k_fill; intro X
  k_with "n1b" => exact hn1
  k_with "cend" => (exact LCg.CompEnd.intro (by k_asm) (by k_asm) _ (fun p hp => hp) off (show LCg.SrcAt _ _ _ _ from Or.inr ⟨_, by k_mem, rfl, _, rfl⟩) ⟨rfl, _, _, hre, (congrArg (fun z => Value.str z _) hw).symm⟩)
  k_with "csrc" => k_dflt (
    refine' LCg.CompSrc.ledger rfl (by k_asm) (by k_asm) (by k_mem) (by rw [sizeLine_eq, List.size_toArray]; omega) ?_
    intro g
    refine' compRest_pure _ (fun i y => ∃ e ty, row[i]? = some e ∧ y = .str (wtx X9 Y9 e) ty) (show LCg.SrcAt _ _ _ _ from Or.inr ⟨_, by k_mem, rfl, _, rfl⟩) ?_ ?_
    intro i v I oI C oC D m₂ ys h tk E' hi9 hP hC hm F1 N1 off hne
    obtain ⟨e, te, rfl, hre⟩ := ints_at hi hP
    (rcases wtx_cases (X := X9) (Y := Y9) hn1 (hrow e (List.mem_of_getElem? hre)) with ⟨rfl, hw⟩ | ⟨rfl, hw⟩)
    rotate_left
    rotate_left
    intro ys2 hyl hyG
    rw [List.size_toArray, hvl] at hyl
    have hst : StrsAre ys2 (row.map (wtx X9 Y9)) := waits hyl hyG
    rotate_left
    rotate_left)
  k_with "pick" => (first | exact pick_from h0t | exact pick_upto h0t)
  k_with "lsz" => (rw [sizeLine_eq, List.size_toArray]; omega)
  k_with "addz" => (simp only [List.length_drop, List.length_take, sizeLine_eq]; omega)
  k_with "neq" => k_dflt (refine' ks_ne_same (News.isList (by k_asm) (by k_mem)) (News.isList (by k_asm) (by k_mem)) hsq (hsw hst) hok2 (by k_units) ?_; k_whole)
  k_with "wlenq" => (rw [List.size_toArray, hyl])
  k_steps
  k_dflt refine' ret _ (nr + 1) _ _ (fr_kst (by k_asm) (by kst_all)) ?_
  rename News _ _ _ _ => N9
  intro q hq
  rw [hg] at hq
  rcases List.mem_append.mp hq with h | h
  · have h2 : q ∈ rest := by rw [← hrest]; exact List.mem_append_left _ h
    exact N9 q (by repeat (first | exact h2 | apply List.mem_cons_of_mem))
  · rcases List.mem_cons.mp h with rfl | h
    · exact N9 _ (.tail _ (.tail _ (.tail _ (.tail _ (.head _)))))
    · have h2 : q ∈ rest := by rw [← hrest]; exact List.mem_append_right _ h
      exact N9 q (by repeat (first | exact h2 | apply List.mem_cons_of_mem))

end
end Mine
end
section
open PySem PySem.W PyProof.Rows PySem.Calls PySem.Spec
namespace Mine


section
variable {w : World} {p : Program} {loose : List Str} {mean : ExcName → Option Value} {mg mb : Str → Option Value} {dp un : Nat} {gd : Option (List Code)} {env : Env} {outer : List Env} {A₀ : Around} {base h₀ : Heap} {L : Addr} {m : Str → Option Value} {news : List (Addr × Obj)} {s : Shared} {Q E : Value → Shared → Prop}
theorem ints_flat {vs : List Value} {ns : List Int} (h : IntsAre vs ns) : ∀ k, IntsAre (List.replicate k vs).flatten (List.replicate k ns).flatten
  | 0 => .nil
  | k + 1 => by
    rw [List.replicate_succ, List.replicate_succ, List.flatten_cons, List.flatten_cons]
    exact IntsAre.append h (ints_flat h k)
section
variable {prog : Program} {A : Around}
theorem eq_is {a b : Addr} {vs us : List Value} {ns ms : List Int} {v : Bool} (hl : s.heap.IsList a vs.toArray) (hi : IntsAre vs ns) (hl' : s.heap.IsList b us.toArray) (hi' : IntsAre us ms) (hu : A.units + 64 < cLine)
    (e : decide (ns = ms) = v) (h : Q (.bool v) s) : wpAny (model prog w) A (compareOp .Eq (.ref a) (.ref b)) Q E s :=
  eq_intsK hl hi hl' hi' hu (by rw [e]; exact h)
theorem item_0 {value slice : Expr} {l : Addr} {vs : List Value} {n : Int} {ns : List Int} {u : Tok} (hl : s.heap.IsList l vs.toArray) (hi : IntsAre vs (n :: ns)) (h : ∀ t, Q (.int n t) s)
    (hs : subscripted slice false (.ref l) (.int 0 u) = operate [.ref l, .int 0 u] (getItem (.ref l) (.int 0 u))) (hg : ∀ r, letTemporaryGo value (.ref l) r = pure ()) :
    wpAny (model prog w) A (subscriptTail value slice (.ref l) (.int 0 u)) Q E s :=
  item_list_ints hl hi (Int.le_refl 0) (by simp) (by decide) (fun t => h t) hs hg
end
theorem law22 (B : Below A₀ base [] h₀) (X : (hd.heap_1 w.params).In h₀) (T : Top p loose mean mg mb h₀) (C : CodeHd base 97 93) (hdp : dp + 12 < recursionLimit) (hu : un + 300 < cLine) {Qf : Flow → Shared → Prop} {fa : Addr} {cd : Value} {xv yv l0 l1 av : List Value} {xl yl m0 m1 : List Int} {ax ay rr a0 a1 ad : Addr} {ex ey nr n0 n1 nd : Nat} {m₀ : Str → Option Value} {tmn tsz : Tok} {nI sI : Int} {orr : Obj} {pc : Array Value}
   (F0 : Fr h₀ L s.heap m₀) (hk : ∀ q ∈ ([("x", .ref ax), ("y", .ref ay), ("many", .int nI tmn), ("size", .int sI tsz), ("apart", .ref ad)] : List (Str × Value)), m₀ q.1 = some q.2)
   (N : News h₀ L s.heap [(ad, listOf av.toArray nd), (rr, listOf #[.ref a0, .ref a1] nr), (a0, listOf l0.toArray n0), (a1, listOf l1.toArray n1), (ax, listOf xv.toArray ex), (ay, listOf yv.toArray ey), (L + 1 + 1 + 1 + 1, orr), (93, tabObj pc)])
   (hor : orr.data = .cell (some (.ref rr))) (hnI : nI = ((xl.length + yl.length : Nat) : Int)) (hsI : sI = ((Nat.gcd xl.length yl.length : Nat) : Int))
   (hxi : IntsAre xv xl) (hyi : IntsAre yv yl) (h0i : IntsAre l0 m0) (h1i : IntsAre l1 m1) (hx1 : 1 ≤ xl.length) (hy1 : 1 ≤ yl.length) (hxy : xl.length + yl.length ≤ 32)
   (hm0 : ∃ vs, xl.length + yl.length ≤ (cat xl yl (true :: vs)).length ∧ m0 = (cat xl yl (true :: vs)).take (xl.length + yl.length))
   (hm1 : ∃ vs, xl.length + yl.length ≤ (cat xl yl (false :: vs)).length ∧ m1 = (cat xl yl (false :: vs)).take (xl.length + yl.length))
   (hap : IntsAre av (apartL (xl.length + yl.length) m0 m1)) (fin : ∀ h' tk' m' ps, Fr h₀ L h' m' → News h₀ L h' [(93, tabObj ps)] → Qf (.ret (.bool true)) { s with heap := h', toks := tk' }) : wpAny (model PySem.Challenge.rw_sr0006_01.row.prog w) (Am dp un gd (lawEnv w.params L fa cd) []) (execs ((lawBody w.params).drop 22) (lawEnv w.params L fa cd)) Qf (fun _ _ => False) s := by
  k_with_none
  k_with "k_lk" => (first | (refine' lt_get ?h9 ?m9; (case h9 => with_reducible assumption); (case m9 => k_mem)) | (refine' Ne.symm (lt_get ?h9 ?m9); (case h9 => with_reducible assumption); (case m9 => k_mem)) | (refine' ana_get ?h9 ?m9; (case h9 => with_reducible assumption); (case m9 => k_mem)) | (refine' Ne.symm (ana_get ?h9 ?m9); (case h9 => with_reducible assumption); (case m9 => k_mem)) | with_reducible assumption | (refine Ne.symm ?_; with_reducible assumption) | fail "k_lk")
  k_with "k_ne" => first | k_extra "k_lk" | omega
  k_with "k_all" => (first | with_reducible assumption | (refine' lt_all ?h9; (case h9 => with_reducible assumption)) | fail "k_all")
  k_with "k_mem" => (first | exact mI0 | exact mI1 | exact mI2 | exact mI3 | exact mI4 | exact mI5 | exact mI6 | exact mI7 | exact mI8 | exact mI9 | exact mI10 | exact mI11 | (refine mS12 ?_; k_mem))
  k_with "k_room" => first | (refine' rm0 ?h9 ?k9; (case h9 => with_reducible assumption); (case k9 => exact Nat.le_of_ble_eq_true rfl)) | (refine' rm1 ?h9 ?k9; (case h9 => with_reducible assumption); (case k9 => exact Nat.le_of_ble_eq_true rfl)) | (refine' rm2 ?h9; (case h9 => with_reducible assumption)) | (refine' rm4 ?h9; (case h9 => with_reducible assumption)) | (simp only [depth_under_make, depth_under_kw, depth_in1, depth_deeper, depth_caller, recursionLimit] at *; omega)
  k_with "k_units" => first | (refine' rm0 ?h9 ?k9; (case h9 => with_reducible assumption); (case k9 => exact Nat.le_of_ble_eq_true rfl)) | (refine' rm1 ?h9 ?k9; (case h9 => with_reducible assumption); (case k9 => exact Nat.le_of_ble_eq_true rfl)) | (refine' rm2 ?h9; (case h9 => with_reducible assumption)) | (refine' rm4 ?h9; (case h9 => with_reducible assumption)) | (simp only [units_in1, units_deeper, Around.mark_units, units_caller, cLine] at *; omega)
  k_with "om" => (first | (refine neN ?_; (try dsimp only); k_extra "k_lk") | with_reducible assumption | exact Nat.le_of_ble_eq_true rfl | (refine' le_lit ?h9 ?k9; (case h9 => with_reducible assumption); (case k9 => exact Nat.le_of_ble_eq_true rfl)) | (refine' lt_lit ?h9 ?k9; (case h9 => with_reducible assumption); (case k9 => exact Nat.le_of_ble_eq_true rfl)) | (refine' rm0 ?h9 ?k9; (case h9 => with_reducible assumption); (case k9 => exact Nat.le_of_ble_eq_true rfl)) | (refine' rm1 ?h9 ?k9; (case h9 => with_reducible assumption); (case k9 => exact Nat.le_of_ble_eq_true rfl)) | (refine' rm2 ?h9; (case h9 => with_reducible assumption)) | (refine' rm4 ?h9; (case h9 => with_reducible assumption)) | omega (config := { splitDisjunctions := false }) | ((repeat (first | (rename _ ≠ _ ∧ _ => hq9; clear hq9) | (rename (_ ≠ _ ∧ _) ∧ _ => hq9; clear hq9))); omega (config := { splitDisjunctions := true })) | omega (config := { splitDisjunctions := true }) | ((repeat (rename (∀ p ∈ (_ : List (PySem.Addr × PySem.Obj)), @LT.lt Nat _ p.1 _) => hq9; (have hq8 := PySem.W.allLt_of hq9); clear hq9; simp only [PySem.W.AllLt, and_true] at hq8)); omega (config := { splitDisjunctions := true })))
  k_with "callWith ref" => (k_here; k_dflt (refine' callWith_K ?zs1 ?zs2 ?_; (case zs1 => k_asm); (case zs2 => k_is); k_whole))
  k_with "call builtin:len" => (k_here; (with_reducible show wpAny _ _ (call (Value.builtin _) [Value.ref _]) _ _ _); (with_unfolding_all refine' len_ints_fit ?zs1 ?zs2 ?zs3 ?_; (case zs1 => is_list); (case zs2 => l_ints); (case zs3 => l_fit); k_whole); (try simp only [List.length_append, List.length_cons, List.length_nil, Nat.zero_add]))
  k_with "subscriptTail Name" => (k_here; (with_reducible show wpAny _ _ (subscriptTail _ _ (Value.ref _) (Value.int _ _)) _ _ _); kim_at)
  k_with "getMethod ref" => (k_here; k_dflt (refine' method_inst ?zs1 ?zs2 ?zs3 ?zs4 ?zs5 ?zs6 ?zs7 ?_; (case zs1 => k_asm); (case zs2 => k_asm); (case zs3 => k_inst); (case zs4 => k_is); (case zs5 => k_is); (case zs6 => k_is); (case zs7 => k_get); k_whole))
  k_with "execs cons" => (refine seqK ?_; intro K9 tk9 hK9; (try dsimp only))
  k_with "KK next" => (refine' kk_next ?h9 ?_; (case h9 => with_reducible assumption))
  k_with "KK ret" => (refine' kk_ret ?h9 ?_; (case h9 => with_reducible assumption); (try dsimp only))
  k_with "KK brk" => (refine' kk_brk ?h9 ?_; (case h9 => with_reducible assumption); (try dsimp only))
  k_with "KK cont" => (refine' kk_cont ?h9 ?_; (case h9 => with_reducible assumption); (try dsimp only))
  k_with "FinA" => (k_here; (unfold LCg.FinA); intro D' h' tk' F' N' o1'; (replace o1' := off1_ana o1'); (try dsimp only [List.map_cons, List.map_nil] at o1'); (try simp only [List.nil_append, List.cons_append] at N'); (try dsimp only))
  k_with "FinE" => (k_here; (unfold LCg.FinE); intro D' h' tk' F' N' o1'; (replace o1' := off1_ana o1'); (try dsimp only [List.map_cons, List.map_nil] at o1'); (try simp only [List.nil_append, List.cons_append] at N'); (try dsimp only))
  k_with "subscriptTail" => (k_here; (with_reducible show wpAny _ _ (subscriptTail _ _ (Value.ref _) (Value.int 0 _)) _ _ _); k_dflt (refine' item_0 ?zql ?zqi ?_ ?zqs ?zqg; (case zql => exact News.isList (by k_asm) (by k_mem)); (case zqi => with_reducible assumption); (case zqs => with_unfolding_all rfl); (case zqg => kmk_pure); k_whole; intro t'))
  k_with "subscriptTail Name Slice ref ref" => (k_here; (with_reducible show wpAny _ _ (subscriptTail _ (PySem.Expr.Slice _ _ none _) (Value.ref _) (Value.ref _)) _ _ _); k_extra "sliceK")
  k_with "subscriptTail" => (k_here; (with_reducible show wpAny _ _ (subscriptTail _ (PySem.Expr.Slice _ _ none _) (Value.ref _) (Value.ref _)) _ _ _); k_extra "sliceK")
  k_with "compareOp Eq ref ref" => (k_here; (with_reducible show wpAny _ _ (compareOp CmpOp.Eq (Value.ref _) (Value.ref _)) _ _ _); k_dflt (refine' eq_is ?zql1 ?zqi1 ?zql2 ?zqi2 ?zqu ?zqe ?_; (case zql1 => exact News.isList (by k_asm) (by k_mem)); (case zql2 => exact News.isList (by k_asm) (by k_mem)); (case zqi1 => k_extra "ii"); (case zqi2 => k_extra "ii"); (case zqu => k_units); (case zqe => k_extra "ee"); k_whole))
  k_with "binaryOp Mult ref int" => (k_here; (with_reducible show wpAny _ _ (binaryOp Operator.Mult (Value.ref _) (Value.int _ _)) _ _ _); k_extra "mulK")
  unfold lawBody lawEnv lawD
  dsimp only [List.drop]
  have F := F0
  rw [← kstB_of hk] at F
  clear F0 hk
  have hvx := hxi.length
  have hvy := hyi.length
  have hml0 : m0.length = xl.length + yl.length := by
    obtain ⟨vs, h1, rfl⟩ := hm0
    rw [List.length_take]; omega
  have hml1 : m1.length = xl.length + yl.length := by
    obtain ⟨vs, h1, rfl⟩ := hm1
    rw [List.length_take]; omega
  have hl0 := h0i.length
  have hl1 := h1i.length
  have hg1 : 0 < Nat.gcd xl.length yl.length := Nat.gcd_pos_of_pos_left _ (by omega)
  have hg2 : Nat.gcd xl.length yl.length ≤ 32 := Nat.le_trans (Nat.gcd_le_left _ (by omega)) (by omega)
  have hs0 : 0 < sI := by omega
  have hsN : sI.toNat = Nat.gcd xl.length yl.length := by omega
  have hqI : nI.fdiv sI = (((xl.length + yl.length) / Nat.gcd xl.length yl.length : Nat) : Int) := by
    rw [hnI, hsI, Int.ofNat_fdiv]
  have hq32 : (xl.length + yl.length) / Nat.gcd xl.length yl.length ≤ 32 := Nat.le_trans (Nat.div_le_self _ _) hxy
  have hqa : -(2 ^ 63 : Int) ≤ nI.fdiv sI := by rw [hqI]; exact Int.le_trans (by decide) (Int.natCast_nonneg _)
  have hqb : nI.fdiv sI < 2 ^ 63 := by rw [hqI]; exact Int.lt_of_le_of_lt (Int.ofNat_le.mpr hq32) (by decide)
  have hlx : (l0.take sI.toNat).length * (nI.fdiv sI).toNat ≤ 256 := by
    rw [hqI, hsN, Int.toNat_natCast, List.length_take]
    refine Nat.le_trans (Nat.mul_le_mul_right _ (Nat.min_le_left _ _)) (Nat.le_trans (Nat.mul_div_le _ _) (by omega))
  k_with "sliceK" => k_dflt (
    refine' kmk_slice3_lit ?z9F ?z9N ?z9l ?z9p ?z9q IsPart.none ?z9o ?z9e ?_ ?z9s ?z9t ?z9z
    (case z9F => k_asm)
    (case z9N => k_asm)
    (case z9l => kmk_list)
    (case z9p => kmk_part)
    (case z9q => kmk_part)
    (case z9o => decide)
    (case z9e => (refine pick_upto ?_; first | exact Int.le_of_lt hs0 | exact Int.natCast_nonneg _ | exact Int.le_of_lt (Int.lt_add_one_of_le (Int.natCast_nonneg _))))
    (case z9s => with_unfolding_all rfl)
    (case z9t => kmk_pure)
    (case z9z => (rw [sizeLine_eq, List.size_toArray]; first | omega | (rw [(IntsAre.length (by assumption) : _ = _), List.length_append]; omega)))
    intro D' h' F' N' l1
    (try k_lt l1))
  k_with "mulK" => k_dflt (
    refine' KMa.mul ?z9F ?z9N ?z9l hqa hqb hlx rfl ?_
    (case z9F => k_asm)
    (case z9N => k_asm)
    (case z9l => exact News.isList (by k_asm) (by k_mem))
    k_whole
    intro D' h' F' N' l1
    (try k_lt l1))
  k_with "ii" => (first | with_reducible assumption | exact h0i.take _ | exact h1i.take _ | exact .nil | exact ints_flat (h0i.take _) _ | exact IntsAre.take (by assumption) _)
  by_cases hc : xl ++ yl = yl ++ xl
  · obtain ⟨c1, c2, c3⟩ := law_comm hx1 hy1 hc hm0 hm1
    have c2' : m0 = (List.replicate (nI.fdiv sI).toNat (m0.take sI.toNat)).flatten := by
      rw [hqI, hsN, Int.toNat_natCast]; exact c2.symm
    have c3' : m0.take ((xl.length : Int)).toNat = xl := by rw [Int.toNat_natCast]; exact c3
    rw [c1] at hap
    clear hm0 hm1 c2 c3
    k_with "ee" => (first | exact decide_eq_true hc | exact decide_eq_true rfl | exact decide_eq_true c2' | exact decide_eq_true c3')
    revert X; k_fill; intro X
    k_steps
    all_goals (k_dflt refine' fin _ _ _ _ (by k_asm) (cb_drop (by k_asm) (by kcj_all)))
  · obtain ⟨m, r, d1, d2, d3, d4⟩ := law_parts hx1 hy1 hc hm0 hm1
    have d0 : ¬ ((m : Int) ≥ nI - sI) := by omega
    have d3' : m0.take ((m : Int) + 1).toNat = (xl ++ yl).take ((m : Int) + 1).toNat := d3
    have d4' : m1.take ((m : Int) + 1).toNat = (yl ++ xl).take ((m : Int) + 1).toNat := d4
    rw [d1] at hap
    clear hm0 hm1
    k_with "ee" => (first | exact decide_eq_false hc | exact decide_eq_false (List.cons_ne_nil _ _) | exact decide_eq_true d3' | exact decide_eq_true d4')
    revert X; k_fill; intro X
    k_steps
    all_goals first | (exact absurd (by assumption) d0) | (k_dflt refine' fin _ _ _ _ (by k_asm) (cb_drop (by k_asm) (by kcj_all)))

end
end Mine
end
section
open PySem PySem.W PyProof.Rows PySem.Calls PySem.Spec
namespace Mine


section
variable {w : World} {p : Program} {loose : List Str} {mean : ExcName → Option Value} {mg mb : Str → Option Value} {dp un : Nat} {gd : Option (List Code)} {env : Env} {outer : List Env} {A₀ : Around} {base h₀ : Heap} {L : Addr} {m : Str → Option Value} {news : List (Addr × Obj)} {s : Shared} {Q E : Value → Shared → Prop}
theorem common_use (B : Below A₀ base outer h₀) (F : Fr h₀ L s.heap m) (X : (hd.heap_1 w.params).In h₀) (T : Top p loose mean mg mb h₀) (hf : env.frame = some L) (hke : env.scope.kind = .function) (hdp : dp + 2 < recursionLimit) (hu : un + 40 < cLine) (N : News h₀ L s.heap news) (x y : Int) (tx ty : Tok) (hx : 0 ≤ x) (hy : 0 ≤ y) (ret : ∀ t h' tk', Fr h₀ L h' m → News h₀ L h' news → Q (.int (Int.gcd x y) t) { s with heap := h', toks := tk' }) : wpAny (model PySem.Challenge.rw_sr0006_01.row.prog w) (Am dp un gd env outer) (call (.ref 155) [.int x tx, .int y ty]) Q E s :=
  common_spec B F X T hf hke hdp hu N x y tx ty hx hy fun t h' tk' hk => by
    obtain ⟨F', N'⟩ := took_val F N hk
    exact ret t h' tk' F' N'
theorem rg_size {b : Int} {n : Nat} (hb : b = (n : Int)) : Builtin.Range.rangeSize 0 b 1 = (n : Int) := by
  unfold Builtin.Range.rangeSize
  simp only [show ((1 : Int) > 0) by decide, if_true, Int.ediv_one]
  split <;> omega
theorem rg_small {b : Int} {n : Nat} (hb : b = (n : Int)) (h : n ≤ 32) : Builtin.Range.small 0 b 1 = true := by
  unfold Builtin.Range.small
  rw [rg_size hb]
  simp only [Builtin.Range.rangeFitsLong, Bool.and_eq_true, Bool.or_eq_true, decide_eq_true_eq, beq_iff_eq, show ((1 : Int) > 0) by decide, if_true]
  omega
theorem idx_a (i : Nat) : (0 : Int) ≤ 0 + (i : Int) := by omega
theorem idx_c {i n : Nat} (h : i < n) (hn : n ≤ 32) : 0 + (i : Int) < 2 ^ 63 := by omega
theorem idx_b {i n : Nat} {m : List Int} (h : i < n) (hm : m.length = n) : 0 + (i : Int) < (m.length : Int) := by omega
theorem lineno_no {P : Prop} {tx : List Nat} {ln : Int} (h : ln = 1 + (tx.count 10 : Nat)) (hn : ¬ ln = 1 + Txt.count ⟨tx.toArray⟩ (Str.ofString "
")) : P :=
  absurd (by rw [count10]; exact h) hn
theorem sel_iff {i n : Nat} {m0 m1 : List Int} (h : i < n) (h0 : m0.length = n) (h1 : m1.length = n) : m0.getD (0 + (i : Int)).toNat 0 = m1.getD (0 + (i : Int)).toNat 0 ↔ m0[i]? = m1[i]? := by
  have e : (0 + (i : Int)).toNat = i := by omega
  rw [e, List.getD_eq_getElem?_getD, List.getD_eq_getElem?_getD, List.getElem?_eq_getElem (by omega), List.getElem?_eq_getElem (by omega)]
  simp
theorem sel_ints : ∀ {is : List Nat} {ys : List Value}, SelAt (fun i y => ∃ t, y = .int (i : Nat) t) is ys → IntsAre ys (is.map (fun i : Nat => (i : Int)))
  | [], [], _ => .nil
  | _ :: _, _ :: _, ⟨⟨t, h⟩, k⟩ => h ▸ .cons _ _ (sel_ints k)
  | [], _ :: _, k => k.elim
  | _ :: _, [], k => k.elim
theorem law18 (B : Below A₀ base [] h₀) (X : (hd.heap_1 w.params).In h₀) (T : Top p loose mean mg mb h₀) (C : CodeHd base 97 93) (hdp : dp + 12 < recursionLimit) (hu : un + 300 < cLine) {Qf : Flow → Shared → Prop} {fa : Addr} {cd : Value} {xv yv l0 l1 : List Value} {xl yl m0 m1 : List Int} {ax ay rr a0 a1 ll : Addr} {ex ey nr n0 n1 : Nat} {m₀ : Str → Option Value} {tx : List Nat} {ttt tl0 tl1 : Tok} {ln0 : Int} {Y0 Y1 : Lx} {orr : Obj} {pc : Array Value}
   (F0 : Fr h₀ L s.heap m₀) (hk : ∀ q ∈ ([("x", .ref ax), ("y", .ref ay), ("lexers", .ref ll), ("text", .str ⟨tx.toArray⟩ ttt)] : List (Str × Value)), m₀ q.1 = some q.2)
   (N : News h₀ L s.heap [(rr, listOf #[.ref a0, .ref a1] nr), (a0, listOf l0.toArray n0), (a1, listOf l1.toArray n1), (ll, listOf #[.ref Y0.x, .ref Y1.x] 0), (Y1.x, instObj 52 Y1.dx), (Y1.dx, Y1.D 1 tl1), (Y0.x, instObj 52 Y0.dx), (Y0.dx, Y0.D ln0 tl0), (ax, listOf xv.toArray ex), (ay, listOf yv.toArray ey), (L + 1 + 1 + 1 + 1, orr), (93, tabObj pc)])
   (hor : orr.data = .cell (some (.ref rr)))
   (hxi : IntsAre xv xl) (hyi : IntsAre yv yl) (h0i : IntsAre l0 m0) (h1i : IntsAre l1 m1) (hx1 : 1 ≤ xl.length) (hy1 : 1 ≤ yl.length) (hxy : xl.length + yl.length ≤ 32) (hxb : ∀ e ∈ xl, 1 ≤ e ∧ e ≤ 255) (hyb : ∀ e ∈ yl, 1 ≤ e ∧ e ≤ 255)
   (hm0 : ∃ vs, xl.length + yl.length ≤ (cat xl yl (true :: vs)).length ∧ m0 = (cat xl yl (true :: vs)).take (xl.length + yl.length))
   (hm1 : ∃ vs, xl.length + yl.length ≤ (cat xl yl (false :: vs)).length ∧ m1 = (cat xl yl (false :: vs)).take (xl.length + yl.length))
   (hb0 : ∀ e ∈ m0, e < 256) (hb1 : ∀ e ∈ m1, e < 256)
   (hln : ln0 = 1 + (tx.count 10 : Nat)) (htx : tx.length ≤ 10000) (fin : ∀ h' tk' m' ps, Fr h₀ L h' m' → News h₀ L h' [(93, tabObj ps)] → Qf (.ret (.bool true)) { s with heap := h', toks := tk' }) : wpAny (model PySem.Challenge.rw_sr0006_01.row.prog w) (Am dp un gd (lawEnv w.params L fa cd) []) (execs ((lawBody w.params).drop 18) (lawEnv w.params L fa cd)) Qf (fun _ _ => False) s := by
  k_with_none
  k_with "k_lk" => (first | (refine' lt_get ?h9 ?m9; (case h9 => with_reducible assumption); (case m9 => k_mem)) | (refine' Ne.symm (lt_get ?h9 ?m9); (case h9 => with_reducible assumption); (case m9 => k_mem)) | (refine' ana_get ?h9 ?m9; (case h9 => with_reducible assumption); (case m9 => k_mem)) | (refine' Ne.symm (ana_get ?h9 ?m9); (case h9 => with_reducible assumption); (case m9 => k_mem)) | with_reducible assumption | (refine Ne.symm ?_; with_reducible assumption) | fail "k_lk")
  k_with "k_ne" => first | k_extra "k_lk" | omega
  k_with "k_all" => (first | with_reducible assumption | (refine' lt_all ?h9; (case h9 => with_reducible assumption)) | fail "k_all")
  k_with "k_mem" => (first | exact mI0 | exact mI1 | exact mI2 | exact mI3 | exact mI4 | exact mI5 | exact mI6 | exact mI7 | exact mI8 | exact mI9 | exact mI10 | exact mI11 | (refine mS12 ?_; k_mem))
  k_with "k_room" => first | (refine' rm0 ?h9 ?k9; (case h9 => with_reducible assumption); (case k9 => exact Nat.le_of_ble_eq_true rfl)) | (refine' rm1 ?h9 ?k9; (case h9 => with_reducible assumption); (case k9 => exact Nat.le_of_ble_eq_true rfl)) | (refine' rm2 ?h9; (case h9 => with_reducible assumption)) | (refine' rm4 ?h9; (case h9 => with_reducible assumption)) | (simp only [depth_under_make, depth_under_kw, depth_in1, depth_deeper, depth_caller, recursionLimit] at *; omega)
  k_with "k_units" => first | (refine' rm0 ?h9 ?k9; (case h9 => with_reducible assumption); (case k9 => exact Nat.le_of_ble_eq_true rfl)) | (refine' rm1 ?h9 ?k9; (case h9 => with_reducible assumption); (case k9 => exact Nat.le_of_ble_eq_true rfl)) | (refine' rm2 ?h9; (case h9 => with_reducible assumption)) | (refine' rm4 ?h9; (case h9 => with_reducible assumption)) | (simp only [units_in1, units_deeper, Around.mark_units, units_caller, cLine] at *; omega)
  k_with "om" => (first | (refine neN ?_; (try dsimp only); k_extra "k_lk") | with_reducible assumption | exact Nat.le_of_ble_eq_true rfl | (refine' le_lit ?h9 ?k9; (case h9 => with_reducible assumption); (case k9 => exact Nat.le_of_ble_eq_true rfl)) | (refine' lt_lit ?h9 ?k9; (case h9 => with_reducible assumption); (case k9 => exact Nat.le_of_ble_eq_true rfl)) | (refine' rm0 ?h9 ?k9; (case h9 => with_reducible assumption); (case k9 => exact Nat.le_of_ble_eq_true rfl)) | (refine' rm1 ?h9 ?k9; (case h9 => with_reducible assumption); (case k9 => exact Nat.le_of_ble_eq_true rfl)) | (refine' rm2 ?h9; (case h9 => with_reducible assumption)) | (refine' rm4 ?h9; (case h9 => with_reducible assumption)) | omega (config := { splitDisjunctions := false }) | ((repeat (first | (rename _ ≠ _ ∧ _ => hq9; clear hq9) | (rename (_ ≠ _ ∧ _) ∧ _ => hq9; clear hq9))); omega (config := { splitDisjunctions := true })) | omega (config := { splitDisjunctions := true }) | ((repeat (rename (∀ p ∈ (_ : List (PySem.Addr × PySem.Obj)), @LT.lt Nat _ p.1 _) => hq9; (have hq8 := PySem.W.allLt_of hq9); clear hq9; simp only [PySem.W.AllLt, and_true] at hq8)); omega (config := { splitDisjunctions := true })))
  k_with "callWith ref" => (k_here; k_dflt (refine' callWith_K ?zs1 ?zs2 ?_; (case zs1 => k_asm); (case zs2 => k_is); k_whole))
  k_with "call builtin:len" => (k_here; (with_reducible show wpAny _ _ (call (Value.builtin _) [Value.ref _]) _ _ _); (with_unfolding_all refine' len_ints_fit ?zs1 ?zs2 ?zs3 ?_; (case zs1 => is_list); (case zs2 => l_ints); (case zs3 => l_fit); k_whole); (try simp only [List.length_append, List.length_cons, List.length_nil, Nat.zero_add]))
  k_with "subscriptTail Name" => (k_here; (with_reducible show wpAny _ _ (subscriptTail _ _ (Value.ref _) (Value.int _ _)) _ _ _); kim_at)
  k_with "getMethod ref" => (k_here; k_dflt (refine' method_inst ?zs1 ?zs2 ?zs3 ?zs4 ?zs5 ?zs6 ?zs7 ?_; (case zs1 => k_asm); (case zs2 => k_asm); (case zs3 => k_inst); (case zs4 => k_is); (case zs5 => k_is); (case zs6 => k_is); (case zs7 => k_get); k_whole))
  k_with "execs cons" => (refine seqK ?_; intro K9 tk9 hK9; (try dsimp only))
  k_with "KK next" => (refine' kk_next ?h9 ?_; (case h9 => with_reducible assumption))
  k_with "KK ret" => (refine' kk_ret ?h9 ?_; (case h9 => with_reducible assumption); (try dsimp only))
  k_with "KK brk" => (refine' kk_brk ?h9 ?_; (case h9 => with_reducible assumption); (try dsimp only))
  k_with "KK cont" => (refine' kk_cont ?h9 ?_; (case h9 => with_reducible assumption); (try dsimp only))
  k_with "FinA" => (k_here; (unfold LCg.FinA); intro D' h' tk' F' N' o1'; (replace o1' := off1_ana o1'); (try dsimp only [List.map_cons, List.map_nil] at o1'); (try simp only [List.nil_append, List.cons_append] at N'); (try dsimp only))
  k_with "FinE" => (k_here; (unfold LCg.FinE); intro D' h' tk' F' N' o1'; (replace o1' := off1_ana o1'); (try dsimp only [List.map_cons, List.map_nil] at o1'); (try simp only [List.nil_append, List.cons_append] at N'); (try dsimp only))
  k_with "execs cons If" => ((with_reducible show wpAny _ _ (execs (Stmt.If _ _ _ _ :: Stmt.If _ _ _ _ :: _) _) _ _ _); refine stop_here ?_)
  k_with "call ref" => (k_here; (with_reducible show wpAny _ _ (call (Value.ref _) [Value.int _ _, Value.int _ _]) _ _ _); k_dflt (refine' common_use ?zqk1 ?zqk2 ?zqk3 ?zqk4 ?zqk5 ?zqk6 ?zqk7 ?zqk8 ?zqN _ _ _ _ ?zqa ?zqb ?_; (case zqk1 => k_asm); (case zqk2 => k_asm); (case zqk3 => k_asm); (case zqk4 => k_asm); (case zqk5 => first | exact rfl | assumption); (case zqk6 => first | exact rfl | assumption); (case zqk7 => k_room); (case zqk8 => k_units); (case zqN => k_asm); (case zqa => k_extra "n0"); (case zqb => k_extra "n0"); k_whole; intro t' h' tk' F' N'))
  k_with "subscriptTail" => (k_here; (with_reducible show wpAny _ _ (subscriptTail _ _ (Value.ref _) (Value.int _ _)) _ _ _); k_dflt (refine' item_list_ints ?zql ?zqi ?zqa ?zqb ?zqc ?_ ?zqs ?zqg; (case zql => exact News.isList (by k_asm) (by k_mem)); (case zqi => k_extra "ints"); (case zqa => k_extra "ia"); (case zqb => k_extra "idx"); (case zqc => k_extra "ic"); (case zqs => with_unfolding_all rfl); (case zqg => kmk_pure); k_whole; intro t'))
  k_with "CompSrcT" => (k_here; k_extra "csrct")
  k_with "CompEnd" => k_extra "cend"
  unfold lawBody lawEnv lawD
  dsimp only [List.drop]
  have F := F0
  rw [← kstB_of hk] at F
  clear F0 hk
  have hvx := hxi.length
  have hvy := hyi.length
  have hml0 : m0.length = xl.length + yl.length := by
    obtain ⟨vs, h1, rfl⟩ := hm0
    rw [List.length_take]; omega
  have hml1 : m1.length = xl.length + yl.length := by
    obtain ⟨vs, h1, rfl⟩ := hm1
    rw [List.length_take]; omega
  have hmany : (xl.length : Int) + (yl.length : Int) = ((xl.length + yl.length : Nat) : Int) := by omega
  revert X; k_fill; intro X
  k_with "n0" => exact Int.natCast_nonneg _
  k_with "ints" => (first | exact h0i | exact h1i)
  k_with "ia" => (first | exact idx_a _ | decide)
  k_with "ic" => (first | exact idx_c hi hxy | decide)
  k_with "idx" => (first | exact idx_b hi hml0 | exact idx_b hi hml1)
  k_with "cend" => (exact LCg.CompEnd.intro (by k_asm) (by k_asm) _ (fun p hp => hp) off trivial ⟨rfl, by k_extra "sel"⟩)
  k_with "sel" => (first | exact decide_eq_false (fun h => h (hsel.mp (Decidable.byContradiction (by assumption)))) | exact decide_eq_false (fun h => h (hsel.mp (by assumption))) | exact ⟨decide_eq_true (fun h => absurd (hsel.mpr h) (by assumption)), _, (congrArg (fun z => Value.int z _) (Int.zero_add _))⟩)
  k_with "csrct" => k_dflt (
    refine' LCt.CompSrcT.range (n := xl.length + yl.length) rfl (by k_asm) (by k_asm) (by k_asm) (rg_small hmany hxy) (rg_size hmany) (by rw [sizeLine_eq]; omega) ?_
    intro g
    refine' compT_pure _ (fun i => decide (m0[i]? ≠ m1[i]?)) (fun i y => ∃ t, y = .int (i : Nat) t) trivial ?_ ?_
    intro i v I oI C oC D m₂ ys h tk E' hi hP hC hm F1 N1 off hne
    obtain ⟨te, rfl⟩ := hP
    have hsel := sel_iff hi hml0 hml1
    rotate_left
    intro ys2 hys2
    have hap : IntsAre ys2 (apartL (xl.length + yl.length) m0 m1) := sel_ints hys2
    rotate_left)
  k_steps
  all_goals first | (exact lineno_no hln (by assumption)) | skip
  unfold StopHere
  refine' law22 B X T C hdp hu (by k_asm) (by kst_all) (cb_drop (by k_asm) (by kcj_all)) hor hmany (congrArg (fun n : Nat => (n : Int)) (Int.gcd_natCast_natCast ..)) hxi hyi h0i h1i hx1 hy1 hxy hm0 hm1 hap ?_
  exact fun h' tk' m' ps F' N' => fin h' tk' m' ps F' N'

end
end Mine
end
section
open PySem PySem.W PyProof.Rows PySem.Calls PySem.Spec
namespace Mine


section
variable {w : World} {p : Program} {loose : List Str} {mean : ExcName → Option Value} {mg mb : Str → Option Value} {dp un : Nat} {gd : Option (List Code)} {env : Env} {outer : List Env} {A₀ : Around} {base h₀ : Heap} {L : Addr} {m : Str → Option Value} {news : List (Addr × Obj)} {s : Shared} {Q E : Value → Shared → Prop}
theorem isnon_t (B : Below A₀ base outer h₀) (F : Fr h₀ L s.heap m) (X : (hd.heap_1 w.params).In h₀) (T : Top p loose mean mg mb h₀) (hf : env.frame = some L) (hke : env.scope.kind = .function) (hdp : dp + 2 < recursionLimit) (hu : un + 40 < cLine) (N : News h₀ L s.heap news) (x : Int) (tx : Tok) (hx : 256 ≤ x) (ret : ∀ h' tk', Fr h₀ L h' m → News h₀ L h' news → Q (.bool true) { s with heap := h', toks := tk' }) : wpAny (model PySem.Challenge.rw_sr0006_01.row.prog w) (Am dp un gd env outer) (call (.ref 84) [.int x tx]) Q E s :=
  isnon_spec B F X T hf hke hdp hu N x tx fun h' tk' hk => by
    obtain ⟨F', N'⟩ := took_val F N hk
    rw [decide_eq_true hx]; exact ret h' tk' F' N'
theorem isnon_f (B : Below A₀ base outer h₀) (F : Fr h₀ L s.heap m) (X : (hd.heap_1 w.params).In h₀) (T : Top p loose mean mg mb h₀) (hf : env.frame = some L) (hke : env.scope.kind = .function) (hdp : dp + 2 < recursionLimit) (hu : un + 40 < cLine) (N : News h₀ L s.heap news) (x : Int) (tx : Tok) (hx : x < 256) (ret : ∀ h' tk', Fr h₀ L h' m → News h₀ L h' news → Q (.bool false) { s with heap := h', toks := tk' }) : wpAny (model PySem.Challenge.rw_sr0006_01.row.prog w) (Am dp un gd env outer) (call (.ref 84) [.int x tx]) Q E s :=
  isnon_spec B F X T hf hke hdp hu N x tx fun h' tk' hk => by
    obtain ⟨F', N'⟩ := took_val F N hk
    rw [decide_eq_false (by omega)]; exact ret h' tk' F' N'
theorem isterm_t (B : Below A₀ base outer h₀) (F : Fr h₀ L s.heap m) (X : (hd.heap_1 w.params).In h₀) (T : Top p loose mean mg mb h₀) (hf : env.frame = some L) (hke : env.scope.kind = .function) (hdp : dp + 2 < recursionLimit) (hu : un + 40 < cLine) (N : News h₀ L s.heap news) (x : Int) (tx : Tok) (hx : x < 256) (ret : ∀ h' tk', Fr h₀ L h' m → News h₀ L h' news → Q (.bool true) { s with heap := h', toks := tk' }) : wpAny (model PySem.Challenge.rw_sr0006_01.row.prog w) (Am dp un gd env outer) (call (.ref 77) [.int x tx]) Q E s :=
  isterm_spec B F X T hf hke hdp hu N x tx fun h' tk' hk => by
    obtain ⟨F', N'⟩ := took_val F N hk
    rw [decide_eq_true hx]; exact ret h' tk' F' N'
theorem isterm_f (B : Below A₀ base outer h₀) (F : Fr h₀ L s.heap m) (X : (hd.heap_1 w.params).In h₀) (T : Top p loose mean mg mb h₀) (hf : env.frame = some L) (hke : env.scope.kind = .function) (hdp : dp + 2 < recursionLimit) (hu : un + 40 < cLine) (N : News h₀ L s.heap news) (x : Int) (tx : Tok) (hx : 256 ≤ x) (ret : ∀ h' tk', Fr h₀ L h' m → News h₀ L h' news → Q (.bool false) { s with heap := h', toks := tk' }) : wpAny (model PySem.Challenge.rw_sr0006_01.row.prog w) (Am dp un gd env outer) (call (.ref 77) [.int x tx]) Q E s :=
  isterm_spec B F X T hf hke hdp hu N x tx fun h' tk' hk => by
    obtain ⟨F', N'⟩ := took_val F N hk
    rw [decide_eq_false (by omega)]; exact ret h' tk' F' N'
theorem row_cat {X Y : Str} {tX tY : Tok} {xl yl names : List Int} {f : Int} {t : Nat} {b : Bool} (hf : decide (f = 256) = b) (h1 : 1 ≤ xl.length) (h : xl.length + yl.length ≤ (runT ((f :: names).map (wdOf X Y tX tY xl yl)) t).1.length) :
    ∃ vs, xl.length + yl.length ≤ (cat xl yl (b :: vs)).length ∧ (runT ((f :: names).map (wdOf X Y tX tY xl yl)) t).1.take (xl.length + yl.length) = (cat xl yl (b :: vs)).take (xl.length + yl.length) := by
  subst hf
  cases t with
  | zero =>
    have h2 : xl.length + yl.length ≤ 0 := h
    omega
  | succ t =>
    obtain ⟨vs, e⟩ := runT_cat (X := X) (Y := Y) (tX := tX) (tY := tY) (xl := xl) (yl := yl) (f := f) (names := names) t
    rw [e] at h ⊢
    exact ⟨vs, h, rfl⟩
theorem ints_get : ∀ {vs : List Value} {ns : List Int} {i : Nat} {v : Value}, IntsAre vs ns → vs.toArray[i]? = some v → ∃ e t, v = .int e t ∧ e ∈ ns := by
  intro vs ns i v h hv
  rw [List.getElem?_toArray] at hv
  induction h generalizing i with
  | nil => simp at hv
  | cons a t r ih =>
    cases i with
    | zero => simp at hv; exact ⟨_, _, hv.symm, .head _⟩
    | succ i => 
      obtain ⟨e, t', h1, h2⟩ := ih (by simpa using hv)
      exact ⟨e, t', h1, .tail _ h2⟩
theorem rowc {f n1 : Int} {ws : List Int} (h : ∀ e ∈ ws, e = 256 ∨ e = n1) (hf : f = 256 ∨ f = n1 := by first | exact .inl rfl | exact .inr rfl) : ∀ e ∈ f :: ws, e = 256 ∨ e = n1 := fun e he => by
  rcases List.mem_cons.mp he with rfl | he
  · exact hf
  · exact h e he
theorem gerow {f n1 e : Int} {ws : List Int} (he : e ∈ f :: ws) (h : ∀ e ∈ ws, e = 256 ∨ e = n1) (hn : 257 ≤ n1 ∧ n1 ≤ 10256) (hf : f = 256 ∨ f = n1 := by first | exact .inl rfl | exact .inr rfl) : 256 ≤ e := by
  rcases List.mem_cons.mp he with rfl | he
  · rcases hf with rfl | rfl <;> omega
  · rcases h e he with rfl | rfl <;> omega
theorem law16 (B : Below A₀ base [] h₀) (X : (hd.heap_1 w.params).In h₀) (T : Top p loose mean mg mb h₀) (C : CodeHd base 97 93) (hdp : dp + 12 < recursionLimit) (hu : un + 300 < cLine) {Qf : Flow → Shared → Prop} {fa : Addr} {cd : Value} {xv yv v0 v1 : List Value} {xl yl w0 w1 : List Int} {ax ay rt rb rw r0 r1 tl ll : Addr} {ot ob orr : Obj} {d n1 : Int} {tX tY tb1 tb2 tt1 tt2 tt3 tt4 tt5 tl0 tl1 ttt : Tok} {ex ey e0 e1 : Nat} {m₀ : Str → Option Value} {nt tx : List Nat} {ln0 : Int} {Y0 Y1 : Lx} {pc : Array Value}
   (F0 : Fr h₀ L s.heap m₀) (hk : ∀ q ∈ ([("x", .ref ax), ("y", .ref ay), ("rows", .ref rw), ("told", .ref tl), ("lexers", .ref ll), ("text", .str ⟨tx.toArray⟩ ttt)] : List (Str × Value)), m₀ q.1 = some q.2)
   (N : News h₀ L s.heap [(tl, listOf #[.str ⟨(spell d xl).toArray⟩ tt1, .str ⟨(spell d yl).toArray⟩ tt2, .str ⟨(spell d (256 :: w0)).toArray⟩ tt3, .str ⟨(spell d (n1 :: w1)).toArray⟩ tt4, .str ⟨nt.toArray⟩ tt5] 0), (ll, listOf #[.ref Y0.x, .ref Y1.x] 0),
     (Y1.pb, listOf #[] 0), (Y1.x, instObj 52 Y1.dx), (Y1.dx, Y1.D 1 tl1), (Y0.pb, listOf #[] 0), (Y0.x, instObj 52 Y0.dx), (Y0.dx, Y0.D ln0 tl0),
     (rw, listOf #[.ref r0, .ref r1] 0), (r1, listOf v1.toArray e1), (r0, listOf v0.toArray e0), (rb, listOf #[.int 256 tb1, .int n1 tb2] 0), (rt, listOf #[.str ⟨(spell d xl).toArray⟩ tX, .str ⟨(spell d yl).toArray⟩ tY] 0), (ax, listOf xv.toArray ex), (ay, listOf yv.toArray ey), (L + 1 + 1 + 1 + 1, orr), (L + 1 + 1 + 1, ob), (L + 1 + 1, ot), (93, tabObj pc)])
   (hot : ot.data = .cell (some (.ref rt))) (hob : ob.data = .cell (some (.ref rb))) (hor : orr.data = .cell none)
   (hxi : IntsAre xv xl) (hyi : IntsAre yv yl) (h0i : IntsAre v0 (256 :: w0)) (h1i : IntsAre v1 (n1 :: w1)) (hx1 : 1 ≤ xl.length) (hy1 : 1 ≤ yl.length) (hxy : xl.length + yl.length ≤ 32) (hxb : ∀ e ∈ xl, 1 ≤ e ∧ e ≤ 255) (hyb : ∀ e ∈ yl, 1 ≤ e ∧ e ≤ 255)
   (hn1 : 257 ≤ n1 ∧ n1 ≤ 10256) (hw0 : ∀ e ∈ w0, e = 256 ∨ e = n1) (hw1 : ∀ e ∈ w1, e = 256 ∨ e = n1) (hl0 : w0.length ≤ 2) (hl1 : w1.length ≤ 2)
   (hR : AllNeA (L + 1 + 1 + 1 + 1) [tl, ll, Y1.pb, Y1.x, Y1.dx, Y0.pb, Y0.x, Y0.dx, rw, r1, r0, rb, rt, ax, ay, 93])
   (hP0 : AllNeA Y0.pb [tl, ll, Y1.pb, Y1.x, Y1.dx, Y0.x, Y0.dx, rw, r1, r0, rb, rt, ax, ay, L + 1 + 1 + 1 + 1, L + 1 + 1 + 1, L + 1 + 1, 93])
   (hP1 : AllNeA Y1.pb [tl, ll, Y0.pb, Y1.x, Y1.dx, Y0.x, Y0.dx, rw, r1, r0, rb, rt, ax, ay, L + 1 + 1 + 1 + 1, L + 1 + 1 + 1, L + 1 + 1, 93])
   (hln : ln0 = 1 + (tx.count 10 : Nat)) (htx : tx.length ≤ 10000) (fin : ∀ h' tk' m' ps, Fr h₀ L h' m' → News h₀ L h' [(93, tabObj ps)] → Qf (.ret (.bool true)) { s with heap := h', toks := tk' }) : wpAny (model PySem.Challenge.rw_sr0006_01.row.prog w) (Am dp un gd (lawEnv w.params L fa cd) []) (execs ((lawBody w.params).drop 16) (lawEnv w.params L fa cd)) Qf (fun _ _ => False) s := by
  k_with_none
  k_with "k_lk" => (first | (refine' lt_get ?h9 ?m9; (case h9 => with_reducible assumption); (case m9 => k_mem)) | (refine' Ne.symm (lt_get ?h9 ?m9); (case h9 => with_reducible assumption); (case m9 => k_mem)) | (refine' ana_get ?h9 ?m9; (case h9 => with_reducible assumption); (case m9 => k_mem)) | (refine' Ne.symm (ana_get ?h9 ?m9); (case h9 => with_reducible assumption); (case m9 => k_mem)) | with_reducible assumption | (refine Ne.symm ?_; with_reducible assumption) | fail "k_lk")
  k_with "k_ne" => first | k_extra "k_lk" | omega
  k_with "k_all" => (first | with_reducible assumption | (refine' lt_all ?h9; (case h9 => with_reducible assumption)) | fail "k_all")
  k_with "k_mem" => (first | exact mI0 | exact mI1 | exact mI2 | exact mI3 | exact mI4 | exact mI5 | exact mI6 | exact mI7 | exact mI8 | exact mI9 | exact mI10 | exact mI11 | (refine mS12 ?_; k_mem))
  k_with "k_room" => first | (refine' rm0 ?h9 ?k9; (case h9 => with_reducible assumption); (case k9 => exact Nat.le_of_ble_eq_true rfl)) | (refine' rm1 ?h9 ?k9; (case h9 => with_reducible assumption); (case k9 => exact Nat.le_of_ble_eq_true rfl)) | (refine' rm2 ?h9; (case h9 => with_reducible assumption)) | (refine' rm4 ?h9; (case h9 => with_reducible assumption)) | (simp only [depth_under_make, depth_under_kw, depth_in1, depth_deeper, depth_caller, recursionLimit] at *; omega)
  k_with "k_units" => first | (refine' rm0 ?h9 ?k9; (case h9 => with_reducible assumption); (case k9 => exact Nat.le_of_ble_eq_true rfl)) | (refine' rm1 ?h9 ?k9; (case h9 => with_reducible assumption); (case k9 => exact Nat.le_of_ble_eq_true rfl)) | (refine' rm2 ?h9; (case h9 => with_reducible assumption)) | (refine' rm4 ?h9; (case h9 => with_reducible assumption)) | (simp only [units_in1, units_deeper, Around.mark_units, units_caller, cLine] at *; omega)
  k_with "om" => (first | (refine neN ?_; (try dsimp only); k_extra "k_lk") | with_reducible assumption | exact Nat.le_of_ble_eq_true rfl | (refine' le_lit ?h9 ?k9; (case h9 => with_reducible assumption); (case k9 => exact Nat.le_of_ble_eq_true rfl)) | (refine' lt_lit ?h9 ?k9; (case h9 => with_reducible assumption); (case k9 => exact Nat.le_of_ble_eq_true rfl)) | (refine' rm0 ?h9 ?k9; (case h9 => with_reducible assumption); (case k9 => exact Nat.le_of_ble_eq_true rfl)) | (refine' rm1 ?h9 ?k9; (case h9 => with_reducible assumption); (case k9 => exact Nat.le_of_ble_eq_true rfl)) | (refine' rm2 ?h9; (case h9 => with_reducible assumption)) | (refine' rm4 ?h9; (case h9 => with_reducible assumption)) | omega (config := { splitDisjunctions := false }) | ((repeat (first | (rename _ ≠ _ ∧ _ => hq9; clear hq9) | (rename (_ ≠ _ ∧ _) ∧ _ => hq9; clear hq9))); omega (config := { splitDisjunctions := true })) | omega (config := { splitDisjunctions := true }) | ((repeat (rename (∀ p ∈ (_ : List (PySem.Addr × PySem.Obj)), @LT.lt Nat _ p.1 _) => hq9; (have hq8 := PySem.W.allLt_of hq9); clear hq9; simp only [PySem.W.AllLt, and_true] at hq8)); omega (config := { splitDisjunctions := true })))
  k_with "callWith ref" => (k_here; k_dflt (refine' callWith_K ?zs1 ?zs2 ?_; (case zs1 => k_asm); (case zs2 => k_is); k_whole))
  k_with "call builtin:len" => (k_here; (with_reducible show wpAny _ _ (call (Value.builtin _) [Value.ref _]) _ _ _); (with_unfolding_all refine' len_ints_fit ?zs1 ?zs2 ?zs3 ?_; (case zs1 => is_list); (case zs2 => l_ints); (case zs3 => l_fit); k_whole); (try simp only [List.length_append, List.length_cons, List.length_nil, Nat.zero_add]))
  k_with "subscriptTail Name" => (k_here; (with_reducible show wpAny _ _ (subscriptTail _ _ (Value.ref _) (Value.int _ _)) _ _ _); kim_at)
  k_with "getMethod ref" => (k_here; k_dflt (refine' method_inst ?zs1 ?zs2 ?zs3 ?zs4 ?zs5 ?zs6 ?zs7 ?_; (case zs1 => k_asm); (case zs2 => k_asm); (case zs3 => k_inst); (case zs4 => k_is); (case zs5 => k_is); (case zs6 => k_is); (case zs7 => k_get); k_whole))
  k_with "execs cons" => (refine seqK ?_; intro K9 tk9 hK9; (try dsimp only))
  k_with "KK next" => (refine' kk_next ?h9 ?_; (case h9 => with_reducible assumption))
  k_with "KK ret" => (refine' kk_ret ?h9 ?_; (case h9 => with_reducible assumption); (try dsimp only))
  k_with "KK brk" => (refine' kk_brk ?h9 ?_; (case h9 => with_reducible assumption); (try dsimp only))
  k_with "KK cont" => (refine' kk_cont ?h9 ?_; (case h9 => with_reducible assumption); (try dsimp only))
  k_with "FinA" => (k_here; (unfold LCg.FinA); intro D' h' tk' F' N' o1'; (replace o1' := off1_ana o1'); (try dsimp only [List.map_cons, List.map_nil] at o1'); (try simp only [List.nil_append, List.cons_append] at N'); (try dsimp only))
  k_with "FinE" => (k_here; (unfold LCg.FinE); intro D' h' tk' F' N' o1'; (replace o1' := off1_ana o1'); (try dsimp only [List.map_cons, List.map_nil] at o1'); (try simp only [List.nil_append, List.cons_append] at N'); (try dsimp only))
  k_with "exec For Name Name cons nil" => (k_here; k_extra "ploop")
  k_with "execs cons Assign cons" => ((with_reducible show wpAny _ _ (execs (Stmt.Assign [Expr.Name (PySem.Str.ofString "waiting") _] _ _ :: _) _) _ _ _); (first | k_extra "ttail" | refine stop_here ?_))
  k_with "execs cons If" => ((with_reducible show wpAny _ _ (execs (Stmt.If (Expr.BoolOp _ _ _) _ _ _ :: _) _) _ _ _); refine stop_here ?_)
  k_with "call ref" => (k_here; (with_reducible show wpAny _ _ (call (Value.ref _) [Value.str _ _]) _ _ _); k_dflt (refine' read_use ?zqk1 ?zqk2 ?zqk3 ?zqk4 ?zqk5 ?zqk6 ?zqk7 ?zqk8 ?zqN _ _ ?zqhx _ ?zqhrow ?zqhrd ?_; (case zqk1 => k_asm); (case zqk2 => k_asm); (case zqk3 => k_asm); (case zqk4 => k_asm); (case zqk5 => first | exact rfl | assumption); (case zqk6 => first | exact rfl | assumption); (case zqk7 => k_room); (case zqk8 => k_units); (case zqN => k_asm); (case zqhrd => (refine rd_spell _ _ ?_; k_extra "rdb")); (case zqhx => k_extra "slen"); (case zqhrow => k_extra "rowlen2"); k_whole; intro r' vs' ep' h' tk' F' N' l1 hI'; (replace l1 := ana_of l1)))
  k_with "call ref" => (k_here; k_dflt (refine' isnon_t ?zqk1 ?zqk2 ?zqk3 ?zqk4 ?zqk5 ?zqk6 ?zqk7 ?zqk8 ?zqN _ _ ?zqh ?_; (case zqk1 => k_asm); (case zqk2 => k_asm); (case zqk3 => k_asm); (case zqk4 => k_asm); (case zqk5 => first | exact rfl | assumption); (case zqk6 => first | exact rfl | assumption); (case zqk7 => k_room); (case zqk8 => k_units); (case zqN => k_asm); (case zqh => k_extra "ge"); k_whole; intro h' tk' F' N'))
  k_with "call ref" => (k_here; k_dflt (refine' isnon_f ?zqk1 ?zqk2 ?zqk3 ?zqk4 ?zqk5 ?zqk6 ?zqk7 ?zqk8 ?zqN _ _ ?zqh ?_; (case zqk1 => k_asm); (case zqk2 => k_asm); (case zqk3 => k_asm); (case zqk4 => k_asm); (case zqk5 => first | exact rfl | assumption); (case zqk6 => first | exact rfl | assumption); (case zqk7 => k_room); (case zqk8 => k_units); (case zqN => k_asm); (case zqh => k_extra "lt"); k_whole; intro h' tk' F' N'))
  k_with "call ref" => (k_here; k_dflt (refine' isterm_t ?zqk1 ?zqk2 ?zqk3 ?zqk4 ?zqk5 ?zqk6 ?zqk7 ?zqk8 ?zqN _ _ ?zqh ?_; (case zqk1 => k_asm); (case zqk2 => k_asm); (case zqk3 => k_asm); (case zqk4 => k_asm); (case zqk5 => first | exact rfl | assumption); (case zqk6 => first | exact rfl | assumption); (case zqk7 => k_room); (case zqk8 => k_units); (case zqN => k_asm); (case zqh => k_extra "lt"); k_whole; intro h' tk' F' N'))
  k_with "call ref" => (k_here; k_dflt (refine' isterm_f ?zqk1 ?zqk2 ?zqk3 ?zqk4 ?zqk5 ?zqk6 ?zqk7 ?zqk8 ?zqN _ _ ?zqh ?_; (case zqk1 => k_asm); (case zqk2 => k_asm); (case zqk3 => k_asm); (case zqk4 => k_asm); (case zqk5 => first | exact rfl | assumption); (case zqk6 => first | exact rfl | assumption); (case zqk7 => k_room); (case zqk8 => k_units); (case zqN => k_asm); (case zqh => k_extra "ge"); k_whole; intro h' tk' F' N'))
  k_with "CompSrcT" => (k_here; k_extra "csrct")
  k_with "call ref" => (k_here; (with_reducible show wpAny _ _ (call (Value.ref _) [Value.ref _, Value.int _ _]) _ _ _); k_extra "roundw")
  k_with "CompEnd" => k_extra "cend"
  unfold lawBody lawEnv lawD
  dsimp only [List.drop]
  have F := F0
  rw [← kstB_of hk] at F
  clear F0 hk
  have sX := spell_len d xl
  have sY := spell_len d yl
  have s0 := spell_len d (256 :: w0)
  have s1 := spell_len d (n1 :: w1)
  simp only [List.length_cons] at s0 s1
  have okX := ok_of _ (spell_small d xl)
  have okY := ok_of _ (spell_small d yl)
  k_with "slen" => (simp only [Str.length, List.size_toArray]; omega)
  revert X; k_fill; intro X
  k_with "rdb" => (first | exact rdb hxb | exact rdb hyb | exact rdrow (by assumption) hn1)
  k_with "rowlen2" => (first | omega | (simp only [List.length_cons]; omega))
  k_with "ploop" => k_dflt (first
    | ((fail_if_success (with_reducible rename (@LE.le Nat _ _ (List.length (Prod.fst (runT _ _)))) => q9)); refine' push_loop0 (Y0 := Y0) (Y1 := Y1) (by k_asm) (by k_asm) (by k_asm) C (by k_room) (by k_units) xl yl ?_ (by k_asm) (by k_asm) (by kst_all) (by k_updF) (by k_mem) (by k_mem) (by k_mem) (by k_mem) (by k_mem) (by k_mem) (by k_mem) hob (by assumption) (by first | exact rowc hw0 | exact rowc hw1) hn1 (by simp only [List.length_cons]; omega) (List.cons_ne_nil _ _) ?_
       · rfl
       intro uL npL hL tkL FL NL
       (try dsimp only at NL))
    | (refine' push_loop1 (Y0 := Y0) (Y1 := Y1) (by k_asm) (by k_asm) (by k_asm) C (by k_room) (by k_units) xl yl ?_ (by k_asm) (by k_asm) (by kst_all) (by k_updF) (by k_mem) (by k_mem) (by k_mem) (by k_mem) (by k_mem) (by k_mem) (by k_mem) hob (by assumption) (by first | exact rowc hw0 | exact rowc hw1) hn1 (by simp only [List.length_cons]; omega) (List.cons_ne_nil _ _) ?_
       · rfl
       intro uL npL hL tkL FL NL
       (try dsimp only at NL)))
  k_with "roundw" => k_dflt (first
    | ((fail_if_success (with_reducible rename (@LE.le Nat _ _ (List.length (Prod.fst (runT _ _)))) => q9)); refine' round_use (by k_asm) (by k_asm) (by k_asm) (by k_asm) rfl rfl (by k_room) (by k_units) (by k_asm) Y0 ((256 :: w0).map (wdOf ⟨(spell d xl).toArray⟩ ⟨(spell d yl).toArray⟩ tt1 tt2 xl yl)) (by k_mem) (by k_mem) (by k_updF) (wd_ok hxb hyb hx1 hy1 hxy) (by simp) (by simp only [List.length_map, List.length_cons]; omega) (xl.length + yl.length) _ (by omega) _ (by omega) ?_
       k_whole
       intro rR aR vsR epR tR ttR npR hR tkR hM hIR htR FR NR lR1 lR2
       (try dsimp only at NR))
    | (refine' round_use (by k_asm) (by k_asm) (by k_asm) (by k_asm) rfl rfl (by k_room) (by k_units) (by k_asm) Y1 ((n1 :: w1).map (wdOf ⟨(spell d xl).toArray⟩ ⟨(spell d yl).toArray⟩ tt1 tt2 xl yl)) (by k_mem) (by k_mem) (by k_updF) (wd_ok hxb hyb hx1 hy1 hxy) (by simp) (by simp only [List.length_map, List.length_cons]; omega) (xl.length + yl.length) _ (by omega) _ (by omega) ?_
       k_whole
       intro rR aR vsR epR tR ttR npR hR tkR hM hIR htR FR NR lR1 lR2
       (try dsimp only at NR)))
  k_with "ttail" => k_dflt (first
    | ((fail_if_success ((with_reducible rename (@LE.le Nat _ _ (List.length (Prod.fst (runT _ _)))) => q9); (clear q9); (with_reducible rename (@LE.le Nat _ _ (List.length (Prod.fst (runT _ _)))) => q8))); refine' turn_tail0 (a0 := L) (Y0 := Y0) (Y1 := Y1) (row := (256 :: w0)) (vs := v0) (by k_asm) (by k_asm) (by k_asm) C (by k_room) (by k_units) xl yl ?hk0 (by k_asm) (by k_asm) (by kst_all) ?U (by k_mem) (by k_mem) (by k_mem) (by k_mem) (by k_mem) (by k_mem) (by k_mem) ?m11 (by k_mem) (by k_mem) (by k_mem) hob hot ?hor h0i (rowc hw0) hn1 (by simp only [List.length_cons]; omega) (List.cons_ne_nil _ _) okX okY ?_
       (case hk0 => rfl)
       (case m11 => k_mem)
       (case hor => k_asm)
       (case U => k_updF)
       intro uT npT hT tkT FT NT
       (try dsimp only at NT))
    | (refine' turn_tail1 (Y0 := Y0) (Y1 := Y1) (row := (n1 :: w1)) (vs := v1) (by k_asm) (by k_asm) (by k_asm) C (by k_room) (by k_units) xl yl ?hk0 (by k_asm) (by k_asm) (by kst_all) ?U (by k_mem) (by k_mem) (by k_mem) (by k_mem) (by k_mem) (by k_mem) (by k_mem) ?m11 (by k_mem) (by k_mem) (by k_mem) hob hot ?hor h1i (rowc hw1) hn1 (by simp only [List.length_cons]; omega) (List.cons_ne_nil _ _) okX okY ?_
       (case hk0 => rfl)
       (case m11 => k_mem)
       (case hor => k_asm)
       (case U => k_updF)
       intro uT npT hT tkT FT NT
       (try dsimp only at NT)))
  k_with "ge" => exact hge
  k_with "lt" => exact hlt
  k_with "cend" => (exact LCg.CompEnd.intro (by k_asm) (by k_asm) _ (fun p hp => hp) off (show LCg.SrcAt _ _ _ _ from Or.inr ⟨_, by k_mem, rfl, _, rfl⟩) ⟨rfl, rfl⟩)
  k_with "csrct" => k_dflt (
    refine' LCt.CompSrcT.ledger rfl (by k_asm) (by k_asm) (by k_mem) (by rw [sizeLine_eq, List.size_toArray, (IntsAre.length (by assumption) : _ = _)]; first | omega | (simp only [List.length_cons]; omega) | (simp only [List.length_take]; omega)) ?_
    intro g
    refine' compT_none _ (show LCg.SrcAt _ _ _ _ from Or.inr ⟨_, by k_mem, rfl, _, rfl⟩) ?_ ?_
    intro i v I oI C oC D m₂ ys h tk E' hi hP hC hm F1 N1 off hne
    obtain ⟨e, te, rfl, he⟩ := ints_get (by assumption) hP
    first | (have hge : 256 ≤ e := gerow he hw0 hn1) | (have hge : 256 ≤ e := gerow he hw1 hn1) | (have hlt : e < 256 := wd_small hxb hyb he)
    rotate_left)
  k_steps
  unfold StopHere
  rename _ = Data.cell (some (Value.ref _)) => hd9
  refine' law18 (Y0 := Y0) (Y1 := Y1) B X T C hdp hu (by k_asm) (by kst_all) (cb_drop (by k_asm) (by kcj_all)) hd9 hxi hyi (by assumption) (by assumption) hx1 hy1 hxy hxb hyb ?_ ?_ (fun e he => wd_small hxb hyb he) (fun e he => wd_small hxb hyb he) hln htx ?_
  · exact row_cat (b := true) rfl hx1 (by assumption)
  · exact row_cat (b := false) (decide_eq_false (by omega)) hx1 (by assumption)
  · exact fun h' tk' m' ps F' N' => fin h' tk' m' ps F' N'

end
end Mine
end
section
open PySem PySem.W PyProof.Rows PySem.Calls PySem.Spec
namespace Mine


section
variable {w : World} {p : Program} {loose : List Str} {mean : ExcName → Option Value} {mg mb : Str → Option Value} {dp un : Nat} {gd : Option (List Code)} {env : Env} {outer : List Env} {A₀ : Around} {base h₀ : Heap} {L : Addr} {m : Str → Option Value} {news : List (Addr × Obj)} {s : Shared} {Q E : Value → Shared → Prop}
theorem law9 (B : Below A₀ base [] h₀) (X : (hd.heap_1 w.params).In h₀) (T : Top p loose mean mg mb h₀) (C : CodeHd base 97 93) (hdp : dp + 12 < recursionLimit) (hu : un + 300 < cLine) {Qf : Flow → Shared → Prop} {fa : Addr} {cd : Value} {xv yv v0 v1 : List Value} {xl yl w0 w1 : List Int} {ax ay rc rt rb rw r0 r1 : Addr} {oc ot ob orr : Obj} {a b c d n1 : Int} {t1 t2 t3 t4 tX tY tb1 tb2 : Tok} {ep ex ey e0 e1 : Nat} {m₀ : Str → Option Value} {nt : List Nat} {bare : Bool} {tnn trr tww ttt : Tok}
   (F0 : Fr h₀ L s.heap m₀) (hk : ∀ q ∈ ([("x", .ref ax), ("y", .ref ay), ("rows", .ref rw), ("note", .str ⟨nt.toArray⟩ tnn), ("rest", .str ⟨(jo3 (spell d (256 :: w0)) (spell d (n1 :: w1)) nt).toArray⟩ trr), ("word", .str ⟨(jo3 (spell d xl) (spell d yl) (jo3 (spell d (256 :: w0)) (spell d (n1 :: w1)) nt)).toArray⟩ tww), ("text", .str ⟨(writtenL bare (jo3 (spell d xl) (spell d yl) (jo3 (spell d (256 :: w0)) (spell d (n1 :: w1)) nt))).toArray⟩ ttt)] : List (Str × Value)), m₀ q.1 = some q.2)
   (N : News h₀ L s.heap [(rw, listOf #[.ref r0, .ref r1] 0), (r1, listOf v1.toArray e1), (r0, listOf v0.toArray e0), (rb, listOf #[.int 256 tb1, .int n1 tb2] 0), (rt, listOf #[.str ⟨(spell d xl).toArray⟩ tX, .str ⟨(spell d yl).toArray⟩ tY] 0), (ax, listOf xv.toArray ex), (ay, listOf yv.toArray ey), (rc, listOf #[.int a t1, .int b t2, .int c t3, .int d t4] ep), (L + 1 + 1 + 1 + 1, orr), (L + 1 + 1 + 1, ob), (L + 1 + 1, ot), (L + 1, oc), (93, tabObj #[])])
   (hoc : oc.data = .cell (some (.ref rc))) (hot : ot.data = .cell (some (.ref rt))) (hob : ob.data = .cell (some (.ref rb))) (hor : orr.data = .cell none)
   (hxi : IntsAre xv xl) (hyi : IntsAre yv yl) (h0i : IntsAre v0 (256 :: w0)) (h1i : IntsAre v1 (n1 :: w1)) (hx1 : 1 ≤ xl.length) (hy1 : 1 ≤ yl.length) (hxy : xl.length + yl.length ≤ 32) (hxb : ∀ e ∈ xl, 1 ≤ e ∧ e ≤ 255) (hyb : ∀ e ∈ yl, 1 ≤ e ∧ e ≤ 255)
   (hn1 : 257 ≤ n1 ∧ n1 ≤ 10256) (hw0 : ∀ e ∈ w0, e = 256 ∨ e = n1) (hw1 : ∀ e ∈ w1, e = 256 ∨ e = n1) (hl0 : w0.length ≤ 2) (hl1 : w1.length ≤ 2)
   (hP : AllNeA 93 [rw, r1, r0, rb, rt, ax, ay, rc, L + 1 + 1 + 1 + 1, L + 1 + 1 + 1, L + 1 + 1, L + 1]) (hR : AllNeA (L + 1 + 1 + 1 + 1) [rw, r1, r0, rb, rt, ax, ay, rc])
   (hnt : IsNote nt) (fin : ∀ h' tk' m' ps, Fr h₀ L h' m' → News h₀ L h' [(93, tabObj ps)] → Qf (.ret (.bool true)) { s with heap := h', toks := tk' }) : wpAny (model PySem.Challenge.rw_sr0006_01.row.prog w) (Am dp un gd (lawEnv w.params L fa cd) []) (execs ((lawBody w.params).drop 9) (lawEnv w.params L fa cd)) Qf (fun _ _ => False) s := by
  k_with_none
  k_with "k_lk" => (first | (refine' lt_get ?h9 ?m9; (case h9 => with_reducible assumption); (case m9 => k_mem)) | (refine' Ne.symm (lt_get ?h9 ?m9); (case h9 => with_reducible assumption); (case m9 => k_mem)) | (refine' ana_get ?h9 ?m9; (case h9 => with_reducible assumption); (case m9 => k_mem)) | (refine' Ne.symm (ana_get ?h9 ?m9); (case h9 => with_reducible assumption); (case m9 => k_mem)) | with_reducible assumption | (refine Ne.symm ?_; with_reducible assumption) | fail "k_lk")
  k_with "k_ne" => first | k_extra "k_lk" | omega
  k_with "k_all" => (first | with_reducible assumption | (refine' lt_all ?h9; (case h9 => with_reducible assumption)) | fail "k_all")
  k_with "k_mem" => (first | exact mI0 | exact mI1 | exact mI2 | exact mI3 | exact mI4 | exact mI5 | exact mI6 | exact mI7 | exact mI8 | exact mI9 | exact mI10 | exact mI11 | (refine mS12 ?_; k_mem))
  k_with "k_room" => first | (refine' rm0 ?h9 ?k9; (case h9 => with_reducible assumption); (case k9 => exact Nat.le_of_ble_eq_true rfl)) | (refine' rm1 ?h9 ?k9; (case h9 => with_reducible assumption); (case k9 => exact Nat.le_of_ble_eq_true rfl)) | (refine' rm2 ?h9; (case h9 => with_reducible assumption)) | (refine' rm4 ?h9; (case h9 => with_reducible assumption)) | (simp only [depth_under_make, depth_under_kw, depth_in1, depth_deeper, depth_caller, recursionLimit] at *; omega)
  k_with "k_units" => first | (refine' rm0 ?h9 ?k9; (case h9 => with_reducible assumption); (case k9 => exact Nat.le_of_ble_eq_true rfl)) | (refine' rm1 ?h9 ?k9; (case h9 => with_reducible assumption); (case k9 => exact Nat.le_of_ble_eq_true rfl)) | (refine' rm2 ?h9; (case h9 => with_reducible assumption)) | (refine' rm4 ?h9; (case h9 => with_reducible assumption)) | (simp only [units_in1, units_deeper, Around.mark_units, units_caller, cLine] at *; omega)
  k_with "om" => (first | (refine neN ?_; (try dsimp only); k_extra "k_lk") | with_reducible assumption | exact Nat.le_of_ble_eq_true rfl | (refine' le_lit ?h9 ?k9; (case h9 => with_reducible assumption); (case k9 => exact Nat.le_of_ble_eq_true rfl)) | (refine' lt_lit ?h9 ?k9; (case h9 => with_reducible assumption); (case k9 => exact Nat.le_of_ble_eq_true rfl)) | (refine' rm0 ?h9 ?k9; (case h9 => with_reducible assumption); (case k9 => exact Nat.le_of_ble_eq_true rfl)) | (refine' rm1 ?h9 ?k9; (case h9 => with_reducible assumption); (case k9 => exact Nat.le_of_ble_eq_true rfl)) | (refine' rm2 ?h9; (case h9 => with_reducible assumption)) | (refine' rm4 ?h9; (case h9 => with_reducible assumption)) | omega (config := { splitDisjunctions := false }) | ((repeat (first | (rename _ ≠ _ ∧ _ => hq9; clear hq9) | (rename (_ ≠ _ ∧ _) ∧ _ => hq9; clear hq9))); omega (config := { splitDisjunctions := true })) | omega (config := { splitDisjunctions := true }) | ((repeat (rename (∀ p ∈ (_ : List (PySem.Addr × PySem.Obj)), @LT.lt Nat _ p.1 _) => hq9; (have hq8 := PySem.W.allLt_of hq9); clear hq9; simp only [PySem.W.AllLt, and_true] at hq8)); omega (config := { splitDisjunctions := true })))
  k_with "callWith ref" => (k_here; k_dflt (refine' callWith_K ?zs1 ?zs2 ?_; (case zs1 => k_asm); (case zs2 => k_is); k_whole))
  k_with "call builtin:len" => (k_here; (with_reducible show wpAny _ _ (call (Value.builtin _) [Value.ref _]) _ _ _); (with_unfolding_all refine' len_ints_fit ?zs1 ?zs2 ?zs3 ?_; (case zs1 => is_list); (case zs2 => l_ints); (case zs3 => l_fit); k_whole); (try simp only [List.length_append, List.length_cons, List.length_nil, Nat.zero_add]))
  k_with "subscriptTail Name" => (k_here; (with_reducible show wpAny _ _ (subscriptTail _ _ (Value.ref _) (Value.int _ _)) _ _ _); kim_at)
  k_with "getMethod ref" => (k_here; k_dflt (refine' method_inst ?zs1 ?zs2 ?zs3 ?zs4 ?zs5 ?zs6 ?zs7 ?_; (case zs1 => k_asm); (case zs2 => k_asm); (case zs3 => k_inst); (case zs4 => k_is); (case zs5 => k_is); (case zs6 => k_is); (case zs7 => k_get); k_whole))
  k_with "execs cons" => (refine seqK ?_; intro K9 tk9 hK9; (try dsimp only))
  k_with "KK next" => (refine' kk_next ?h9 ?_; (case h9 => with_reducible assumption))
  k_with "KK ret" => (refine' kk_ret ?h9 ?_; (case h9 => with_reducible assumption); (try dsimp only))
  k_with "KK brk" => (refine' kk_brk ?h9 ?_; (case h9 => with_reducible assumption); (try dsimp only))
  k_with "KK cont" => (refine' kk_cont ?h9 ?_; (case h9 => with_reducible assumption); (try dsimp only))
  k_with "FinA" => (k_here; (unfold LCg.FinA); intro D' h' tk' F' N' o1'; (replace o1' := off1_ana o1'); (try dsimp only [List.map_cons, List.map_nil] at o1'); (try simp only [List.nil_append, List.cons_append] at N'); (try dsimp only))
  k_with "FinE" => (k_here; (unfold LCg.FinE); intro D' h' tk' F' N' o1'; (replace o1' := off1_ana o1'); (try dsimp only [List.map_cons, List.map_nil] at o1'); (try simp only [List.nil_append, List.cons_append] at N'); (try dsimp only))
  k_with "call ref" => (k_here; (with_reducible show wpAny _ _ (call (Value.ref _) [Value.str _ _]) _ _ _); k_dflt (refine' read_use ?zqk1 ?zqk2 ?zqk3 ?zqk4 ?zqk5 ?zqk6 ?zqk7 ?zqk8 ?zqN _ _ ?zqhx _ ?zqhrow ?zqhrd ?_; (case zqk1 => k_asm); (case zqk2 => k_asm); (case zqk3 => k_asm); (case zqk4 => k_asm); (case zqk5 => first | exact rfl | assumption); (case zqk6 => first | exact rfl | assumption); (case zqk7 => k_room); (case zqk8 => k_units); (case zqN => k_asm); (case zqhrd => (refine rd_spell _ _ ?_; k_extra "rdb")); (case zqhx => k_extra "slen"); (case zqhrow => k_extra "rowlen2"); k_whole; intro r' vs' ep' h' tk' F' N' l1 hI'; (replace l1 := ana_of l1)))
  k_with "call ref" => (k_here; (with_reducible show wpAny _ _ (call (Value.ref _) [Value.ref _]) _ _ _); k_dflt (refine' cells_use ?zqk1 ?zqk2 ?zqk3 ?zqk4 ?zqk5 ?zqk6 ?zqk7 ?zqk8 _ _ _ ?zqN ?zqhl ?zqhi ?zqhns ?_; (case zqk1 => k_asm); (case zqk2 => k_asm); (case zqk3 => k_asm); (case zqk4 => k_asm); (case zqk5 => first | exact rfl | assumption); (case zqk6 => first | exact rfl | assumption); (case zqk7 => k_room); (case zqk8 => k_units); (case zqN => k_asm); (case zqhl => k_extra "script"); (case zqhi => k_extra "ints"); (case zqhns => k_extra "short"); k_whole; intro r' a' b' c' d' t1' t2' t3' t4' ep' h' tk' F' N' l1; (replace l1 := ana_of l1; (try dsimp only [List.map_cons, List.map_nil] at l1))))
  k_with "call ref" => (k_here; (with_reducible show wpAny _ _ (call (Value.ref _) [Value.int _ _, Value.int _ _]) _ _ _); k_dflt (refine' words_use ?zqk1 ?zqk2 ?zqk3 ?zqk4 ?zqk5 ?zqk6 ?zqk7 ?zqk8 ?zqN _ _ _ _ ?_; (case zqk1 => k_asm); (case zqk2 => k_asm); (case zqk3 => k_asm); (case zqk4 => k_asm); (case zqk5 => first | exact rfl | assumption); (case zqk6 => first | exact rfl | assumption); (case zqk7 => k_room); (case zqk8 => k_units); (case zqN => k_asm); k_whole; intro r' ax' ay' xv' yv' ex' ey' xl' yl' h' tk' F' N' l1 l2 l3 hI1' hI2' hA1' hA2' hA3' hB1' hB2'; (replace l1 := ana_of l1; (try dsimp only [List.map_cons, List.map_nil] at l1)); (replace l2 := ana_of l2; (try dsimp only [List.map_cons, List.map_nil] at l2)); (replace l3 := ana_of l3; (try dsimp only [List.map_cons, List.map_nil] at l3))))
  k_with "call ref" => (k_here; (with_reducible show wpAny _ _ (call (Value.ref _) [Value.ref _, Value.int _ _]) _ _ _); k_dflt (refine' spelled_use ?zqk1 ?zqk2 ?zqk3 ?zqk4 ?zqk5 ?zqk6 ?zqk7 ?zqk8 _ _ _ _ ?zqN ?zql ?zqi _ _ ?zqa ?zqb ?_; (case zqk1 => k_asm); (case zqk2 => k_asm); (case zqk3 => k_asm); (case zqk4 => k_asm); (case zqk5 => first | exact rfl | assumption); (case zqk6 => first | exact rfl | assumption); (case zqk7 => k_room); (case zqk8 => k_units); (case zqN => k_asm); (case zql => k_mem); (case zqi => assumption); (case zqa => k_extra "rowlen"); (case zqb => k_extra "rowbnd"); k_whole; intro t' h' tk' F' N'))
  k_with "call ref" => (k_here; (with_reducible show wpAny _ _ (call (Value.ref _) [Value.int _ _, Value.ref _, Value.int _ _]) _ _ _); k_dflt (refine' row_use ?zqk1 ?zqk2 ?zqk3 ?zqk4 ?zqk5 ?zqk6 ?zqk7 ?zqk8 _ _ _ _ _ _ ?zqN ?zql _ _ ?zqa ?zqb _ _ ?_; (case zqk1 => k_asm); (case zqk2 => k_asm); (case zqk3 => k_asm); (case zqk4 => k_asm); (case zqk5 => first | exact rfl | assumption); (case zqk6 => first | exact rfl | assumption); (case zqk7 => k_room); (case zqk8 => k_units); (case zqN => k_asm); (case zql => k_mem); (case zqa => k_extra "n0"); (case zqb => k_extra "n12"); k_whole; intro r' vs' ep' ws' h' tk' F' N' l1 hI' hA' hB'; (replace l1 := ana_of l1; (try dsimp only [List.map_cons, List.map_nil] at l1))))
  k_with "call ref" => (k_here; (with_reducible show wpAny _ _ (call (Value.ref _) [Value.str _ _, Value.bool _]) _ _ _); k_dflt (refine' written_use ?zqk1 ?zqk2 ?zqk3 ?zqk4 ?zqk5 ?zqk6 ?zqk7 ?zqk8 ?zqN _ _ _ ?zqa ?zqb ?_; (case zqk1 => k_asm); (case zqk2 => k_asm); (case zqk3 => k_asm); (case zqk4 => k_asm); (case zqk5 => first | exact rfl | assumption); (case zqk6 => first | exact rfl | assumption); (case zqk7 => k_room); (case zqk8 => k_units); (case zqN => k_asm); (case zqa => k_extra "wlen"); (case zqb => k_extra "wtok"); k_whole; intro t' h' tk' F' N'))
  k_with "CompSrc" => (k_here; k_extra "csrc")
  k_with "CompEnd" => k_extra "cend"
  k_with "call ref" => (k_here; (with_reducible show wpAny _ _ (call (Value.ref _) [Value.str _ _]) _ _ _); k_dflt (refine' decode_use ?zqk1 ?zqk2 ?zqk3 ?zqk4 ?zqk5 ?zqk6 ?zqk7 ?zqk8 ?zqN _ _ _ _ _ ?zqhx ?zqhsp ?_; (case zqk1 => k_asm); (case zqk2 => k_asm); (case zqk3 => k_asm); (case zqk4 => k_asm); (case zqk5 => first | exact rfl | assumption); (case zqk6 => first | exact rfl | assumption); (case zqk7 => k_room); (case zqk8 => k_units); (case zqN => k_asm); (case zqhsp => exact split_two (spell_no39 _ _) (spell_no39 _ _)); (case zqhx => k_extra "slen"); k_whole; intro r' t1' t2' t3' h' tk' F' N' l1; (replace l1 := ana_of l1)))
  k_with "compareOp NotEq ref ref" => (k_here; k_dflt (refine' ne5 ?zqa ?zqb ?zqo1 ?zqo2 ?zqo3 ?zqo4 ?zqo5 ?zqu ?_; (case zqa => exact News.isList (by k_asm) (by k_mem)); (case zqb => exact News.isList (by k_asm) (by k_mem)); (case zqo1 => assumption); (case zqo2 => assumption); (case zqo3 => assumption); (case zqo4 => assumption); (case zqo5 => assumption); (case zqu => k_units); k_whole))
  k_with "compareOp NotEq ref ref" => (k_here; k_dflt (refine' ne3 ?zqa ?zqb ?zqo1 ?zqo2 ?zqo3 ?zqu ?_; (case zqa => exact News.isList (by k_asm) (by k_mem)); (case zqb => exact News.isList (by k_asm) (by k_mem)); (case zqo1 => assumption); (case zqo2 => assumption); (case zqo3 => assumption); (case zqu => k_units); k_whole))
  k_with "call ref" => (k_here; (with_reducible show wpAny _ _ (call (Value.ref _) [Value.str _ _]) _ _ _); k_dflt (refine' stream_use ?zqk1 ?zqk2 ?zqk3 ?zqk4 ?zqk5 ?zqk6 ?zqk7 ?zqk8 ?zqC ?zqN ?zqU _ _ ?_; (case zqk1 => k_asm); (case zqk2 => k_asm); (case zqk3 => k_asm); (case zqk4 => k_asm); (case zqk5 => first | exact rfl | assumption); (case zqk6 => first | exact rfl | assumption); (case zqk7 => k_room); (case zqk8 => k_units); (case zqC => kn_code); (case zqN => k_asm); (case zqU => k_updF); k_whole; intro S' ps' ti' h' tk' eS' eT' ok' l1 l2 F' N'; (obtain ⟨q1, q2, q3, q4, q5, q6⟩ := l2); (try dsimp only [Strm.lg, Strm.led, List.cons_append, List.nil_append] at N'); (try dsimp only [List.map_cons, List.map_nil, List.cons_append, List.nil_append] at l1)))
  k_with "call ref" => (k_here; (with_reducible show wpAny _ _ (call (Value.ref _) [Value.ref _]) _ _ _); k_dflt (refine' init_use ?zqk1 ?zqk2 ?zqk3 ?zqk4 ?zqk5 ?zqk6 ?zqk7 ?zqk8 ?zqN _ _ ?zqm ?_; (case zqk1 => k_asm); (case zqk2 => k_asm); (case zqk3 => k_asm); (case zqk4 => k_asm); (case zqk5 => first | exact rfl | assumption); (case zqk6 => first | exact rfl | assumption); (case zqk7 => k_room); (case zqk8 => k_units); (case zqN => k_asm); (case zqm => k_mem); k_whole; intro Y' tl' h' tk' eY' F' N' l1 l2 l3; (try dsimp only [Lx.led, Lx.D, List.cons_append, List.nil_append] at N'); (k_lt l1); (try k_lt2 l2); (try k_lt2 l3)))
  k_with "call ref" => (k_here; k_dflt (refine' gettok_b ?zqk1 ?zqk2 ?zqk3 ?zqk4 ?zqk5 ?zqk6 ?zqk7 ?zqk8 ?zqC ?zqN _ ?zqok _ ?zqe _ _ ?zqhS ?zqwl ?zqm1 ?zqm2 ?zqm3 ?zqm4 ?zqm6 ?zqm7 ?zqm8 ?zqm9 ?zqU ?zqU' ?_; (case zqk1 => k_asm); (case zqk2 => k_asm); (case zqk3 => k_asm); (case zqk4 => k_asm); (case zqk5 => first | exact rfl | assumption); (case zqk6 => first | exact rfl | assumption); (case zqk7 => k_room); (case zqk8 => k_units); (case zqC => kn_code); (case zqN => k_asm); (case zqok => assumption); (case zqe => assumption); (case zqhS => assumption); (case zqwl => k_extra "jsz"); (case zqm1 => k_mem); (case zqm2 => k_mem); (case zqm3 => k_mem); (case zqm4 => k_mem); (case zqm6 => k_mem); (case zqm7 => k_mem); (case zqm8 => k_mem); (case zqm9 => k_mem); (case zqU => k_updF); (case zqU' => (intro o9; (try dsimp only); k_updF)); k_whole; intro t' ti' tl' h' tk' F' N'; (try dsimp only at N')))
  k_with "call ref" => (k_here; (fail_if_success (rename True ∧ True => q9)); k_dflt (refine' gettok_a ?zqk1 ?zqk2 ?zqk3 ?zqk4 ?zqk5 ?zqk6 ?zqk7 ?zqk8 ?zqC ?zqN _ ?zqok _ ?zqe _ _ ?zqhS ?zqhw ?zqwl ?zqm1 ?zqm2 ?zqm3 ?zqm4 ?zqm6 ?zqm7 ?zqm8 ?zqm9 ?zqU ?zqU' ?_; (case zqk1 => k_asm); (case zqk2 => k_asm); (case zqk3 => k_asm); (case zqk4 => k_asm); (case zqk5 => first | exact rfl | assumption); (case zqk6 => first | exact rfl | assumption); (case zqk7 => k_room); (case zqk8 => k_units); (case zqC => kn_code); (case zqN => k_asm); (case zqok => assumption); (case zqe => assumption); (case zqhS => assumption); (case zqhw => exact jo3_ne _ _ _); (case zqwl => k_extra "jsz"); (case zqm1 => k_mem); (case zqm2 => k_mem); (case zqm3 => k_mem); (case zqm4 => k_mem); (case zqm6 => k_mem); (case zqm7 => k_mem); (case zqm8 => k_mem); (case zqm9 => k_mem); (case zqU => k_updF); (case zqU' => (intro o9; (try dsimp only); k_updF)); k_whole; intro t' ti' tl' h' tk' F' N'; (try dsimp only at N')); (have mk9 : True ∧ True := ⟨True.intro, True.intro⟩))
  k_with "execs cons" => ((with_reducible show wpAny _ _ (execs (Stmt.Assign [Expr.Name (PySem.Str.ofString "rounds") _] _ _ :: _) _) _ _ _); refine stop_here ?_)
  k_with "execs cons Assign cons" => ((with_reducible show wpAny _ _ (execs (Stmt.Assign [Expr.Name (PySem.Str.ofString "rounds") _] _ _ :: _) _) _ _ _); refine stop_here ?_)
  unfold lawBody lawEnv lawD
  dsimp only [List.drop]
  have F := F0
  rw [← kstB_of hk] at F
  clear F0 hk
  have sX := spell_len d xl
  have sY := spell_len d yl
  have s0 := spell_len d (256 :: w0)
  have s1 := spell_len d (n1 :: w1)
  have sN := note_len hnt
  simp only [List.length_cons] at s0 s1
  k_with "jsz" => (first | (simp only [jo3_len]; omega) | omega)
  have okX := ok_of _ (spell_small d xl)
  have okY := ok_of _ (spell_small d yl)
  have ok0 := ok_of _ (spell_small d (256 :: w0))
  have ok1 := ok_of _ (spell_small d (n1 :: w1))
  have okN := ok_of nt (note_small hnt)
  have okR : PyData.canLay0 (.str ⟨(jo3 (spell d (256 :: w0)) (spell d (n1 :: w1)) nt).toArray⟩) = true := ok_of _ (jo_small (spell_small d _) (spell_small d _) (note_small hnt))
  k_with "slen" => (first | (simp only [Str.length, List.size_toArray, jo3_len]; omega) | (simp only [Str.length, List.size_toArray]; omega))
  revert X; k_fill; intro X
  k_with "rowlen" => (first | omega | (simp only [List.length_cons]; omega))
  k_with "rowbnd" => (first | exact bnd255 (by assumption) | exact bndrow (by assumption) ⟨by omega, by omega⟩ ⟨by omega, by omega⟩ ⟨by omega, by omega⟩)
  k_with "cend" => (exact LCg.CompEnd.intro (by k_asm) (by k_asm) _ (fun p hp => hp) off (Or.inr ⟨_, by k_mem, rfl, _, rfl⟩ : LCg.SrcAt _ _ _ _) ⟨rfl, _, rfl⟩)
  k_with "csrc" => k_dflt (
    refine' LCg.CompSrc.ledger rfl (by k_asm) (by k_asm) (by k_mem) (by rw [sizeLine_eq]; simp) ?_
    intro g
    refine' comp2_pure (v0 := .ref r0) (v1 := .ref r1) (fun y => ∃ t, y = .str ⟨(spell d (256 :: w0)).toArray⟩ t) (fun y => ∃ t, y = .str ⟨(spell d (n1 :: w1)).toArray⟩ t) (.inr ⟨_, by k_mem, rfl, _, rfl⟩) (fun v hv => (Option.some.inj hv).symm) (fun v hv => (Option.some.inj hv).symm) ?_ ?_ ?_
    rotate_left
    rotate_left
    intro y0 y1 hy0 hy1
    obtain ⟨ty0, rfl⟩ := hy0
    obtain ⟨ty1, rfl⟩ := hy1
    rotate_left
    intro I oI C oC D m₂ h tk E' hC hm F1 N1 off hne
    rotate_left
    intro I oI C oC D m₂ y0 h tk E' hC hm F1 N1 off hne
    rotate_left)
  k_with "rdb" => (first | exact rdb hxb | exact rdb hyb | exact rdrow (by assumption) hn1)
  k_with "rowlen2" => (first | omega | (simp only [List.length_cons]; omega))
  k_steps
  all_goals first | (exact str_bne (by assumption)) | skip
  unfold StopHere
  rename Lx => Y1n
  revert Y1n
  rename Lx => Y0n
  intro Y1n
  intros
  refine' law16 (Y0 := Y0n) (Y1 := Y1n) (r0 := r0) (r1 := r1) B X T C hdp hu (by k_asm) (by kst_all) (cb_drop (by k_asm) (by kcj_all)) hot hob hor hxi hyi h0i h1i hx1 hy1 hxy hxb hyb hn1 hw0 hw1 hl0 hl1 ?_ ?_ ?_ rfl ?_ ?_
  · intro a ha
    simp only [List.mem_cons, List.not_mem_nil, or_false] at ha
    rcases ha with rfl | rfl | rfl | rfl | rfl | rfl | rfl | rfl | rfl | rfl | rfl | rfl | rfl | rfl | rfl | rfl <;> k_ne
  · intro a ha
    simp only [List.mem_cons, List.not_mem_nil, or_false] at ha
    rcases ha with rfl | rfl | rfl | rfl | rfl | rfl | rfl | rfl | rfl | rfl | rfl | rfl | rfl | rfl | rfl | rfl | rfl | rfl <;> k_ne
  · intro a ha
    simp only [List.mem_cons, List.not_mem_nil, or_false] at ha
    rcases ha with rfl | rfl | rfl | rfl | rfl | rfl | rfl | rfl | rfl | rfl | rfl | rfl | rfl | rfl | rfl | rfl | rfl | rfl <;> k_ne
  · have h9 := written_len bare (jo3 (spell d xl) (spell d yl) (jo3 (spell d (256 :: w0)) (spell d (n1 :: w1)) nt))
    simp only [jo3_len] at h9
    omega
  · exact fun h' tk' m' ps F' N' => fin h' tk' m' ps F' N'

end
end Mine
end
section
open PySem PySem.W PyProof.Rows PySem.Calls PySem.Spec
namespace Mine


section
variable {w : World} {p : Program} {loose : List Str} {mean : ExcName → Option Value} {mg mb : Str → Option Value} {dp un : Nat} {gd : Option (List Code)} {env : Env} {outer : List Env} {A₀ : Around} {base h₀ : Heap} {L : Addr} {m : Str → Option Value} {news : List (Addr × Obj)} {s : Shared} {Q E : Value → Shared → Prop}
theorem law5 (B : Below A₀ base [] h₀) (X : (hd.heap_1 w.params).In h₀) (T : Top p loose mean mg mb h₀) (C : CodeHd base 97 93) (hdp : dp + 12 < recursionLimit) (hu : un + 300 < cLine) {Qf : Flow → Shared → Prop} {fa : Addr} {cd : Value} {xv yv v0 v1 : List Value} {xl yl w0 w1 : List Int} {ax ay rc rt rb rw r0 r1 : Addr} {oc ot ob orr : Obj} {a b c d n1 : Int} {t1 t2 t3 t4 tX tY tb1 tb2 : Tok} {ep ex ey e0 e1 : Nat} {u : Str → Option Value}
   (F : Fr h₀ L s.heap (kstB u [("x", .ref ax), ("y", .ref ay), ("rows", .ref rw)]))
   (N : News h₀ L s.heap [(rw, listOf #[.ref r0, .ref r1] 0), (r1, listOf v1.toArray e1), (r0, listOf v0.toArray e0), (rb, listOf #[.int 256 tb1, .int n1 tb2] 0), (rt, listOf #[.str ⟨(spell d xl).toArray⟩ tX, .str ⟨(spell d yl).toArray⟩ tY] 0), (ax, listOf xv.toArray ex), (ay, listOf yv.toArray ey), (rc, listOf #[.int a t1, .int b t2, .int c t3, .int d t4] ep), (L + 1 + 1 + 1 + 1, orr), (L + 1 + 1 + 1, ob), (L + 1 + 1, ot), (L + 1, oc), (93, tabObj #[])])
   (hoc : oc.data = .cell (some (.ref rc))) (hot : ot.data = .cell (some (.ref rt))) (hob : ob.data = .cell (some (.ref rb))) (hor : orr.data = .cell none)
   (hxi : IntsAre xv xl) (hyi : IntsAre yv yl) (h0i : IntsAre v0 (256 :: w0)) (h1i : IntsAre v1 (n1 :: w1)) (hx1 : 1 ≤ xl.length) (hy1 : 1 ≤ yl.length) (hxy : xl.length + yl.length ≤ 32) (hxb : ∀ e ∈ xl, 1 ≤ e ∧ e ≤ 255) (hyb : ∀ e ∈ yl, 1 ≤ e ∧ e ≤ 255)
   (hn1 : 257 ≤ n1 ∧ n1 ≤ 10256) (hw0 : ∀ e ∈ w0, e = 256 ∨ e = n1) (hw1 : ∀ e ∈ w1, e = 256 ∨ e = n1) (hl0 : w0.length ≤ 2) (hl1 : w1.length ≤ 2)
   (hP : AllNeA 93 [rw, r1, r0, rb, rt, ax, ay, rc, L + 1 + 1 + 1 + 1, L + 1 + 1 + 1, L + 1 + 1, L + 1]) (hR : AllNeA (L + 1 + 1 + 1 + 1) [rw, r1, r0, rb, rt, ax, ay, rc]) (fin : ∀ h' tk' m' ps, Fr h₀ L h' m' → News h₀ L h' [(93, tabObj ps)] → Qf (.ret (.bool true)) { s with heap := h', toks := tk' }) : wpAny (model PySem.Challenge.rw_sr0006_01.row.prog w) (Am dp un gd (lawEnv w.params L fa cd) []) (execs ((lawBody w.params).drop 5) (lawEnv w.params L fa cd)) Qf (fun _ _ => False) s := by
  k_with_none
  k_with "k_lk" => (first | (refine' lt_get ?h9 ?m9; (case h9 => with_reducible assumption); (case m9 => k_mem)) | (refine' Ne.symm (lt_get ?h9 ?m9); (case h9 => with_reducible assumption); (case m9 => k_mem)) | (refine' ana_get ?h9 ?m9; (case h9 => with_reducible assumption); (case m9 => k_mem)) | (refine' Ne.symm (ana_get ?h9 ?m9); (case h9 => with_reducible assumption); (case m9 => k_mem)) | with_reducible assumption | (refine Ne.symm ?_; with_reducible assumption) | fail "k_lk")
  k_with "k_ne" => first | k_extra "k_lk" | omega
  k_with "k_all" => (first | with_reducible assumption | (refine' lt_all ?h9; (case h9 => with_reducible assumption)) | fail "k_all")
  k_with "k_mem" => (first | exact mI0 | exact mI1 | exact mI2 | exact mI3 | exact mI4 | exact mI5 | exact mI6 | exact mI7 | exact mI8 | exact mI9 | exact mI10 | exact mI11 | (refine mS12 ?_; k_mem))
  k_with "k_room" => first | (refine' rm0 ?h9 ?k9; (case h9 => with_reducible assumption); (case k9 => exact Nat.le_of_ble_eq_true rfl)) | (refine' rm1 ?h9 ?k9; (case h9 => with_reducible assumption); (case k9 => exact Nat.le_of_ble_eq_true rfl)) | (refine' rm2 ?h9; (case h9 => with_reducible assumption)) | (refine' rm4 ?h9; (case h9 => with_reducible assumption)) | (simp only [depth_under_make, depth_under_kw, depth_in1, depth_deeper, depth_caller, recursionLimit] at *; omega)
  k_with "k_units" => first | (refine' rm0 ?h9 ?k9; (case h9 => with_reducible assumption); (case k9 => exact Nat.le_of_ble_eq_true rfl)) | (refine' rm1 ?h9 ?k9; (case h9 => with_reducible assumption); (case k9 => exact Nat.le_of_ble_eq_true rfl)) | (refine' rm2 ?h9; (case h9 => with_reducible assumption)) | (refine' rm4 ?h9; (case h9 => with_reducible assumption)) | (simp only [units_in1, units_deeper, Around.mark_units, units_caller, cLine] at *; omega)
  k_with "om" => (first | (refine neN ?_; (try dsimp only); k_extra "k_lk") | with_reducible assumption | exact Nat.le_of_ble_eq_true rfl | (refine' le_lit ?h9 ?k9; (case h9 => with_reducible assumption); (case k9 => exact Nat.le_of_ble_eq_true rfl)) | (refine' lt_lit ?h9 ?k9; (case h9 => with_reducible assumption); (case k9 => exact Nat.le_of_ble_eq_true rfl)) | (refine' rm0 ?h9 ?k9; (case h9 => with_reducible assumption); (case k9 => exact Nat.le_of_ble_eq_true rfl)) | (refine' rm1 ?h9 ?k9; (case h9 => with_reducible assumption); (case k9 => exact Nat.le_of_ble_eq_true rfl)) | (refine' rm2 ?h9; (case h9 => with_reducible assumption)) | (refine' rm4 ?h9; (case h9 => with_reducible assumption)) | omega (config := { splitDisjunctions := false }) | ((repeat (first | (rename _ ≠ _ ∧ _ => hq9; clear hq9) | (rename (_ ≠ _ ∧ _) ∧ _ => hq9; clear hq9))); omega (config := { splitDisjunctions := true })) | omega (config := { splitDisjunctions := true }) | ((repeat (rename (∀ p ∈ (_ : List (PySem.Addr × PySem.Obj)), @LT.lt Nat _ p.1 _) => hq9; (have hq8 := PySem.W.allLt_of hq9); clear hq9; simp only [PySem.W.AllLt, and_true] at hq8)); omega (config := { splitDisjunctions := true })))
  k_with "callWith ref" => (k_here; k_dflt (refine' callWith_K ?zs1 ?zs2 ?_; (case zs1 => k_asm); (case zs2 => k_is); k_whole))
  k_with "call builtin:len" => (k_here; (with_reducible show wpAny _ _ (call (Value.builtin _) [Value.ref _]) _ _ _); (with_unfolding_all refine' len_ints_fit ?zs1 ?zs2 ?zs3 ?_; (case zs1 => is_list); (case zs2 => l_ints); (case zs3 => l_fit); k_whole); (try simp only [List.length_append, List.length_cons, List.length_nil, Nat.zero_add]))
  k_with "subscriptTail Name" => (k_here; (with_reducible show wpAny _ _ (subscriptTail _ _ (Value.ref _) (Value.int _ _)) _ _ _); kim_at)
  k_with "getMethod ref" => (k_here; k_dflt (refine' method_inst ?zs1 ?zs2 ?zs3 ?zs4 ?zs5 ?zs6 ?zs7 ?_; (case zs1 => k_asm); (case zs2 => k_asm); (case zs3 => k_inst); (case zs4 => k_is); (case zs5 => k_is); (case zs6 => k_is); (case zs7 => k_get); k_whole))
  k_with "execs cons" => (refine seqK ?_; intro K9 tk9 hK9; (try dsimp only))
  k_with "KK next" => (refine' kk_next ?h9 ?_; (case h9 => with_reducible assumption))
  k_with "KK ret" => (refine' kk_ret ?h9 ?_; (case h9 => with_reducible assumption); (try dsimp only))
  k_with "KK brk" => (refine' kk_brk ?h9 ?_; (case h9 => with_reducible assumption); (try dsimp only))
  k_with "KK cont" => (refine' kk_cont ?h9 ?_; (case h9 => with_reducible assumption); (try dsimp only))
  k_with "call ref" => (k_here; (with_reducible show wpAny _ _ (call (Value.ref _) [Value.ref _]) _ _ _); k_dflt (refine' cells_use ?zqk1 ?zqk2 ?zqk3 ?zqk4 ?zqk5 ?zqk6 ?zqk7 ?zqk8 _ _ _ ?zqN ?zqhl ?zqhi ?zqhns ?_; (case zqk1 => k_asm); (case zqk2 => k_asm); (case zqk3 => k_asm); (case zqk4 => k_asm); (case zqk5 => first | exact rfl | assumption); (case zqk6 => first | exact rfl | assumption); (case zqk7 => k_room); (case zqk8 => k_units); (case zqN => k_asm); (case zqhl => k_extra "script"); (case zqhi => k_extra "ints"); (case zqhns => k_extra "short"); k_whole; intro r' a' b' c' d' t1' t2' t3' t4' ep' h' tk' F' N' l1; (replace l1 := ana_of l1; (try dsimp only [List.map_cons, List.map_nil] at l1))))
  k_with "call ref" => (k_here; (with_reducible show wpAny _ _ (call (Value.ref _) [Value.int _ _, Value.int _ _]) _ _ _); k_dflt (refine' words_use ?zqk1 ?zqk2 ?zqk3 ?zqk4 ?zqk5 ?zqk6 ?zqk7 ?zqk8 ?zqN _ _ _ _ ?_; (case zqk1 => k_asm); (case zqk2 => k_asm); (case zqk3 => k_asm); (case zqk4 => k_asm); (case zqk5 => first | exact rfl | assumption); (case zqk6 => first | exact rfl | assumption); (case zqk7 => k_room); (case zqk8 => k_units); (case zqN => k_asm); k_whole; intro r' ax' ay' xv' yv' ex' ey' xl' yl' h' tk' F' N' l1 l2 l3 hI1' hI2' hA1' hA2' hA3' hB1' hB2'; (replace l1 := ana_of l1; (try dsimp only [List.map_cons, List.map_nil] at l1)); (replace l2 := ana_of l2; (try dsimp only [List.map_cons, List.map_nil] at l2)); (replace l3 := ana_of l3; (try dsimp only [List.map_cons, List.map_nil] at l3))))
  k_with "call ref" => (k_here; (with_reducible show wpAny _ _ (call (Value.ref _) [Value.ref _, Value.int _ _]) _ _ _); k_dflt (refine' spelled_use ?zqk1 ?zqk2 ?zqk3 ?zqk4 ?zqk5 ?zqk6 ?zqk7 ?zqk8 _ _ _ _ ?zqN ?zql ?zqi _ _ ?zqa ?zqb ?_; (case zqk1 => k_asm); (case zqk2 => k_asm); (case zqk3 => k_asm); (case zqk4 => k_asm); (case zqk5 => first | exact rfl | assumption); (case zqk6 => first | exact rfl | assumption); (case zqk7 => k_room); (case zqk8 => k_units); (case zqN => k_asm); (case zql => k_mem); (case zqi => assumption); (case zqa => k_extra "rowlen"); (case zqb => k_extra "rowbnd"); k_whole; intro t' h' tk' F' N'))
  k_with "call ref" => (k_here; (with_reducible show wpAny _ _ (call (Value.ref _) [Value.int _ _, Value.ref _, Value.int _ _]) _ _ _); k_dflt (refine' row_use ?zqk1 ?zqk2 ?zqk3 ?zqk4 ?zqk5 ?zqk6 ?zqk7 ?zqk8 _ _ _ _ _ _ ?zqN ?zql _ _ ?zqa ?zqb _ _ ?_; (case zqk1 => k_asm); (case zqk2 => k_asm); (case zqk3 => k_asm); (case zqk4 => k_asm); (case zqk5 => first | exact rfl | assumption); (case zqk6 => first | exact rfl | assumption); (case zqk7 => k_room); (case zqk8 => k_units); (case zqN => k_asm); (case zql => k_mem); (case zqa => k_extra "n0"); (case zqb => k_extra "n12"); k_whole; intro r' vs' ep' ws' h' tk' F' N' l1 hI' hA' hB'; (replace l1 := ana_of l1; (try dsimp only [List.map_cons, List.map_nil] at l1))))
  k_with "call ref" => (k_here; (with_reducible show wpAny _ _ (call (Value.ref _) [Value.str _ _, Value.bool _]) _ _ _); k_dflt (refine' written_use ?zqk1 ?zqk2 ?zqk3 ?zqk4 ?zqk5 ?zqk6 ?zqk7 ?zqk8 ?zqN _ _ _ ?zqa ?zqb ?_; (case zqk1 => k_asm); (case zqk2 => k_asm); (case zqk3 => k_asm); (case zqk4 => k_asm); (case zqk5 => first | exact rfl | assumption); (case zqk6 => first | exact rfl | assumption); (case zqk7 => k_room); (case zqk8 => k_units); (case zqN => k_asm); (case zqa => k_extra "wlen"); (case zqb => k_extra "wtok"); k_whole; intro t' h' tk' F' N'))
  k_with "subscriptTail" => (k_here; (with_reducible show wpAny _ _ (subscriptTail (Expr.List _ _) _ (Value.ref _) (Value.int _ _)) _ _ _); k_dflt (refine' note_item ?zql ?zqa ?zqb ?_; (case zql => exact News.isList (by k_asm) (by k_mem)); (case zqa => exact fmod_lo _ (by decide)); (case zqb => exact fmod_hi _ (by decide)); k_whole; intro nt' tn' hn'; have hnl' := note_len hn'))
  k_with "CompSrc" => (k_here; k_extra "csrc")
  k_with "call builtin:str.join" => (k_here; k_dflt (refine' join3 ?zql ?zqz ?_; (case zql => exact News.isList (by k_asm) (by k_mem)); (case zqz => k_extra "jsz"); k_whole; intro tj' kj'))
  k_with "CompEnd" => k_extra "cend"
  k_with "execs cons" => ((with_reducible show wpAny _ _ (execs (Stmt.Assign [Expr.Name (PySem.Str.ofString "stream") _] _ _ :: _) _) _ _ _); refine stop_here ?_)
  unfold lawBody lawEnv lawD
  dsimp only [List.drop]
  revert X; k_fill; intro X
  have sX := spell_len d xl
  have sY := spell_len d yl
  have s0 := spell_len d (256 :: w0)
  have s1 := spell_len d (n1 :: w1)
  simp only [List.length_cons] at s0 s1
  k_with "jsz" => (first | (simp only [jo3_len]; omega) | omega)
  k_with "wlen" => (simp only [Str.length, List.size_toArray, jo3_len]; omega)
  k_with "wtok" => ((try dsimp only); omega)
  k_with "cend" => (exact LCg.CompEnd.intro (by k_asm) (by k_asm) _ (fun p hp => hp) off (Or.inr ⟨_, by k_mem, rfl, _, rfl⟩ : LCg.SrcAt _ _ _ _) ⟨rfl, _, rfl⟩)
  k_with "rowlen" => (first | omega | (simp only [List.length_cons]; omega))
  k_with "rowbnd" => (first | exact bnd255 (by assumption) | exact bndrow (by assumption) ⟨by omega, by omega⟩ ⟨by omega, by omega⟩ ⟨by omega, by omega⟩)
  k_with "csrc" => k_dflt (
    refine' LCg.CompSrc.ledger rfl (by k_asm) (by k_asm) (by k_mem) (by rw [sizeLine_eq]; simp) ?_
    intro g
    refine' comp2_pure (v0 := .ref r0) (v1 := .ref r1) (fun y => ∃ t, y = .str ⟨(spell d (256 :: w0)).toArray⟩ t) (fun y => ∃ t, y = .str ⟨(spell d (n1 :: w1)).toArray⟩ t) (.inr ⟨_, by k_mem, rfl, _, rfl⟩) (fun v hv => (Option.some.inj hv).symm) (fun v hv => (Option.some.inj hv).symm) ?_ ?_ ?_
    rotate_left
    rotate_left
    intro y0 y1 hy0 hy1
    obtain ⟨ty0, rfl⟩ := hy0
    obtain ⟨ty1, rfl⟩ := hy1
    rotate_left
    intro I oI C oC D m₂ h tk E' hC hm F1 N1 off hne
    rotate_left
    intro I oI C oC D m₂ y0 h tk E' hC hm F1 N1 off hne
    rotate_left)
  k_steps
  unfold StopHere
  refine' law9 B X T C hdp hu (by k_asm) (by kst_all) (cb_drop (by k_asm) (by kcj_all)) hoc hot hob hor hxi hyi h0i h1i hx1 hy1 hxy hxb hyb hn1 hw0 hw1 hl0 hl1 hP hR (by assumption) ?_
  exact fun h' tk' m' ps F' N' => fin h' tk' m' ps F' N'

end
end Mine
end
section
open PySem PySem.W PyProof.Rows PySem.Calls PySem.Spec
namespace Mine


section
variable {w : World} {p : Program} {loose : List Str} {mean : ExcName → Option Value} {mg mb : Str → Option Value} {dp un : Nat} {gd : Option (List Code)} {env : Env} {outer : List Env} {A₀ : Around} {base h₀ : Heap} {L : Addr} {m : Str → Option Value} {news : List (Addr × Obj)} {s : Shared} {Q E : Value → Shared → Prop}
theorem n1_b (x : Int) : 257 ≤ 257 + x.fmod 10000 ∧ 257 + x.fmod 10000 ≤ 10256 := by
  have h1 : 0 ≤ x.fmod 10000 := fmod_lo _ (by decide)
  have h2 : x.fmod 10000 < 10000 := fmod_hi _ (by decide)
  omega
theorem gd3 (a b c d : Int) : [a, b, c, d].getD (Int.toNat 3) 0 = d := rfl

theorem law_holds : PySem.Challenge.rw_sr0006_01.Holds := hd (by
  w_strict (k_go0; (all_goals try k_fold)
            (k_with_none)
            (k_with "k_lk" => (first | (refine' lt_get ?h9 ?m9; (case h9 => with_reducible assumption); (case m9 => k_mem)) | (refine' Ne.symm (lt_get ?h9 ?m9); (case h9 => with_reducible assumption); (case m9 => k_mem)) | (refine' ana_get ?h9 ?m9; (case h9 => with_reducible assumption); (case m9 => k_mem)) | (refine' Ne.symm (ana_get ?h9 ?m9); (case h9 => with_reducible assumption); (case m9 => k_mem)) | with_reducible assumption | (refine Ne.symm ?_; with_reducible assumption) | fail "k_lk"))
            (k_with "k_ne" => first | k_extra "k_lk" | omega)
            (k_with "k_all" => (first | with_reducible assumption | (refine' lt_all ?h9; (case h9 => with_reducible assumption)) | fail "k_all"))
            (k_with "k_mem" => (first | exact mI0 | exact mI1 | exact mI2 | exact mI3 | exact mI4 | exact mI5 | exact mI6 | exact mI7 | exact mI8 | exact mI9 | exact mI10 | exact mI11 | (refine mS12 ?_; k_mem)))
            (k_with "k_room" => first | (refine' rm0 ?h9 ?k9; (case h9 => with_reducible assumption); (case k9 => exact Nat.le_of_ble_eq_true rfl)) | (refine' rm1 ?h9 ?k9; (case h9 => with_reducible assumption); (case k9 => exact Nat.le_of_ble_eq_true rfl)) | (refine' rm2 ?h9; (case h9 => with_reducible assumption)) | (refine' rm4 ?h9; (case h9 => with_reducible assumption)) | (simp only [depth_under_make, depth_under_kw, depth_in1, depth_deeper, depth_caller, recursionLimit] at *; omega))
            (k_with "k_units" => first | (refine' rm0 ?h9 ?k9; (case h9 => with_reducible assumption); (case k9 => exact Nat.le_of_ble_eq_true rfl)) | (refine' rm1 ?h9 ?k9; (case h9 => with_reducible assumption); (case k9 => exact Nat.le_of_ble_eq_true rfl)) | (refine' rm2 ?h9; (case h9 => with_reducible assumption)) | (refine' rm4 ?h9; (case h9 => with_reducible assumption)) | (simp only [units_in1, units_deeper, Around.mark_units, units_caller, cLine] at *; omega))
            (k_with "om" => (first | (refine neN ?_; (try dsimp only); k_extra "k_lk") | with_reducible assumption | exact Nat.le_of_ble_eq_true rfl | (refine' le_lit ?h9 ?k9; (case h9 => with_reducible assumption); (case k9 => exact Nat.le_of_ble_eq_true rfl)) | (refine' lt_lit ?h9 ?k9; (case h9 => with_reducible assumption); (case k9 => exact Nat.le_of_ble_eq_true rfl)) | (refine' rm0 ?h9 ?k9; (case h9 => with_reducible assumption); (case k9 => exact Nat.le_of_ble_eq_true rfl)) | (refine' rm1 ?h9 ?k9; (case h9 => with_reducible assumption); (case k9 => exact Nat.le_of_ble_eq_true rfl)) | (refine' rm2 ?h9; (case h9 => with_reducible assumption)) | (refine' rm4 ?h9; (case h9 => with_reducible assumption)) | omega (config := { splitDisjunctions := false }) | ((repeat (first | (rename _ ≠ _ ∧ _ => hq9; clear hq9) | (rename (_ ≠ _ ∧ _) ∧ _ => hq9; clear hq9))); omega (config := { splitDisjunctions := true })) | omega (config := { splitDisjunctions := true }) | ((repeat (rename (∀ p ∈ (_ : List (PySem.Addr × PySem.Obj)), @LT.lt Nat _ p.1 _) => hq9; (have hq8 := PySem.W.allLt_of hq9); clear hq9; simp only [PySem.W.AllLt, and_true] at hq8)); omega (config := { splitDisjunctions := true }))))
            (k_with "callWith ref" => (k_here; k_dflt (refine' callWith_K ?zs1 ?zs2 ?_; (case zs1 => k_asm); (case zs2 => k_is); k_whole)))
            (k_with "call builtin:len" => (k_here; (with_reducible show wpAny _ _ (call (Value.builtin _) [Value.ref _]) _ _ _); (with_unfolding_all refine' len_ints_fit ?zs1 ?zs2 ?zs3 ?_; (case zs1 => is_list); (case zs2 => l_ints); (case zs3 => l_fit); k_whole); (try simp only [List.length_append, List.length_cons, List.length_nil, Nat.zero_add])))
            (k_with "subscriptTail Name" => (k_here; (with_reducible show wpAny _ _ (subscriptTail _ _ (Value.ref _) (Value.int _ _)) _ _ _); kim_at))
            (k_with "getMethod ref" => (k_here; k_dflt (refine' method_inst ?zs1 ?zs2 ?zs3 ?zs4 ?zs5 ?zs6 ?zs7 ?_; (case zs1 => k_asm); (case zs2 => k_asm); (case zs3 => k_inst); (case zs4 => k_is); (case zs5 => k_is); (case zs6 => k_is); (case zs7 => k_get); k_whole)))
            (k_with "execs cons" => (refine seqK ?_; intro K9 tk9 hK9; (try dsimp only)))
            (k_with "KK next" => (refine' kk_next ?h9 ?_; (case h9 => with_reducible assumption)))
            (k_with "KK ret" => (refine' kk_ret ?h9 ?_; (case h9 => with_reducible assumption); (try dsimp only)))
            (k_with "KK brk" => (refine' kk_brk ?h9 ?_; (case h9 => with_reducible assumption); (try dsimp only)))
            (k_with "KK cont" => (refine' kk_cont ?h9 ?_; (case h9 => with_reducible assumption); (try dsimp only)))
            (k_with "FinA" => (k_here; (unfold LCg.FinA); intro D' h' tk' F' N' o1'; (replace o1' := off1_ana o1'); (try dsimp only [List.map_cons, List.map_nil] at o1'); (try simp only [List.nil_append, List.cons_append] at N'); (try dsimp only)))
            (k_with "FinE" => (k_here; (unfold LCg.FinE); intro D' h' tk' F' N' o1'; (replace o1' := off1_ana o1'); (try dsimp only [List.map_cons, List.map_nil] at o1'); (try simp only [List.nil_append, List.cons_append] at N'); (try dsimp only)))
            (k_with "call ref" => (k_here; (with_reducible show wpAny _ _ (call (Value.ref _) [Value.ref _]) _ _ _); k_dflt (refine' cells_use ?zqk1 ?zqk2 ?zqk3 ?zqk4 ?zqk5 ?zqk6 ?zqk7 ?zqk8 _ _ _ ?zqN ?zqhl ?zqhi ?zqhns ?_; (case zqk1 => k_asm); (case zqk2 => k_asm); (case zqk3 => k_asm); (case zqk4 => k_asm); (case zqk5 => first | exact rfl | assumption); (case zqk6 => first | exact rfl | assumption); (case zqk7 => k_room); (case zqk8 => k_units); (case zqN => k_asm); (case zqhl => k_extra "script"); (case zqhi => k_extra "ints"); (case zqhns => k_extra "short"); k_whole; intro r' a' b' c' d' t1' t2' t3' t4' ep' h' tk' F' N' l1; (replace l1 := ana_of l1; (try dsimp only [List.map_cons, List.map_nil] at l1)))))
            (k_with "call ref" => (k_here; (with_reducible show wpAny _ _ (call (Value.ref _) [Value.int _ _, Value.int _ _]) _ _ _); k_dflt (refine' words_use ?zqk1 ?zqk2 ?zqk3 ?zqk4 ?zqk5 ?zqk6 ?zqk7 ?zqk8 ?zqN _ _ _ _ ?_; (case zqk1 => k_asm); (case zqk2 => k_asm); (case zqk3 => k_asm); (case zqk4 => k_asm); (case zqk5 => first | exact rfl | assumption); (case zqk6 => first | exact rfl | assumption); (case zqk7 => k_room); (case zqk8 => k_units); (case zqN => k_asm); k_whole; intro r' ax' ay' xv' yv' ex' ey' xl' yl' h' tk' F' N' l1 l2 l3 hI1' hI2' hA1' hA2' hA3' hB1' hB2'; (replace l1 := ana_of l1; (try dsimp only [List.map_cons, List.map_nil] at l1)); (replace l2 := ana_of l2; (try dsimp only [List.map_cons, List.map_nil] at l2)); (replace l3 := ana_of l3; (try dsimp only [List.map_cons, List.map_nil] at l3)))))
            (k_with "call ref" => (k_here; (with_reducible show wpAny _ _ (call (Value.ref _) [Value.ref _, Value.int _ _]) _ _ _); k_dflt (refine' spelled_use ?zqk1 ?zqk2 ?zqk3 ?zqk4 ?zqk5 ?zqk6 ?zqk7 ?zqk8 _ _ _ _ ?zqN ?zql ?zqi _ _ ?zqa ?zqb ?_; (case zqk1 => k_asm); (case zqk2 => k_asm); (case zqk3 => k_asm); (case zqk4 => k_asm); (case zqk5 => first | exact rfl | assumption); (case zqk6 => first | exact rfl | assumption); (case zqk7 => k_room); (case zqk8 => k_units); (case zqN => k_asm); (case zql => k_mem); (case zqi => assumption); (case zqa => k_extra "rowlen"); (case zqb => k_extra "rowbnd"); k_whole; intro t' h' tk' F' N')))
            (k_with "call ref" => (k_here; (with_reducible show wpAny _ _ (call (Value.ref _) [Value.int _ _, Value.ref _, Value.int _ _]) _ _ _); k_dflt (refine' row_use ?zqk1 ?zqk2 ?zqk3 ?zqk4 ?zqk5 ?zqk6 ?zqk7 ?zqk8 _ _ _ _ _ _ ?zqN ?zql _ _ ?zqa ?zqb _ _ ?_; (case zqk1 => k_asm); (case zqk2 => k_asm); (case zqk3 => k_asm); (case zqk4 => k_asm); (case zqk5 => first | exact rfl | assumption); (case zqk6 => first | exact rfl | assumption); (case zqk7 => k_room); (case zqk8 => k_units); (case zqN => k_asm); (case zql => k_mem); (case zqa => k_extra "n0"); (case zqb => k_extra "n12"); k_whole; intro r' vs' ep' ws' h' tk' F' N' l1 hI' hA' hB'; (replace l1 := ana_of l1; (try dsimp only [List.map_cons, List.map_nil] at l1)))))
            (k_with "call ref" => (k_here; (with_reducible show wpAny _ _ (call (Value.ref _) [Value.str _ _, Value.bool _]) _ _ _); k_dflt (refine' written_use ?zqk1 ?zqk2 ?zqk3 ?zqk4 ?zqk5 ?zqk6 ?zqk7 ?zqk8 ?zqN _ _ _ ?zqa ?zqb ?_; (case zqk1 => k_asm); (case zqk2 => k_asm); (case zqk3 => k_asm); (case zqk4 => k_asm); (case zqk5 => first | exact rfl | assumption); (case zqk6 => first | exact rfl | assumption); (case zqk7 => k_room); (case zqk8 => k_units); (case zqN => k_asm); (case zqa => k_extra "wlen"); (case zqb => k_extra "wtok"); k_whole; intro t' h' tk' F' N')))
            (k_with "execs cons" => ((with_reducible show wpAny _ _ (execs (Stmt.Assign [Expr.Name (PySem.Str.ofString "note") _] _ _ :: _) _) _ _ _); refine stop_here ?_))
            (k_with "script" => (exact (Fr.lst (by k_asm) (by assumption)))); (k_with "ints" => assumption); (k_with "short" => omega);
            (k_with "n0" => (exact fmod_lo _ (by decide)));
            (k_with "n12" => (exact fmod_hi _ (by decide)));
            (k_with "rowlen" => (first | omega | (simp only [List.length_cons]; omega)));
            (k_with "rowbnd" => (first | exact bnd255 (by assumption) | exact bndrow (by assumption) ⟨by omega, by omega⟩ ⟨by omega, by omega⟩ ⟨by omega, by omega⟩));
            k_steps
            unfold StopHere
            rename News _ _ _ _ => N9
            simp only [gd3] at N9
            refine' wpAny_mono (law5 ?zB ?zX ?zT ?zC ?zd ?zu ?zF ?zN ?zoc ?zot ?zob ?zor ?zxi ?zyi ?z0i ?z1i ?zx1 ?zy1 ?zxy ?zxb ?zyb ?zn1 ?zw0 ?zw1 ?zl0 ?zl1 ?zP ?zR ?zfin) (fun f s9 q => q) (fun _ _ e => e.elim)
            case zB => (k_asm)
            case zX => (k_asm)
            case zT => (k_asm)
            case zC => (kn_code)
            case zd => (k_room)
            case zu => (k_units)
            case zF => (exact fr_kst (by k_asm) (by kst_all))
            case zN => (exact cb_drop (by k_asm) (by kcj_all))
            case zoc => (k_asm)
            case zot => (k_asm)
            case zob => (k_asm)
            case zor => (refine Eq.trans (by assumption) ?_; with_unfolding_all rfl)
            case zxi => (assumption)
            case zyi => (assumption)
            case z0i => (assumption)
            case z1i => (assumption)
            case zx1 => (assumption)
            case zy1 => (assumption)
            case zxy => (assumption)
            case zxb => (assumption)
            case zyb => (assumption)
            case zn1 => (exact n1_b _)
            case zw0 => (assumption)
            case zw1 => (assumption)
            case zl0 => (assumption)
            case zl1 => (assumption)
            case zP => (intro a ha; simp only [List.mem_cons, List.not_mem_nil, or_false] at ha; rcases ha with rfl | rfl | rfl | rfl | rfl | rfl | rfl | rfl | rfl | rfl | rfl | rfl <;> k_ne)
            case zR => (intro a ha; simp only [List.mem_cons, List.not_mem_nil, or_false] at ha; rcases ha with rfl | rfl | rfl | rfl | rfl | rfl | rfl | rfl <;> k_ne)
            case zfin => (intro h' tk' m' ps F' N'; k_steps)))

end
end Mine
end
end
theorem PySem.Challenge.cw_sr0006_01_holds : PySem.Challenge.rw_sr0006_01.Holds :=
  Mine.law_holds

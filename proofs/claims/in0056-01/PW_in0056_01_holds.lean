import PyProof.Rows.All
import Wide.All
import OpenK.AllK
import Wide.FinOn
import PySem.Challenge.RW_in0056_01
open PySem PySem.W PyProof.Rows PySem.Calls
set_option Elab.async false
set_option maxRecDepth 100000
set_option maxHeartbeats 8000000
namespace Mine
theorem law_tw : Fast.tw9446332074065402090 PySem.Challenge.rw_in0056_01 = true := by kernel_rfl
theorem law_ok : OpenLaw.wellSaid PySem.Challenge.rw_in0056_01 = true := by
  rw [Fast.te9446332074065402090]; exact law_tw
abbrev row : OpenRow := PySem.Challenge.rw_in0056_01.row
section
local macro_rules | `(tactic| o_head $H) => `(tactic| assumption)
/-- its proof lays the constant that writes the heap out -/
theorem hp (h : row.Holds) : row.Holds := by k_head
end
noncomputable abbrev prog : Program := row.toRowW.prog
noncomputable def view : Program := PySem.W.view prog [0, 2, 3, 4, 5, 6, 7, 9, 10, 12, 14, 15, 16, 17, 19, 20, 21, 22, 23, 24, 25]
abbrev loose : List PySem.Str := [PySem.Str.ofString "_twin_re_1", PySem.Str.ofString "_special_chars_map"]
noncomputable abbrev hook : Hook := kmHook Mine.hp.heap_1 [2, 3, 6, 11, 12, 32, 34, 35, 37, 38, 39, 41, 42, 44, 45, 49, 50, 52, 56, 58, 59, 61, 62, 63, 65, 66, 68, 69, 70, 72, 73, 75, 76, 77, 79, 80, 82, 83, 84, 86, 87, 89, 90, 91, 93, 94, 96, 97, 98, 100, 101, 103, 104, 105, 108, 109, 110, 113, 114, 115, 118, 119, 120, 123, 124, 125, 127, 128, 130, 131, 132, 135, 136] (fun _ => by kernel_rfl) [64]
noncomputable abbrev seenX : Shared → Bool := fun s => xlAt view [] s && recOk (RowW.records row.toRowW) s
def RunT (tb : String → Option Builtin) (imp : (String → Option Builtin) → Program → World → Nat → Shared → Thread → Option Shared) (st : Program → Shared × Thread) (fence : Program → Shared → Option Shared)
    (run : (String → Option Builtin) → Program → World → Nat → Option Value → Nat → Shared → Thread → Option Shared) (ns : Heap → Addr → Str → Option Value) (p : Program) (w : World) (N : Nat) : Option Shared :=
  ((imp tb (opening p) w N (st (opening p)).1 (st (opening p)).2).bind (fence p)).bind fun s₀ => match s₀.heap.isNs mainGlobals && s₀.gens.size == 0 with
  | true => (run tb p w s₀.heap.objs.size (ns s₀.heap mainGlobals "__annotations__") N s₀ (topStub p)).bind fun s₁ => match staticsOk (importedModules p.main.body) s₀.heap s₁.heap && namesBound p s₁.heap && gensDone s₁ && laidKept s₀.heap s₁.heap with
      | true => some s₁
      | false => none
  | false => none
theorem run_t (p : Program) (w : World) (N : Nat) : openEnds treeTable p w N = RunT treeTable importEnds start fenceModules? topRun Heap.nsMap p w N := rfl
theorem run_tw (p : Program) (w : World) (N : Nat) : openEnds treeTable p w N = RunT Fast.tw14364793385576792824 Fast.tw10274390034422433532 Fast.tw1435165496053646825 Fast.tw14289696077712309145 Fast.tw14082659384304107361 Fast.tw8920871248978507458 p w N := by
  rw [run_t, Fast.te14364793385576792824, Fast.te10274390034422433532, Fast.te1435165496053646825, Fast.te14289696077712309145, Fast.te14082659384304107361, Fast.te8920871248978507458]
def EndsT (w : World) : Prop := (RunT Fast.tw14364793385576792824 Fast.tw10274390034422433532 Fast.tw1435165496053646825 Fast.tw14289696077712309145 Fast.tw14082659384304107361 Fast.tw8920871248978507458 prog w 3884).map (fun s => (Fast.tw4187177175401517315 view loose (importedModules prog.main.body) seenX true s, hook.obs s)) = some (openGood view loose, hook.val w)
def EndsAt (w : World) : Prop := (openEnds treeTable prog w 3884).map (fun s => (openSeen view loose (importedModules prog.main.body) seenX true s, hook.obs s)) = some (openGood view loose, hook.val w)
theorem ends_tw (w : World) (h : EndsT w) : EndsAt w := by
  unfold EndsAt
  rw [run_tw, Fast.te4187177175401517315]
  exact h
theorem ends_ff (w : World) : EndsT ((w.withFollow "special-get-raises" false).withFollow "comprehension-iter-twice" false) := by unfold EndsT; kernel_rfl
theorem ends_tf (w : World) : EndsT ((w.withFollow "special-get-raises" true).withFollow "comprehension-iter-twice" false) := by unfold EndsT; kernel_rfl
theorem ends_ft (w : World) : EndsT ((w.withFollow "special-get-raises" false).withFollow "comprehension-iter-twice" true) := by unfold EndsT; kernel_rfl
theorem ends_tt (w : World) : EndsT ((w.withFollow "special-get-raises" true).withFollow "comprehension-iter-twice" true) := by unfold EndsT; kernel_rfl
theorem ends (w : World) : EndsAt w := ends_tw w <|
  byRow2 "comprehension-iter-twice" (P := EndsT) (byRow2 "special-get-raises" (P := fun w => EndsT (w.withFollow "comprehension-iter-twice" false)) ends_ff ends_tf)
    (byRow2 "special-get-raises" (P := fun w => EndsT (w.withFollow "comprehension-iter-twice" true)) ends_ft ends_tt) w
section
local macro_rules | `(tactic| o_law) => `(tactic| refine holds_law law_ok fun said => ?_)
local macro_rules | `(tactic| k_head) => `(tactic| refine holds_open (q := view) (loose := loose) (Xt := seenX) (XP := XL view []) (Yf := hook.obs) (Ya := hook.val) (YP := hook.says) (N := 3884) ends hook.of hook.keeps (fun s e => xl_of s (Bool.and_eq_true_iff.mp e).1) XL.keeps (by rfl) (by rfl) (by rfl) (fun s e => recFacts_of (Bool.and_eq_true_iff.mp e).2) (by rfl) (by assumption) (by decide +kernel) ⟨rfl, rfl, rfl, rfl, rfl, by decide +kernel⟩ ?hw ?hc)
open_top hd for PySem.Challenge.rw_in0056_01
end
end Mine
namespace Mine
/-- the walk's switch for the law's own top is off for the defs -/
theorem calm : True := by w_top off; trivial

theorem fillme (l : OpenLaw) (k : Params → Frag) {P : Prop} (h : l = l ∧ k = k → P) : P := h ⟨rfl, rfl⟩

/-- a def of the text, called with the values `vs` upon the ledger `news`, hands back a value and a ledger as `Post` says -/
def Ctr (w : World) (f : Addr) (k : Nat) (vs : List Value) (news : List (Addr × Obj)) (Post : Value → List (Addr × Obj) → Prop) : Prop :=
  ∀ (p : Program) (loose : List Str) (mean : ExcName → Option Value) (mg mb : Str → Option Value)
    (dp un : Nat) (gd : Option (List Code)) (cn : Str) (cs : Scope) (a : Addr) (ccd : Value) (cl : List (Str × Addr)) (outer : List Env) (A₀ : Around) (base h₀ : Heap) (L : Addr) (m : Str → Option Value) (s : Shared)
    (Q E : Value → Shared → Prop),
    Below A₀ base outer h₀ → Fr h₀ L s.heap m → (Mine.hp.heap_1 w.params).In h₀ → News h₀ L s.heap news → Top p loose mean mg mb h₀ → cs.kind = .function → dp + k < recursionLimit → un + 8 * k < cLine →
    (∀ r news' h' tk', Fr h₀ L h' m → News h₀ L h' news' → Post r news' → Q r { s with heap := h', toks := tk' }) →
    wpAny (model PySem.Challenge.rw_in0056_01.row.prog w) (ktrTop dp un gd cn cs L a ccd cl outer) (call (.ref f) vs) Q E s

/-- a goal at which the walk is to stand -/
def Halt (P : Prop) : Prop := P
theorem Halt.i {P : Prop} (h : Halt P) : P := h
theorem Halt.o {P : Prop} (h : P) : Halt P := h

theorem frTo {h₀ h : Heap} {L : Addr} {m m' : Str → Option Value} (F : Fr h₀ L h m) (e : ∀ y, m y = m' y) : Fr h₀ L h m' := by
  have : m = m' := funext e
  rw [← this]; exact F

/-- a turn's two ways -/
def TurnIf (b : Bool) (T F : Prop) : Prop := if b = true then T else F
theorem TurnIf.t {T F : Prop} (h : T) : TurnIf true T F := h
theorem TurnIf.f {T F : Prop} (h : F) : TurnIf false T F := h
theorem TurnIf.ot {T F : Prop} (h : TurnIf true T F) : T := h
theorem TurnIf.of {T F : Prop} (h : TurnIf false T F) : F := h
theorem TurnIf.s {b : Bool} {T F : Prop} (h1 : b = true → T) (h2 : b = false → F) : TurnIf b T F := by
  cases b with
  | true => exact h1 rfl
  | false => exact h2 rfl

/-- the frame's map, written -/
def mk : List (Str × Option Value) → Str → Option Value
  | [], _ => none
  | (n, v) :: r, y => if y = n then v else mk r y

theorem newsNe {h₀ h : Heap} {L : Addr} {news : List (Addr × Obj)} (N : News h₀ L h news) {a b : Addr} {o o' : Obj} (ha : (a, o) ∈ news) (hb : (b, o') ∈ news) (hne : o ≠ o') : a ≠ b := by
  intro e
  subst e
  have h1 := (N _ ha).1
  have h2 := (N _ hb).1
  rw [h1] at h2
  exact hne (Option.some.inj h2)

theorem newsLt {h₀ h : Heap} {L : Addr} {news : List (Addr × Obj)} (N : News h₀ L h news) : ∀ p ∈ news, p.1 < h.objs.size := fun p hp => Heap.lt_size (N p hp).1

theorem newsSub {h₀ h : Heap} {L : Addr} {news news' : List (Addr × Obj)} (N : News h₀ L h news) (hs : ∀ p ∈ news', p ∈ news) : News h₀ L h news' := fun p hp => N p (hs p hp)

/-- the heap changed at a alone, an address of the ledger's -/
theorem frBut {h₀ h h' : Heap} {L a : Addr} {m : Str → Option Value} (F : Fr h₀ L h m) (hs : Heap.ExtBut a h h') (haL : a ≠ L) (ha0 : h₀.get? a = none) : Fr h₀ L h' m := by
  obtain ⟨oL, es, ep, hL, r⟩ := F.ns
  refine ⟨⟨oL, es, ep, hs L oL (Ne.symm haL) hL, r⟩, fun b o e => hs b o (fun q => ?_) (F.keep b o e), F.above⟩
  rw [q, ha0] at e; cases e
theorem newsBut {h₀ h h' : Heap} {L a : Addr} {news : List (Addr × Obj)} (N : News h₀ L h news) (hs : Heap.ExtBut a h h') (hna : ∀ p ∈ news, p.1 ≠ a) : News h₀ L h' news :=
  fun p hp => ⟨hs p.1 p.2 (hna p hp) (N p hp).1, (N p hp).2⟩
theorem newsPut {h₀ h h' : Heap} {L a : Addr} {o o' : Obj} {news : List (Addr × Obj)} (N : News h₀ L h ((a, o) :: news)) (hs : Heap.ExtBut a h h') (hna : ∀ p ∈ news, p.1 ≠ a) (ho : h'.get? a = some o') : News h₀ L h' ((a, o') :: news) := by
  intro p hp
  rcases List.mem_cons.mp hp with rfl | hp
  · exact ⟨ho, (N _ (.head _)).2⟩
  · exact newsBut (newsSub N fun q hq => .tail _ hq) hs hna p hp

abbrev Led := List (Addr × Obj)
def IsLs (o : Obj) (vs : List Value) : Prop := ∃ n, o = listOf vs.toArray n
def IsTp (o : Obj) (vs : List Value) : Prop := o.cls = .type "tuple" ∧ ∃ n, o.data = .seq vs.toArray n
/-- the ledger bears a list, a tuple -/
def LsAt (nx : Led) (l : Addr) (vs : List Value) : Prop := ∃ o, (l, o) ∈ nx ∧ IsLs o vs
def TpAt (nx : Led) (l : Addr) (vs : List Value) : Prop := ∃ o, (l, o) ∈ nx ∧ IsTp o vs
theorem LsAt.isList {h₀ h : Heap} {L l : Addr} {nx : Led} {vs : List Value} (N : News h₀ L h nx) (x : LsAt nx l vs) : h.IsList l vs.toArray :=
  let ⟨_, hm, n, e⟩ := x; ⟨_, (N _ hm).1, by rw [e], n, by rw [e]⟩
theorem LsAt.at {h₀ h : Heap} {L l : Addr} {nx : Led} {vs : List Value} (N : News h₀ L h nx) (x : LsAt nx l vs) : ∃ n, h.get? l = some (listOf vs.toArray n) :=
  let ⟨_, hm, n, e⟩ := x; ⟨n, e ▸ (N _ hm).1⟩
abbrev iterO (l : Addr) (i : Nat) : Obj := { cls := .type "list_iterator", data := .fields #[.ref l, .int i 0] }
abbrev rangeO (x left : Int) : Obj := { cls := .type "range_iterator", dict := none, data := .fields #[rawInt x, rawInt left, rawInt 1], slots := #[] }

section
variable {prog : Program} {w : World} {A : Around} {E : Value → Shared → Prop} {Q : Flow → Shared → Prop} {s : Shared} {env : Env} {h₀ : Heap} {L : Addr}

/-- a turn's end, of a for: the iterator stands first in the ledger -/
def WhExit (h₀ : Heap) (L : Addr) (s : Shared) (Ex : (Str → Option Value) → List (Addr × Obj) → Prop) (s₃ : Shared) : Prop :=
  ∃ h' tk m₂ nx, s₃ = { s with heap := h', toks := tk } ∧ Fr h₀ L h' m₂ ∧ News h₀ L h' nx ∧ Ex m₂ nx
def WhStep (h₀ : Heap) (L : Addr) (s : Shared) (J : Nat → (Str → Option Value) → List (Addr × Obj) → Prop) (Ex : (Str → Option Value) → List (Addr × Obj) → Prop) (Q : Flow → Shared → Prop) (n : Nat) (f : Flow) (s₃ : Shared) : Prop :=
  match f with
  | .next | .cont => ∃ h' tk m₂ nx n', s₃ = { s with heap := h', toks := tk } ∧ Fr h₀ L h' m₂ ∧ News h₀ L h' nx ∧ n' < n ∧ J n' m₂ nx
  | .brk => WhExit h₀ L s Ex s₃
  | .ret v => Q (.ret v) s₃
theorem WhStep.mk {J : Nat → (Str → Option Value) → List (Addr × Obj) → Prop} {Ex : (Str → Option Value) → List (Addr × Obj) → Prop} {n n' : Nat} {h' : Heap} {tk : Nat} {m₂ : Str → Option Value} {nx : List (Addr × Obj)}
    (F : Fr h₀ L h' m₂) (N : News h₀ L h' nx) (hn : n' < n) (hJ : J n' m₂ nx) : WhStep h₀ L s J Ex Q n .next { s with heap := h', toks := tk } := ⟨h', tk, m₂, nx, n', rfl, F, N, hn, hJ⟩
theorem WhStep.cont {J : Nat → (Str → Option Value) → List (Addr × Obj) → Prop} {Ex : (Str → Option Value) → List (Addr × Obj) → Prop} {n n' : Nat} {h' : Heap} {tk : Nat} {m₂ : Str → Option Value} {nx : List (Addr × Obj)}
    (F : Fr h₀ L h' m₂) (N : News h₀ L h' nx) (hn : n' < n) (hJ : J n' m₂ nx) : WhStep h₀ L s J Ex Q n .cont { s with heap := h', toks := tk } := ⟨h', tk, m₂, nx, n', rfl, F, N, hn, hJ⟩
theorem WhExit.mk {Ex : (Str → Option Value) → List (Addr × Obj) → Prop} {h' : Heap} {tk : Nat} {m₂ : Str → Option Value} {nx : List (Addr × Obj)}
    (F : Fr h₀ L h' m₂) (N : News h₀ L h' nx) (hJ : Ex m₂ nx) : WhExit h₀ L s Ex { s with heap := h', toks := tk } := ⟨h', tk, m₂, nx, rfl, F, N, hJ⟩
theorem WhStep.exit {J : Nat → (Str → Option Value) → List (Addr × Obj) → Prop} {Ex : (Str → Option Value) → List (Addr × Obj) → Prop} {n : Nat} {h' : Heap} {tk : Nat} {m₂ : Str → Option Value} {nx : List (Addr × Obj)}
    (F : Fr h₀ L h' m₂) (N : News h₀ L h' nx) (hJ : Ex m₂ nx) : WhStep h₀ L s J Ex Q n .brk { s with heap := h', toks := tk } := ⟨h', tk, m₂, nx, rfl, F, N, hJ⟩
theorem while_x {test : Expr} {body : List Stmt} {pos : Pos} {m : Str → Option Value} {news : List (Addr × Obj)} (J : Nat → (Str → Option Value) → List (Addr × Obj) → Prop) (Ex : (Str → Option Value) → List (Addr × Obj) → Prop) {n₀ : Nat}
    (F : Fr h₀ L s.heap m) (N : News h₀ L s.heap news) (hJ : J n₀ m news)
    (turn : ∀ n m₁ nx h₁ tk₁, Fr h₀ L h₁ m₁ → News h₀ L h₁ nx → J n m₁ nx →
      wpAny (model prog w) A (isTrue test env (eval test env)) (fun b s₂ =>
        TurnIf b (wpAny (model prog w) A (execs body env) (WhStep h₀ L s J Ex Q n) E s₂) (WhExit h₀ L s Ex s₂)) E { s with heap := h₁, toks := tk₁ })
    (done : ∀ m₁ nx h₁ tk₁, Fr h₀ L h₁ m₁ → News h₀ L h₁ nx → Ex m₁ nx → Q .next { s with heap := h₁, toks := tk₁ })
    (hE : PassesOwn (model prog w) A env E := by passes_own) :
    wpAny (model prog w) A (exec (.While test body [] pos) env) Q E s := by
  have fin : ∀ s₂, WhExit h₀ L s Ex s₂ → Q .next s₂ := by
    rintro s₂ ⟨h', tk, m₂, nx, rfl, F', N', e⟩
    exact done m₂ nx h' tk F' N' e
  refine While_inv2 J F N hJ (fun n m₁ nx h₁ tk₁ F₁ N₁ J₁ => wpAny_mono (turn n m₁ nx h₁ tk₁ F₁ N₁ J₁) (fun b s₂ h₂ => ?_) fun _ _ e => e) hE
  cases b with
  | false =>
    simp only [Bool.false_eq_true, if_false] at h₂ ⊢
    exact fin s₂ h₂
  | true =>
    simp only [if_true] at h₂ ⊢
    refine wpAny_mono h₂ (fun f s₃ h₃ => ?_) fun _ _ e => e
    cases f with
    | next => exact h₃
    | cont => exact h₃
    | brk => exact fin s₃ h₃
    | ret v => exact h₃

/-- a cut between statements -/
def CutStep (h₀ : Heap) (L : Addr) (s : Shared) (Mid : (Str → Option Value) → List (Addr × Obj) → Prop) (Q : Flow → Shared → Prop) (f : Flow) (s₃ : Shared) : Prop :=
  match f with
  | .next => WhExit h₀ L s Mid s₃
  | .cont => Q .cont s₃
  | .brk => Q .brk s₃
  | .ret v => Q (.ret v) s₃
theorem CutStep.mk {Mid : (Str → Option Value) → List (Addr × Obj) → Prop} {h' : Heap} {tk : Nat} {m₂ : Str → Option Value} {nx : List (Addr × Obj)}
    (F : Fr h₀ L h' m₂) (N : News h₀ L h' nx) (hJ : Mid m₂ nx) : CutStep h₀ L s Mid Q .next { s with heap := h', toks := tk } := ⟨h', tk, m₂, nx, rfl, F, N, hJ⟩
theorem CutStep.r {Mid : (Str → Option Value) → List (Addr × Obj) → Prop} {v : Value} {s₃ : Shared} (h : Q (.ret v) s₃) : CutStep h₀ L s Mid Q (.ret v) s₃ := h
theorem WhStep.r {J : Nat → (Str → Option Value) → List (Addr × Obj) → Prop} {Ex : (Str → Option Value) → List (Addr × Obj) → Prop} {n : Nat} {v : Value} {s₃ : Shared} (h : Q (.ret v) s₃) : WhStep h₀ L s J Ex Q n (.ret v) s₃ := h
theorem execs_append (l₁ l₂ : List Stmt) : execs (l₁ ++ l₂) env = (execs l₁ env >>= fun f => match f with | .next => execs l₂ env | f => pure f) := by
  induction l₁ with
  | nil => rfl
  | cons st l₁ ih =>
    rw [List.cons_append, execs_cons, execs_cons, bind_assoc]
    congr 1
    funext f
    cases f with
    | next => exact ih
    | brk => rfl
    | cont => rfl
    | ret v => rfl
theorem execs_app {l₁ l₂ : List Stmt} {s : Shared} {Q : Flow → Shared → Prop} (h : wpAny (model prog w) A (execs l₁ env) (fun f s₁ => match f with | .next => wpAny (model prog w) A (execs l₂ env) Q E s₁ | f => Q f s₁) E s) : wpAny (model prog w) A (execs (l₁ ++ l₂) env) Q E s := by
  rw [execs_append]
  refine wpAny_bind (wpAny_mono h (fun f s₁ h₁ => ?_) fun _ _ x => x)
  cases f with
  | next => exact h₁
  | brk => exact wpAny_pure h₁
  | cont => exact wpAny_pure h₁
  | ret v => exact wpAny_pure h₁
theorem execs_cut {l : List Stmt} (l₁ l₂ : List Stmt) (e : l = l₁ ++ l₂) (Mid : (Str → Option Value) → List (Addr × Obj) → Prop)
    (h1 : wpAny (model prog w) A (execs l₁ env) (CutStep h₀ L s Mid Q) E s)
    (h2 : ∀ m₁ nx h tk, Fr h₀ L h m₁ → News h₀ L h nx → Mid m₁ nx → wpAny (model prog w) A (execs l₂ env) Q E { s with heap := h, toks := tk }) :
    wpAny (model prog w) A (execs l env) Q E s := by
  subst e
  refine execs_app (wpAny_mono h1 (fun f s₁ h => ?_) fun _ _ x => x)
  cases f with
  | next =>
    obtain ⟨h', tk, m₂, nx, rfl, F, N, hM⟩ := h
    exact h2 m₂ nx h' tk F N hM
  | cont => exact h
  | brk => exact h
  | ret v => exact h

theorem execs_cutN {l : List Stmt} {m : Str → Option Value} (_F : Fr h₀ L s.heap m) (n : Nat) (Mid : (Str → Option Value) → List (Addr × Obj) → Prop)
    (h1 : wpAny (model prog w) A (execs (l.take n) env) (CutStep h₀ L s Mid Q) E s)
    (h2 : ∀ m₁ nx h tk, Fr h₀ L h m₁ → News h₀ L h nx → Mid m₁ nx → wpAny (model prog w) A (execs (l.drop n) env) Q E { s with heap := h, toks := tk }) :
    wpAny (model prog w) A (execs l env) Q E s := execs_cut (l.take n) (l.drop n) (List.take_append_drop n l).symm Mid h1 h2

def ForStep (h₀ : Heap) (L : Addr) (s : Shared) (it : Addr) (oi : Obj) (J : (Str → Option Value) → List (Addr × Obj) → Prop) (Q : Flow → Shared → Prop) (f : Flow) (s₃ : Shared) : Prop :=
  match f with
  | .next | .cont => ∃ h' tk m₂ nx, s₃ = { s with heap := h', toks := tk } ∧ Fr h₀ L h' m₂ ∧ News h₀ L h' ((it, oi) :: nx) ∧ (∀ p ∈ nx, p.1 ≠ it) ∧ J m₂ nx
  | .brk => Q .next s₃
  | .ret v => Q (.ret v) s₃

theorem ForStep.mk {it : Addr} {oi : Obj} {J : (Str → Option Value) → List (Addr × Obj) → Prop} {h' : Heap} {tk : Nat} {m₂ : Str → Option Value} {nx : List (Addr × Obj)}
    (F : Fr h₀ L h' m₂) (N : News h₀ L h' ((it, oi) :: nx)) (ho : ∀ p ∈ nx, p.1 ≠ it) (hJ : J m₂ nx) : ForStep h₀ L s it oi J Q .next { s with heap := h', toks := tk } := ⟨h', tk, m₂, nx, rfl, F, N, ho, hJ⟩
theorem ForStep.cont {it : Addr} {oi : Obj} {J : (Str → Option Value) → List (Addr × Obj) → Prop} {h' : Heap} {tk : Nat} {m₂ : Str → Option Value} {nx : List (Addr × Obj)}
    (F : Fr h₀ L h' m₂) (N : News h₀ L h' ((it, oi) :: nx)) (ho : ∀ p ∈ nx, p.1 ≠ it) (hJ : J m₂ nx) : ForStep h₀ L s it oi J Q .cont { s with heap := h', toks := tk } := ⟨h', tk, m₂, nx, rfl, F, N, ho, hJ⟩
theorem ForStep.r {it : Addr} {oi : Obj} {J : (Str → Option Value) → List (Addr × Obj) → Prop} {v : Value} {s₃ : Shared} (h : Q (.ret v) s₃) : ForStep h₀ L s it oi J Q (.ret v) s₃ := h
def IsIt (l : Addr) (i : Nat) (o : Obj) : Prop := o.cls = .type "list_iterator" ∧ o.data = .fields #[.ref l, .int i 0]

def LsStart (h₀ : Heap) (L : Addr) (s : Shared) (l : Addr) (vs : List Value) (J : (Str → Option Value) → List (Addr × Obj) → Prop) (v : Value) (s₁ : Shared) : Prop :=
  v = .ref l ∧ (∃ h tk, s₁ = { s with heap := h, toks := tk }) ∧ ∃ m nx, Fr h₀ L s₁.heap m ∧ News h₀ L s₁.heap nx ∧ LsAt nx l vs ∧ J m nx
theorem LsStart.mk {l : Addr} {vs : List Value} {J : (Str → Option Value) → List (Addr × Obj) → Prop} {h : Heap} {tk : Nat} {m : Str → Option Value} {nx : List (Addr × Obj)} (F : Fr h₀ L h m) (N : News h₀ L h nx) (hl : LsAt nx l vs) (hJ : J m nx) :
    LsStart h₀ L s l vs J (.ref l) { s with heap := h, toks := tk } := ⟨rfl, ⟨h, tk, rfl⟩, m, nx, F, N, hl, hJ⟩
abbrev rgO (a b c : Int) (t u v : Tok) : Obj := { cls := .type "range", data := .fields #[.int a t, .int b u, .int c v] }
def RgStart (h₀ : Heap) (L : Addr) (s : Shared) (a : Int) (n : Nat) (J : (Str → Option Value) → List (Addr × Obj) → Prop) (v : Value) (s₁ : Shared) : Prop :=
  ∃ r b t u y, v = .ref r ∧ (∃ h tk, s₁ = { s with heap := h, toks := tk }) ∧ ∃ m nx, Fr h₀ L s₁.heap m ∧ News h₀ L s₁.heap nx ∧ IsRange s₁.heap r a b 1 t u y ∧ Builtin.Range.small a b 1 = true ∧ Builtin.Range.rangeSize a b 1 = ((n : Nat) : Int) ∧ J m nx
theorem fitsLong {i : Int} (h1 : -(10000 : Int) ≤ i) (h2 : i ≤ 10000) : Builtin.Range.rangeFitsLong i = true := by
  simp only [Builtin.Range.rangeFitsLong, Bool.and_eq_true, decide_eq_true_eq]
  omega
theorem small_of {a b c : Int} (ha : a.natAbs ≤ 1000) (hb : b.natAbs ≤ 1000) (hc : 0 < c) (hc2 : c ≤ 1000) (h1 : -(1000 : Int) ≤ Builtin.Range.rangeSize a b c) (h2 : Builtin.Range.rangeSize a b c ≤ 1000) : Builtin.Range.small a b c = true := by
  unfold Builtin.Range.small
  rw [fitsLong (i := a) (by omega) (by omega), fitsLong (i := b) (by omega) (by omega), fitsLong (i := c) (by omega) (by omega), fitsLong (i := Builtin.Range.rangeSize a b c) (by omega) (by omega), if_pos (by omega), fitsLong (i := b + (c - 1)) (by omega) (by omega)]
  simp
theorem rg_small (n : Nat) (hn : n ≤ 1000) : Builtin.Range.small 0 (n : Int) 1 = true ∧ Builtin.Range.rangeSize 0 (n : Int) 1 = ((n : Nat) : Int) := by
  have e : Builtin.Range.rangeSize 0 (n : Int) 1 = ((n : Nat) : Int) := by
    rw [rangeSize_one]
    split <;> omega
  refine ⟨small_of (by omega) (by omega) (by omega) (by omega) (by rw [e]; omega) (by rw [e]; omega), e⟩
theorem RgStart.mk {n : Nat} {r : Addr} {t u v : Tok} {J : (Str → Option Value) → List (Addr × Obj) → Prop} {h : Heap} {tk : Nat} {m : Str → Option Value} {nx : List (Addr × Obj)} (F : Fr h₀ L h m) (N : News h₀ L h nx) (hr : (r, rgO 0 (n : Int) 1 t u v) ∈ nx) (hn : n ≤ 1000) (hJ : J m nx) :
    RgStart h₀ L s 0 n J (.ref r) { s with heap := h, toks := tk } := ⟨r, n, t, u, v, rfl, ⟨h, tk, rfl⟩, m, nx, F, N, (N _ hr).1, (rg_small n hn).1, (rg_small n hn).2, hJ⟩
theorem rg_one {b : Int} {t : Tok} {m : Str → Option Value} {nx : List (Addr × Obj)} {Q : Value → Shared → Prop} (F : Fr h₀ L s.heap m) (N : News h₀ L s.heap nx)
    (h : ∀ r h' t' u' v' tk', Fr h₀ L h' m → News h₀ L h' ((r, rgO 0 b 1 t' u' v') :: nx) → (∀ p ∈ nx, p.1 < r) → Q (.ref r) { s with heap := h', toks := tk' }) : wpAny (model prog w) A (call (.type "range") [.int b t]) Q E s :=
  call_range_1 (h _ _ _ _ _ _ (F.push _) (N.push F _) fun p hp => newsLt N p hp)
theorem for_list {x : Str} {px pos : Pos} {iter : Expr} {body : List Stmt} {l : Addr} {vs : List Value} {m₀ : Str → Option Value} (_F : Fr h₀ L s.heap m₀) (J : Nat → (Str → Option Value) → List (Addr × Obj) → Prop)
    (hh : A.handled = none) (hL : env.locals = L) (hx : env.kindOf x = some .local) (hp : (env.scope.kind == .class || (env.scope.kind == .module && env.locals != env.globals)) = false)
    (start : wpAny (model prog w) A (eval iter env) (LsStart h₀ L s l vs (J 0)) E s)
    (turn : ∀ i v m₁ nx h tk it oi, vs[i]? = some v → J i m₁ nx → LsAt nx l vs → Fr h₀ L h (fun y => if y = x then some v else m₁ y) → News h₀ L h ((it, oi) :: nx) → (∀ p ∈ nx, p.1 ≠ it) → IsIt l (i + 1) oi →
      wpAny (model prog w) A (execs body env) (ForStep h₀ L s it oi (fun m' nx' => LsAt nx' l vs ∧ J (i + 1) m' nx') Q) E { s with heap := h, toks := tk })
    (done : ∀ m₁ nx h tk, J vs.length m₁ nx → LsAt nx l vs → Fr h₀ L h m₁ → News h₀ L h nx → Q .next { s with heap := h, toks := tk })
    (hs : ∀ x, foldedSetIterable iter env x = pure x := by intro _; rfl)
    (hE : PassesOwn (model prog w) A env E := by passes_own) :
    wpAny (model prog w) A (exec (.For (.Name x px) iter body [] pos) env) Q E s := by
  subst hL
  refine wpAny_For (wpAny_mono start (fun v s₁ h₁ => ?_) fun _ _ e => e) hs
  obtain ⟨rfl, ⟨h, tk, rfl⟩, m, nx, F, N, hl, h0⟩ := h₁
  have hls : h.IsList l vs.toArray := hl.isList N
  refine wpAny_pyIter_list hls ?_
  refine codeAny_forLoop (R := fun r s' => match r with | .ok f => Q f s' | .error e => cameBackBy (model prog w) A env E e s')
    (fun k s' => ∃ i m₁ nx₁ h₁ tk₁ oi, k = vs.length - i ∧ i ≤ vs.length ∧ s' = { s with heap := h₁, toks := tk₁ } ∧ Fr h₀ env.locals h₁ m₁ ∧ News h₀ env.locals h₁ ((h.objs.size, oi) :: nx₁) ∧ IsIt l i oi ∧ (∀ p ∈ nx₁, p.1 ≠ h.objs.size) ∧ LsAt nx₁ l vs ∧ J i m₁ nx₁) ?_ vs.length
    ⟨0, m, nx, _, tk, iterO l 0, rfl, Nat.zero_le _, rfl, F.push _, N.push F _, ⟨rfl, rfl⟩, fun p hp => Nat.ne_of_lt (newsLt N p hp), hl, h0⟩
  rintro k s' ⟨i, m₁, nx₁, h₁, tk₁, oi, rfl, hi, rfl, F₁, N₁, hoi, ho₁, hl₁, hJ⟩
  have hI := N₁ _ (.head _)
  have hit : h₁.IsListIter h.objs.size l i := ⟨_, hI.1, hoi.1, hoi.2⟩
  have hls₁ : h₁.IsList l vs.toArray := hl₁.isList (newsSub N₁ fun q hq => .tail _ hq)
  by_cases hlt : i < vs.length
  · have hx' : vs[i]? = some vs[i] := by simp [hlt]
    refine wpAny_pyNext_list_item (x := vs[i]) hit hls₁ (by simp [hlt]) fun h₂ hit₂ hs₂ => ?_
    have F₂ := frBut F₁ hs₂.extBut hI.2.1 hI.2.2
    obtain ⟨oi₂, hoi₂, hci, hdi⟩ := hit₂
    have N₂ := newsPut N₁ hs₂.extBut ho₁ hoi₂
    refine wpAny_assign_Name (wpAny_storeName_local hx F₂.ns (fun h₃ hn₃ hs₃ => ?_) hp)
    refine wpAny_mono (turn i vs[i] m₁ nx₁ h₃ _ h.objs.size oi₂ hx' hJ hl₁ (F₂.set hn₃ hs₃) (N₂.set hs₃) ho₁ ⟨hci, hdi⟩) (fun f s₃ h₄ => ?_) hE
    have fin : (∃ h' tk m₂ nx, s₃ = { s with heap := h', toks := tk } ∧ Fr h₀ env.locals h' m₂ ∧ News h₀ env.locals h' ((h.objs.size, oi₂) :: nx) ∧ (∀ p ∈ nx, p.1 ≠ h.objs.size) ∧ LsAt nx l vs ∧ J (i + 1) m₂ nx) →
        ∃ k, k < vs.length - i ∧ ∃ i m₁ nx₁ h₁ tk₁ oi, k = vs.length - i ∧ i ≤ vs.length ∧ s₃ = { s with heap := h₁, toks := tk₁ } ∧ Fr h₀ env.locals h₁ m₁ ∧ News h₀ env.locals h₁ ((h.objs.size, oi) :: nx₁) ∧ IsIt l i oi ∧ (∀ p ∈ nx₁, p.1 ≠ h.objs.size) ∧ LsAt nx₁ l vs ∧ J i m₁ nx₁ := by
      rintro ⟨h', tk', m₂, nx₂, e, F', N', o', l', J'⟩
      exact ⟨vs.length - (i + 1), by omega, i + 1, m₂, nx₂, h', tk', oi₂, rfl, hlt, e, F', N', ⟨hci, hdi⟩, o', l', J'⟩
    cases f with
    | next => exact fin h₄
    | cont => exact fin h₄
    | brk => exact h₄
    | ret v => exact h₄
  · have hin : i = vs.length := by omega
    subst hin
    refine wpAny_mono (wpAny_pyNext_list_end hh hit hls₁ (by simp) fun h₂ hs₂ => wpAny_execs_nil ?_) (fun _ _ x => x) hE
    exact done m₁ nx₁ h₂ tk₁ hJ hl₁ (frBut F₁ hs₂ hI.2.1 hI.2.2) (newsBut (newsSub N₁ fun q hq => .tail _ hq) hs₂ ho₁)

def IsRt (x left : Int) (o : Obj) : Prop := o = { cls := .type "range_iterator", dict := none, data := .fields #[rawInt x, rawInt left, rawInt 1], slots := #[] }

/-- a for over range(0, n) -/
theorem for_range {x : Str} {px pos : Pos} {iter : Expr} {body : List Stmt} {m₀ : Str → Option Value} {n : Nat} (_F : Fr h₀ L s.heap m₀) (J : Nat → (Str → Option Value) → List (Addr × Obj) → Prop)
    (hh : A.handled = none) (hL : env.locals = L) (hx : env.kindOf x = some .local) (hp : (env.scope.kind == .class || (env.scope.kind == .module && env.locals != env.globals)) = false)
    (start : wpAny (model prog w) A (eval iter env) (RgStart h₀ L s 0 n (J 0)) E s)
    (turn : ∀ i t m₁ nx h tk it oi, i < n → J i m₁ nx → Fr h₀ L h (fun y => if y = x then some (.int (i : Nat) t) else m₁ y) → News h₀ L h ((it, oi) :: nx) → (∀ p ∈ nx, p.1 ≠ it) →
      wpAny (model prog w) A (execs body env) (ForStep h₀ L s it oi (J (i + 1)) Q) E { s with heap := h, toks := tk })
    (done : ∀ m₁ nx h tk, J n m₁ nx → Fr h₀ L h m₁ → News h₀ L h nx → Q .next { s with heap := h, toks := tk })
    (hs : ∀ x, foldedSetIterable iter env x = pure x := by intro _; rfl)
    (hE : PassesOwn (model prog w) A env E := by passes_own) :
    wpAny (model prog w) A (exec (.For (.Name x px) iter body [] pos) env) Q E s := by
  subst hL
  refine wpAny_For (wpAny_mono start (fun v s₁ h₁ => ?_) fun _ _ e => e) hs
  obtain ⟨r, b, t, u, y, rfl, ⟨h, tk, rfl⟩, m, nx, F, N, hr, hsm, hsz, h0⟩ := h₁
  refine wpAny_pyIter_range hr hsm ?_
  refine codeAny_forLoop (R := fun r s' => match r with | .ok f => Q f s' | .error e => cameBackBy (model prog w) A env E e s')
    (fun k s' => ∃ i m₁ nx₁ h₁ tk₁ oi, k = n - i ∧ i ≤ n ∧ s' = { s with heap := h₁, toks := tk₁ } ∧ Fr h₀ env.locals h₁ m₁ ∧ News h₀ env.locals h₁ ((h.objs.size, oi) :: nx₁) ∧ IsRt (i : Nat) ((n : Int) - (i : Nat)) oi ∧ (∀ p ∈ nx₁, p.1 ≠ h.objs.size) ∧ J i m₁ nx₁) ?_ n
    ⟨0, m, nx, _, tk, _, rfl, Nat.zero_le _, rfl, F.push _, N.push F _, by rw [hsz]; unfold IsRt; simp, fun p hp => Nat.ne_of_lt (newsLt N p hp), h0⟩
  rintro k s' ⟨i, m₁, nx₁, h₁, tk₁, oi, rfl, hi, rfl, F₁, N₁, hoi, ho₁, hJ⟩
  have hI := N₁ _ (.head _)
  unfold IsRt at hoi
  subst hoi
  have hit : IsRangeIter h₁ h.objs.size (i : Nat) ((n : Int) - (i : Nat)) 1 := hI.1
  by_cases hlt : i < n
  · refine wpAny_pyNext_range_item hit (by omega) fun h₂ hit₂ hs₂ => ?_
    have F₂ := frBut F₁ hs₂.extBut hI.2.1 hI.2.2
    have N₂ := newsPut N₁ hs₂.extBut ho₁ hit₂
    refine wpAny_assign_Name (wpAny_storeName_local hx F₂.ns (fun h₃ hn₃ hs₃ => ?_) hp)
    refine wpAny_mono (turn i _ m₁ nx₁ h₃ _ h.objs.size _ hlt hJ (F₂.set hn₃ hs₃) (N₂.set hs₃) ho₁) (fun f s₃ h₄ => ?_) hE
    have e1 : ((i : Nat) : Int) + 1 = ((i + 1 : Nat) : Int) := by omega
    have e2 : (n : Int) - (i : Nat) - 1 = (n : Int) - ((i + 1 : Nat) : Int) := by omega
    rw [e1, e2] at h₄
    have fin : (∃ h' tk m₂ nx, s₃ = { s with heap := h', toks := tk } ∧ Fr h₀ env.locals h' m₂ ∧ News h₀ env.locals h' ((h.objs.size, { cls := .type "range_iterator", dict := none, data := .fields #[rawInt ((i + 1 : Nat) : Int), rawInt ((n : Int) - ((i + 1 : Nat) : Int)), rawInt 1], slots := #[] }) :: nx) ∧ (∀ p ∈ nx, p.1 ≠ h.objs.size) ∧ J (i + 1) m₂ nx) →
        ∃ k, k < n - i ∧ ∃ i m₁ nx₁ h₁ tk₁ oi, k = n - i ∧ i ≤ n ∧ s₃ = { s with heap := h₁, toks := tk₁ } ∧ Fr h₀ env.locals h₁ m₁ ∧ News h₀ env.locals h₁ ((h.objs.size, oi) :: nx₁) ∧ IsRt (i : Nat) ((n : Int) - (i : Nat)) oi ∧ (∀ p ∈ nx₁, p.1 ≠ h.objs.size) ∧ J i m₁ nx₁ := by
      rintro ⟨h', tk', m₂, nx₂, e, F', N', o', J'⟩
      exact ⟨n - (i + 1), by omega, i + 1, m₂, nx₂, h', tk', _, rfl, hlt, e, F', N', rfl, o', J'⟩
    cases f with
    | next => exact fin h₄
    | cont => exact fin h₄
    | brk => exact h₄
    | ret v => exact h₄
  · have hin : i = n := by omega
    subst hin
    refine wpAny_mono (wpAny_pyNext_range_end hh hit (by omega) fun h₂ hs₂ => wpAny_execs_nil ?_) (fun _ _ x => x) hE
    exact done m₁ nx₁ h₂ tk₁ hJ (frBut F₁ hs₂ hI.2.1 hI.2.2) (newsBut (newsSub N₁ fun q hq => .tail _ hq) hs₂ ho₁)
end
theorem ctr_use {w : World} {f : Addr} {k : Nat} {vs : List Value} {news : List (Addr × Obj)} {Post : Value → List (Addr × Obj) → Prop} {p : Program} {loose : List Str} {mean : ExcName → Option Value} {mg mb : Str → Option Value}
    {dp un : Nat} {gd : Option (List Code)} {cn : Str} {cs : Scope} {a : Addr} {ccd : Value} {cl : List (Str × Addr)} {outer : List Env} {A₀ : Around} {base h₀ : Heap} {L : Addr} {m : Str → Option Value} {s : Shared}
    {Q E : Value → Shared → Prop} (C : Ctr w f k vs news Post)
    (B : Below A₀ base outer h₀) (F : Fr h₀ L s.heap m) (X : (Mine.hp.heap_1 w.params).In h₀) (N : News h₀ L s.heap news) (T : Top p loose mean mg mb h₀) (hk : cs.kind = .function) (hd : dp + k < recursionLimit) (hu : un + 8 * k < cLine)
    (ret : ∀ r news' h' tk', Fr h₀ L h' m → News h₀ L h' news' → Post r news' → Q r { s with heap := h', toks := tk' }) :
    wpAny (model PySem.Challenge.rw_in0056_01.row.prog w) (ktrTop dp un gd cn cs L a ccd cl outer) (call (.ref f) vs) Q E s :=
  C _ _ _ _ _ _ _ _ _ _ _ _ _ _ _ _ _ _ _ _ _ _ B F X N T hk hd hu ret

/-- the same with the results told one by one: the goal behind the call stands once in the term -/
theorem ctr_useC {w : World} {f : Addr} {k : Nat} {vs : List Value} {news : List (Addr × Obj)} {Post : Value → List (Addr × Obj) → Prop} {R : (Value → List (Addr × Obj) → Prop) → Prop} {p : Program} {loose : List Str} {mean : ExcName → Option Value} {mg mb : Str → Option Value}
    {dp un : Nat} {gd : Option (List Code)} {cn : Str} {cs : Scope} {a : Addr} {ccd : Value} {cl : List (Str × Addr)} {outer : List Env} {A₀ : Around} {base h₀ : Heap} {L : Addr} {m : Str → Option Value} {s : Shared}
    {Q E : Value → Shared → Prop} (C : Ctr w f k vs news Post) (imp : ∀ r nx, Post r nx → ∀ K : Value → List (Addr × Obj) → Prop, R K → K r nx)
    (B : Below A₀ base outer h₀) (F : Fr h₀ L s.heap m) (X : (Mine.hp.heap_1 w.params).In h₀) (N : News h₀ L s.heap news) (T : Top p loose mean mg mb h₀) (hk : cs.kind = .function) (hd : dp + k < recursionLimit) (hu : un + 8 * k < cLine)
    (ret : R (fun r nx => ∀ h' tk', Fr h₀ L h' m → News h₀ L h' nx → Q r { s with heap := h', toks := tk' })) :
    wpAny (model PySem.Challenge.rw_in0056_01.row.prog w) (ktrTop dp un gd cn cs L a ccd cl outer) (call (.ref f) vs) Q E s :=
  C _ _ _ _ _ _ _ _ _ _ _ _ _ _ _ _ _ _ _ _ _ _ B F X N T hk hd hu fun r nx h' tk' F' N' P => imp r nx P _ ret h' tk' F' N'
theorem bool_imp {news : Led} {φ : Prop} (r : Value) (nx : Led) (h : nx = news ∧ ∃ b, r = .bool b ∧ (b = true ↔ φ)) (K : Value → Led → Prop) (k : ((true = true ↔ φ) → K (.bool true) news) ∧ ((false = true ↔ φ) → K (.bool false) news)) : K r nx := by
  obtain ⟨rfl, b, rfl, hb⟩ := h
  cases b
  · exact k.2 hb
  · exact k.1 hb
theorem int_imp {news : Led} {n : Int} (r : Value) (nx : Led) (h : nx = news ∧ ∃ tk, r = .int n tk) (K : Value → Led → Prop) (k : ∀ tk, K (.int n tk) news) : K r nx := by
  obtain ⟨rfl, tk, rfl⟩ := h
  exact k tk
theorem yes_imp {news : Led} (r : Value) (nx : Led) (h : nx = news ∧ r = .bool true) (K : Value → Led → Prop) (k : K (.bool true) news) : K r nx := by
  obtain ⟨rfl, rfl⟩ := h
  exact k

/-- a text by its list of signs -/
abbrev S (l : List Nat) : Str := ⟨l.toArray⟩
theorem S_inj {a b : List Nat} : S a = S b ↔ a = b := by
  constructor
  · intro h
    have : (S a).cps.toList = (S b).cps.toList := by rw [h]
    simpa using this
  · intro h; rw [h]
theorem S_len (l : List Nat) : (S l).length = l.length := by simp [S, Str.length]
theorem S_all (x : Str) : ∃ l, x = S l := ⟨x.cps.toList, by simp [S]⟩
theorem sliceIs (x : Str) (l u : Option Int) : Txt.slice x l u = StrLaws.sliceText x l u := rfl

theorem slice_from (l : List Nat) (k : Nat) (hk : k ≤ l.length) : Txt.slice (S l) (some (k : Int)) none = S (l.drop k) := by
  rw [sliceIs, StrLaws.sliceText_from ⟨by omega, by simpa using hk⟩]
  simp only [S]
  congr 2
  rw [List.take_of_length_le]
  · simp
  · simp

theorem idx_neg (j len : Nat) (hj : 0 < j) (hl : j ≤ len) : Builtin.Str.strSliceIndices none (some (-(j : Int))) 1 len = Builtin.Str.strSliceIndices none (some ((len - j : Nat) : Int)) 1 len := by
  unfold Builtin.Str.strSliceIndices
  have h1 : (-(j : Int)) < 0 := by omega
  have h2 : ¬ (((len - j : Nat) : Int) < 0) := by omega
  have h3 : -(j : Int) + (len : Int) = ((len - j : Nat) : Int) := by omega
  simp only [h1, h2, if_true, if_false, h3]

theorem slice_neg (l : List Nat) (j : Nat) (hj : 0 < j) (hl : j ≤ l.length) : Txt.slice (S l) none (some (-(j : Int))) = S (l.take (l.length - j)) := by
  have e : Txt.slice (S l) none (some (-(j : Int))) = Txt.slice (S l) none (some ((l.length - j : Nat) : Int)) := by
    unfold Txt.slice
    rw [S_len, idx_neg j l.length hj hl]
  rw [e, sliceIs, StrLaws.sliceText_to ⟨by omega, by simp⟩]
  simp [S]

theorem slice_all (l : List Nat) : Txt.slice (S l) none none = S l := by
  rw [sliceIs]
  have e : StrLaws.sliceText (S l) none none = StrLaws.sliceText (S l) (some 0) none := by
    unfold StrLaws.sliceText; rw [StrLaws.sliceIdx_none_lo]
  rw [e]
  exact slice_from l 0 (Nat.zero_le _)

theorem charAt_is (x : Str) (i : Int) : Txt.charAt x i = (seqIndex? i x.length).bind (x.cps[·]?) := rfl
theorem item_at (l : List Nat) (k : Nat) (hk : k < l.length) : Txt.item (S l) (k : Int) = S [l.getD k 0] := by
  unfold Txt.item
  rw [charAt_is, StrLaws.seqIndex_nonneg (by omega) (by rw [S_len]; omega)]
  simp [S, hk]
theorem item_neg (l : List Nat) (j : Nat) (hj : 0 < j) (hl : j ≤ l.length) : Txt.item (S l) (-(j : Int)) = S [l.getD (l.length - j) 0] := by
  unfold Txt.item
  rw [charAt_is, StrLaws.seqIndex_neg (by omega) (by rw [S_len]; omega)]
  have e : (-(j : Int) + ((S l).length : Int)).toNat = l.length - j := by rw [S_len]; omega
  rw [e]
  have h : l.length - j < l.length := by omega
  simp [S, h]

section
variable {prog : Program} {w : World} {A : Around} {E : Value → Shared → Prop} {s : Shared} {value slice : Expr} {l : List Nat} {t : Tok} {h₀ : Heap} {L : Addr} {m : Str → Option Value} {news : List (Addr × Obj)} {Q : Value → Shared → Prop}

theorem sub_from {k : Nat} {ui : Tok} (hF : Fr h₀ L s.heap m) (hN : News h₀ L s.heap news) (hsz : l.length ≤ 100) (hk : k ≤ l.length)
    (h : ∀ h' t' c, Fr h₀ L h' m → News h₀ L h' news → Q (.str (S (l.drop k)) t') { s with heap := h', toks := c })
    (hs : subscripted slice false (.str (S l) t) (.ref s.heap.objs.size) = operate [.ref s.heap.objs.size, .str (S l) t] (getItem (.str (S l) t) (.ref s.heap.objs.size)) := by with_unfolding_all rfl)
    (ht : ∀ r, letTemporaryGo value (.str (S l) t) r = pure () := by intro _; with_unfolding_all rfl) :
    wpAny (model prog w) A (subscriptTail value slice (.str (S l) t) (.ref s.heap.objs.size)) Q E { s with heap := s.heap.push { cls := .type "slice", data := .fields #[.int (k : Int) ui, .none, .none] } } := by
  refine slice_strN_sn hF hN (fun h' t' c F N => ?_) hs ht (by rw [S_len, sizeLine_eq]; omega)
  rw [slice_from l k hk]
  exact h h' t' c F N
theorem sub_neg {j : Nat} {i : Int} {ui : Tok} (hF : Fr h₀ L s.heap m) (hN : News h₀ L s.heap news) (hsz : l.length ≤ 100) (hi : i = -(j : Int)) (hj : 0 < j) (hk : j ≤ l.length)
    (h : ∀ h' t' c, Fr h₀ L h' m → News h₀ L h' news → Q (.str (S (l.take (l.length - j))) t') { s with heap := h', toks := c })
    (hs : subscripted slice false (.str (S l) t) (.ref s.heap.objs.size) = operate [.ref s.heap.objs.size, .str (S l) t] (getItem (.str (S l) t) (.ref s.heap.objs.size)) := by with_unfolding_all rfl)
    (ht : ∀ r, letTemporaryGo value (.str (S l) t) r = pure () := by intro _; with_unfolding_all rfl) :
    wpAny (model prog w) A (subscriptTail value slice (.str (S l) t) (.ref s.heap.objs.size)) Q E { s with heap := s.heap.push { cls := .type "slice", data := .fields #[.none, .int i ui, .none] } } := by
  subst hi
  refine slice_strN_ns hF hN (fun h' t' c F N => ?_) hs ht (by rw [S_len, sizeLine_eq]; omega)
  rw [slice_neg l j hj hk]
  exact h h' t' c F N
theorem sub_all (hF : Fr h₀ L s.heap m) (hN : News h₀ L s.heap news) (hsz : l.length ≤ 100)
    (h : ∀ h' t' c, Fr h₀ L h' m → News h₀ L h' news → Q (.str (S l) t') { s with heap := h', toks := c })
    (hs : subscripted slice false (.str (S l) t) (.ref s.heap.objs.size) = operate [.ref s.heap.objs.size, .str (S l) t] (getItem (.str (S l) t) (.ref s.heap.objs.size)) := by with_unfolding_all rfl)
    (ht : ∀ r, letTemporaryGo value (.str (S l) t) r = pure () := by intro _; with_unfolding_all rfl) :
    wpAny (model prog w) A (subscriptTail value slice (.str (S l) t) (.ref s.heap.objs.size)) Q E { s with heap := s.heap.push { cls := .type "slice", data := .fields #[.none, .none, .none] } } := by
  refine slice_strN_nn hF hN (fun h' t' c F N => ?_) hs ht (by rw [S_len, sizeLine_eq]; omega)
  rw [slice_all l]
  exact h h' t' c F N
theorem sub_item {k : Nat} {i : Int} {u : Tok} (hi : i = (k : Int)) (hsz : l.length ≤ 100) (hk : k < l.length) (h : Q (.str (S [l.getD k 0]) s.toks) { s with toks := s.toks + 1 })
    (hs : subscripted slice false (.str (S l) t) (.int i u) = operate [.str (S l) t, .int i u] (getItem (.str (S l) t) (.int i u)) := by with_unfolding_all rfl)
    (ht : ∀ r, letTemporaryGo value (.str (S l) t) r = pure () := by intro _; with_unfolding_all rfl) :
    wpAny (model prog w) A (subscriptTail value slice (.str (S l) t) (.int i u)) Q E s := by
  subst hi
  refine item_str (fitsSsize_of (N := 9223372036854775808) (by omega) (by omega) (Int.le_refl _)) (by rw [S_len]; omega) (by rw [S_len]; omega) (fun _ => ?_) hs ht
  rw [item_at l k hk]; exact h
theorem sub_itemNeg {j : Nat} {i : Int} {u : Tok} (hi : i = -(j : Int)) (hsz : l.length ≤ 100) (hj : 0 < j) (hk : j ≤ l.length) (h : Q (.str (S [l.getD (l.length - j) 0]) s.toks) { s with toks := s.toks + 1 })
    (hs : subscripted slice false (.str (S l) t) (.int i u) = operate [.str (S l) t, .int i u] (getItem (.str (S l) t) (.int i u)) := by with_unfolding_all rfl)
    (ht : ∀ r, letTemporaryGo value (.str (S l) t) r = pure () := by intro _; with_unfolding_all rfl) :
    wpAny (model prog w) A (subscriptTail value slice (.str (S l) t) (.int i u)) Q E s := by
  subst hi
  refine item_str (fitsSsize_of (N := 9223372036854775808) (by omega) (by omega) (Int.le_refl _)) (by rw [S_len]; omega) (by rw [S_len]; omega) (fun _ => ?_) hs ht
  rw [item_neg l j hj hk]; exact h
theorem sub_itemI {i : Int} {u : Tok} (hsz : l.length ≤ 100) (h0 : i < 0) (hk : -(l.length : Int) ≤ i) (h : Q (.str (S [l.getD ((l.length : Int) + i).toNat 0]) s.toks) { s with toks := s.toks + 1 })
    (hs : subscripted slice false (.str (S l) t) (.int i u) = operate [.str (S l) t, .int i u] (getItem (.str (S l) t) (.int i u)) := by with_unfolding_all rfl)
    (ht : ∀ r, letTemporaryGo value (.str (S l) t) r = pure () := by intro _; with_unfolding_all rfl) :
    wpAny (model prog w) A (subscriptTail value slice (.str (S l) t) (.int i u)) Q E s := by
  refine sub_itemNeg (j := (-i).toNat) (by omega) hsz (by omega) (by omega) ?_ hs ht
  have e : l.length - (-i).toNat = ((l.length : Int) + i).toNat := by omega
  rw [e]; exact h
theorem truth_S {Q : Bool → Shared → Prop} (hsz : l.length ≤ 100) (h : Q (decide (0 < l.length)) { s with toks := s.toks + 1 + 1 }) : wpAny (model prog w) A (truthy (.str (S l) t)) Q E s := by
  refine P.truthy_str (by rw [S_len]; omega) ?_
  have e : (((S l).length : Int) != 0) = decide (0 < l.length) := by
    rw [S_len]
    cases l with
    | nil => rfl
    | cons a r => simp; omega
  rw [e]; exact h
theorem truth_S2 {n : Nat} {Q : Bool → Shared → Prop} (hn : l.length = n) (hsz : l.length ≤ 100) (h1 : 0 < n → Q true { s with toks := s.toks + 1 + 1 }) (h2 : n = 0 → Q false { s with toks := s.toks + 1 + 1 }) : wpAny (model prog w) A (truthy (.str (S l) t)) Q E s := by
  subst hn
  refine truth_S hsz ?_
  by_cases h : 0 < l.length
  · rw [decide_eq_true h]; exact h1 h
  · rw [decide_eq_false h]; exact h2 (by omega)
theorem truth_yes {i : Int} {u : Tok} {Q : Bool → Shared → Prop} (hi : i ≠ 0) (h : Q true s) : wpAny (model prog w) A (truthy (.int i u)) Q E s := by
  refine PyProof.Rows.truthy_int ?_
  have e : (i != 0) = true := by simp [hi]
  rw [e]; exact h
theorem truth_no {i : Int} {u : Tok} {Q : Bool → Shared → Prop} (hi : i = 0) (h : Q false s) : wpAny (model prog w) A (truthy (.int i u)) Q E s := by
  refine PyProof.Rows.truthy_int ?_
  have e : (i != 0) = false := by simp [hi]
  rw [e]; exact h
theorem len_S {Q : Value → Shared → Prop} (hsz : l.length ≤ 100) (h : Q (.int (l.length : Nat) (s.toks + 1)) { s with toks := s.toks + 1 + 1 }) : wpAny (model prog w) A (call (.builtin "len") [.str (S l) t]) Q E s := by
  refine PySem.P.len_str (by rw [S_len]; omega) ?_
  rw [S_len]; exact h
end

/-- the letters that the law's texts hold: a, A, b, B -/
def Letter (c : Nat) : Prop := c = 97 ∨ c = 65 ∨ c = 98 ∨ c = 66
def low (c : Nat) : Nat := if c = 65 then 97 else if c = 66 then 98 else c
def cost (c d : Nat) : Nat := if c = d then 0 else if low c = low d then 1 else 2
theorem cost_self (c : Nat) : cost c c = 0 := by simp [cost]
theorem cost_le (c d : Nat) : cost c d ≤ 2 := by unfold cost; split <;> (try split) <;> omega
theorem cost_comm (c d : Nat) : cost c d = cost d c := by
  unfold cost
  by_cases h : c = d
  · subst h; rfl
  · have h' : ¬ d = c := fun e => h e.symm
    rw [if_neg h, if_neg h']
    by_cases g : low c = low d
    · rw [if_pos g, if_pos g.symm]
    · have g' : ¬ low d = low c := fun e => g e.symm
      rw [if_neg g, if_neg g']

/-- the table of the beginnings -/
def dp (xs ys : List Nat) : Nat → Nat → Nat
  | 0, j => 2 * j
  | i + 1, 0 => 2 * (i + 1)
  | i + 1, j + 1 => min (dp xs ys i j + cost (xs.getD i 0) (ys.getD j 0)) (min (dp xs ys i (j + 1) + 2) (dp xs ys (i + 1) j + 2))
termination_by i j => (i, j)
def dist (xs ys : List Nat) : Nat := dp xs ys xs.length ys.length

theorem dp_zero (xs ys : List Nat) (j : Nat) : dp xs ys 0 j = 2 * j := by rw [dp]
theorem dp_left (xs ys : List Nat) (i : Nat) : dp xs ys i 0 = 2 * i := by
  cases i with
  | zero => rw [dp]
  | succ i => rw [dp]
theorem dp_succ (xs ys : List Nat) (i j : Nat) : dp xs ys (i + 1) (j + 1) = min (dp xs ys i j + cost (xs.getD i 0) (ys.getD j 0)) (min (dp xs ys i (j + 1) + 2) (dp xs ys (i + 1) j + 2)) := by rw [dp]

theorem dp_comm (xs ys : List Nat) : ∀ i j, dp xs ys i j = dp ys xs j i := by
  intro i
  induction i with
  | zero => intro j; rw [dp_zero, dp_left]
  | succ i ih =>
    intro j
    induction j with
    | zero => rw [dp_left, dp_zero]
    | succ j jh =>
      rw [dp_succ, dp_succ, ih j, ih (j + 1), jh, cost_comm]
      omega
theorem dist_comm (xs ys : List Nat) : dist xs ys = dist ys xs := dp_comm xs ys _ _

theorem dp_lipJ (xs ys : List Nat) : ∀ i j, dp xs ys i (j + 1) ≤ dp xs ys i j + 2
  | 0, j => by rw [dp_zero, dp_zero]; omega
  | i + 1, j => by rw [dp_succ]; omega
theorem dp_lipI (xs ys : List Nat) (i j : Nat) : dp xs ys (i + 1) j ≤ dp xs ys i j + 2 := by
  rw [dp_comm xs ys, dp_comm xs ys]; exact dp_lipJ ys xs j i
theorem dp_lowI (xs ys : List Nat) : ∀ i j, dp xs ys i j ≤ dp xs ys (i + 1) j + 2 := by
  intro i j
  induction j with
  | zero => rw [dp_left, dp_left]; omega
  | succ j jh =>
    have h1 := dp_lipJ xs ys i j
    rw [dp_succ xs ys i j]
    omega
theorem dp_lowJ (xs ys : List Nat) (i j : Nat) : dp xs ys i j ≤ dp xs ys i (j + 1) + 2 := by
  rw [dp_comm xs ys, dp_comm xs ys]; exact dp_lowI ys xs j i

/-- like last signs -/
theorem dp_same (xs ys : List Nat) (i j : Nat) (h : xs.getD i 0 = ys.getD j 0) : dp xs ys (i + 1) (j + 1) = dp xs ys i j := by
  rw [dp_succ, h, cost_self]
  have := dp_lowI xs ys i j
  have := dp_lowJ xs ys i j
  have := dp_lowI xs ys i (j + 1)
  omega

theorem dp_cong {xs ys xs' ys' : List Nat} : ∀ i j, (∀ k, k < i → xs.getD k 0 = xs'.getD k 0) → (∀ k, k < j → ys.getD k 0 = ys'.getD k 0) → dp xs ys i j = dp xs' ys' i j := by
  intro i
  induction i with
  | zero => intro j _ _; rw [dp_zero, dp_zero]
  | succ i ih =>
    intro j hx
    induction j with
    | zero => intro _; rw [dp_left, dp_left]
    | succ j jh =>
      intro hy
      rw [dp_succ, dp_succ, ih j (fun k hk => hx k (by omega)) (fun k hk => hy k (by omega)), ih (j + 1) (fun k hk => hx k (by omega)) hy, jh (fun k hk => hy k (by omega)), hx i (by omega), hy j (by omega)]

/-- a like first sign -/
theorem dp_cons (x : Nat) (xs ys : List Nat) : ∀ i j, dp (x :: xs) (x :: ys) (i + 1) (j + 1) = dp xs ys i j := by
  intro i
  induction i with
  | zero =>
    intro j
    induction j with
    | zero => rw [dp_succ, dp_zero, dp_zero, dp_zero, dp_left]; simp [cost_self]
    | succ j jh =>
      rw [dp_succ, jh]
      simp only [dp_zero]
      omega
  | succ i ih =>
    intro j
    induction j with
    | zero =>
      rw [dp_succ, ih 0]
      simp only [dp_left]
      omega
    | succ j jh =>
      rw [dp_succ, ih j, ih (j + 1), jh, dp_succ]
      simp

theorem dist_cons (x : Nat) (xs ys : List Nat) : dist (x :: xs) (x :: ys) = dist xs ys := dp_cons x xs ys _ _
theorem dist_append (p xs ys : List Nat) : dist (p ++ xs) (p ++ ys) = dist xs ys := by
  induction p with
  | nil => rfl
  | cons x p ih => rw [List.cons_append, List.cons_append, dist_cons, ih]
theorem dist_pre {xs ys : List Nat} {k : Nat} (h : xs.take k = ys.take k) : dist xs ys = dist (xs.drop k) (ys.drop k) := by
  have e1 := List.take_append_drop k xs
  have e2 := List.take_append_drop k ys
  rw [← h] at e2
  have e3 := dist_append (xs.take k) (xs.drop k) (ys.drop k)
  rw [e1, e2] at e3
  exact e3

theorem dist_snoc (xs ys : List Nat) (z : Nat) : dist (xs ++ [z]) (ys ++ [z]) = dist xs ys := by
  unfold dist
  rw [List.length_append, List.length_append]
  show dp (xs ++ [z]) (ys ++ [z]) (xs.length + 1) (ys.length + 1) = _
  rw [dp_same _ _ _ _ (by simp)]
  exact dp_cong _ _ (fun k hk => by simp [List.getElem?_append_left hk]) (fun k hk => by simp [List.getElem?_append_left hk])
theorem dist_appendR (xs ys q : List Nat) : dist (xs ++ q) (ys ++ q) = dist xs ys := by
  induction q generalizing xs ys with
  | nil => simp
  | cons z q ih =>
    have e1 : xs ++ z :: q = (xs ++ [z]) ++ q := by simp
    have e2 : ys ++ z :: q = (ys ++ [z]) ++ q := by simp
    rw [e1, e2, ih, dist_snoc]
theorem dist_suf {xs ys : List Nat} {i j : Nat} (h : xs.drop i = ys.drop j) : dist xs ys = dist (xs.take i) (ys.take j) := by
  have e1 := List.take_append_drop i xs
  have e2 := List.take_append_drop j ys
  rw [← h] at e2
  have e3 := dist_appendR (xs.take i) (ys.take j) (xs.drop i)
  rw [e1, e2] at e3
  exact e3
theorem dist_self (xs : List Nat) : dist xs xs = 0 := by
  have := dist_append xs [] []
  simp only [List.append_nil] at this
  rw [this]; unfold dist; rw [List.length_nil, dp_zero]
theorem dist_nilL (ys : List Nat) : dist [] ys = 2 * ys.length := by unfold dist; rw [List.length_nil, dp_zero]
theorem dist_nilR (xs : List Nat) : dist xs [] = 2 * xs.length := by unfold dist; rw [List.length_nil, dp_left]
theorem dp_le (xs ys : List Nat) : ∀ i j, dp xs ys i j ≤ 2 * (i + j) := by
  intro i
  induction i with
  | zero => intro j; rw [dp_zero]; omega
  | succ i ih => intro j; have := dp_lipI xs ys i j; have := ih j; omega

section
theorem lower_letter {c : Nat} (h : Letter c) : Txt.lower (S [c]) = S [low c] := by
  rcases h with h | h | h | h <;> subst h <;> decide +kernel

section
variable {prog : Program} {w : World} {A : Around} {E : Value → Shared → Prop} {s : Shared} {t : Tok} {Q : Value → Shared → Prop}
theorem call_lower {c : Nat} (hc : Letter c) (h : Q (.str (S [low c]) s.toks) { s with toks := s.toks + 1 }) : wpAny (model prog w) A (call (.builtin "str.lower") [.str (S [c]) t]) Q E s := by
  refine SCL.lower (by rw [S_len]; simp) (fun _ => ?_)
  rw [lower_letter hc]; exact h
end
local macro_rules | `(tactic| walk_at "call builtin:str.lower") => `(tactic| (refine call_lower (by assumption) ?_))
theorem intIs {a b : Int} {t : Tok} (h : a = b) : ∃ tk, Value.int a t = Value.int b tk := ⟨t, by rw [h]⟩
theorem eq_S {a b : List Nat} : (S a == S b) = decide (a = b) := by
  by_cases h : a = b
  · subst h; simp
  · have : ¬ S a = S b := fun e => h (S_inj.mp e)
    rw [decide_eq_false h]; exact beq_eq_false_iff_ne.mpr this

theorem sub_spec {w : World} (c d : Nat) (hc : Letter c) (hd : Letter d) (t u : Tok) (news : List (Addr × Obj)) :
    Ctr w 38 1 [.str (S [c]) t, .str (S [d]) u] news (fun r news' => news' = news ∧ ∃ tk, r = .int (cost c d) tk) := by
  refine fillme PySem.Challenge.rw_in0056_01 Mine.hp.heap_1 ?_
  k_fill
  intro _
  unfold Ctr
  intro p loose mean mg mb dp un gd cn cs a ccd cl outer A₀ base h₀ L m s Q E B F X N T hk hd hu hret
  refine wpAny_call ?_
  k_dflt ktr_enter
  k_steps
  · rename (S _ == S _) = true => h1
    refine hret _ _ _ _ (by assumption) (by assumption) ⟨rfl, intIs ?_⟩
    have e : cost c d = 0 := by rw [eq_S] at h1; simp at h1; subst h1; simp [cost]
    rw [e]; rfl
  · rename (S [low c] == S [low d]) = true => h2
    rename (S [c] == S [d]) = false => h1
    refine hret _ _ _ _ (by assumption) (by assumption) ⟨rfl, intIs ?_⟩
    have e : cost c d = 1 := by rw [eq_S] at h1 h2; simp at h1 h2; simp [cost, h1, h2]
    rw [e]; rfl
  · rename (S [low c] == S [low d]) = false => h2
    rename (S [c] == S [d]) = false => h1
    refine hret _ _ _ _ (by assumption) (by assumption) ⟨rfl, intIs ?_⟩
    have e : cost c d = 2 := by rw [eq_S] at h1 h2; simp at h1 h2; simp [cost, h1, h2]
    rw [e]; rfl

end

theorem LsAt.mono {nx nx' : Led} {l : Addr} {vs : List Value} (x : LsAt nx l vs) (hs : ∀ p ∈ nx, p ∈ nx') : LsAt nx' l vs := let ⟨o, hm, r⟩ := x; ⟨o, hs _ hm, r⟩
theorem TpAt.mono {nx nx' : Led} {l : Addr} {vs : List Value} (x : TpAt nx l vs) (hs : ∀ p ∈ nx, p ∈ nx') : TpAt nx' l vs := let ⟨o, hm, r⟩ := x; ⟨o, hs _ hm, r⟩
theorem ls_tp_ne {h₀ h : Heap} {L l a : Addr} {nx : Led} {vs us : List Value} (N : News h₀ L h nx) (x : LsAt nx l vs) (y : TpAt nx a us) : a ≠ l := by
  obtain ⟨o, hm, n, hc⟩ := x
  obtain ⟨o', hm', hc', _⟩ := y
  intro e
  subst e
  have hc : o.cls = .type "list" := by rw [hc]
  have h1 := (N _ hm).1
  have h2 := (N _ hm').1
  rw [h1] at h2
  have this : o = o' := Option.some.inj h2
  rw [← this] at hc'
  rw [hc] at hc'
  exact absurd hc' (by decide)

/-- the ledger with another object at an address -/
def putAt (l : Addr) (o : Obj) (nx : Led) : Led := nx.map fun p => if p.1 = l then (l, o) else p
theorem putAt_other {l : Addr} {o : Obj} {nx : Led} {p : Addr × Obj} (hp : p ∈ nx) (hn : p.1 ≠ l) : p ∈ putAt l o nx :=
  List.mem_map.mpr ⟨p, hp, by rw [if_neg hn]⟩
theorem putAt_self {l : Addr} {o o' : Obj} {nx : Led} (hp : (l, o) ∈ nx) : (l, o') ∈ putAt l o' nx :=
  List.mem_map.mpr ⟨(l, o), hp, by rw [if_pos rfl]⟩
theorem putAt_addr {l : Addr} {o : Obj} {nx : Led} {p : Addr × Obj} (hp : p ∈ putAt l o nx) : ∃ q ∈ nx, q.1 = p.1 := by
  obtain ⟨q, hq, e⟩ := List.mem_map.mp hp
  refine ⟨q, hq, ?_⟩
  by_cases h : q.1 = l
  · rw [if_pos h] at e; rw [← e]; exact h
  · rw [if_neg h] at e; rw [e]
theorem newsPutAt {h₀ h h' : Heap} {L l : Addr} {o o' : Obj} {nx : Led} (N : News h₀ L h nx) (hm : (l, o) ∈ nx) (hs : Heap.SameBut l h h') (ho : h'.get? l = some o') : News h₀ L h' (putAt l o' nx) := by
  intro p hp
  obtain ⟨q, hq, e⟩ := List.mem_map.mp hp
  by_cases h : q.1 = l
  · rw [if_pos h] at e
    rw [← e]
    exact ⟨ho, (N _ hm).2⟩
  · rw [if_neg h] at e
    subst e
    exact ⟨(hs.2 _ h).trans (N _ hq).1, (N _ hq).2⟩
theorem LsAt.put {nx : Led} {l : Addr} {vs vs' : List Value} {o' : Obj} (x : LsAt nx l vs) (h : IsLs o' vs') : LsAt (putAt l o' nx) l vs' := let ⟨_, hm, _⟩ := x; ⟨o', putAt_self hm, h⟩
theorem LsAt.other {nx : Led} {l a : Addr} {vs : List Value} {o' : Obj} (x : LsAt nx a vs) (hn : a ≠ l) : LsAt (putAt l o' nx) a vs := let ⟨o, hm, r⟩ := x; ⟨o, putAt_other hm hn, r⟩
theorem TpAt.other {nx : Led} {l a : Addr} {vs : List Value} {o' : Obj} (x : TpAt nx a vs) (hn : a ≠ l) : TpAt (putAt l o' nx) a vs := let ⟨o, hm, r⟩ := x; ⟨o, putAt_other hm hn, r⟩

section
variable {prog : Program} {w : World} {A : Around} {E : Value → Shared → Prop} {s : Shared} {h₀ : Heap} {L l : Addr} {m : Str → Option Value} {nx : Led} {vs : List Value}

theorem ls_get {value slice : PySem.Expr} {i : Int} {k : Nat} {u : Tok} {v : Value} {Q : Value → Shared → Prop} (N : News h₀ L s.heap nx) (hl : LsAt nx l vs) (hi : i = (k : Int)) (hb : k < 1000) (hv : vs[k]? = some v) (h : Q v s)
    (hs : subscripted slice false (.ref l) (.int i u) = operate [.ref l, .int i u] (getItem (.ref l) (.int i u)) := by with_unfolding_all rfl) :
    wpAny (model prog w) A (subscriptTail value slice (.ref l) (.int i u)) Q E s := by
  subst hi
  have hL := hl.isList N
  exact tail_any hL.typeIs slot_list_getitem.lookup (wpAny_getItem_list hL (by omega) (by omega) (by simpa using hv) h) hs

theorem ls_getNeg {value slice : PySem.Expr} {i : Int} {j : Nat} {u : Tok} {v : Value} {Q : Value → Shared → Prop} (N : News h₀ L s.heap nx) (hl : LsAt nx l vs) (hi : i = -(j : Int)) (hj : 0 < j) (hk : j ≤ vs.length) (hb : vs.length < 1000) (hv : vs[vs.length - j]? = some v) (h : Q v s)
    (hs : subscripted slice false (.ref l) (.int i u) = operate [.ref l, .int i u] (getItem (.ref l) (.int i u)) := by with_unfolding_all rfl) :
    wpAny (model prog w) A (subscriptTail value slice (.ref l) (.int i u)) Q E s := by
  subst hi
  have hL := hl.isList N
  refine tail_any hL.typeIs slot_list_getitem.lookup (wpAny_getItem_list_neg hL (by omega) (by simp; omega) (by omega) ?_ h) hs
  have e : (-(j : Int) + (vs.toArray.size : Int)).toNat = vs.length - j := by simp; omega
  rw [e]; simpa using hv

theorem ls_set {i : Int} {k : Nat} {t : Tok} {v : Value} {Q : Unit → Shared → Prop} (F : Fr h₀ L s.heap m) (N : News h₀ L s.heap nx) (hl : LsAt nx l vs) (hi : i = (k : Int)) (hb : k < 1000) (hk : k < vs.length)
    (h : ∀ h' o', Fr h₀ L h' m → News h₀ L h' (putAt l o' nx) → IsLs o' (vs.set k v) → Q () { s with heap := h' }) : wpAny (model prog w) A (setItem (.ref l) (.int i t) v) Q E s := by
  subst hi
  obtain ⟨o, hm, n, e⟩ := hl
  subst e
  have ho := (N _ hm).1
  have hs : Heap.SameBut l s.heap (s.heap.update l (Obj.mapSeq (·.setIfInBounds (k : Int).toNat v))) := Heap.SameBut.update ..
  have e2 : Obj.mapSeq (·.setIfInBounds (k : Int).toNat v) (listOf vs.toArray n) = listOf (vs.set k v).toArray n := by
    simp [Obj.mapSeq, W.listOf]
  refine ki_setAt ho (by omega) (by omega) (by simp; omega) (h _ (listOf (vs.set k v).toArray n) (frBut F hs.extBut (N _ hm).2.1 (N _ hm).2.2) (newsPutAt N hm hs ?_) ⟨n, rfl⟩)
  rw [Heap.get?_update_self _ ho (by rw [e2]; rfl), e2]

theorem ls_append {v : Value} {Q : Value → Shared → Prop} (F : Fr h₀ L s.heap m) (N : News h₀ L s.heap nx) (hl : LsAt nx l vs) (hb : vs.length ≤ 1000)
    (h : ∀ h' o', Fr h₀ L h' m → News h₀ L h' (putAt l o' nx) → IsLs o' (vs ++ [v]) → Q .none { s with heap := h' }) : wpAny (model prog w) A (call (.builtin "list.append") [.ref l, v]) Q E s := by
  obtain ⟨o, hm, n, e⟩ := hl
  subst e
  refine wpAny_list_append_plain ⟨n, (N _ hm).1⟩ (fun h' ⟨n', e'⟩ hs => h h' _ (frBut F hs.extBut (N _ hm).2.1 (N _ hm).2.2) (newsPutAt N hm hs e') ⟨n', by simp [W.listOf]⟩) (by rw [sizeLine_eq]; simp; omega)
theorem ls_pop {v : Value} {Q : Value → Shared → Prop} (F : Fr h₀ L s.heap m) (N : News h₀ L s.heap nx) (hl : LsAt nx l (vs ++ [v])) (hb : vs.length ≤ 1000)
    (h : ∀ h' o', Fr h₀ L h' m → News h₀ L h' (putAt l o' nx) → IsLs o' vs → Q v { s with heap := h' }) : wpAny (model prog w) A (call (.builtin "list.pop") [.ref l]) Q E s := by
  obtain ⟨o, hm, n, e⟩ := hl
  subst e
  refine call_meets PySem.F.slot_list_pop ⟨_, (N _ hm).1, rfl⟩ PySem.F.entry_list_pop (PySem.F.args_list_pop_1 _) (PySem.MeetsSeq.list_pop_last l _ n v (by simp) (by rw [sizeLine_eq]; simp; omega)) ⟨(N _ hm).1, ?_⟩
  have hs : Heap.SameBut l s.heap (s.heap.update l (Obj.mapSeq fun xs => xs.eraseIdxIfInBounds ((vs ++ [v]).toArray.size - 1))) := Heap.SameBut.update ..
  have e2 : Obj.mapSeq (fun xs => xs.eraseIdxIfInBounds ((vs ++ [v]).toArray.size - 1)) (listOf (vs ++ [v]).toArray n) = listOf vs.toArray (n + 1) := by
    have e3 : (vs ++ [v]).toArray.eraseIdxIfInBounds ((vs ++ [v]).toArray.size - 1) = vs.toArray := by
      have := kl_erase vs [] v
      simpa using this
    simp only [Obj.mapSeq, W.listOf, e3]
    simp
  refine h _ (listOf vs.toArray (n + 1)) (frBut F hs.extBut (N _ hm).2.1 (N _ hm).2.2) (newsPutAt N hm hs ?_) ⟨n + 1, rfl⟩
  rw [Heap.get?_update_self _ (N _ hm).1 (by rw [e2]; rfl), e2]
theorem ls_popM {pl : Sem Bool} {Q : Value × List Value → Shared → Prop} (N : News h₀ L s.heap nx) (hl : LsAt nx l vs) (h : Q (.builtin "list.pop", [.ref l]) s) : wpAny (model prog w) A (getMethod (.ref l) "pop" pl) Q E s := by
  obtain ⟨n, e⟩ := hl.at N
  exact getMethod_builtin ⟨_, e, rfl⟩ PySem.F.plainAttrs_list PySem.F.slot_list_pop PySem.F.type_list_pop (fun a e2 => by cases e2; exact ⟨_, e, rfl⟩) h
theorem ls_appendM {pl : Sem Bool} {Q : Value × List Value → Shared → Prop} (N : News h₀ L s.heap nx) (hl : LsAt nx l vs) (h : Q (.builtin "list.append", [.ref l]) s) : wpAny (model prog w) A (getMethod (.ref l) "append" pl) Q E s := by
  obtain ⟨n, e⟩ := hl.at N
  exact PySem.Calls.getMethod_list_append e rfl rfl h
theorem rg_three {a b c : Int} {t u v : Tok} {Q : Value → Shared → Prop} (F : Fr h₀ L s.heap m) (N : News h₀ L s.heap nx) (hc : c ≠ 0) (hs : c.natAbs < 1000)
    (h : ∀ r h' tk', Fr h₀ L h' m → News h₀ L h' ((r, rgO a b c t u v) :: nx) → (∀ p ∈ nx, p.1 < r) → Q (.ref r) { s with heap := h', toks := tk' }) : wpAny (model prog w) A (call (.type "range") [.int a t, .int b u, .int c v]) Q E s :=
  PySem.call_range_3 hc (h _ _ _ (F.push _) (N.push F _) fun p hp => newsLt N p hp) (Or.inl (PyProof.noPylong_small (by omega)))

theorem IntsAre.mk' : ∀ {vs : List Value} {ns : List Int}, vs.length = ns.length → (∀ (k : Nat) (v : Value), vs[k]? = some v → ∃ t, v = .int (ns.getD k 0) t) → IntsAre vs ns
  | [], [], _, _ => .nil
  | v :: vs, n :: ns, hl, h => by
    obtain ⟨t, ht⟩ := h 0 v rfl
    have hv : v = .int n t := by simpa using ht
    rw [hv]
    refine .cons n t (IntsAre.mk' (by simpa using hl) fun k w hk => ?_)
    have := h (k + 1) w (by simpa using hk)
    simpa using this
theorem ls_range {r : Addr} {a b c : Int} {t u v : Tok} {n : Nat} {Q : Value → Shared → Prop} (hh : A.handled = none) (F : Fr h₀ L s.heap m) (N : News h₀ L s.heap nx) (hr : (r, rgO a b c t u v) ∈ nx)
    (hsmall : Builtin.Range.small a b c = true) (hn : Builtin.Range.rangeSize a b c = n) (hlen : n ≤ 1000)
    (h : ∀ D vs h' tk', Fr h₀ L h' m → (∃ o, IsLs o vs ∧ News h₀ L h' ((D, o) :: nx)) → (∀ p ∈ nx, p.1 < D) → IntsAre vs ((List.range n).map fun (i : Nat) => a + i * c) → Q (.ref D) { s with heap := h', toks := tk' }) :
    wpAny (model prog w) A (call (.type "list") [.ref r]) Q E s := by
  refine call_list_range hh (N _ hr).1 hsmall hn (by omega) fun h' tk acc c' hk hD hI => ?_
  refine h _ acc.toList h' tk (F.keeps hk) ⟨listOf acc c', ⟨c', by simp [W.listOf]⟩, fun p hp => ?_⟩ (fun p hp => newsLt N p hp) ?_
  · rcases List.mem_cons.mp hp with rfl | hp
    · exact ⟨by simpa using hD, Nat.ne_of_gt F.ns.lt, Heap.get?_none_of_le (Nat.le_trans F.above (Nat.le_of_lt F.ns.lt))⟩
    · exact ⟨hk _ _ (N p hp).1, (N p hp).2⟩
  · refine IntsAre.mk' (by simpa using hI.1) fun k v hk => ?_
    have hlt : k < n := by
      have := (Array.getElem?_eq_some_iff.mp (by simpa using hk : acc[k]? = some v)).1
      rw [hI.1] at this; exact this
    obtain ⟨t, ht⟩ := hI.2 k v (by simpa using hk)
    refine ⟨t, ?_⟩
    rw [ht]
    simp [hlt]
def offIt (it : Addr) (nx : Led) : Led := nx.filter fun p => decide (p.1 ≠ it)
theorem off_mem {it : Addr} {p : Addr × Obj} (hp : p ∈ nx) (hn : p.1 ≠ it) : p ∈ offIt it nx := List.mem_filter.mpr ⟨hp, by simpa using hn⟩
theorem off_sub {it : Addr} {p : Addr × Obj} (hp : p ∈ offIt it nx) : p ∈ nx := (List.mem_filter.mp hp).1
theorem off_ne {it : Addr} : ∀ p ∈ offIt it nx, p.1 ≠ it := fun p hp => by simpa using (List.mem_filter.mp hp).2
theorem LsAt.off {it : Addr} (x : LsAt nx l vs) (hn : l ≠ it) : LsAt (offIt it nx) l vs := let ⟨o, hm, r⟩ := x; ⟨o, off_mem hm hn, r⟩
theorem TpAt.off {it : Addr} (x : TpAt nx l vs) (hn : l ≠ it) : TpAt (offIt it nx) l vs := let ⟨o, hm, r⟩ := x; ⟨o, off_mem hm hn, r⟩
theorem ForStep.mk2 {it : Addr} {oi : Obj} {J : (Str → Option Value) → List (Addr × Obj) → Prop} {h' : Heap} {tk : Nat} {m₂ : Str → Option Value} {Q : Flow → Shared → Prop}
    (F : Fr h₀ L h' m₂) (N : News h₀ L h' nx) (hm : (it, oi) ∈ nx) (hJ : J m₂ (offIt it nx)) : ForStep h₀ L s it oi J Q .next { s with heap := h', toks := tk } :=
  ForStep.mk F (newsSub N fun q hq => by rcases List.mem_cons.mp hq with rfl | hq; exact hm; exact off_sub hq) off_ne hJ
theorem min_I {a b : Int} {t u : Tok} {Q : Value → Shared → Prop} (hh : A.handled = none) (F : Fr h₀ L s.heap m) (N : News h₀ L s.heap nx)
    (h : ∀ h' t' tk, Fr h₀ L h' m → News h₀ L h' nx → Q (.int (min a b) t') { s with heap := h', toks := tk }) : wpAny (model prog w) A (call (.builtin "min") [.int a t, .int b u]) Q E s :=
  min_two_N hh F N fun h' tk F' N' => by
    have e : (if b < a then b else a) = min a b := by omega
    rw [e]; exact h h' _ tk F' N'
theorem min3_I {a b c : Int} {t u x : Tok} {Q : Value → Shared → Prop} (hh : A.handled = none) (F : Fr h₀ L s.heap m) (N : News h₀ L s.heap nx)
    (h : ∀ h' t' tk, Fr h₀ L h' m → News h₀ L h' nx → Q (.int (min (min a b) c) t') { s with heap := h', toks := tk }) : wpAny (model prog w) A (call (.builtin "min") [.int a t, .int b u, .int c x]) Q E s := by
  refine min_three_ints hh fun h' tk hk => ?_
  have key := fun t' => h h' t' tk (F.grownK hk) (N.grown hk)
  by_cases hba : b < a <;> by_cases hc1 : c < b <;> by_cases hc2 : c < a <;> simp only [hba, hc1, hc2, if_true, if_false] <;>
    first
    | (have e : min (min a b) c = a := by omega
       rw [e] at key; exact key _)
    | (have e : min (min a b) c = b := by omega
       rw [e] at key; exact key _)
    | (have e : min (min a b) c = c := by omega
       rw [e] at key; exact key _)
end

section
variable {prog : Program} {w : World} {A : Around} {E : Value → Shared → Prop} {s : Shared} {env : Env} {h₀ : Heap} {L : Addr} {m : Str → Option Value}

theorem compEnd_mono {I : Addr} {oI : Obj} {C : Addr} {oC : Obj} {D : Addr} {oD : Obj} {S : Led → Prop} {R R' : Value → Led → Prop} {y : Value} {s₁ s₂ : Shared} (h : LCg.CompEnd h₀ L m s₁ I oI C oC D oD S R y s₂) (hr : ∀ nx, R y nx → R' y nx) :
    LCg.CompEnd h₀ L m s₁ I oI C oC D oD S R' y s₂ := let ⟨h', tk, nx, e, F, N, o, hS, r⟩ := h; ⟨h', tk, nx, e, F, N, o, hS, hr _ r⟩

theorem off1_mem {D : Addr} : ∀ {l : Led}, LCg.Off1 D l → ∀ p ∈ l, p.1 ≠ D := by
  intro l
  induction l with
  | nil => intro _ p hp; cases hp
  | cons q r ih =>
    intro x p hp
    rcases List.mem_cons.mp hp with rfl | hp
    · exact x.1
    · exact ih x.2 p hp

theorem restU {elt : PySem.Expr} {x : Str} {scope : Scope} {cl : List (Str × Addr)} {S : Led → Prop} {P : Nat → Value → Prop} {Fin : List Value → Led → Prop} {n : Nat} (J : Nat → List Value → Led → Prop)
    (turn : ∀ i v ys nx I oI C oC D m₂ h tk (E' : Value → Shared → Prop), i < n → P i v → J i ys nx → LCg.NsObj oC m₂ → m₂ x = some v → Fr h₀ L h m → News h₀ L h ((I, oI) :: (C, oC) :: (D, LCg.lst ys) :: nx) → LCg.Off3 I C D nx → ((@Ne Nat I C) ∧ (@Ne Nat I D) ∧ (@Ne Nat C D)) →
      wpAny (model prog w) A (eval elt (compEnvC scope cl C env)) (LCg.CompEnd h₀ L m { s with heap := h, toks := tk } I oI C oC D (LCg.lst ys) S (fun y nx' => J (i + 1) (ys ++ [y]) nx')) E' { s with heap := h, toks := tk })
    (fin : ∀ ys nx, J n ys nx → Fin ys nx) : ∀ k i ys nx, i + k = n → J i ys nx → LCg.CompRest prog w A h₀ L m env elt x scope cl s S P Fin k i ys nx := by
  intro k
  induction k with
  | zero => intro i ys nx e hJ; exact LCg.CompRest.zero (fin ys nx (by rw [← e]; exact hJ))
  | succ k ih =>
    intro i ys nx e hJ
    refine LCg.CompRest.succ fun v I oI C oC D m₂ h tk E' hP hC hx F N off ne => ?_
    exact wpAny_mono (turn i v ys nx I oI C oC D m₂ h tk E' (by omega) hP hJ hC hx F N off ne) (fun y s' hy => compEnd_mono hy fun nx' hj => ih (i + 1) (ys ++ [y]) nx' (by omega) hj) fun _ _ e => e

theorem restT {ct elt : PySem.Expr} {x : Str} {scope : Scope} {cl : List (Str × Addr)} {S : Led → Prop} {P : Nat → Value → Prop} {Fin : List Value → Led → Prop} {n : Nat} (J : Nat → List Value → Led → Prop)
    (turn : ∀ i v ys nx I oI C oC D m₂ h tk (E' : Value → Shared → Prop), i < n → P i v → J i ys nx → LCg.NsObj oC m₂ → m₂ x = some v → Fr h₀ L h m → News h₀ L h ((I, oI) :: (C, oC) :: (D, LCg.lst ys) :: nx) → LCg.Off3 I C D nx → ((@Ne Nat I C) ∧ (@Ne Nat I D) ∧ (@Ne Nat C D)) →
      wpAny (model prog w) A (isTrue ct (compEnvC scope cl C env) (eval ct (compEnvC scope cl C env))) (fun ok s' => TurnIf ok
        (wpAny (model prog w) A (eval elt (compEnvC scope cl C env)) (LCg.CompEnd h₀ L m { s with heap := h, toks := tk } I oI C oC D (LCg.lst ys) S (fun y nx' => J (i + 1) (ys ++ [y]) nx')) E' s')
        (LCg.CompEnd h₀ L m { s with heap := h, toks := tk } I oI C oC D (LCg.lst ys) S (fun _ nx' => J (i + 1) ys nx') Value.none s')) E' { s with heap := h, toks := tk })
    (fin : ∀ ys nx, J n ys nx → Fin ys nx) : ∀ k i ys nx, i + k = n → J i ys nx → LCt.CompRestT prog w A h₀ L m env ct elt x scope cl s S P Fin k i ys nx := by
  intro k
  induction k with
  | zero => intro i ys nx e hJ; exact LCt.CompRestT.zero (fin ys nx (by rw [← e]; exact hJ))
  | succ k ih =>
    intro i ys nx e hJ
    refine LCt.CompRestT.succ fun v I oI C oC D m₂ h tk E' hP hC hx F N off ne => ?_
    refine wpAny_mono (turn i v ys nx I oI C oC D m₂ h tk E' (by omega) hP hJ hC hx F N off ne) (fun ok s' hok => ?_) fun _ _ e => e
    cases ok with
    | true =>
      rw [if_pos rfl]
      exact wpAny_mono (TurnIf.ot hok) (fun y s' hy => compEnd_mono hy fun nx' hj => ih (i + 1) (ys ++ [y]) nx' (by omega) hj) fun _ _ e => e
    | false =>
      rw [if_neg (by decide)]
      exact compEnd_mono (TurnIf.of hok) fun nx' hj => ih (i + 1) ys nx' (by omega) hj

theorem comp_rangeU {elt iter : PySem.Expr} {x : Str} {px : Pos} {scope : Scope} {cl : List (Str × Addr)} {pos : Pos} {Q : Value → Shared → Prop} {a : Int} {n : Nat} (F₀ : Fr h₀ L s.heap m) (J : Nat → List Value → Led → Prop)
    (hclos : closureFor scope env = pure cl) (hcell : ∀ y ∈ scope.names, y.2 ≠ .cell) (hkind : scope.kind = .function) (hnames : ∀ y ∈ scope.names, y.2 = .local → scope.names.lookup y.1 = some .local) (hx : scope.names.lookup x = some .local) (hh : A.handled = none) (hn : n ≤ 1000)
    (start : wpAny (model prog w) A (eval iter env) (RgStart h₀ L s a n (fun m' nx => m' = m ∧ J 0 [] nx)) E s)
    (turn : ∀ i t ys nx I oI C oC D m₂ h tk (E' : Value → Shared → Prop), i < n → J i ys nx → LCg.NsObj oC m₂ → m₂ x = some (.int (a + (i : Nat)) t) → Fr h₀ L h m → News h₀ L h ((I, oI) :: (C, oC) :: (D, LCg.lst ys) :: nx) → LCg.Off3 I C D nx → ((@Ne Nat I C) ∧ (@Ne Nat I D) ∧ (@Ne Nat C D)) →
      wpAny (model prog w) A (eval elt (compEnvC scope cl C env)) (LCg.CompEnd h₀ L m { s with heap := h, toks := tk } I oI C oC D (LCg.lst ys) (fun _ => True) (fun y nx' => J (i + 1) (ys ++ [y]) nx')) E' { s with heap := h, toks := tk })
    (done : ∀ D ys nx h tk, J n ys nx → Fr h₀ L h m → News h₀ L h ((D, LCg.lst ys) :: nx) → (∀ p ∈ nx, p.1 ≠ D) → Q (.ref D) { s with heap := h, toks := tk })
    (hs : ∀ x, foldedSetIterable iter env x = pure x := by intro _; rfl) :
    wpAny (model prog w) A (eval (.ListComp elt [⟨.Name x px, iter, [], 0⟩] scope pos) env) Q E s := by
  refine LCg.ListComp_U F₀ hclos hcell hkind hnames hx (wpAny_mono start (fun v s₁ h₁ => ?_) fun _ _ e => e) hs
  obtain ⟨r, b, t, u, y, rfl, ⟨h, tk, rfl⟩, m', nx, F, N, hr, hsm, hsz, hm', h0⟩ := h₁
  rw [hm'] at F
  refine LCg.CompSrc.range hh F N hr hsm hsz (by rw [sizeLine_eq]; omega) fun g => ?_
  refine restU (s := { s with heap := g, toks := tk }) (P := fun i v => ∃ t, v = .int (a + (i : Int)) t) (Fin := LCg.FinE h₀ L m { s with heap := g, toks := tk } Q) J ?turn ?fin n 0 [] nx (Nat.zero_add n) h0
  case turn =>
    rintro i v ys nx I oI C oC D m₂ h tk E' hi ⟨t, rfl⟩ hJ hC hx F N off ne
    exact turn i t ys nx I oI C oC D m₂ h tk E' hi hJ hC hx F N off ne
  case fin =>
    intro ys nx hJ D h tk F N off
    exact done D ys nx h tk hJ F N (off1_mem off)
theorem comp_rangeT {ct elt iter : PySem.Expr} {x : Str} {px : Pos} {scope : Scope} {cl : List (Str × Addr)} {pos : Pos} {Q : Value → Shared → Prop} {a : Int} {n : Nat} (F₀ : Fr h₀ L s.heap m) (J : Nat → List Value → Led → Prop)
    (hclos : closureFor scope env = pure cl) (hcell : ∀ y ∈ scope.names, y.2 ≠ .cell) (hkind : scope.kind = .function) (hnames : ∀ y ∈ scope.names, y.2 = .local → scope.names.lookup y.1 = some .local) (hx : scope.names.lookup x = some .local) (hh : A.handled = none) (hn : n ≤ 1000)
    (start : wpAny (model prog w) A (eval iter env) (RgStart h₀ L s a n (fun m' nx => m' = m ∧ J 0 [] nx)) E s)
    (turn : ∀ i t ys nx I oI C oC D m₂ h tk (E' : Value → Shared → Prop), i < n → J i ys nx → LCg.NsObj oC m₂ → m₂ x = some (.int (a + (i : Nat)) t) → Fr h₀ L h m → News h₀ L h ((I, oI) :: (C, oC) :: (D, LCg.lst ys) :: nx) → LCg.Off3 I C D nx → ((@Ne Nat I C) ∧ (@Ne Nat I D) ∧ (@Ne Nat C D)) →
      wpAny (model prog w) A (isTrue ct (compEnvC scope cl C env) (eval ct (compEnvC scope cl C env))) (fun ok s' => TurnIf ok
        (wpAny (model prog w) A (eval elt (compEnvC scope cl C env)) (LCg.CompEnd h₀ L m { s with heap := h, toks := tk } I oI C oC D (LCg.lst ys) (fun _ => True) (fun y nx' => J (i + 1) (ys ++ [y]) nx')) E' s')
        (LCg.CompEnd h₀ L m { s with heap := h, toks := tk } I oI C oC D (LCg.lst ys) (fun _ => True) (fun _ nx' => J (i + 1) ys nx') Value.none s')) E' { s with heap := h, toks := tk })
    (done : ∀ D ys nx h tk, J n ys nx → Fr h₀ L h m → News h₀ L h ((D, LCg.lst ys) :: nx) → (∀ p ∈ nx, p.1 ≠ D) → Q (.ref D) { s with heap := h, toks := tk })
    (hs : ∀ x, foldedSetIterable iter env x = pure x := by intro _; rfl) :
    wpAny (model prog w) A (eval (.ListComp elt [⟨.Name x px, iter, [ct], 0⟩] scope pos) env) Q E s := by
  refine LCt.ListComp_T F₀ hclos hcell hkind hnames hx (wpAny_mono start (fun v s₁ h₁ => ?_) fun _ _ e => e) hs
  obtain ⟨r, b, t, u, y, rfl, ⟨h, tk, rfl⟩, m', nx, F, N, hr, hsm, hsz, hm', h0⟩ := h₁
  rw [hm'] at F
  refine LCt.CompSrcT.range hh F N hr hsm hsz (by rw [sizeLine_eq]; omega) fun g => ?_
  refine restT (s := { s with heap := g, toks := tk }) (P := fun i v => ∃ t, v = .int (a + (i : Int)) t) (Fin := LCg.FinE h₀ L m { s with heap := g, toks := tk } Q) J ?turn ?fin n 0 [] nx (Nat.zero_add n) h0
  case turn =>
    rintro i v ys nx I oI C oC D m₂ h tk E' hi ⟨t, rfl⟩ hJ hC hx F N off ne
    exact turn i t ys nx I oI C oC D m₂ h tk E' hi hJ hC hx F N off ne
  case fin =>
    intro ys nx hJ D h tk F N off
    exact done D ys nx h tk hJ F N (off1_mem off)
theorem comp_listT {ct elt iter : PySem.Expr} {x : Str} {px : Pos} {scope : Scope} {cl : List (Str × Addr)} {pos : Pos} {Q : Value → Shared → Prop} {l : Addr} {vs : List Value} (F₀ : Fr h₀ L s.heap m) (J : Nat → List Value → Led → Prop)
    (hclos : closureFor scope env = pure cl) (hcell : ∀ y ∈ scope.names, y.2 ≠ .cell) (hkind : scope.kind = .function) (hnames : ∀ y ∈ scope.names, y.2 = .local → scope.names.lookup y.1 = some .local) (hx : scope.names.lookup x = some .local) (hh : A.handled = none) (hn : vs.length ≤ 1000)
    (start : wpAny (model prog w) A (eval iter env) (LsStart h₀ L s l vs (fun m' nx => m' = m ∧ J 0 [] nx)) E s)
    (turn : ∀ i v ys nx I oI C oC D m₂ h tk (E' : Value → Shared → Prop), vs[i]? = some v → J i ys nx → LsAt nx l vs → LCg.NsObj oC m₂ → m₂ x = some v → Fr h₀ L h m → News h₀ L h ((I, oI) :: (C, oC) :: (D, LCg.lst ys) :: nx) → LCg.Off3 I C D nx → ((@Ne Nat I C) ∧ (@Ne Nat I D) ∧ (@Ne Nat C D)) →
      wpAny (model prog w) A (isTrue ct (compEnvC scope cl C env) (eval ct (compEnvC scope cl C env))) (fun ok s' => TurnIf ok
        (wpAny (model prog w) A (eval elt (compEnvC scope cl C env)) (LCg.CompEnd h₀ L m { s with heap := h, toks := tk } I oI C oC D (LCg.lst ys) (fun nx => LsAt nx l vs) (fun y nx' => J (i + 1) (ys ++ [y]) nx')) E' s')
        (LCg.CompEnd h₀ L m { s with heap := h, toks := tk } I oI C oC D (LCg.lst ys) (fun nx => LsAt nx l vs) (fun _ nx' => J (i + 1) ys nx') Value.none s')) E' { s with heap := h, toks := tk })
    (done : ∀ D ys nx h tk, J vs.length ys nx → LsAt nx l vs → Fr h₀ L h m → News h₀ L h ((D, LCg.lst ys) :: nx) → (∀ p ∈ nx, p.1 ≠ D) → Q (.ref D) { s with heap := h, toks := tk })
    (hs : ∀ x, foldedSetIterable iter env x = pure x := by intro _; rfl) :
    wpAny (model prog w) A (eval (.ListComp elt [⟨.Name x px, iter, [ct], 0⟩] scope pos) env) Q E s := by
  refine LCt.ListComp_T F₀ hclos hcell hkind hnames hx (wpAny_mono start (fun v s₁ h₁ => ?_) fun _ _ e => e) hs
  obtain ⟨rfl, ⟨h, tk, rfl⟩, m', nx, F, N, hl, hm', h0⟩ := h₁
  rw [hm'] at F
  obtain ⟨o, ho, k, hd⟩ := id hl
  refine .inl ⟨l, vs.toArray, nx, rfl, hh, F, N, .inr ⟨o, ho, by rw [hd], k, by rw [hd]⟩, by rw [sizeLine_eq]; simp; omega, fun s₂ ⟨g, e⟩ => ?_⟩
  subst e
  have hS' : ∀ nx : Led, LsAt nx l vs → LCg.SrcAt h₀ l vs.toArray nx := fun nx ⟨o', hm, n', hd'⟩ => .inr ⟨o', hm, by rw [hd'], n', by rw [hd']⟩
  have key := restT (prog := prog) (w := w) (A := A) (h₀ := h₀) (L := L) (m := m) (env := env) (ct := ct) (elt := elt) (x := x) (scope := scope) (cl := cl) (s := { s with heap := g, toks := tk }) (S := LCg.SrcAt h₀ l vs.toArray) (P := fun i v => vs.toArray[i]? = some v) (Fin := LCg.FinE h₀ L m { s with heap := g, toks := tk } Q) (n := vs.length) (fun i ys nx => J i ys nx ∧ LsAt nx l vs) ?turn ?fin vs.length 0 [] nx (Nat.zero_add _) ⟨h0, hl⟩
  case turn =>
    rintro i v ys nx I oI C oC D m₂ h tk E' hi hP ⟨hJ, hl⟩ hC hx F N off ne
    refine wpAny_mono (turn i v ys nx I oI C oC D m₂ h tk E' (by simpa using hP) hJ hl hC hx F N off ne) (fun ok s' hok => ?_) fun _ _ e => e
    have up : ∀ (R R' : Value → Led → Prop) (y : Value) (s₂ : Shared), (∀ nx, LsAt nx l vs → R y nx → R' y nx) → LCg.CompEnd h₀ L m { s with heap := h, toks := tk } I oI C oC D (LCg.lst ys) (fun nx => LsAt nx l vs) R y s₂ → LCg.CompEnd h₀ L m { s with heap := h, toks := tk } I oI C oC D (LCg.lst ys) (LCg.SrcAt h₀ l vs.toArray) R' y s₂ := by
      rintro R R' y s₂ hr ⟨h', tk', nx', e, F', N', o', l', r⟩
      exact ⟨h', tk', nx', e, F', N', o', hS' _ l', hr _ l' r⟩
    cases ok with
    | true => exact TurnIf.t (wpAny_mono (TurnIf.ot hok) (fun y s' hy => up _ _ _ _ (fun nx l' r => ⟨r, l'⟩) hy) fun _ _ e => e)
    | false => exact TurnIf.f (up _ _ _ _ (fun nx l' r => ⟨r, l'⟩) (TurnIf.of hok))
  case fin =>
    rintro ys nx ⟨hJ, hl⟩ D h tk F N off
    exact done D ys nx h tk hJ hl F N (off1_mem off)
  simpa using key
end

section
variable {α : Type}
/-- an item (a structure, lest `assumption` look into it) -/
structure At (a : List α) (k : Nat) (x : α) : Prop where
  e : a[k]? = some x
theorem At.get {a : List α} {k : Nat} (h : k < a.length) : ∃ y, At a k y := ⟨a[k], ⟨List.getElem?_eq_getElem h⟩⟩
/-- what a heap's order needs -/
structure Ord (lt : α → α → Bool) : Prop where
  asym : ∀ x y, lt x y = true → lt y x = false
  le : ∀ x y z, lt y x = false → lt z y = false → lt z x = false
variable {lt : α → α → Bool}
theorem Ord.refl (O : Ord lt) (x : α) : lt x x = false := by
  cases h : lt x x with
  | false => rfl
  | true => have := O.asym x x h; rw [h] at this; exact this
def HOk (lt : α → α → Bool) (a : List α) : Prop := ∀ k x y, 1 ≤ k → a[k]? = some x → a[(k - 1) / 2]? = some y → lt x y = false
def SD (lt : α → α → Bool) (a : List α) (pos : Nat) : Prop :=
  (∀ k x y, 1 ≤ k → k ≠ pos → a[k]? = some x → a[(k - 1) / 2]? = some y → lt x y = false) ∧
  (∀ k x y, 1 ≤ k → (k - 1) / 2 = pos → 1 ≤ pos → a[k]? = some x → a[(pos - 1) / 2]? = some y → lt x y = false)
def SU (lt : α → α → Bool) (a : List α) (pos : Nat) : Prop :=
  (∀ k x y, 1 ≤ k → k ≠ pos → (k - 1) / 2 ≠ pos → a[k]? = some x → a[(k - 1) / 2]? = some y → lt x y = false) ∧
  (∀ k x y, 1 ≤ k → (k - 1) / 2 = pos → 1 ≤ pos → a[k]? = some x → a[(pos - 1) / 2]? = some y → lt x y = false)

theorem set_at {a : List α} {i : Nat} {x y : α} (h : a[i]? = some y) : (a.set i x)[i]? = some x := by
  have := (List.getElem?_eq_some_iff.mp h).1
  simp [this]
theorem set_off {a : List α} {i k : Nat} {x : α} (h : k ≠ i) : (a.set i x)[k]? = a[k]? := by
  rw [List.getElem?_set_ne]; omega
theorem sw_j {a : List α} {i j : Nat} {x y z : α} (hj : a[j]? = some z) : ((a.set i y).set j x)[j]? = some x := by
  have h := (List.getElem?_eq_some_iff.mp hj).1
  simp [h]
theorem sw_i {a : List α} {i j : Nat} {x y z : α} (hi : a[i]? = some z) (hne : i ≠ j) : ((a.set i y).set j x)[i]? = some y := by
  rw [set_off hne]; exact set_at hi
theorem sw_o {a : List α} {i j k : Nat} {x y : α} (h1 : k ≠ i) (h2 : k ≠ j) : ((a.set i y).set j x)[k]? = a[k]? := by
  rw [set_off h2, set_off h1]

theorem SD.done0 {a : List α} (h : SD lt a 0) : HOk lt a := fun k x y hk hx hy => h.1 k x y hk (by omega) hx hy
theorem SD.done {a : List α} {pos : Nat} (h : SD lt a pos) {x y : α} (hx : a[pos]? = some x) (hy : a[(pos - 1) / 2]? = some y) (hlt : lt x y = false) : HOk lt a := fun k x' y' hk hx' hy' => by
  by_cases e : k = pos
  · subst e
    rw [hx] at hx'; rw [hy] at hy'
    cases hx'; cases hy'
    exact hlt
  · exact h.1 k x' y' hk e hx' hy'
theorem SD.step (O : Ord lt) {a : List α} {pos : Nat} (h : SD lt a pos) (hp : 1 ≤ pos) {x y : α} (hx : a[pos]? = some x) (hy : a[(pos - 1) / 2]? = some y) (hlt : lt x y = true) :
    SD lt ((a.set pos y).set ((pos - 1) / 2) x) ((pos - 1) / 2) := by
  have hq : (pos - 1) / 2 ≠ pos := by omega
  refine ⟨fun k u v hk hkq hu hv => ?_, fun k u v hk hkq hq1 hu hv => ?_⟩
  · by_cases e : k = pos
    · subst e
      rw [sw_i hx (Ne.symm hq)] at hu
      rw [sw_j hy] at hv
      cases hu; cases hv
      exact O.asym _ _ hlt
    · rw [sw_o e hkq] at hu
      by_cases e2 : (k - 1) / 2 = pos
      · rw [e2, sw_i hx (Ne.symm hq)] at hv
        cases hv
        exact h.2 k u y hk e2 hp hu hy
      · by_cases e3 : (k - 1) / 2 = (pos - 1) / 2
        · rw [e3, sw_j hy] at hv
          cases hv
          exact O.le x y u (O.asym _ _ hlt) (h.1 k u y hk e hu (e3 ▸ hy))
        · rw [sw_o e2 e3] at hv
          exact h.1 k u v hk e hu hv
  · have hqq : ((pos - 1) / 2 - 1) / 2 ≠ (pos - 1) / 2 := by omega
    have hqp : ((pos - 1) / 2 - 1) / 2 ≠ pos := by omega
    rw [sw_o hqp hqq] at hv
    have hyv : lt y v = false := h.1 _ y v hq1 hq hy hv
    by_cases e : k = pos
    · subst e
      rw [sw_i hx (Ne.symm hq)] at hu
      cases hu
      exact hyv
    · have hkn : k ≠ (pos - 1) / 2 := by omega
      rw [sw_o e hkn] at hu
      exact O.le v y u hyv (h.1 k u y hk e hu (hkq ▸ hy))
theorem SU.step {a : List α} {pos c : Nat} (h : SU lt a pos) (hc : 1 ≤ c) (hcp : (c - 1) / 2 = pos) {x y : α} (hx : a[pos]? = some x) (hy : a[c]? = some y)
    (ho : ∀ k z, 1 ≤ k → (k - 1) / 2 = pos → a[k]? = some z → k ≠ c → lt z y = false) : SU lt ((a.set pos y).set c x) c := by
  have hne : pos ≠ c := by omega
  refine ⟨fun k u v hk hkc hkp hu hv => ?_, fun k u v hk hkc h1 hu hv => ?_⟩
  · by_cases e : k = pos
    · subst e
      rw [sw_i hx hne] at hu
      cases hu
      have h2 : (k - 1) / 2 ≠ k := by omega
      rw [sw_o h2 hkp] at hv
      exact h.2 c y v hc hcp hk hy hv
    · rw [sw_o e hkc] at hu
      by_cases e2 : (k - 1) / 2 = pos
      · rw [e2, sw_i hx hne] at hv
        cases hv
        exact ho k u hk e2 hu hkc
      · rw [sw_o e2 hkp] at hv
        exact h.1 k u v hk e e2 hu hv
  · have hkn : k ≠ pos := by omega
    have hkn2 : k ≠ c := by omega
    rw [sw_o hkn hkn2] at hu
    rw [hcp, sw_i hx hne] at hv
    cases hv
    exact h.1 k u y hk hkn (by omega) hu (hkc ▸ hy)
theorem SU.leaf {a : List α} {pos : Nat} (h : SU lt a pos) (hl : a.length ≤ 2 * pos + 1) : SD lt a pos := by
  refine ⟨fun k u v hk hkp hu hv => ?_, fun k u v hk hkp h1 hu hv => ?_⟩
  · have hlt := (List.getElem?_eq_some_iff.mp hu).1
    exact h.1 k u v hk hkp (by omega) hu hv
  · have hlt := (List.getElem?_eq_some_iff.mp hu).1
    omega
theorem SU.start {p : List α} {z : α} (h : HOk lt (p ++ [z])) : SU lt (p.set 0 z) 0 := by
  refine ⟨fun k u v hk hkp hq hu hv => ?_, fun k u v hk hkp h1 hu hv => by omega⟩
  rw [set_off hkp] at hu
  rw [set_off hq] at hv
  have a1 := (List.getElem?_eq_some_iff.mp hu).1
  have a2 := (List.getElem?_eq_some_iff.mp hv).1
  exact h k u v hk (by rw [List.getElem?_append_left a1]; exact hu) (by rw [List.getElem?_append_left a2]; exact hv)
theorem SD.push {p : List α} {z : α} (h : HOk lt p) : SD lt (p ++ [z]) p.length := by
  refine ⟨fun k u v hk hkp hu hv => ?_, fun k u v hk hkp h1 hu hv => ?_⟩
  · have a1 := (List.getElem?_eq_some_iff.mp hu).1
    rw [List.length_append, List.length_singleton] at a1
    rw [List.getElem?_append_left (by omega)] at hu hv
    exact h k u v hk hu hv
  · have a1 := (List.getElem?_eq_some_iff.mp hu).1
    rw [List.length_append, List.length_singleton] at a1
    omega
theorem HOk.min (O : Ord lt) {a : List α} (h : HOk lt a) {x : α} (h0 : a[0]? = some x) : ∀ (k : Nat) (y : α), a[k]? = some y → lt y x = false := by
  intro k
  induction k using Nat.strongRecOn with
  | ind k ih =>
    intro y hy
    by_cases e : k = 0
    · subst e
      rw [h0] at hy; cases hy
      exact O.refl x
    · have hlt := (List.getElem?_eq_some_iff.mp hy).1
      have hq : (k - 1) / 2 < a.length := by omega
      have hv : a[(k - 1) / 2]? = some a[(k - 1) / 2] := List.getElem?_eq_getElem hq
      exact O.le x _ y (ih _ (by omega) _ hv) (h k y _ (by omega) hy hv)
theorem perm_swap [DecidableEq α] {a : List α} {i j : Nat} {x y : α} (hne : i ≠ j) (hx : a[i]? = some x) (hy : a[j]? = some y) : ((a.set i y).set j x).Perm a := by
  rw [List.perm_iff_count]
  intro z
  obtain ⟨h1, e1⟩ := List.getElem?_eq_some_iff.mp hx
  obtain ⟨h2, e2⟩ := List.getElem?_eq_some_iff.mp hy
  rw [List.count_set (by simpa using h2), List.count_set h1, List.getElem_set_ne hne (by simpa using h2), e1, e2]
  have c1 : x = z → 1 ≤ a.count z := fun e => List.one_le_count_iff.mpr (e ▸ e1 ▸ List.getElem_mem h1)
  have c2 : y = z → 1 ≤ a.count z := fun e => List.one_le_count_iff.mpr (e ▸ e2 ▸ List.getElem_mem h2)
  by_cases ex : x = z <;> by_cases ey : y = z <;> simp [ex, ey] <;> (try have := c1 ex) <;> (try have := c2 ey) <;> omega
/-- with a hole at i that x fills -/
theorem hole_move {v : List α} {i j : Nat} {x y : α} : (v.set i x |>.set i y).set j x = (v.set i y).set j x := by rw [List.set_set]
end

section
variable {prog : Program} {w : World} {A : Around} {E : Value → Shared → Prop} {s : Shared}
theorem rc_str {x y : Str} {t u : Tok} {Q : Value → Shared → Prop} (h : Q (.bool (x.cps.toList < y.cps.toList)) s) : wpAny (model prog w) A (richCompare .Lt (.str x t) (.str y u)) Q E s := PyProof.Rows.lt_str h
theorem rc_int {x y : Int} {t u : Tok} {Q : Value → Shared → Prop} (h : Q (.bool (decide (x < y))) s) : wpAny (model prog w) A (richCompare .Lt (.int x t) (.int y u)) Q E s := PyProof.Rows.lt_int h
end
open AutoSeq1 (wpAny_loadPart') in
open MeetsSeq MeetsSeq2 MeetsSeq3 in
theorem tuple_ltAt (l b : Addr) (x y : Int) (t u v z : Tok) (p q : Str) (n n2 : Nat) (dd dd2 : Option Addr) (sl sl2 : Array (Option Value)) :
    Meets (Builtin.«tuple.__lt__» ⟨[.ref l, .ref b], []⟩)
      (fun _ R s => s.heap.get? l = some { cls := .type "tuple", dict := dd, data := .seq #[.int x t, .str p v] n, slots := sl } ∧ s.heap.get? b = some { cls := .type "tuple", dict := dd2, data := .seq #[.int y u, .str q z] n2, slots := sl2 } ∧
        R (.ok (.ret (.bool (if x = y then (if p = q then false else decide (p.cps.toList < q.cps.toList)) else decide (x < y))))) s) :=
  .of_wp fun prog w A R s h => by
    obtain ⟨hp, g, d, tk, os⟩ := s; obtain ⟨hl, hb, h⟩ := h
    have f2 := AutoSeq1.sub_tuple_tuple
    wp_walk using wpAny_loadPart' hl, wpAny_loadPart' hb
    refine SeqAt.EqAt.int_int x t y u prog w _ _ ?_
    by_cases hxy : x = y
    · have e : (x == y) = true := by simp [hxy]
      rw [if_pos hxy] at h
      rw [e]
      wp_walk
      refine SeqAt.EqAt.str_str p v q z prog w _ _ ?_
      by_cases hpq : p = q
      · have e : (p == q) = true := by simp [hpq]
        rw [if_pos hpq] at h
        rw [e]
        wp_walk
        exact ⟨_, rfl, h⟩
      · have e : (p == q) = false := by simp [hpq]
        rw [if_neg hpq] at h
        rw [e]
        wp_walk using rc_str
        exact ⟨_, rfl, h⟩
    · have e : (x == y) = false := by simp [hxy]
      rw [if_neg hxy] at h
      rw [e]
      wp_walk using rc_int
      exact ⟨_, rfl, h⟩

/-- the order of the pairs -/
def klt (x y : Int × List Nat) : Bool := if x.1 = y.1 then (if x.2 = y.2 then false else decide (x.2 < y.2)) else decide (x.1 < y.1)
def KeyAt (nx : Led) (r : Addr) (k : Int × List Nat) : Prop := ∃ o dd n sl t u, (r, o) ∈ nx ∧ o = { cls := .type "tuple", dict := dd, data := .seq #[.int k.1 t, .str (S k.2) u] n, slots := sl }
theorem KeyAt.other {nx : Led} {r l : Addr} {k : Int × List Nat} {o' : Obj} (x : KeyAt nx r k) (hn : r ≠ l) : KeyAt (putAt l o' nx) r k := let ⟨o, dd, n, sl, t, u, hm, e⟩ := x; ⟨o, dd, n, sl, t, u, putAt_other hm hn, e⟩
theorem KeyAt.mono {nx nx' : Led} {r : Addr} {k : Int × List Nat} (x : KeyAt nx r k) (hs : ∀ p ∈ nx, p ∈ nx') : KeyAt nx' r k := let ⟨o, dd, n, sl, t, u, hm, e⟩ := x; ⟨o, dd, n, sl, t, u, hs _ hm, e⟩
theorem KeyAt.off {nx : Led} {r it : Addr} {k : Int × List Nat} (x : KeyAt nx r k) (hn : r ≠ it) : KeyAt (offIt it nx) r k := let ⟨o, dd, n, sl, t, u, hm, e⟩ := x; ⟨o, dd, n, sl, t, u, off_mem hm hn, e⟩
theorem KeyAt.ne {h₀ h : Heap} {L l r : Addr} {nx : Led} {vs : List Value} {k : Int × List Nat} (N : News h₀ L h nx) (x : KeyAt nx r k) (y : LsAt nx l vs) : r ≠ l := by
  obtain ⟨o, dd, n, sl, t, u, hm, e⟩ := x
  obtain ⟨o', hm', n', e'⟩ := y
  intro q
  subst q
  have h1 := (N _ hm).1
  have h2 := (N _ hm').1
  rw [h1] at h2
  have h3 := Option.some.inj h2
  rw [e, e'] at h3
  have h4 : Value.type "tuple" = Value.type "list" := congrArg Obj.cls h3
  exact absurd h4 (by decide)
section
variable {prog : Program} {w : World} {A : Around} {E : Value → Shared → Prop} {s : Shared} {h₀ : Heap} {L : Addr} {nx : Led}
theorem tup_lt {a b : Addr} {x y : Int × List Nat} {Q : Value → Shared → Prop} (hu : A.units < cLine) (N : News h₀ L s.heap nx) (ha : KeyAt nx a x) (hb : KeyAt nx b y) (h : Q (.bool (klt x y)) s) : wpAny (model prog w) A (compareOp .Lt (.ref a) (.ref b)) Q E s := by
  obtain ⟨o, dd, n, sl, t, u, hm, e⟩ := ha
  obtain ⟨o2, dd2, n2, sl2, t2, u2, hm2, e2⟩ := hb
  subst e
  subst e2
  show wpAny (model prog w) A (richCompare .Lt (.ref a) (.ref b)) Q E s
  refine richCompare_meets_room (op := .Lt) ⟨_, (N _ hm).1, rfl⟩ ⟨_, (N _ hm2).1, rfl⟩ PySem.F.slot_tuple_lt PySem.F.entry_tuple_lt (PySem.F.args_tuple_lt_2 _ _) (tuple_ltAt a b x.1 y.1 t t2 u u2 (S x.2) (S y.2) n n2 dd dd2 sl sl2) ⟨(N _ hm).1, (N _ hm2).1, ?_⟩ hu
  have e : (if x.1 = y.1 then (if S x.2 = S y.2 then false else decide ((S x.2).cps.toList < (S y.2).cps.toList)) else decide (x.1 < y.1)) = klt x y := by
    unfold klt
    simp only [S_inj, S]
  rw [e]
  exact show Value.bool (klt x y) ≠ Value.notImplemented ∧ Q (.bool (klt x y)) s from ⟨(fun x => nomatch x), h⟩
end

section
variable {prog : Program} {w : World} {A : Around} {E : Value → Shared → Prop} {s : Shared} {h₀ : Heap} {L l : Addr} {nx : Led} {vs : List Value}
theorem ls_len {Q : Value → Shared → Prop} (N : News h₀ L s.heap nx) (hl : LsAt nx l vs) (hb : vs.length ≤ 1000) (h : Q (.int vs.length (s.toks + 1)) { s with toks := s.toks + 1 + 1 }) : wpAny (model prog w) A (call (.builtin "len") [.ref l]) Q E s := by
  refine PySem.Calls.call_len_list (hl.isList N) (by simp; omega) ?_
  simpa using h
end
theorem klt_asym (x y : Int × List Nat) (h : klt x y = true) : klt y x = false := by
  unfold klt at *
  by_cases e : x.1 = y.1
  · rw [if_pos e] at h
    rw [if_pos e.symm]
    by_cases e2 : x.2 = y.2
    · rw [if_pos e2] at h; exact absurd h (by simp)
    · rw [if_neg e2] at h
      rw [if_neg (Ne.symm e2)]
      have h1 := of_decide_eq_true h
      exact decide_eq_false (List.lt_asymm h1)
  · rw [if_neg e] at h
    rw [if_neg (Ne.symm e)]
    have h1 := of_decide_eq_true h
    exact decide_eq_false (by omega)
theorem klt_le (x y z : Int × List Nat) (h1 : klt y x = false) (h2 : klt z y = false) : klt z x = false := by
  unfold klt at *
  by_cases e1 : y.1 = x.1
  · rw [if_pos e1] at h1
    by_cases e2 : z.1 = y.1
    · rw [if_pos e2] at h2
      rw [if_pos (e2.trans e1)]
      by_cases f1 : y.2 = x.2
      · rw [← f1]
        exact h2
      · rw [if_neg f1] at h1
        have g1 := of_decide_eq_false h1
        by_cases f2 : z.2 = y.2
        · rw [f2, if_neg f1]; exact h1
        · rw [if_neg f2] at h2
          have g2 := of_decide_eq_false h2
          by_cases f3 : z.2 = x.2
          · rw [if_pos f3]
          · rw [if_neg f3]
            refine decide_eq_false ?_
            exact List.not_lt.mpr (List.le_trans (List.not_lt.mp g1) (List.not_lt.mp g2))
    · rw [if_neg e2] at h2
      have g2 := of_decide_eq_false h2
      have : ¬ z.1 = x.1 := by omega
      rw [if_neg this]
      exact decide_eq_false (by omega)
  · rw [if_neg e1] at h1
    have g1 := of_decide_eq_false h1
    by_cases e2 : z.1 = y.1
    · have : ¬ z.1 = x.1 := by omega
      rw [if_neg this]
      exact decide_eq_false (by omega)
    · rw [if_neg e2] at h2
      have g2 := of_decide_eq_false h2
      have : ¬ z.1 = x.1 := by omega
      rw [if_neg this]
      exact decide_eq_false (by omega)
theorem klt_tri (x y : Int × List Nat) (h1 : klt x y = false) (h2 : klt y x = false) : x = y := by
  unfold klt at *
  by_cases e : x.1 = y.1
  · rw [if_pos e] at h1
    rw [if_pos e.symm] at h2
    by_cases e2 : x.2 = y.2
    · exact Prod.ext e e2
    · rw [if_neg e2] at h1
      rw [if_neg (Ne.symm e2)] at h2
      exact absurd (List.le_antisymm (List.not_lt.mp (of_decide_eq_false h2)) (List.not_lt.mp (of_decide_eq_false h1))) e2
  · rw [if_neg e] at h1
    rw [if_neg (Ne.symm e)] at h2
    have g1 := of_decide_eq_false h1
    have g2 := of_decide_eq_false h2
    omega
theorem klt_ord (key : Addr → Int × List Nat) : Ord (fun a b => klt (key a) (key b)) := ⟨fun _ _ => klt_asym _ _, fun _ _ _ => klt_le _ _ _⟩

/-- the ledger changed at l alone -/
def But (l : Addr) (news nx : Led) : Prop := (∀ p ∈ news, p.1 ≠ l → p ∈ nx) ∧ (∀ p ∈ nx, ∃ q ∈ news, q.1 = p.1)
theorem But.refl (l : Addr) (news : Led) : But l news news := ⟨fun p hp _ => hp, fun p hp => ⟨p, hp, rfl⟩⟩
theorem But.put {l : Addr} {news nx : Led} {o : Obj} (h : But l news nx) : But l news (putAt l o nx) :=
  ⟨fun p hp hn => putAt_other (h.1 p hp hn) hn, fun p hp => by
    obtain ⟨q, hq, e⟩ := putAt_addr hp
    obtain ⟨r, hr, e2⟩ := h.2 q hq
    exact ⟨r, hr, e2.trans e⟩⟩
theorem But.trans {l : Addr} {a b c : Led} (h : But l a b) (g : But l b c) : But l a c :=
  ⟨fun p hp hn => g.1 p (h.1 p hp hn) hn, fun p hp => by
    obtain ⟨q, hq, e⟩ := g.2 p hp
    obtain ⟨r, hr, e2⟩ := h.2 q hq
    exact ⟨r, hr, e2.trans e⟩⟩
theorem But.key {l r : Addr} {a b : Led} {k : Int × List Nat} (h : But l a b) (x : KeyAt a r k) (hn : r ≠ l) : KeyAt b r k := let ⟨o, dd, n, sl, t, u, hm, e⟩ := x; ⟨o, dd, n, sl, t, u, h.1 _ hm hn, e⟩
theorem But.ls {l r : Addr} {a b : Led} {vs : List Value} (h : But l a b) (x : LsAt a r vs) (hn : r ≠ l) : LsAt b r vs := let ⟨o, hm, e⟩ := x; ⟨o, h.1 _ hm hn, e⟩
abbrev kl (key : Addr → Int × List Nat) (a b : Addr) : Bool := klt (key a) (key b)
/-- what a heap's def leaves -/
def HeapPost (l : Addr) (key : Addr → Int × List Nat) (rs : List Addr) (news : Led) (r : Value) (nx : Led) : Prop :=
  r = .none ∧ ∃ rs', But l news nx ∧ LsAt nx l (rs'.map .ref) ∧ rs'.Perm rs ∧ HOk (kl key) rs'

section
local macro_rules | `(tactic| walk_at "TurnIf true") => `(tactic| refine TurnIf.t ?_)
local macro_rules | `(tactic| walk_at "TurnIf false") => `(tactic| refine TurnIf.f ?_)
local macro_rules | `(tactic| walk_at "TurnIf") => `(tactic| (refine TurnIf.s ?_ ?_ <;> intro _))
local macro_rules | `(tactic| walk_at "execs cons") => `(tactic| ((try dsimp only); refine wpAny_execs_cons ?_))
local macro_rules | `(tactic| walk_at "execs nil") => `(tactic| refine wpAny_execs_nil ?_)
local macro_rules | `(tactic| walk_at "truthy int") => `(tactic| (refine truth_yes ?z ?_; (case z => omega)))
local macro_rules | `(tactic| walk_at "truthy int") => `(tactic| (refine truth_no ?z ?_; (case z => omega)))
local macro_rules | `(tactic| walk_at "call builtin:len") => `(tactic| k_dflt ((refine' len_S ?z ?_); (case z => tb_start)))
local macro_rules | `(tactic| walk_at "CutStep") => `(tactic| refine CutStep.r ?_)
local macro_rules | `(tactic| walk_at "WhStep") => `(tactic| refine WhStep.r ?_)
local macro_rules | `(tactic| walk_at "ForStep") => `(tactic| refine ForStep.r ?_)
local macro_rules | `(tactic| walk_at "call type:range") => `(tactic| k_dflt ((refine' rg_one ?F ?N ?_); (case F => assumption); (case N => assumption); intro r9 h9 t9 u9 v9 tk9 F9 N9 l9))
local macro_rules | `(tactic| walk_at "call type:range") => `(tactic| k_dflt ((refine' rg_three ?F ?N (by decide) (by decide) ?_); (case F => assumption); (case N => assumption); intro r9 h9 tk9 F9 N9 l9))
local macro_rules | `(tactic| walk_at "subscriptTail Name Name ref int") => `(tactic| refine Halt.i ?_)
local macro_rules | `(tactic| walk_at "setItem ref int int") => `(tactic| refine Halt.i ?_)
local macro_rules | `(tactic| walk_at "call builtin:min") => `(tactic| k_dflt ((refine' min_I rfl ?F ?N ?_); (case F => assumption); (case N => assumption); intro h9 t9 tk9 F9 N9))
local macro_rules | `(tactic| walk_at "call type:list") => `(tactic| refine Halt.i ?_)
local macro_rules | `(tactic| walk_at "call ref") => `(tactic| k_dflt ((refine' ctr_use (sub_spec _ _ ?hc ?hd _ _ _) ?B ?F ?X ?N ?T ?hk ?dp ?un ?_); (case hc => ktr_rel); (case hd => ktr_rel); (case B => k_asm); (case F => k_asm); (case X => k_asm); (case N => k_asm); (case T => k_asm); (case hk => exact rfl); (case dp => ktr_room); (case un => ktr_units); rintro _ _ h9 tk9 F9 N9 ⟨e9, t9, f9⟩; subst e9; subst f9; (try dsimp only)))

section
theorem letter_at {l : List Nat} {k : Nat} (h : ∀ c ∈ l, Letter c) (hk : k < l.length) : Letter (l.getD k 0) := by
  refine h _ ?_
  simp [hk]
/-- the row, j places of it turned -/
def rowMix (qs ps : List Nat) (i j : Nat) : List Int := (List.range ps.length).map fun k => ((if k < j then dp qs ps (i + 1) (k + 1) else dp qs ps i (k + 1) : Nat) : Int)
theorem rowMix_len (qs ps : List Nat) (i j : Nat) : (rowMix qs ps i j).length = ps.length := by simp [rowMix]
theorem rowMix_get {qs ps : List Nat} {i j k : Nat} (hk : k < ps.length) : (rowMix qs ps i j)[k]? = some ((if k < j then dp qs ps (i + 1) (k + 1) else dp qs ps i (k + 1) : Nat) : Int) := by simp [rowMix, hk]
theorem rowMix_end (qs ps : List Nat) (i : Nat) : rowMix qs ps i ps.length = rowMix qs ps (i + 1) 0 := by
  unfold rowMix
  refine List.map_congr_left fun k hk => ?_
  have : k < ps.length := by simpa using hk
  simp [this]
theorem rowMix_set {qs ps : List Nat} {i j : Nat} (hj : j < ps.length) : (rowMix qs ps i j).set j ((dp qs ps (i + 1) (j + 1) : Nat) : Int) = rowMix qs ps i (j + 1) := by
  apply List.ext_getElem?
  intro k
  by_cases hk : k < ps.length
  · rw [rowMix_get hk]
    by_cases e : j = k
    · subst e
      rw [List.getElem?_set_self (by rw [rowMix_len]; exact hj)]
      simp
    · rw [List.getElem?_set_ne e, rowMix_get hk]
      by_cases h : k < j
      · rw [if_pos h, if_pos (by omega)]
      · rw [if_neg h, if_neg (by omega)]
  · rw [List.getElem?_eq_none (by rw [List.length_set, rowMix_len]; omega), List.getElem?_eq_none (by rw [rowMix_len]; omega)]
theorem ints_set : ∀ {vs : List Value} {ns : List Int} (k : Nat) (x : Int) (u : Tok), IntsAre vs ns → IntsAre (vs.set k (.int x u)) (ns.set k x)
  | _, _, _, _, _, .nil => .nil
  | _, _, 0, x, u, .cons n t r => .cons x u r
  | _, _, k + 1, x, u, .cons n t r => .cons n t (ints_set k x u r)
def LevO (ps qs : List Nat) (v : Tok) (D : Addr) (news : Led) (i : Nat) (m₁ : Str → Option Value) (nx : Led) : Prop :=
  (∃ vs, LsAt nx D vs ∧ IntsAre vs (rowMix qs ps i 0)) ∧ (∀ p ∈ news, p ∈ nx) ∧ m₁ "row" = some (.ref D) ∧ (∃ tk, m₁ "a" = some (.str (S ps) tk)) ∧ (∃ tk, m₁ "b" = some (.str (S qs) tk)) ∧ m₁ "max_cost" = some (.int 1000 v) ∧ (0 < i → ∃ tk, m₁ "result" = some (.int (dp qs ps i ps.length) tk))
def LevI (ps qs : List Nat) (v : Tok) (D it : Addr) (oi : Obj) (news : Led) (i j : Nat) (m₁ : Str → Option Value) (nx : Led) : Prop :=
  (∃ vs, LsAt nx D vs ∧ IntsAre vs (rowMix qs ps i j)) ∧ (∀ p ∈ news, p ∈ nx) ∧ (it, oi) ∈ nx ∧ m₁ "row" = some (.ref D) ∧ (∃ tk, m₁ "a" = some (.str (S ps) tk)) ∧ (∃ tk, m₁ "b" = some (.str (S qs) tk)) ∧ m₁ "max_cost" = some (.int 1000 v) ∧ 
    (∃ tk, m₁ "bchar" = some (.str (S [qs.getD i 0]) tk)) ∧ (∃ tk, m₁ "distance" = some (.int (dp qs ps i j) tk)) ∧ (∃ r tk, m₁ "result" = some (.int r tk) ∧ (j = 0 → r = 2 * i) ∧ (0 < j → r = dp qs ps (i + 1) j)) ∧ ∃ mn tk, m₁ "minimum" = some (.int mn tk) ∧ (0 < j → mn ≤ 200)
local macro_rules | `(tactic| ktr_rel) => `(tactic| exact letter_at (by assumption) (by tb_start))
-- lengths
local macro_rules | `(tactic| tb_start) => `(tactic| first | assumption | omega | (simp only [List.length_drop, List.length_take, List.length_cons, List.length_nil, List.length_append]; omega))
-- a length's name
local macro_rules | `(tactic| tb_rel) => `(tactic| first | exact List.length_drop | exact List.length_take | exact rfl)
local macro_rules | `(tactic| walk_at "exec While BoolOp cons nil") => `(tactic| refine Halt.i ?_)
local macro_rules | `(tactic| walk_at "exec While") => `(tactic| refine Halt.i ?_)
local macro_rules | `(tactic| walk_at "exec For Name Call cons nil") => `(tactic| refine Halt.i ?_)
local macro_rules | `(tactic| walk_at "exec If") => `(tactic| refine wpAny_If ?_)
local macro_rules | `(tactic| walk_at "eval Name") => `(tactic| (k_here; k_dflt (refine' ld ?k1 ?k2 ?_; (case k1 => k_asm); (case k2 => first | exact rfl | assumption); k_whole)))
local macro_rules | `(tactic| walk_at "loadName") => `(tactic| (k_here; k_dflt (refine' ldn ?k1 ?k2 ?_; (case k1 => k_asm); (case k2 => first | exact rfl | assumption); k_whole)))
local macro_rules | `(tactic| walk_at "truthy str") => `(tactic| k_dflt ((refine' truth_S2 ?n ?z ?_ ?_); (case n => tb_rel); (case z => tb_start); (all_goals intro _)))
local macro_rules | `(tactic| walk_at "subscriptTail Name Slice str ref") => `(tactic| k_dflt ((refine' sub_from (s := ⟨_, _, _, _, _⟩) (by assumption) (by assumption) ?z ?k ?_); (case z => tb_start); (case k => tb_start); intro _ _ _ _ _))
local macro_rules | `(tactic| walk_at "subscriptTail Name Name str int") => `(tactic| k_dflt ((refine' sub_item rfl ?z ?k ?_); (case z => tb_start); (case k => tb_start)))

local macro_rules | `(tactic| walk_at "subscriptTail Name Slice str ref") => `(tactic| k_dflt ((refine' sub_neg (s := ⟨_, _, _, _, _⟩) (by assumption) (by assumption) ?z rfl ?j ?k ?_); (case z => tb_start); (case j => tb_start); (case k => tb_start); intro _ _ _ _ _))
local macro_rules | `(tactic| walk_at "subscriptTail Name Slice str ref") => `(tactic| k_dflt ((refine' sub_all (s := ⟨_, _, _, _, _⟩) (by assumption) (by assumption) ?z ?_); (case z => tb_start); intro _ _ _ _ _))
local macro_rules | `(tactic| walk_at "subscriptTail Name BinOp str int") => `(tactic| k_dflt ((refine' sub_itemI ?z ?j ?k ?_); (case z => tb_start); (case j => tb_start); (case k => tb_start)))
theorem take_more {xs ys : List Nat} {k : Nat} (h1 : k < xs.length) (h2 : k < ys.length) (h : xs.take k = ys.take k) (e : (S [xs.getD k 0] == S [ys.getD k 0]) = true) : xs.take (k + 1) = ys.take (k + 1) := by
  rw [eq_S] at e
  simp [h1, h2] at e
  rw [List.take_succ_eq_append_getElem h1, List.take_succ_eq_append_getElem h2, h, e]
theorem drop_more {xs ys : List Nat} {j : Nat} {i : Int} (h1 : j < xs.length) (h2 : j < ys.length) (h : xs.drop (xs.length - j) = ys.drop (ys.length - j)) (e : (S [xs.getD ((xs.length : Int) + i).toNat 0] == S [ys.getD ((ys.length : Int) + i).toNat 0]) = true) (hi : i = -(j : Int) - 1 := by omega) :
    xs.drop (xs.length - (j + 1)) = ys.drop (ys.length - (j + 1)) := by
  have e1 : ((xs.length : Int) + i).toNat = xs.length - (j + 1) := by omega
  have e2 : ((ys.length : Int) + i).toNat = ys.length - (j + 1) := by omega
  rw [eq_S, e1, e2] at e
  have g1 : xs.length - (j + 1) < xs.length := by omega
  have g2 : ys.length - (j + 1) < ys.length := by omega
  simp only [List.getD_eq_getElem?_getD, List.getElem?_eq_getElem g1, List.getElem?_eq_getElem g2, Option.getD_some, decide_eq_true_eq, List.cons.injEq, and_true] at e
  have f1 : xs.length - (j + 1) + 1 = xs.length - j := by omega
  have f2 : ys.length - (j + 1) + 1 = ys.length - j := by omega
  rw [List.drop_eq_getElem_cons g1, List.drop_eq_getElem_cons g2, e, f1, f2, h]
theorem negSucc {m : Str → Option Value} {x : Str} {j : Nat} {t : Tok} (h : m x = some (.int (-(j : Int) - 1) t)) : m x = some (.int (-((j + 1 : Nat) : Int)) t) := by
  rw [h]
  have e : -(j : Int) - 1 = -((j + 1 : Nat) : Int) := by omega
  rw [e]
/-- what stands behind the first part -/
def LevA (xs ys : List Nat) (news : List (Addr × Obj)) (v : Tok) (m₁ : Str → Option Value) (nx : List (Addr × Obj)) : Prop :=
  ∃ cs ds : List Nat, dist xs ys = dist cs ds ∧ cs.length ≤ 20 ∧ ds.length ≤ 20 ∧ (∀ c ∈ cs, c ∈ xs) ∧ (∀ c ∈ ds, c ∈ ys) ∧ nx = news ∧ (∃ tk, m₁ "a" = some (.str (S cs) tk)) ∧ (∃ tk, m₁ "b" = some (.str (S ds) tk)) ∧ m₁ "max_cost" = some (.int 1000 v)
theorem LevA.mk {xs ys as bs : List Nat} {k j : Nat} {news : List (Addr × Obj)} {v : Tok} {m₁ : Str → Option Value} (has : as = xs.drop k) (hbs : bs = ys.drop k) (hd1 : dist xs ys = dist as bs) (hkt : as.drop (as.length - j) = bs.drop (bs.length - j)) (hla : as.length ≤ 20) (hlb : bs.length ≤ 20)
    (ha : ∃ tk, m₁ "a" = some (.str (S (as.take (as.length - j))) tk)) (hb : ∃ tk, m₁ "b" = some (.str (S (bs.take (bs.length - j))) tk)) (hc : m₁ "max_cost" = some (.int 1000 v)) : LevA xs ys news v m₁ news := by
  refine ⟨as.take (as.length - j), bs.take (bs.length - j), by rw [hd1, dist_suf hkt], ?_, ?_, ?_, ?_, rfl, ha, hb, hc⟩
  · rw [List.length_take]; omega
  · rw [List.length_take]; omega
  · intro c hc; exact List.mem_of_mem_drop (has ▸ List.mem_of_mem_take hc)
  · intro c hc; exact List.mem_of_mem_drop (hbs ▸ List.mem_of_mem_take hc)
theorem take0 {l : List Nat} : S l = S (l.take (l.length - 0)) := by simp

/-- what stands behind the second part -/
def LevB (xs ys : List Nat) (news : List (Addr × Obj)) (v : Tok) (m₁ : Str → Option Value) (nx : List (Addr × Obj)) : Prop :=
  ∃ ps qs : List Nat, dist xs ys = dist qs ps ∧ 0 < ps.length ∧ ps.length ≤ qs.length ∧ qs.length ≤ 20 ∧ (∀ c ∈ ps, Letter c) ∧ (∀ c ∈ qs, Letter c) ∧ nx = news ∧ (∃ tk, m₁ "a" = some (.str (S ps) tk)) ∧ (∃ tk, m₁ "b" = some (.str (S qs) tk)) ∧ m₁ "max_cost" = some (.int 1000 v)
theorem rg_two (n : Nat) (hn : n ≤ 100) : Builtin.Range.small 2 (2 * ((n : Int) + 1)) 2 = true ∧ Builtin.Range.rangeSize 2 (2 * ((n : Int) + 1)) 2 = ((n : Nat) : Int) := by
  have e : Builtin.Range.rangeSize 2 (2 * ((n : Int) + 1)) 2 = ((n : Nat) : Int) := by
    unfold Builtin.Range.rangeSize
    simp only [show (2 : Int) > 0 by decide, if_true]
    split <;> omega
  exact ⟨small_of (by omega) (by omega) (by omega) (by omega) (by rw [e]; omega) (by rw [e]; omega), e⟩
theorem row0 {qs ps : List Nat} {vs : List Value} (h : IntsAre vs ((List.range ps.length).map fun (i : Nat) => 2 + (i : Int) * 2)) : IntsAre vs (rowMix qs ps 0 0) := by
  have e : rowMix qs ps 0 0 = (List.range ps.length).map fun (i : Nat) => 2 + (i : Int) * 2 := by
    unfold rowMix
    refine List.map_congr_left fun k _ => ?_
    rw [if_neg (Nat.not_lt_zero _), dp_zero]
    omega
  rw [e]; exact h
theorem lev_eq {m : Str → Option Value} {x : Str} {a b : Int} {t : Tok} (e : a = b) (h : m x = some (.int a t)) : m x = some (.int b t) := by rw [h, e]
theorem lev_cell {qs ps : List Nat} {i j : Nat} {r : Int} (h1 : j = 0 → r = 2 * i) (h2 : 0 < j → r = dp qs ps (i + 1) j) :
    min (min r (dp qs ps i (j + 1) : Int) + 2) ((dp qs ps i j : Int) + cost (qs.getD i 0) (ps.getD j 0)) = (dp qs ps (i + 1) (j + 1) : Nat) := by
  have hc := cost_le (qs.getD i 0) (ps.getD j 0)
  rw [dp_succ]
  rcases Nat.eq_zero_or_pos j with h | h
  · subst h
    rw [h1 rfl, dp_left, dp_left]
    omega
  · rw [h2 h]
    omega
theorem lev_spec {w : World} (xs ys : List Nat) (hx : xs.length ≤ 20) (hy : ys.length ≤ 20) (hax : ∀ c ∈ xs, Letter c) (hay : ∀ c ∈ ys, Letter c) (t u v : Tok) (news : List (Addr × Obj)) :
    Ctr w 45 3 [.str (S xs) t, .str (S ys) u, .int 1000 v] news (fun r news' => news' = news ∧ ∃ tk, r = .int (dist xs ys) tk) := by
  refine fillme PySem.Challenge.rw_in0056_01 Mine.hp.heap_1 ?_
  k_fill
  intro _
  unfold Ctr
  intro p loose mean mg mb dp un gd cn cs a ccd cl outer A₀ base h₀ L m s Q E B F X N T hk hd hu hret
  refine wpAny_call ?_
  k_dflt ktr_enter
  clear F N
  rename Fr _ _ _ _ => F1
  rename News _ _ _ _ => N1
  refine execs_cutN F1 9 (LevA xs ys news v) ?first ?second
  case second =>
    clear F1 N1
    rintro m₁ nx h₁ tk₁ F2 N2 ⟨cs, ds, hdist, hlc, hld, hcx, hdy, hnx, ⟨ta, ha⟩, ⟨tb, hb⟩, hc⟩
    subst hnx
    simp only [List.drop_succ_cons, List.drop_zero]
    refine execs_cutN F2 3 (LevB xs ys nx v) ?first2 ?second2
    case first2 =>
      simp only [List.take_succ_cons, List.take_zero]
      k_steps
      · refine' CutStep.mk (nx := nx) ?F ?N ?J
        case F => assumption
        case N => exact newsSub (by assumption) fun q hq => List.Mem.tail _ hq
        case J => exact ⟨ds, cs, hdist, by omega, by omega, by omega, fun c h => hay c (hdy c h), fun c h => hax c (hcx c h), rfl, ⟨_, rfl⟩, ⟨_, rfl⟩, hc⟩
      · refine' CutStep.mk ?F ?N ?J
        case F => assumption
        case N => assumption
        case J => exact ⟨cs, ds, by rw [hdist, dist_comm], by omega, by omega, by omega, fun c h => hax c (hcx c h), fun c h => hay c (hdy c h), rfl, ⟨_, ha⟩, ⟨_, hb⟩, hc⟩
      · refine hret _ _ _ _ (by assumption) (by assumption) ⟨rfl, intIs ?_⟩
        have e : ds = [] := List.eq_nil_of_length_eq_zero (by omega)
        rw [hdist, e, dist_nilR]; simp
      · refine hret _ _ _ _ (by assumption) (by assumption) ⟨rfl, intIs ?_⟩
        have e : cs = [] := List.eq_nil_of_length_eq_zero (by omega)
        rw [hdist, e, dist_nilL]; simp
    case second2 =>
      rintro m₁ nx' h₁ tk₁ F2 N2 ⟨ps, qs, hdist, hp0, hpq, hq, hps, hqs, hnx, ⟨ta, ha⟩, ⟨tb, hb⟩, hc⟩
      subst hnx
      simp only [List.drop_succ_cons, List.drop_zero]
      k_steps
      rename News _ _ _ _ => N3
      rename Fr _ _ _ _ => F3
      refine Halt.o ?_
      refine' ls_range (n := ps.length) rfl F3 N3 (.head _) ?small ?size ?len ?go
      case small => exact (rg_two ps.length (by omega)).1
      case size => exact (rg_two ps.length (by omega)).2
      case len => omega
      case go =>
        rintro D vs h' tk' F4 ⟨oD, hoD, N4⟩ hltD hvs
        clear F3 N3
        k_steps
        rename News _ _ _ _ => N3
        rename Fr _ _ _ _ => F3
        refine Halt.o ?_
        refine for_range (n := qs.length) F3 (LevO ps qs v D nx') rfl rfl rfl rfl ?start ?turn ?done (hE := by passes_own)
        case start =>
          k_steps
          refine' RgStart.mk ?F ?N ?r ?n ?J
          case F => assumption
          case N => assumption
          case r => exact .head _
          case n => omega
          case J => exact ⟨⟨vs, ⟨oD, .tail _ (.head _), hoD⟩, row0 hvs⟩, fun p hp => .tail _ (.tail _ (.tail _ hp)), rfl, ⟨_, ha⟩, ⟨_, hb⟩, hc, fun h => absurd h (Nat.lt_irrefl _)⟩
        case done =>
          rintro m₂ nx₂ h₂ tk₂ ⟨_, hsub, hrow, _, _, _, hres⟩ F5 N5
          obtain ⟨t5, hres⟩ := hres (by omega)
          dsimp only
          k_steps
          refine hret _ _ _ _ (by assumption) (newsSub (by assumption) hsub) ⟨rfl, intIs ?_⟩
          rw [hdist]; rfl
        case turn =>
          rintro i t5 m₂ nx₂ h₂ tk₂ it oi hi ⟨⟨vs, hls, hvs⟩, hsub, hrow, ⟨ta, ha⟩, ⟨tb, hb⟩, hc, _⟩ F5 N5 hoff
          try clear F3 N3
          have hDit : D ≠ it := by obtain ⟨o, hm, _⟩ := hls; exact hoff _ hm
          k_steps
          rename News _ _ _ _ => N6
          rename Fr _ _ _ _ => F6
          refine Halt.o ?_
          have e0 : ((Mine.dp qs ps i 0 : Nat) : Int) = (i : Int) * 2 := by rw [dp_left]; omega
          refine for_range (n := ps.length) F6 (LevI ps qs v D it oi nx' i) rfl rfl rfl rfl ?start2 ?turn2 ?done2 (hE := by passes_own)
          case start2 =>
            k_steps
            refine' RgStart.mk ?F ?N ?r ?n ?J
            case F => assumption
            case N => assumption
            case r => exact .head _
            case n => omega
            case J => exact ⟨⟨vs, ⟨hls.choose, .tail _ (.tail _ hls.choose_spec.1), hls.choose_spec.2⟩, hvs⟩, fun p hp => .tail _ (.tail _ (hsub p hp)), .tail _ (.head _), hrow, ⟨_, ha⟩, ⟨_, hb⟩, hc, ⟨_, rfl⟩, ⟨_, by rw [e0]; rfl⟩, ⟨_, _, rfl, fun _ => by omega, fun h => absurd h (Nat.lt_irrefl _)⟩, ⟨_, _, rfl, fun h => absurd h (Nat.lt_irrefl _)⟩⟩
          case done2 =>
            rintro m₃ nx₃ h₃ tk₃ ⟨⟨vs, hls, hvs⟩, hsub3, hit, hrow, ⟨ta, ha⟩, ⟨tb, hb⟩, hc, _, _, ⟨r, tr, hr, _, hr2⟩, ⟨mn, tmn, hmn, hmn2⟩⟩ F7 N7
            dsimp only
            have hr3 := hr2 hp0
            have hmn3 := hmn2 hp0
            subst hr3
            k_steps
            refine' ForStep.mk2 (nx := nx₃) ?F ?N ?m ?J
            case F => assumption
            case N => assumption
            case m => exact hit
            case J => exact ⟨⟨vs, hls.off hDit, rowMix_end qs ps i ▸ hvs⟩, fun p hp => off_mem (hsub3 p hp) (hoff p (hsub p hp)), hrow, ⟨_, ha⟩, ⟨_, hb⟩, hc, fun _ => ⟨_, hr⟩⟩
          case turn2 =>
            rintro j t6 m₃ nx₃ h₃ tk₃ it2 oi2 hj ⟨⟨vs, hls, hvs⟩, hsub3, hit, hrow, ⟨ta, ha⟩, ⟨tb, hb⟩, hc, ⟨tbc, hbc⟩, ⟨td, hdis⟩, ⟨r, tr, hr, hr1, hr2⟩, ⟨mn, tmn, hmn, hmn2⟩⟩ F7 N7 hoff2
            try clear F6 N6
            k_steps
            refine Halt.o ?_
            rename News _ _ _ _ => N8
            obtain ⟨tv, hv⟩ := hvs.get j _ (rowMix_get hj)
            rw [if_neg (Nat.lt_irrefl _)] at hv
            k_dflt (refine' ls_get (s := ⟨_, _, _, _, _⟩) N8 (LsAt.mono hls fun q hq => List.Mem.tail _ hq) rfl (by omega) hv ?_)
            clear hv
            k_steps
            refine Halt.o ?_
            rename News _ _ _ _ => N8'
            rename Fr _ _ _ _ => F8
            k_dflt (refine' ls_set (s := ⟨_, _, _, _, _⟩) F8 N8' (LsAt.mono hls fun q hq => List.Mem.tail _ hq) rfl (by omega) (by have := hvs.length; rw [rowMix_len] at this; omega) ?_)
            intro h9 o9 F9 N9 hls9
            clear F8 N8'
            rw [lev_cell hr1 hr2] at hls9
            have hsub9 : ∀ p ∈ nx', p ∈ putAt D o9 ((it2, oi2) :: nx₃) := fun p hp => putAt_other (.tail _ (hsub3 p hp)) (Nat.ne_of_lt (hltD p (.tail _ hp)))
            have hD2 : D ≠ it2 := by obtain ⟨o, hm, _⟩ := hls; exact hoff2 _ hm
            have hlsD : LsAt (putAt D o9 ((it2, oi2) :: nx₃)) D _ := LsAt.put (LsAt.mono hls fun q hq => List.Mem.tail _ hq) hls9
            have hits : ∀ u, IntsAre (vs.set j (.int ((Mine.dp qs ps (i + 1) (j + 1) : Nat) : Int) u)) (rowMix qs ps i (j + 1)) := fun u => by
              have := ints_set j ((Mine.dp qs ps (i + 1) (j + 1) : Nat) : Int) u hvs
              rw [rowMix_set hj] at this
              exact this
            have hmin := dp_le qs ps (i + 1) (j + 1)
            k_steps
            all_goals (
              refine' ForStep.mk2 (nx := putAt D o9 ((it2, oi2) :: nx₃)) ?F ?N ?m ?J
              case F => assumption
              case N => assumption
              case m => exact putAt_other (.head _) (fun e => hD2 e.symm)
              case J => exact ⟨⟨_, hlsD.off hD2, hits _⟩, fun p hp => off_mem (hsub9 p hp) (hoff2 p (hsub3 p hp)), off_mem (putAt_other (.tail _ hit) (fun e => hDit e.symm)) (hoff2 _ hit), hrow, ⟨_, ha⟩, ⟨_, hb⟩, hc, ⟨_, hbc⟩, ⟨_, rfl⟩, ⟨_, _, rfl, fun h => absurd h (Nat.succ_ne_zero _), fun _ => lev_cell hr1 hr2⟩, ⟨_, _, by first | exact rfl | exact hmn, fun _ => by have := lev_cell hr1 hr2; omega⟩⟩)
  case first =>
   simp only [List.take_succ_cons, List.take_zero]
   k_steps
   · rename (S _ == S _) = true => h1
     have e : dist xs ys = 0 := by rw [eq_S] at h1; simp at h1; subst h1; exact dist_self xs
     refine hret _ _ _ _ (by assumption) (by assumption) ⟨rfl, intIs ?_⟩
     rw [e]; rfl
   · refine Halt.o ?_
     rename Fr _ _ _ _ => F1
     rename News _ _ _ _ => N1
     refine while_x (n₀ := xs.length) (fun n m₁ nx => ∃ (k : Nat), n = xs.length - k ∧ k ≤ xs.length ∧ k ≤ ys.length ∧ xs.take k = ys.take k ∧ nx = news ∧ 
      (∃ tk, m₁ "pre" = some (.int k tk)) ∧ m₁ "a" = some (.str (S xs) t) ∧ m₁ "b" = some (.str (S ys) u) ∧ m₁ "max_cost" = some (.int 1000 v)) 
      (fun m₁ nx => ∃ (k : Nat), k ≤ xs.length ∧ k ≤ ys.length ∧ xs.take k = ys.take k ∧ nx = news ∧ 
      (∃ tk, m₁ "pre" = some (.int k tk)) ∧ m₁ "a" = some (.str (S xs) t) ∧ m₁ "b" = some (.str (S ys) u) ∧ m₁ "max_cost" = some (.int 1000 v)) 
      F1 N1 ⟨0, by simp, by simp, by simp, by simp, rfl, ⟨_, rfl⟩, rfl, rfl, rfl⟩ ?turn ?done
     case turn =>
      rintro n m₁ nx h₁ tk₁ F2 N2 ⟨k, hn, hk1, hk2, hkt, hnx, ⟨tk2, hpre⟩, ha, hb, hc⟩
      subst hnx hn
      try clear F1 N1
      k_steps
      · refine' WhStep.mk (n' := xs.length - (k + 1)) ?F ?N ?n ?J
        case F => assumption
        case N => assumption
        case n => omega
        case J => exact ⟨k + 1, rfl, by omega, by omega, take_more (by omega) (by omega) hkt (by assumption), rfl, ⟨_, rfl⟩, ha, hb, hc⟩
      all_goals (
        refine' WhExit.mk ?F ?N ?J
        case F => assumption
        case N => assumption
        case J => exact ⟨k, hk1, hk2, hkt, rfl, ⟨_, hpre⟩, ha, hb, hc⟩)
     case done =>
      rintro m₁ nx h₁ tk₁ F2 N2 ⟨k, hk1, hk2, hkt, hnx, ⟨tk2, hpre⟩, ha, hb, hc⟩
      subst hnx
      try clear F1 N1
      dsimp only
      k_steps
      rename Fr _ _ _ _ => F3
      rename News _ _ _ _ => N3
      refine Halt.o ?_
      have hd1 := dist_pre hkt
      obtain ⟨as, has⟩ : ∃ as, as = xs.drop k := ⟨_, rfl⟩
      obtain ⟨bs, hbs⟩ : ∃ bs, bs = ys.drop k := ⟨_, rfl⟩
      have hla : as.length ≤ 20 := by rw [has, List.length_drop]; omega
      have hlb : bs.length ≤ 20 := by rw [hbs, List.length_drop]; omega
      rw [← has, ← hbs] at hd1
      refine while_x (n₀ := as.length) (fun n m₁ nx' => ∃ (j : Nat) (i : Int), i = -(j : Int) ∧ n = as.length - j ∧ j ≤ as.length ∧ j ≤ bs.length ∧ as.drop (as.length - j) = bs.drop (bs.length - j) ∧ nx' = nx ∧ 
        (∃ tk, m₁ "post" = some (.int i tk)) ∧ (∃ tk, m₁ "a" = some (.str (S as) tk)) ∧ (∃ tk, m₁ "b" = some (.str (S bs) tk)) ∧ m₁ "max_cost" = some (.int 1000 v)) 
        (fun m₁ nx' => ∃ (j : Nat) (i : Int), i = -(j : Int) ∧ j ≤ as.length ∧ j ≤ bs.length ∧ as.drop (as.length - j) = bs.drop (bs.length - j) ∧ nx' = nx ∧ 
        (∃ tk, m₁ "post" = some (.int i tk)) ∧ (∃ tk, m₁ "a" = some (.str (S as) tk)) ∧ (∃ tk, m₁ "b" = some (.str (S bs) tk)) ∧ m₁ "max_cost" = some (.int 1000 v)) 
        F3 N3 ⟨0, 0, rfl, by simp, by simp, by simp, by simp, rfl, ⟨_, rfl⟩, ⟨_, by rw [has]; rfl⟩, ⟨_, by rw [hbs]; rfl⟩, hc⟩ ?turn2 ?done2
      case turn2 =>
        rintro n m₁ nx' h₁ tk₁ F2 N2 ⟨j, i, hi, hn, hk1, hk2, hkt, hnx, ⟨tk2, hpost⟩, ⟨tk3, ha⟩, ⟨tk4, hb⟩, hc⟩
        subst hnx hn
        try clear F3 N3
        rcases Nat.eq_zero_or_pos j with hj | hj
        · subst hj hi
          replace hpost : m₁ "post" = some (.int 0 tk2) := hpost
          k_steps
          · refine' WhStep.mk (n' := as.length - 1) ?F ?N ?n ?J
            case F => assumption
            case N => assumption
            case n => omega
            case J => exact ⟨1, _, by omega, rfl, by omega, by omega, drop_more (j := 0) (by omega) (by omega) hkt (by assumption), rfl, ⟨_, rfl⟩, ⟨_, ha⟩, ⟨_, hb⟩, hc⟩
          all_goals (
            refine' WhExit.mk ?F ?N ?J
            case F => assumption
            case N => assumption
            case J => exact ⟨0, 0, rfl, hk1, hk2, hkt, rfl, ⟨_, hpost⟩, ⟨_, ha⟩, ⟨_, hb⟩, hc⟩)
        · subst hi
          k_steps
          · refine' WhStep.mk (n' := as.length - (j + 1)) ?F ?N ?n ?J
            case F => assumption
            case N => assumption
            case n => omega
            case J => exact ⟨j + 1, -(j : Int) - 1, by omega, rfl, by omega, by omega, drop_more (j := j) (by omega) (by omega) hkt (by assumption), rfl, ⟨_, rfl⟩, ⟨_, ha⟩, ⟨_, hb⟩, hc⟩
          all_goals (
            refine' WhExit.mk ?F ?N ?J
            case F => assumption
            case N => assumption
            case J => exact ⟨j, _, rfl, hk1, hk2, hkt, rfl, ⟨_, hpost⟩, ⟨_, ha⟩, ⟨_, hb⟩, hc⟩)
      case done2 =>
        rintro m₁ nx' h₁ tk₁ F2 N2 ⟨j, i, hi, hk1, hk2, hkt, hnx, ⟨tk2, hpost⟩, ⟨tk3, ha⟩, ⟨tk4, hb⟩, hc⟩
        subst hnx
        try clear F3 N3
        dsimp only
        rcases Nat.eq_zero_or_pos j with hj | hj
        · subst hj hi
          replace hpost : m₁ "post" = some (.int 0 tk2) := hpost
          k_steps
          refine' CutStep.mk ?F ?N ?J
          case F => assumption
          case N => assumption
          case J => exact LevA.mk has hbs hd1 hkt hla hlb ⟨_, by rw [← take0]; rfl⟩ ⟨_, by rw [← take0]; rfl⟩ hc
        · subst hi
          k_steps
          refine' CutStep.mk ?F ?N ?J
          case F => assumption
          case N => assumption
          case J => exact LevA.mk has hbs hd1 hkt hla hlb ⟨_, rfl⟩ ⟨_, rfl⟩ hc

end

section
local macro_rules | `(tactic| ktr_rel) => `(tactic| exact letter_at (by assumption) (by tb_start))
local macro_rules | `(tactic| tb_start) => `(tactic| first | assumption | omega | (simp only [List.length_drop, List.length_take, List.length_cons, List.length_nil, List.length_append]; omega))
local macro_rules | `(tactic| tb_rel) => `(tactic| first | exact List.length_drop | exact List.length_take | exact rfl)
local macro_rules | `(tactic| walk_at "exec While BoolOp cons nil") => `(tactic| refine Halt.i ?_)
local macro_rules | `(tactic| walk_at "exec While") => `(tactic| refine Halt.i ?_)
local macro_rules | `(tactic| walk_at "exec For Name Call cons nil") => `(tactic| refine Halt.i ?_)
local macro_rules | `(tactic| walk_at "eval Name") => `(tactic| (k_here; k_dflt (refine' ld ?k1 ?k2 ?_; (case k1 => k_asm); (case k2 => first | exact rfl | assumption); k_whole)))
local macro_rules | `(tactic| walk_at "loadName") => `(tactic| (k_here; k_dflt (refine' ldn ?k1 ?k2 ?_; (case k1 => k_asm); (case k2 => first | exact rfl | assumption); k_whole)))
local macro_rules | `(tactic| walk_at "truthy str") => `(tactic| k_dflt ((refine' truth_S2 ?n ?z ?_ ?_); (case n => tb_rel); (case z => tb_start); (all_goals intro _)))
local macro_rules | `(tactic| walk_at "subscriptTail Name Slice str ref") => `(tactic| k_dflt ((refine' sub_from (s := ⟨_, _, _, _, _⟩) (by assumption) (by assumption) ?z ?k ?_); (case z => tb_start); (case k => tb_start); intro _ _ _ _ _))
local macro_rules | `(tactic| walk_at "subscriptTail Name Name str int") => `(tactic| k_dflt ((refine' sub_item rfl ?z ?k ?_); (case z => tb_start); (case k => tb_start)))
local macro_rules | `(tactic| walk_at "subscriptTail Name Slice str ref") => `(tactic| k_dflt ((refine' sub_neg (s := ⟨_, _, _, _, _⟩) (by assumption) (by assumption) ?z rfl ?j ?k ?_); (case z => tb_start); (case j => tb_start); (case k => tb_start); intro _ _ _ _ _))
local macro_rules | `(tactic| walk_at "subscriptTail Name Slice str ref") => `(tactic| k_dflt ((refine' sub_all (s := ⟨_, _, _, _, _⟩) (by assumption) (by assumption) ?z ?_); (case z => tb_start); intro _ _ _ _ _))
local macro_rules | `(tactic| walk_at "subscriptTail Name BinOp str int") => `(tactic| k_dflt ((refine' sub_itemI ?z ?j ?k ?_); (case z => tb_start); (case j => tb_start); (case k => tb_start)))

section
local macro_rules | `(tactic| walk_at "eval ListComp") => `(tactic| refine Halt.i ?_)
local macro_rules | `(tactic| walk_at "CompEnd") => `(tactic| refine Halt.i ?_)
local macro_rules | `(tactic| walk_at "subscriptTail") => `(tactic| ((with_reducible show wpAny _ _ (subscriptTail _ _ (Value.ref _) (Value.int _ _)) _ _ _); refine Halt.i ?_))
local macro_rules | `(tactic| walk_at "call builtin:str.lower") => `(tactic| k_dflt ((refine' call_lower ?hc ?_); (case hc => ktr_rel)))
local macro_rules | `(tactic| walk_at "call builtin:list.append") => `(tactic| refine Halt.i ?_)
local macro_rules | `(tactic| walk_at "getMethod ref") => `(tactic| k_dflt ((refine' ls_appendM ?N ?l ?_); (case N => assumption); (case l => assumption)))
local macro_rules | `(tactic| walk_at "call builtin:min") => `(tactic| k_dflt ((refine' min3_I rfl ?F ?N ?_); (case F => assumption); (case N => assumption); intro h9 t9 tk9 F9 N9))

def rowIs (xs ys : List Nat) (i j : Nat) : List Int := (List.range j).map fun k => ((dp xs ys i k : Nat) : Int)
theorem rowIs_succ (xs ys : List Nat) (i j : Nat) : rowIs xs ys i (j + 1) = rowIs xs ys i j ++ [((dp xs ys i j : Nat) : Int)] := by
  unfold rowIs; rw [List.range_succ, List.map_append]; rfl
theorem rowIs_get {xs ys : List Nat} {i j k : Nat} (hk : k < j) : (rowIs xs ys i j)[k]? = some ((dp xs ys i k : Nat) : Int) := by simp [rowIs, hk]
theorem ints_snoc : ∀ {vs : List Value} {ns : List Int} {x y : Int} {u : Tok}, IntsAre vs ns → x = y → IntsAre (vs ++ [.int x u]) (ns ++ [y])
  | _, _, _, _, u, .nil, e => e ▸ .cons _ u .nil
  | _, _, _, _, _, .cons n t r, e => .cons n t (ints_snoc r e)
def RowsAt (xs ys : List Nat) (nx : Led) (rs : List Addr) : Prop := ∀ k, k < rs.length → ∃ vs, LsAt nx (rs.getD k 0) vs ∧ IntsAre vs (rowIs xs ys k (ys.length + 1))
def FarO (xs ys : List Nat) (T : Addr) (news : Led) (i : Nat) (m₁ : Str → Option Value) (nx : Led) : Prop :=
  ∃ rs : List Addr, rs.length = i + 1 ∧ LsAt nx T (rs.map .ref) ∧ RowsAt xs ys nx rs ∧ (∀ r ∈ rs, r ≠ T) ∧ (∀ p ∈ news, p ∈ nx) ∧ (∃ tk, m₁ "one" = some (.str (S xs) tk)) ∧ (∃ tk, m₁ "two" = some (.str (S ys) tk)) ∧ m₁ "table" = some (.ref T)
theorem allLt_ls {d l : Addr} {nx : Led} {vs : List Value} (h : AllLt d nx) (x : LsAt nx l vs) : l < d := by
  obtain ⟨o, hm, _⟩ := x
  have : ∀ (nx : Led), AllLt d nx → ∀ p ∈ nx, p.1 < d := by
    intro nx
    induction nx with
    | nil => intro _ p hp; cases hp
    | cons q r ih =>
      intro h p hp
      rcases List.mem_cons.mp hp with rfl | hp
      · exact h.1
      · exact ih h.2 p hp
  exact this nx h _ hm
theorem allLt_mem {d : Addr} : ∀ {nx : Led}, AllLt d nx → ∀ p ∈ nx, p.1 < d := by
  intro nx
  induction nx with
  | nil => intro _ p hp; cases hp
  | cons q r ih =>
    intro h p hp
    rcases List.mem_cons.mp hp with rfl | hp
    · exact h.1
    · exact ih h.2 p hp
theorem RowsAt.mono {xs ys : List Nat} {nx nx' : Led} {rs : List Addr} (h : RowsAt xs ys nx rs) (hs : ∀ p ∈ nx, p ∈ nx') : RowsAt xs ys nx' rs := fun k hk => let ⟨vs, a, b⟩ := h k hk; ⟨vs, a.mono hs, b⟩
theorem RowsAt.other {xs ys : List Nat} {nx : Led} {rs : List Addr} {l : Addr} {o : Obj} (h : RowsAt xs ys nx rs) (hn : ∀ r ∈ rs, r ≠ l) : RowsAt xs ys (putAt l o nx) rs := fun k hk => let ⟨vs, a, b⟩ := h k hk; ⟨vs, a.other (hn _ (by simp [hk])), b⟩
theorem RowsAt.off {xs ys : List Nat} {nx : Led} {rs : List Addr} {l : Addr} (h : RowsAt xs ys nx rs) (hn : ∀ r ∈ rs, r ≠ l) : RowsAt xs ys (offIt l nx) rs := fun k hk => let ⟨vs, a, b⟩ := h k hk; ⟨vs, a.off (hn _ (by simp [hk])), b⟩
theorem RowsAt.ne {xs ys : List Nat} {nx : Led} {rs : List Addr} {a : Addr} (h : RowsAt xs ys nx rs) (hn : ∀ p ∈ nx, p.1 ≠ a) : ∀ r ∈ rs, r ≠ a := fun r hr => by
  obtain ⟨k, hk, e⟩ := List.getElem_of_mem hr
  obtain ⟨vs, ⟨o, hm, _⟩, _⟩ := h k hk
  have e2 : rs.getD k 0 = r := by simp [hk, e]
  rw [e2] at hm
  exact hn _ hm
theorem LsAt.ne {nx : Led} {l a : Addr} {vs : List Value} (h : LsAt nx l vs) (hn : ∀ p ∈ nx, p.1 ≠ a) : l ≠ a := let ⟨_, hm, _⟩ := h; hn _ hm
theorem RowsAt.snoc {xs ys : List Nat} {nx : Led} {rs : List Addr} {R : Addr} {vr : List Value} {i : Nat} (h : RowsAt xs ys nx rs) (hi : rs.length = i) (hr : LsAt nx R vr) (hv : IntsAre vr (rowIs xs ys i (ys.length + 1))) : RowsAt xs ys nx (rs ++ [R]) := fun k hk => by
  rw [List.length_append, List.length_singleton] at hk
  by_cases hlt : k < rs.length
  · have e : (rs ++ [R]).getD k 0 = rs.getD k 0 := by simp [hlt, List.getElem?_append_left]
    rw [e]; exact h k hlt
  · have e : k = rs.length := by omega
    subst e
    have e : (rs ++ [R]).getD rs.length 0 = R := by simp
    rw [e]; exact ⟨vr, hr, hi ▸ hv⟩
def FarI (xs ys : List Nat) (T R it : Addr) (oi : Obj) (rs : List Addr) (news : Led) (i j : Nat) (m₁ : Str → Option Value) (nx : Led) : Prop :=
  (∃ vr, LsAt nx R vr ∧ IntsAre vr (rowIs xs ys (i + 1) (j + 1))) ∧ LsAt nx T (rs.map .ref) ∧ RowsAt xs ys nx rs ∧ (∀ p ∈ news, p ∈ nx) ∧ (it, oi) ∈ nx ∧ (∃ tk, m₁ "one" = some (.str (S xs) tk)) ∧ (∃ tk, m₁ "two" = some (.str (S ys) tk)) ∧ m₁ "table" = some (.ref T) ∧ m₁ "row" = some (.ref R) ∧ (∃ tk, m₁ "i" = some (.int i tk))
def FarC (xs ys : List Nat) (T R it2 : Addr) (oi2 : Obj) (nx₃ : Led) (i j : Nat) (m₁ : Str → Option Value) (nx : Led) : Prop :=
  nx = (it2, oi2) :: nx₃ ∧ (∃ tk, m₁ "one" = some (.str (S xs) tk)) ∧ (∃ tk, m₁ "two" = some (.str (S ys) tk)) ∧ m₁ "table" = some (.ref T) ∧ m₁ "row" = some (.ref R) ∧ (∃ tk, m₁ "i" = some (.int i tk)) ∧ (∃ tk, m₁ "j" = some (.int j tk)) ∧ (∃ tk, m₁ "change" = some (.int (cost (xs.getD i 0) (ys.getD j 0)) tk))
theorem far_cost0 {c d : Nat} (h : (S [c] == S [d]) = true) : ((cost c d : Nat) : Int) = 0 := by
  rw [eq_S] at h; simp at h; subst h; simp [cost]
theorem far_cost1 {c d : Nat} (h : (S [c] == S [d]) = false) (g : (S [low c] == S [low d]) = true) : ((cost c d : Nat) : Int) = 1 := by
  rw [eq_S] at h g; simp at h g; simp [cost, h, g]
theorem far_cost2 {c d : Nat} (h : (S [c] == S [d]) = false) (g : (S [low c] == S [low d]) = false) : ((cost c d : Nat) : Int) = 2 := by
  rw [eq_S] at h g; simp at h g; simp [cost, h, g]
theorem intSome {a b : Int} {t : Tok} (e : a = b) : ∃ tk, some (Value.int a t) = some (.int b tk) := ⟨t, by rw [e]⟩
theorem far_row0 {xs ys : List Nat} {i : Nat} {u : Tok} : IntsAre [.int (2 * (i : Int) + 2) u] (rowIs xs ys (i + 1) (0 + 1)) := by
  have e : rowIs xs ys (i + 1) (0 + 1) = [2 * (i : Int) + 2] := by
    unfold rowIs
    simp [dp_left]
    omega
  rw [e]; exact .cons _ _ .nil
theorem far_spec {w : World} (xs ys : List Nat) (hx : xs.length ≤ 20) (hy : ys.length ≤ 20) (hax : ∀ c ∈ xs, Letter c) (hay : ∀ c ∈ ys, Letter c) (t u : Tok) (news : List (Addr × Obj)) :
    Ctr w 119 3 [.str (S xs) t, .str (S ys) u] news (fun r news' => news' = news ∧ ∃ tk, r = .int (dist xs ys) tk) := by
  refine fillme PySem.Challenge.rw_in0056_01 Mine.hp.heap_1 ?_
  k_fill
  intro _
  unfold Ctr
  intro p loose mean mg mb dp un gd cn cs a ccd cl outer A₀ base h₀ L m s Q E B F X N T hk hd hu hret
  refine wpAny_call ?_
  k_dflt ktr_enter
  clear F N
  k_steps
  refine Halt.o ?_
  rename Fr _ _ _ _ => F1
  rename News _ _ _ _ => N1
  refine comp_rangeU (a := 0) (n := ys.length + 1) F1 (fun i vs nx => (∀ p ∈ news, p ∈ nx) ∧ IntsAre vs (rowIs xs ys 0 i)) (by rfl) (by decide) (by rfl) (by decide) (by rfl) rfl (by omega) ?start ?turn ?done
  case start =>
    k_steps
    refine' RgStart.mk ?F ?N ?r ?n ?J
    case F => assumption
    case N => assumption
    case r => exact .head _
    case n => omega
    case J => exact ⟨rfl, fun p hp => .tail _ hp, .nil⟩
  case turn =>
    rintro i t5 vs nx I oI C oC D m₂ h tk E' hi ⟨hsub, hvs⟩ hC hk F2 N2 off ne
    k_steps
    refine Halt.o ?_
    refine' LCg.CompEnd.intro ?F ?N nx ?sub off trivial ⟨hsub, ?J⟩
    case F => assumption
    case N => assumption
    case sub => exact fun p hp => hp
    case J => exact (rowIs_succ xs ys 0 i).symm ▸ ints_snoc hvs (by rw [dp_zero]; omega)
  case done =>
    rintro D vs nx h tk ⟨hsub, hvs⟩ F2 N2 off
    k_steps
    refine Halt.o ?_
    rename News _ _ _ _ => N3
    rename Fr _ _ _ _ => F3
    rename Addr => TT
    rename _ ∧ AllLt _ _ => hTT
    refine for_range (n := xs.length) F3 (FarO xs ys TT news) rfl rfl rfl rfl ?start2 ?turn2 ?done2 (hE := by passes_own)
    case start2 =>
      k_steps
      refine' RgStart.mk ?F ?N ?r ?n ?J
      case F => assumption
      case N => assumption
      case r => exact .head _
      case n => omega
      case J =>
        refine ⟨[D], rfl, ⟨_, .tail _ (.head _), _, rfl⟩, fun k hk => ?_, fun r hr => ?_, fun p hp => .tail _ (.tail _ (.tail _ (hsub p hp))), ⟨_, rfl⟩, ⟨_, rfl⟩, rfl⟩
        · have e : k = 0 := by simpa using hk
          subst e
          exact ⟨vs, ⟨_, .tail _ (.tail _ (.head _)), _, rfl⟩, hvs⟩
        · have e : r = D := by simpa using hr
          subst e
          exact Nat.ne_of_lt hTT.1
    case turn2 =>
      rintro i t5 m₂ nx₂ h₂ tk₂ it oi hi ⟨rs, hrl, hT, hrows, hrT, hsub2, ⟨ta, ha⟩, ⟨tb, hb⟩, hc⟩ F5 N5 hoff
      k_steps
      refine Halt.o ?_
      rename News _ _ _ _ => N6
      rename Fr _ _ _ _ => F6
      rename Addr => R
      rename it < _ ∧ AllLt _ _ => hRR
      have hTR := allLt_ls hRR.2 hT
      have hrR : ∀ r ∈ rs, r < R := fun r hr => by
        obtain ⟨k, hk, e⟩ := List.getElem_of_mem hr
        obtain ⟨vs, hls, _⟩ := hrows k hk
        have := allLt_ls hRR.2 hls
        have e2 : rs.getD k 0 = r := by simp [hk, e]
        rw [e2] at this; exact this
      refine for_range (n := ys.length) F6 (FarI xs ys TT R it oi rs news i) rfl rfl rfl rfl ?start3 ?turn3 ?done3 (hE := by passes_own)
      case start3 =>
        k_steps
        refine' RgStart.mk ?F ?N ?r ?n ?J
        case F => assumption
        case N => assumption
        case r => exact .head _
        case n => omega
        case J =>
          exact ⟨⟨_, ⟨_, .tail _ (.head _), _, rfl⟩, far_row0⟩, hT.mono (fun p hp => .tail _ (.tail _ (.tail _ hp))), hrows.mono (fun p hp => .tail _ (.tail _ (.tail _ hp))), fun p hp => .tail _ (.tail _ (.tail _ (hsub2 p hp))), .tail _ (.tail _ (.head _)), ⟨_, ha⟩, ⟨_, hb⟩, hc, rfl, ⟨_, rfl⟩⟩
      case turn3 =>
        rintro j t6 m₃ nx₃ h₃ tk₃ it2 oi2 hj ⟨⟨vr, hR, hvr⟩, hT3, hrows3, hsub3, hit, ⟨ta, ha⟩, ⟨tb, hb⟩, hc, hrow, ⟨ti, hi3⟩⟩ F7 N7 hoff2
        try clear F6 N6
        refine execs_cutN F7 1 (FarC xs ys TT R it2 oi2 nx₃ i j) ?first ?second
        case first =>
          simp only [List.take_succ_cons, List.take_zero]
          k_steps
          · refine' CutStep.mk ?F ?N ?J
            case F => assumption
            case N => assumption
            case J => exact ⟨rfl, ⟨_, ha⟩, ⟨_, hb⟩, hc, hrow, ⟨_, hi3⟩, ⟨_, rfl⟩, intSome (far_cost0 (c := xs.getD i 0) (d := ys.getD j 0) (by assumption)).symm⟩
          · refine' CutStep.mk ?F ?N ?J
            case F => assumption
            case N => assumption
            case J => exact ⟨rfl, ⟨_, ha⟩, ⟨_, hb⟩, hc, hrow, ⟨_, hi3⟩, ⟨_, rfl⟩, intSome (far_cost1 (c := xs.getD i 0) (d := ys.getD j 0) (by assumption) (by assumption)).symm⟩
          · refine' CutStep.mk ?F ?N ?J
            case F => assumption
            case N => assumption
            case J => exact ⟨rfl, ⟨_, ha⟩, ⟨_, hb⟩, hc, hrow, ⟨_, hi3⟩, ⟨_, rfl⟩, intSome (far_cost2 (c := xs.getD i 0) (d := ys.getD j 0) (by assumption) (by assumption)).symm⟩
        case second =>
          rintro m₄ nx₄ h₄ tk₄ F8 N8 ⟨e4, ⟨ta, ha⟩, ⟨tb, hb⟩, hc, hrow, ⟨ti, hi4⟩, ⟨tj, hj4⟩, ⟨tc, hch⟩⟩
          subst e4
          simp only [List.drop_succ_cons, List.drop_zero]
          try clear F7 N7
          have hR' : LsAt ((it2, oi2) :: nx₃) R vr := hR.mono fun p hp => .tail _ hp
          have hT' : LsAt ((it2, oi2) :: nx₃) TT (rs.map .ref) := hT3.mono fun p hp => .tail _ hp
          have hrows' : RowsAt xs ys ((it2, oi2) :: nx₃) rs := hrows3.mono fun p hp => .tail _ hp
          k_steps
          refine Halt.o ?_
          k_dflt (refine' ls_get (s := ⟨_, _, _, _, _⟩) (by assumption) hT' rfl (by omega) (v := .ref (rs.getD i 0)) (by simp [hrl]) ?_)
          k_steps
          refine Halt.o ?_
          obtain ⟨vs2, hls2, hvs2⟩ := hrows' i (by omega)
          obtain ⟨tv, hv⟩ := hvs2.get j _ (rowIs_get (by omega))
          k_dflt (refine' ls_get (s := ⟨_, _, _, _, _⟩) (by assumption) hls2 rfl (by omega) hv ?_)
          clear hv
          k_steps
          refine Halt.o ?_
          k_dflt (refine' ls_get (s := ⟨_, _, _, _, _⟩) (by assumption) hT' rfl (by omega) (v := .ref (rs.getD i 0)) (by simp [hrl]) ?_)
          k_steps
          refine Halt.o ?_
          obtain ⟨tv2, hv⟩ := hvs2.get (j + 1) _ (rowIs_get (by omega))
          k_dflt (refine' ls_get (s := ⟨_, _, _, _, _⟩) (by assumption) hls2 (k := j + 1) (by omega) (by omega) hv ?_)
          clear hv
          k_steps
          refine Halt.o ?_
          obtain ⟨tv3, hv⟩ := hvr.get j _ (rowIs_get (by omega))
          k_dflt (refine' ls_get (s := ⟨_, _, _, _, _⟩) (by assumption) hR' rfl (by omega) hv ?_)
          clear hv
          k_steps
          refine Halt.o ?_
          k_dflt (refine' ls_append (s := ⟨_, _, _, _, _⟩) (by assumption) (by assumption) hR' (by have := hvr.length; simp [rowIs] at this; omega) ?_)
          intro h' o' F' N' hO
          k_steps
          have hRi : R ≠ it2 := hR.ne hoff2
          have hTR' : TT ≠ R := Nat.ne_of_lt hTR
          have hTi : TT ≠ it2 := hT3.ne hoff2
          have hitR : it ≠ R := Nat.ne_of_lt hRR.1
          have hit2 : it ≠ it2 := hoff2 _ hit
          refine' ForStep.mk2 (nx := putAt R o' ((it2, oi2) :: nx₃)) ?F ?N ?hm ?J
          case F => assumption
          case N => assumption
          case hm => exact putAt_other (.head _) hRi.symm
          case J =>
            refine ⟨⟨_, (hR'.put hO).off hRi, ?_⟩, (hT'.other hTR').off hTi, (hrows'.other fun r hr => Nat.ne_of_lt (hrR r hr)).off (hrows3.ne hoff2), fun p hp => off_mem (putAt_other (.tail _ (hsub3 p hp)) (Nat.ne_of_lt (allLt_mem hRR.2 p (hsub2 p hp)))) (hoff2 p (hsub3 p hp)), off_mem (putAt_other (.tail _ hit) hitR) hit2, ⟨_, ha⟩, ⟨_, hb⟩, hc, hrow, ⟨_, hi4⟩⟩
            exact (rowIs_succ xs ys (i + 1) (j + 1)).symm ▸ ints_snoc hvr (by rw [dp_succ]; omega)
      case done3 =>
        rintro m₃ nx₃ h₃ tk₃ ⟨⟨vr, hR, hvr⟩, hT3, hrows3, hsub3, hit, ⟨ta, ha⟩, ⟨tb, hb⟩, hc, hrow, _⟩ F7 N7
        dsimp only
        try clear F6 N6
        k_steps
        refine Halt.o ?_
        k_dflt (refine' ls_append (s := ⟨_, _, _, _, _⟩) (by assumption) (by assumption) hT3 (by simp [hrl]; omega) ?_)
        intro h' o' F' N' hO
        k_steps
        have hRi : R ≠ it := (Nat.ne_of_lt hRR.1).symm
        have hTR' : TT ≠ R := Nat.ne_of_lt hTR
        have hTi : TT ≠ it := hT.ne hoff
        refine' ForStep.mk2 (nx := putAt TT o' nx₃) ?F ?N ?hm ?J
        case F => assumption
        case N => assumption
        case hm => exact putAt_other hit hTi.symm
        case J =>
          refine ⟨rs ++ [R], by simp [hrl], ?_, RowsAt.snoc ((hrows3.other hrT).off (hrows.ne hoff)) hrl ((hR.other hTR'.symm).off hRi) hvr, fun r hr => ?_, fun p hp => off_mem (putAt_other (hsub3 p hp) (Nat.ne_of_lt ?_)) (hoff p (hsub2 p hp)), ⟨_, ha⟩, ⟨_, hb⟩, hc⟩
          · have e : (rs ++ [R]).map Value.ref = rs.map .ref ++ [.ref R] := by simp
            rw [e]; exact (hT3.put hO).off hTi
          · rcases List.mem_append.mp hr with hr | hr
            · exact hrT r hr
            · rw [List.mem_singleton.mp hr]; exact hTR'.symm
          · exact allLt_mem hTT.2 p (hsub p hp)
    case done2 =>
      rintro m₂ nx₂ h₂ tk₂ ⟨rs, hrl, hT, hrows, hrT, hsub2, ⟨ta, ha⟩, ⟨tb, hb⟩, hc⟩ F5 N5
      dsimp only
      have hlast : rs.getD xs.length 0 = rs.getD xs.length 0 := rfl
      k_steps
      refine Halt.o ?_
      k_dflt (refine' ls_getNeg (s := ⟨_, _, _, _, _⟩) (j := 1) N5 hT rfl (by decide) (by simp; omega) (by simp; omega) (v := .ref (rs.getD xs.length 0)) (by simp [hrl]) ?_)
      k_steps
      refine Halt.o ?_
      obtain ⟨vs2, hls2, hvs2⟩ := hrows xs.length (by omega)
      have hl2 := hvs2.length
      obtain ⟨tv, hv⟩ := hvs2.get ys.length _ (rowIs_get (by omega))
      k_dflt (refine' ls_getNeg (s := ⟨_, _, _, _, _⟩) (j := 1) N5 hls2 rfl (by decide) (by simp [rowIs] at hl2; omega) (by simp [rowIs] at hl2; omega) (by simp [rowIs] at hl2; rw [hl2]; exact hv) ?_)
      clear hv
      k_steps
      refine hret _ _ _ _ (by assumption) (newsSub (by assumption) hsub2) ⟨rfl, intIs rfl⟩

end

section
local macro_rules | `(tactic| walk_at "exec If") => `(tactic| refine wpAny_If ?_)
local macro_rules | `(tactic| walk_at "subscriptTail") => `(tactic| ((with_reducible show wpAny _ _ (subscriptTail _ _ (Value.ref _) (Value.int _ _)) _ _ _); refine Halt.i ?_))
local macro_rules | `(tactic| walk_at "setItem ref int") => `(tactic| refine Halt.i ?_)

section
local macro_rules | `(tactic| walk_at "compareOp Lt ref ref") => `(tactic| refine Halt.i ?_)

section

theorem shr1 {n : Nat} (h : 1 ≤ n) : ((n : Int) - 1).fdiv (2 ^ Int.toNat 1) = (((n - 1) / 2 : Nat) : Int) := by
  have e : (2 : Int) ^ Int.toNat 1 = 2 := by decide
  rw [e, Int.fdiv_eq_ediv_of_nonneg _ (by omega)]
  omega
def SdJ (l : Addr) (key : Addr → Int × List Nat) (rs : List Addr) (news : Led) (x : Addr) (pos : Nat) (m₁ : Str → Option Value) (nx : Led) : Prop :=
  ∃ vs : List Addr, But l news nx ∧ LsAt nx l (vs.map .ref) ∧ (vs.set pos x).Perm rs ∧ SD (kl key) (vs.set pos x) pos ∧ pos < vs.length ∧ m₁ "heap" = some (.ref l) ∧ m₁ "newitem" = some (.ref x) ∧ (∃ tk, m₁ "pos" = some (.int pos tk)) ∧ (∃ tk, m₁ "startpos" = some (.int 0 tk))
def SdE (l : Addr) (key : Addr → Int × List Nat) (rs : List Addr) (news : Led) (x : Addr) (m₁ : Str → Option Value) (nx : Led) : Prop :=
  ∃ (vs : List Addr) (pos : Nat), But l news nx ∧ LsAt nx l (vs.map .ref) ∧ (vs.set pos x).Perm rs ∧ HOk (kl key) (vs.set pos x) ∧ pos < vs.length ∧ m₁ "heap" = some (.ref l) ∧ m₁ "newitem" = some (.ref x) ∧ (∃ tk, m₁ "pos" = some (.int pos tk))
theorem siftdown_spec {w : World} (l : Addr) (key : Addr → Int × List Nat) (rs : List Addr) (pos : Nat) (hp : pos < rs.length) (hlen : rs.length ≤ 40) (t u : Tok) (news : List (Addr × Obj))
    (hl : LsAt news l (rs.map .ref)) (hkey : ∀ r ∈ rs, KeyAt news r (key r)) (hsd : SD (kl key) rs pos) :
    Ctr w 90 3 [.ref l, .int 0 t, .int pos u] news (HeapPost l key rs news) := by
  refine fillme PySem.Challenge.rw_in0056_01 Mine.hp.heap_1 ?_
  k_fill
  intro _
  unfold Ctr
  intro p loose mean mg mb dp un gd cn cs a ccd cl outer A₀ base h₀ L m s Q E B F X N T hk hd hu hret
  refine wpAny_call ?_
  k_dflt ktr_enter
  clear F N
  obtain ⟨x, hx⟩ : ∃ x, At rs pos x := ⟨rs[pos], ⟨List.getElem?_eq_getElem hp⟩⟩
  k_steps
  refine Halt.o ?_
  k_dflt (refine' ls_get (s := ⟨_, _, _, _, _⟩) (k := pos) (v := .ref x) (by assumption) hl (by first | rfl | omega) (by omega) (by simp [hx.e]) ?_)
  k_steps
  have hkl : ∀ r ∈ rs, r ≠ l := fun r hr => (hkey r hr).ne (by assumption) hl
  have hxl := hkl x (List.mem_of_getElem? hx.e)
  refine Halt.o ?_
  rename Fr _ _ _ _ => F1
  rename News _ _ _ _ => N1
  have hself : rs.set pos x = rs := by
    obtain ⟨h1, e⟩ := List.getElem?_eq_some_iff.mp hx.e
    rw [← e]; exact List.set_getElem_self h1
  have hxk := hkey x (List.mem_of_getElem? hx.e)
  refine while_x (n₀ := pos) (SdJ l key rs news x) (SdE l key rs news x) F1 N1 ⟨rs, But.refl l news, hl, by rw [hself], by rw [hself]; exact hsd, hp, rfl, rfl, ⟨_, rfl⟩, ⟨_, rfl⟩⟩ ?turn ?done
  case turn =>
    rintro n m₁ nx h₁ tk₁ F2 N2 ⟨vs, hbut, hls, hperm, hsd1, hlt, h1, h2, ⟨t3, h3⟩, ⟨t4, h4⟩⟩
    try clear F1 N1
    have hvl : vs.length = rs.length := by have := hperm.length_eq; simpa using this
    k_steps
    · have hn : 1 ≤ n := by rename decide (0 < (n : Int)) = true => hd0; have := of_decide_eq_true hd0; omega
      have hq : (n - 1) / 2 < vs.length := by omega
      obtain ⟨y, hy⟩ : ∃ y, At vs ((n - 1) / 2) y := ⟨vs[(n - 1) / 2], ⟨List.getElem?_eq_getElem hq⟩⟩
      have hqn : (n - 1) / 2 ≠ n := by omega
      have hy' : At (vs.set n x) ((n - 1) / 2) y := ⟨by rw [set_off hqn]; exact hy.e⟩
      have hx' : At (vs.set n x) n x := ⟨set_at (List.getElem?_eq_getElem hlt)⟩
      have hyk := hkey y (hperm.subset (List.mem_of_getElem? hy'.e))
      refine Halt.o ?_
      k_dflt (refine' ls_get (s := ⟨_, _, _, _, _⟩) (k := (n - 1) / 2) (v := .ref y) (by assumption) hls (shr1 hn) (by omega) (by simp [hy.e]) ?_)
      k_steps
      refine Halt.o ?_
      rename News _ _ _ _ => N3
      k_dflt (refine' tup_lt (s := ⟨_, _, _, _, _⟩) (x := key x) (y := key y) ?room N3 (hbut.key hxk hxl) (hbut.key hyk (hkl y (hperm.subset (List.mem_of_getElem? hy'.e)))) ?_)
      case room => ktr_units
      k_steps
      · rename klt (key x) (key y) = true => hlt1
        refine Halt.o ?_
        k_dflt (refine' ls_set (s := ⟨_, _, _, _, _⟩) (k := n) (by assumption) (by assumption) hls rfl (by omega) (by simpa using hlt) ?_)
        intro h9 o9 F9 N9 hO
        have hstep := hsd1.step (klt_ord key) hn hx'.e hy'.e hlt1
        have hsw := perm_swap hqn.symm hx'.e hy'.e
        rw [hole_move] at hstep hsw
        k_steps
        refine' WhStep.cont (n' := (n - 1) / 2) ?F ?N ?n ?J
        case F => assumption
        case N => assumption
        case n => omega
        case J =>
          refine ⟨vs.set n y, hbut.put, ?_, hsw.trans hperm, hstep, by simpa using hq, h1, h2, ⟨_, congrArg (fun i => some (Value.int i _)) (shr1 hn)⟩, ⟨_, h4⟩⟩
          have e : (vs.set n y).map Value.ref = (vs.map Value.ref).set n (.ref y) := by rw [List.map_set]
          rw [e]; exact hls.put hO
      · rename klt (key x) (key y) = false => hlt1
        refine' WhStep.exit ?F ?N ?J
        case F => assumption
        case N => assumption
        case J => exact ⟨vs, n, hbut, hls, hperm, hsd1.done hx'.e hy'.e hlt1, hlt, h1, h2, ⟨_, h3⟩⟩
    · have hn : n = 0 := by rename decide (0 < (n : Int)) = false => hd0; have := of_decide_eq_false hd0; omega
      subst hn
      refine' WhExit.mk ?F ?N ?J
      case F => assumption
      case N => assumption
      case J => exact ⟨vs, 0, hbut, hls, hperm, hsd1.done0, hlt, h1, h2, ⟨_, h3⟩⟩
  case done =>
    rintro m₁ nx h₁ tk₁ F2 N2 ⟨vs, pos2, hbut, hls, hperm, hok, hlt, h1, h2, ⟨t3, h3⟩⟩
    try clear F1 N1
    have hvl : vs.length = rs.length := by have := hperm.length_eq; simpa using this
    k_steps
    refine Halt.o ?_
    k_dflt (refine' ls_set (s := ⟨_, _, _, _, _⟩) (k := pos2) (by assumption) (by assumption) hls rfl (by omega) (by simpa using hlt) ?_)
    intro h9 o9 F9 N9 hO
    k_steps
    refine hret _ _ _ _ (by assumption) (by assumption) ⟨rfl, vs.set pos2 x, hbut.put, ?_, hperm, hok⟩
    have e : (vs.set pos2 x).map Value.ref = (vs.map Value.ref).set pos2 (.ref x) := by rw [List.map_set]
    rw [e]; exact hls.put hO

end

section
local macro_rules | `(tactic| walk_at "call ref") => `(tactic| refine Halt.i ?_)
local macro_rules | `(tactic| walk_at "call builtin:len") => `(tactic| k_dflt ((refine' ls_len ?N ?l ?b ?_); (case N => assumption); (case l => assumption); (case b => tb_start)))
local macro_rules | `(tactic| tb_start) => `(tactic| (simp only [List.length_map]; omega))

theorem su_to {lt : Addr → Addr → Bool} {vs : List Addr} {pos c : Nat} {x y : Addr} (h : SU lt (vs.set pos x) pos) (hlt : pos < vs.length) (hc : c = 2 * pos + 1 ∨ c = 2 * pos + 2) (hy : vs[c]? = some y)
    (ho : ∀ k z, k = 2 * pos + 1 ∨ k = 2 * pos + 2 → k ≠ c → vs[k]? = some z → lt z y = false) : SU lt ((vs.set pos y).set c x) c ∧ ((vs.set pos y).set c x).Perm (vs.set pos x) := by
  have hx' : (vs.set pos x)[pos]? = some x := set_at (List.getElem?_eq_getElem hlt)
  have hy' : (vs.set pos x)[c]? = some y := by rw [set_off (by omega)]; exact hy
  have h1 := h.step (c := c) (by omega) (by omega) hx' hy' (fun k z hk hkp hz hkc => ho k z (by omega) hkc (by rwa [set_off (by omega)] at hz))
  have h2 := perm_swap (i := pos) (j := c) (by omega) hx' hy'
  rw [hole_move] at h1 h2
  exact ⟨h1, h2⟩
theorem su_left {lt : Addr → Addr → Bool} {vs : List Addr} {pos : Nat} {x y z : Addr} (h : SU lt (vs.set pos x) pos) (hlt : pos < vs.length) (hy : At vs (2 * pos + 1) y) (hz : At vs (2 * pos + 2) z) (hl : lt z y = false) :
    SU lt ((vs.set pos y).set (2 * pos + 1) x) (2 * pos + 1) ∧ ((vs.set pos y).set (2 * pos + 1) x).Perm (vs.set pos x) :=
  su_to h hlt (.inl rfl) hy.e fun k v hk hkc hv => by
    have ek : k = 2 * pos + 2 := by omega
    rw [ek, hz.e] at hv
    cases hv
    exact hl
theorem su_right {lt : Addr → Addr → Bool} {vs : List Addr} {pos : Nat} {x y z : Addr} (h : SU lt (vs.set pos x) pos) (hlt : pos < vs.length) (hy : At vs (2 * pos + 1) y) (hz : At vs (2 * pos + 2) z) (hl : lt y z = false) :
    SU lt ((vs.set pos z).set (2 * pos + 2) x) (2 * pos + 2) ∧ ((vs.set pos z).set (2 * pos + 2) x).Perm (vs.set pos x) :=
  su_to h hlt (.inr rfl) hz.e fun k v hk hkc hv => by
    have ek : k = 2 * pos + 1 := by omega
    rw [ek, hy.e] at hv
    cases hv
    exact hl
theorem su_only {lt : Addr → Addr → Bool} {vs : List Addr} {pos : Nat} {x y : Addr} (h : SU lt (vs.set pos x) pos) (hlt : pos < vs.length) (hy : At vs (2 * pos + 1) y) (hl : vs.length ≤ 2 * pos + 2) :
    SU lt ((vs.set pos y).set (2 * pos + 1) x) (2 * pos + 1) ∧ ((vs.set pos y).set (2 * pos + 1) x).Perm (vs.set pos x) :=
  su_to h hlt (.inl rfl) hy.e fun k v hk hkc hv => by
    have h9 := (List.getElem?_eq_some_iff.mp hv).1
    omega
def SuJ (l : Addr) (key : Addr → Int × List Nat) (rs : List Addr) (news : Led) (x : Addr) (pos : Nat) (m₁ : Str → Option Value) (nx : Led) : Prop :=
  ∃ vs : List Addr, But l news nx ∧ LsAt nx l (vs.map .ref) ∧ (vs.set pos x).Perm rs ∧ SU (kl key) (vs.set pos x) pos ∧ pos < vs.length ∧ m₁ "heap" = some (.ref l) ∧ m₁ "newitem" = some (.ref x) ∧ (∃ tk, m₁ "pos" = some (.int pos tk)) ∧ (∃ tk, m₁ "startpos" = some (.int 0 tk)) ∧ (∃ tk, m₁ "endpos" = some (.int rs.length tk)) ∧ (∃ tk, m₁ "childpos" = some (.int (2 * (pos : Int) + 1) tk))
theorem siftup_spec {w : World} (l : Addr) (key : Addr → Int × List Nat) (rs : List Addr) (hp : 0 < rs.length) (hlen : rs.length ≤ 40) (t : Tok) (news : List (Addr × Obj))
    (hl : LsAt news l (rs.map .ref)) (hkey : ∀ r ∈ rs, KeyAt news r (key r)) (hsu : SU (kl key) rs 0) :
    Ctr w 97 5 [.ref l, .int 0 t] news (HeapPost l key rs news) := by
  refine fillme PySem.Challenge.rw_in0056_01 Mine.hp.heap_1 ?_
  k_fill
  intro _
  unfold Ctr
  intro p loose mean mg mb dp un gd cn cs a ccd cl outer A₀ base h₀ L m s Q E B F X N T hk hd hu hret
  refine wpAny_call ?_
  k_dflt ktr_enter
  clear F N
  obtain ⟨x, hx⟩ : ∃ x, At rs 0 x := ⟨rs[0], ⟨List.getElem?_eq_getElem hp⟩⟩
  have hkl : ∀ r ∈ rs, r ≠ l := fun r hr => (hkey r hr).ne (by assumption) hl
  have hxl := hkl x (List.mem_of_getElem? hx.e)
  have hxk := hkey x (List.mem_of_getElem? hx.e)
  have hself : rs.set 0 x = rs := by
    obtain ⟨h1, e⟩ := List.getElem?_eq_some_iff.mp hx.e
    rw [← e]; exact List.set_getElem_self h1
  k_steps
  refine Halt.o ?_
  k_dflt (refine' ls_get (s := ⟨_, _, _, _, _⟩) (k := 0) (v := .ref x) (by assumption) hl (by first | rfl | omega) (by omega) (by simp [hx.e]) ?_)
  k_steps
  refine Halt.o ?_
  rename Fr _ _ _ _ => F1
  rename News _ _ _ _ => N1
  refine while_x (n₀ := rs.length - 0) (fun n m₁ nx => ∃ pos, n = rs.length - pos ∧ SuJ l key rs news x pos m₁ nx) (fun m₁ nx => ∃ pos, rs.length ≤ 2 * pos + 1 ∧ SuJ l key rs news x pos m₁ nx) F1 N1 ⟨0, rfl, rs, But.refl l news, hl, by rw [hself], by rw [hself]; exact hsu, hp, rfl, rfl, ⟨_, rfl⟩, ⟨_, rfl⟩, intSome (by simp), intSome (by simp)⟩ ?turn ?done
  case turn =>
    rintro n m₁ nx h₁ tk₁ F2 N2 ⟨pos, en, vs, hbut, hls, hperm, hsu1, hlt, h1, h2, ⟨t3, h3⟩, ⟨t4, h4⟩, ⟨t5, h5⟩, ⟨t6, h6⟩⟩
    subst en
    try clear F1 N1
    have hvl : vs.length = rs.length := by have := hperm.length_eq; simpa using this
    have hx' : At (vs.set pos x) pos x := ⟨set_at (List.getElem?_eq_getElem hlt)⟩
    k_steps
    · have hb1 : 2 * pos + 1 < vs.length := by omega
      have hY := At.get hb1
      clear hb1
      obtain ⟨y, hy⟩ := hY
      have hb2 : 2 * pos + 2 < vs.length := by omega
      have hZ := At.get hb2
      clear hb2
      obtain ⟨z, hz⟩ := hZ
      have hym : y ∈ rs := hperm.subset (List.mem_of_getElem? (i := 2 * pos + 1) (by rw [set_off (by omega)]; exact hy.e))
      have hzm : z ∈ rs := hperm.subset (List.mem_of_getElem? (i := 2 * pos + 2) (by rw [set_off (by omega)]; exact hz.e))
      have hyk := hbut.key (hkey y hym) (hkl y hym)
      have hzk := hbut.key (hkey z hzm) (hkl z hzm)
      refine Halt.o ?_
      k_dflt (refine' ls_get (s := ⟨_, _, _, _, _⟩) (k := 2 * pos + 1) (v := .ref y) (by assumption) hls (by omega) (by omega) (by simp [hy.e]) ?_)
      k_steps
      refine Halt.o ?_
      k_dflt (refine' ls_get (s := ⟨_, _, _, _, _⟩) (k := 2 * pos + 2) (v := .ref z) (by assumption) hls (by omega) (by omega) (by simp [hz.e]) ?_)
      k_steps
      refine Halt.o ?_
      rename News _ _ _ _ => N3
      k_dflt (refine' tup_lt (s := ⟨_, _, _, _, _⟩) (x := key y) (y := key z) ?room N3 hyk hzk ?_)
      case room => ktr_units
      k_steps
      all_goals first
        | rename klt (key y) (key z) = true => hlt1
          refine Halt.o ?_
          k_dflt (refine' ls_get (s := ⟨_, _, _, _, _⟩) (k := 2 * pos + 1) (v := .ref y) (by assumption) hls (by omega) (by omega) (by simp [hy.e]) ?_)
          have hh := su_left hsu1 hlt hy hz (klt_asym _ _ hlt1)
          have hstep := hh.1
          have hsw := hh.2
          clear hh
          k_steps
          refine Halt.o ?_
          k_dflt (refine' ls_set (s := ⟨_, _, _, _, _⟩) (k := pos) (by assumption) (by assumption) hls rfl (by omega) (by simpa using hlt) ?_)
          intro h9 o9 F9 N9 hO
          k_steps
          refine' WhStep.mk (n' := rs.length - (2 * pos + 1)) ?F ?N ?ltn ?J
          case F => assumption
          case N => assumption
          case ltn => omega
          case J =>
            refine ⟨2 * pos + 1, rfl, vs.set pos y, hbut.put, ?_, hsw.trans hperm, hstep, by rw [List.length_set]; omega, h1, h2, intSome (by omega), ⟨_, h4⟩, ⟨_, h5⟩, intSome (by omega)⟩
            have e : (vs.set pos y).map Value.ref = (vs.map Value.ref).set pos (.ref y) := by rw [List.map_set]
            rw [e]; exact hls.put hO
        | rename klt (key y) (key z) = false => hlt1
          refine Halt.o ?_
          k_dflt (refine' ls_get (s := ⟨_, _, _, _, _⟩) (k := 2 * pos + 2) (v := .ref z) (by assumption) hls (by omega) (by omega) (by simp [hz.e]) ?_)
          have hh := su_right hsu1 hlt hy hz hlt1
          have hstep := hh.1
          have hsw := hh.2
          clear hh
          k_steps
          refine Halt.o ?_
          k_dflt (refine' ls_set (s := ⟨_, _, _, _, _⟩) (k := pos) (by assumption) (by assumption) hls rfl (by omega) (by simpa using hlt) ?_)
          intro h9 o9 F9 N9 hO
          k_steps
          refine' WhStep.mk (n' := rs.length - (2 * pos + 2)) ?F ?N ?ltn ?J
          case F => assumption
          case N => assumption
          case ltn => omega
          case J =>
            refine ⟨2 * pos + 2, rfl, vs.set pos z, hbut.put, ?_, hsw.trans hperm, hstep, by rw [List.length_set]; omega, h1, h2, intSome (by omega), ⟨_, h4⟩, ⟨_, h5⟩, intSome (by omega)⟩
            have e : (vs.set pos z).map Value.ref = (vs.map Value.ref).set pos (.ref z) := by rw [List.map_set]
            rw [e]; exact hls.put hO
    · rename decide (2 * (pos : Int) + 1 < (rs.length : Int)) = true => hq0
      have hq := of_decide_eq_true hq0
      have hb1 : 2 * pos + 1 < vs.length := by omega
      have hY := At.get hb1
      clear hb1
      obtain ⟨y, hy⟩ := hY
      refine Halt.o ?_
      k_dflt (refine' ls_get (s := ⟨_, _, _, _, _⟩) (k := 2 * pos + 1) (v := .ref y) (by assumption) hls (by omega) (by omega) (by simp [hy.e]) ?_)
      have hsz : vs.length ≤ 2 * pos + 2 := by omega
      have hh := su_only hsu1 hlt hy hsz
      have hstep := hh.1
      have hsw := hh.2
      clear hh
      clear hsz
      k_steps
      refine Halt.o ?_
      k_dflt (refine' ls_set (s := ⟨_, _, _, _, _⟩) (k := pos) (by assumption) (by assumption) hls rfl (by omega) (by simpa using hlt) ?_)
      intro h9 o9 F9 N9 hO
      k_steps
      refine' WhStep.mk (n' := rs.length - (2 * pos + 1)) ?F ?N ?ltn ?J
      case F => assumption
      case N => assumption
      case ltn => omega
      case J =>
        refine ⟨2 * pos + 1, rfl, vs.set pos y, hbut.put, ?_, hsw.trans hperm, hstep, by rw [List.length_set]; omega, h1, h2, intSome (by omega), ⟨_, h4⟩, ⟨_, h5⟩, intSome (by omega)⟩
        have e : (vs.set pos y).map Value.ref = (vs.map Value.ref).set pos (.ref y) := by rw [List.map_set]
        rw [e]; exact hls.put hO
    · rename decide (2 * (pos : Int) + 1 < (rs.length : Int)) = false => hq0
      have hq := of_decide_eq_false hq0
      refine' WhExit.mk ?F ?N ?J
      case F => assumption
      case N => assumption
      case J => exact ⟨pos, by omega, vs, hbut, hls, hperm, hsu1, hlt, h1, h2, ⟨_, h3⟩, ⟨_, h4⟩, ⟨_, h5⟩, ⟨_, h6⟩⟩
  case done =>
    rintro m₁ nx h₁ tk₁ F2 N2 ⟨pos, hleaf, vs, hbut, hls, hperm, hsu1, hlt, h1, h2, ⟨t3, h3⟩, ⟨t4, h4⟩, _, _⟩
    try clear F1 N1
    have hvl : vs.length = rs.length := by have := hperm.length_eq; simpa using this
    k_steps
    refine Halt.o ?_
    k_dflt (refine' ls_set (s := ⟨_, _, _, _, _⟩) (k := pos) (by assumption) (by assumption) hls rfl (by omega) (by simpa using hlt) ?_)
    intro h9 o9 F9 N9 hO
    have e : (vs.set pos x).map Value.ref = (vs.map Value.ref).set pos (.ref x) := by rw [List.map_set]
    have hbut2 : But l news (putAt l o9 nx) := hbut.put
    have hls2 : LsAt (putAt l o9 nx) l ((vs.set pos x).map .ref) := by rw [e]; exact hls.put hO
    k_steps
    refine Halt.o ?_
    k_dflt (refine' ctr_use (siftdown_spec l key (vs.set pos x) pos (by simpa using hlt) (by simpa [hvl] using hlen) _ _ _ hls2 (fun r hr => hbut2.key (hkey r (hperm.subset hr)) (hkl r (hperm.subset hr))) (hsu1.leaf (by simp; omega))) ?B ?F ?X ?N ?T ?hk ?dp ?un ?_)
    case B => k_asm
    case F => k_asm
    case X => k_asm
    case N => k_asm
    case T => k_asm
    case hk => exact rfl
    case dp => ktr_room
    case un => ktr_units
    rintro _ nx3 h10 tk10 F10 N10 ⟨e10, rs3, hb3, hl3, hp3, hok3⟩
    subst e10
    k_steps
    refine hret _ _ _ _ (by assumption) (by assumption) ⟨rfl, rs3, hbut2.trans hb3, hl3, hp3.trans hperm, hok3⟩

end

end

section
local macro_rules | `(tactic| walk_at "call ref") => `(tactic| refine Halt.i ?_)

section
local macro_rules | `(tactic| walk_at "call builtin:list.append") => `(tactic| refine Halt.i ?_)
local macro_rules | `(tactic| walk_at "call builtin:list.pop") => `(tactic| refine Halt.i ?_)
local macro_rules | `(tactic| walk_at "truthy ref") => `(tactic| refine Halt.i ?_)
local macro_rules | `(tactic| walk_at "getMethod ref") => `(tactic| k_dflt ((refine' ls_appendM ?N ?l ?_); (case N => assumption); (case l => assumption)))
local macro_rules | `(tactic| walk_at "getMethod ref") => `(tactic| k_dflt ((refine' ls_popM ?N ?l ?_); (case N => assumption); (case l => assumption)))
local macro_rules | `(tactic| walk_at "call builtin:len") => `(tactic| k_dflt ((refine' ls_len ?N ?l ?b ?_); (case N => assumption); (case l => assumption); (case b => tb_start)))
local macro_rules | `(tactic| tb_start) => `(tactic| (simp only [List.length_map, List.length_append, List.length_cons, List.length_nil]; omega))

theorem HOk.nil {lt : Addr → Addr → Bool} : HOk lt [] := fun k x y _ h _ => by simp at h
theorem heappush_spec {w : World} (l : Addr) (key : Addr → Int × List Nat) (rs : List Addr) (x : Addr) (hlen : rs.length ≤ 30) (news : List (Addr × Obj))
    (hl : LsAt news l (rs.map .ref)) (hkey : ∀ r ∈ rs ++ [x], KeyAt news r (key r)) (hok : HOk (kl key) rs) :
    Ctr w 76 5 [.ref l, .ref x] news (HeapPost l key (rs ++ [x]) news) := by
  refine fillme PySem.Challenge.rw_in0056_01 Mine.hp.heap_1 ?_
  k_fill
  intro _
  unfold Ctr
  intro p loose mean mg mb dp un gd cn cs a ccd cl outer A₀ base h₀ L m s Q E B F X N T hk hd hu hret
  refine wpAny_call ?_
  k_dflt ktr_enter
  clear F N
  have hkl : ∀ r ∈ rs ++ [x], r ≠ l := fun r hr => (hkey r hr).ne (by assumption) hl
  k_steps
  refine Halt.o ?_
  k_dflt (refine' ls_append (s := ⟨_, _, _, _, _⟩) (by assumption) (by assumption) hl (by simp; omega) ?_)
  intro h9 o9 F9 N9 hO
  have hbut : But l news (putAt l o9 news) := (But.refl l news).put
  have hls : LsAt (putAt l o9 news) l ((rs ++ [x]).map .ref) := by
    rw [List.map_append]
    exact hl.put hO
  k_steps
  refine Halt.o ?_
  have e : (((rs ++ [x]).map Value.ref).length : Int) - 1 = (rs.length : Nat) := by simp
  rw [e]
  k_dflt (refine' ctr_use (siftdown_spec l key (rs ++ [x]) rs.length (by simp) (by simp; omega) _ _ _ hls (fun r hr => hbut.key (hkey r hr) (hkl r hr)) (SD.push hok)) ?B ?F ?X ?N ?T ?hk ?dp ?un ?_)
  case B => k_asm
  case F => k_asm
  case X => k_asm
  case N => k_asm
  case T => k_asm
  case hk => exact rfl
  case dp => ktr_room
  case un => ktr_units
  rintro _ nx3 h10 tk10 F10 N10 ⟨e10, rs3, hb3, hl3, hp3, hok3⟩
  subst e10
  k_steps
  refine hret _ _ _ _ (by assumption) (by assumption) ⟨rfl, rs3, hbut.trans hb3, hl3, hp3, hok3⟩

end

section
local macro_rules | `(tactic| walk_at "call builtin:list.pop") => `(tactic| refine Halt.i ?_)
local macro_rules | `(tactic| walk_at "truthy ref") => `(tactic| refine Halt.i ?_)
local macro_rules | `(tactic| walk_at "getMethod ref") => `(tactic| k_dflt ((refine' ls_popM ?N ?l ?_); (case N => assumption); (case l => assumption)))

/-- what heappop leaves -/
def PopPost (l : Addr) (key : Addr → Int × List Nat) (rs : List Addr) (news : Led) (r : Value) (nx : Led) : Prop :=
  ∃ x rs', r = .ref x ∧ But l news nx ∧ LsAt nx l (rs'.map .ref) ∧ (x :: rs').Perm rs ∧ HOk (kl key) rs' ∧ ∀ y ∈ rs', klt (key y) (key x) = false
section
variable {prog : Program} {w : World} {A : Around} {E : Value → Shared → Prop} {s : Shared} {h₀ : Heap} {L l : Addr} {nx : Led} {vs : List Value}
theorem ls_truth {Q : Bool → Shared → Prop} (N : News h₀ L s.heap nx) (hl : LsAt nx l vs) (hb : vs.length ≤ 1000) (h : ∀ tk, Q (decide (0 < vs.length)) { s with toks := tk }) : wpAny (model prog w) A (truthy (.ref l)) Q E s := by
  refine PySem.wpAny_truthy_list (hl.isList N) (by simp; omega) ?_
  have e : (decide (0 < vs.length)) = !vs.toArray.isEmpty := by cases vs <;> simp
  rw [← e]; exact h _
end
theorem pop_min {key : Addr → Int × List Nat} {a : List Addr} {x : Addr} {r : List Addr} (h : HOk (kl key) a) (h0 : At a 0 x) (hp : (x :: r).Perm a) : ∀ y ∈ r, klt (key y) (key x) = false := fun y hy => by
  obtain ⟨k, hk⟩ := List.mem_iff_getElem?.mp (hp.subset (List.mem_cons_of_mem _ hy))
  exact h.min (klt_ord key) h0.e k y hk
theorem snoc_of {rs : List Addr} (h : 0 < rs.length) : ∃ p z, rs = p ++ [z] := ⟨rs.dropLast, rs.getLast (by intro e; rw [e] at h; simp at h), (List.dropLast_concat_getLast _).symm⟩
theorem pop_perm {p r : List Addr} {x y z : Addr} (hx : At p 0 x) (hr : r.Perm (p.set 0 z)) : (x :: r).Perm (p ++ [z]) := by
  cases p with
  | nil => have := hx.e; simp at this
  | cons q p =>
    have := hx.e
    simp at this
    subst this
    rw [List.set_cons_zero] at hr
    rw [List.cons_append]
    refine List.Perm.cons _ (hr.trans ?_)
    exact (List.perm_append_comm (l₁ := [z]) (l₂ := p))
theorem heappop_spec {w : World} (l : Addr) (key : Addr → Int × List Nat) (rs : List Addr) (hp : 0 < rs.length) (hlen : rs.length ≤ 30) (news : List (Addr × Obj))
    (hl : LsAt news l (rs.map .ref)) (hkey : ∀ r ∈ rs, KeyAt news r (key r)) (hok : HOk (kl key) rs) :
    Ctr w 83 7 [.ref l] news (PopPost l key rs news) := by
  obtain ⟨p₁, z, rfl⟩ := snoc_of hp
  refine fillme PySem.Challenge.rw_in0056_01 Mine.hp.heap_1 ?_
  k_fill
  intro _
  unfold Ctr
  intro p loose mean mg mb dp un gd cn cs a ccd cl outer A₀ base h₀ L m s Q E B F X N T hk hd hu hret
  refine wpAny_call ?_
  k_dflt ktr_enter
  clear F N
  have hkl : ∀ r ∈ p₁ ++ [z], r ≠ l := fun r hr => (hkey r hr).ne (by assumption) hl
  have hl' : LsAt news l (p₁.map .ref ++ [.ref z]) := by rw [List.map_append] at hl; exact hl
  have hpl : p₁.length ≤ 30 := by simp at hlen; omega
  k_steps
  refine Halt.o ?_
  k_dflt (refine' ls_pop (s := ⟨_, _, _, _, _⟩) (by assumption) (by assumption) hl' (by simp; omega) ?_)
  intro h9 o9 F9 N9 hO
  have hbut : But l news (putAt l o9 news) := (But.refl l news).put
  have hls : LsAt (putAt l o9 news) l (p₁.map .ref) := hl'.put hO
  clear hl hl'
  k_steps
  refine Halt.o ?_
  k_dflt (refine' ls_truth (s := ⟨_, _, _, _, _⟩) (by assumption) hls (by simp; omega) ?_)
  intro tk9
  by_cases hp0 : 0 < p₁.length
  · rw [show decide (0 < (p₁.map Value.ref).length) = true by simpa using hp0]
    obtain ⟨x, hx⟩ := At.get hp0
    have hx' : At (p₁ ++ [z]) 0 x := ⟨by rw [List.getElem?_append_left hp0]; exact hx.e⟩
    have hperm0 : ∀ {r : List Addr}, r.Perm (p₁.set 0 z) → (x :: r).Perm (p₁ ++ [z]) := fun hr => pop_perm (y := x) hx hr
    have hmin := fun (r : List Addr) (hr : (x :: r).Perm (p₁ ++ [z])) => pop_min hok hx' hr
    k_steps
    refine Halt.o ?_
    k_dflt (refine' ls_get (s := ⟨_, _, _, _, _⟩) (k := 0) (v := .ref x) (by assumption) hls rfl (by omega) (by simp [hx.e]) ?_)
    k_steps
    refine Halt.o ?_
    k_dflt (refine' ls_set (s := ⟨_, _, _, _, _⟩) (k := 0) (by assumption) (by assumption) hls rfl (by omega) (by simpa using hp0) ?_)
    intro h8 o8 F8 N8 hO8
    have hbut8 : But l news (putAt l o8 (putAt l o9 news)) := hbut.put
    have hls8 : LsAt (putAt l o8 (putAt l o9 news)) l ((p₁.set 0 z).map .ref) := by
      rw [List.map_set]; exact hls.put hO8
    have hsub : ∀ r ∈ p₁.set 0 z, r ∈ p₁ ++ [z] := fun r hr => by
      rcases List.mem_or_eq_of_mem_set hr with h | h
      · exact List.mem_append_left _ h
      · rw [h]; simp
    k_steps
    refine Halt.o ?_
    k_dflt (refine' ctr_use (siftup_spec l key (p₁.set 0 z) (by simpa using hp0) (by simp; omega) _ _ hls8 (fun r hr => hbut8.key (hkey r (hsub r hr)) (hkl r (hsub r hr))) (SU.start hok)) ?B ?F ?X ?N ?T ?hk ?dp ?un ?_)
    case B => k_asm
    case F => k_asm
    case X => k_asm
    case N => k_asm
    case T => k_asm
    case hk => exact rfl
    case dp => ktr_room
    case un => ktr_units
    rintro _ nx3 h10 tk10 F10 N10 ⟨e10, rs3, hb3, hl3, hp3, hok3⟩
    subst e10
    k_steps
    refine hret _ _ _ _ (by assumption) (by assumption) ⟨x, rs3, rfl, hbut8.trans hb3, hl3, hperm0 hp3, hok3, hmin _ (hperm0 hp3)⟩
  · have e0 : p₁ = [] := List.length_eq_zero_iff.mp (by omega)
    subst e0
    rw [show decide (0 < (([] : List Addr).map Value.ref).length) = false from rfl]
    k_steps
    refine hret _ _ _ _ (by assumption) (by assumption) ⟨z, [], rfl, hbut, hls, List.Perm.refl _, HOk.nil, fun y hy => by cases hy⟩

end

end

end

end

end

/-- the pieces of a pattern, as texts: a sign, [63] any sign, [42] any signs, [91, 97, 98, 93] one of a, b -/
abbrev starP : List Nat := [42]
abbrev anyP : List Nat := [63]
abbrev clsP : List Nat := [91, 97, 98, 93]
def okc (p : List Nat) (d : Nat) : Bool := decide (p = anyP) || decide (p = [d]) || (decide (p = clsP) && (decide (d = 97) || decide (d = 98)))
inductive Mt : List (List Nat) → List Nat → Prop
  | nil : Mt [] []
  | one {p : List Nat} {ps : List (List Nat)} {c : Nat} {cs : List Nat} : p ≠ starP → okc p c = true → Mt ps cs → Mt (p :: ps) (c :: cs)
  | star {ps : List (List Nat)} (u : List Nat) {cs : List Nat} : Mt ps cs → Mt (starP :: ps) (u ++ cs)

theorem Mt.nil_iff {x : List Nat} : Mt [] x ↔ x = [] := ⟨fun h => by cases h; rfl, fun h => h ▸ .nil⟩
theorem Mt.star_iff {ps : List (List Nat)} {x : List Nat} : Mt (starP :: ps) x ↔ ∃ u v, x = u ++ v ∧ Mt ps v := by
  constructor
  · intro h
    generalize e : starP :: ps = l at h
    cases h with
    | nil => cases e
    | one hn _ _ => cases e; exact absurd rfl hn
    | star u h => cases e; exact ⟨u, _, rfl, h⟩
  · rintro ⟨u, v, rfl, h⟩; exact .star u h
theorem Mt.one_iff {p : List Nat} {ps : List (List Nat)} {x : List Nat} (hp : p ≠ starP) : Mt (p :: ps) x ↔ ∃ c v, x = c :: v ∧ okc p c = true ∧ Mt ps v := by
  constructor
  · intro h
    generalize e : p :: ps = l at h
    cases h with
    | nil => cases e
    | one hn ho h => cases e; exact ⟨_, _, rfl, ho, h⟩
    | star u h => cases e; exact absurd rfl hp
  · rintro ⟨c, v, rfl, ho, h⟩; exact .one hp ho h
theorem Mt.append_iff {a b : List (List Nat)} : ∀ {x : List Nat}, Mt (a ++ b) x ↔ ∃ u v, x = u ++ v ∧ Mt a u ∧ Mt b v := by
  induction a with
  | nil =>
    intro x
    constructor
    · intro h; exact ⟨[], x, rfl, .nil, h⟩
    · rintro ⟨u, v, rfl, hu, hv⟩
      rw [Mt.nil_iff] at hu; subst hu; exact hv
  | cons p a ih =>
    intro x
    by_cases hp : p = starP
    · subst hp
      rw [List.cons_append, Mt.star_iff]
      constructor
      · rintro ⟨u, v, rfl, h⟩
        obtain ⟨u2, v2, rfl, h1, h2⟩ := ih.mp h
        exact ⟨u ++ u2, v2, by rw [List.append_assoc], .star u h1, h2⟩
      · rintro ⟨u, v, rfl, h1, h2⟩
        obtain ⟨u1, u2, rfl, h3⟩ := Mt.star_iff.mp h1
        exact ⟨u1, u2 ++ v, by rw [List.append_assoc], ih.mpr ⟨u2, v, rfl, h3, h2⟩⟩
    · rw [List.cons_append, Mt.one_iff hp]
      constructor
      · rintro ⟨c, v, rfl, ho, h⟩
        obtain ⟨u2, v2, rfl, h1, h2⟩ := ih.mp h
        exact ⟨c :: u2, v2, rfl, .one hp ho h1, h2⟩
      · rintro ⟨u, v, rfl, h1, h2⟩
        obtain ⟨c, u2, rfl, ho, h3⟩ := (Mt.one_iff hp).mp h1
        exact ⟨c, u2 ++ v, rfl, ho, ih.mpr ⟨u2, v, rfl, h3, h2⟩⟩
theorem Mt.snoc_star {a : List (List Nat)} {x : List Nat} : Mt (a ++ [starP]) x ↔ ∃ j, j ≤ x.length ∧ Mt a (x.take j) := by
  rw [Mt.append_iff]
  constructor
  · rintro ⟨u, v, rfl, h, _⟩
    exact ⟨u.length, by simp, by simpa using h⟩
  · rintro ⟨j, _, h⟩
    refine ⟨x.take j, x.drop j, (List.take_append_drop j x).symm, h, ?_⟩
    have := Mt.star (x.drop j) Mt.nil
    rwa [List.append_nil] at this
theorem Mt.snoc_one {a : List (List Nat)} {p : List Nat} (hp : p ≠ starP) {x : List Nat} : Mt (a ++ [p]) x ↔ ∃ u c, x = u ++ [c] ∧ Mt a u ∧ okc p c = true := by
  rw [Mt.append_iff]
  constructor
  · rintro ⟨u, v, rfl, h, h2⟩
    obtain ⟨c, w, rfl, ho, h3⟩ := (Mt.one_iff hp).mp h2
    rw [Mt.nil_iff] at h3; subst h3
    exact ⟨u, c, rfl, h, ho⟩
  · rintro ⟨u, c, rfl, h, ho⟩
    exact ⟨u, [c], rfl, h, .one hp ho .nil⟩
/-- two stars are one -/
theorem Mt.snoc_star2 {a : List (List Nat)} {x : List Nat} : Mt (a ++ [starP] ++ [starP]) x ↔ Mt (a ++ [starP]) x := by
  rw [Mt.snoc_star, Mt.snoc_star]
  constructor
  · rintro ⟨j, hj, h⟩
    obtain ⟨i, hi, h2⟩ := Mt.snoc_star.mp h
    rw [List.length_take] at hi
    exact ⟨i, by omega, by rw [List.take_take] at h2; rwa [show min i j = i by omega] at h2⟩
  · rintro ⟨j, hj, h⟩
    refine ⟨j, hj, Mt.snoc_star.mpr ⟨j, ?_, ?_⟩⟩
    · rw [List.length_take]; omega
    · rwa [List.take_take, Nat.min_self]

/-- the places behind a beginning of the pattern -/
def Tk (name : List Nat) (pre : List (List Nat)) (ks : List Nat) : Prop := ∀ k, k ∈ ks ↔ k ≤ name.length ∧ Mt pre (name.take k)
theorem Tk.start (name : List Nat) : Tk name [] [0] := fun k => by
  rw [List.mem_singleton, Mt.nil_iff]
  constructor
  · rintro rfl; exact ⟨by omega, by simp⟩
  · rintro ⟨h1, h2⟩
    have := congrArg List.length h2
    rw [List.length_take, List.length_nil] at this
    omega
theorem Tk.fin {name : List Nat} {pre : List (List Nat)} {ks : List Nat} (h : Tk name pre ks) : name.length ∈ ks ↔ Mt pre name := by
  rw [h name.length, List.take_length]
  exact ⟨fun x => x.2, fun x => ⟨Nat.le_refl _, x⟩⟩
theorem Tk.star {name : List Nat} {pre : List (List Nat)} {ks ks' : List Nat} (h : Tk name pre ks) (h' : ∀ k, k ∈ ks' ↔ k ≤ name.length ∧ ∃ j ∈ ks, j ≤ k) : Tk name (pre ++ [starP]) ks' := fun k => by
  rw [h' k, Mt.snoc_star]
  constructor
  · rintro ⟨hk, j, hj, hjk⟩
    obtain ⟨_, h2⟩ := (h j).mp hj
    refine ⟨hk, j, by rw [List.length_take]; omega, ?_⟩
    rwa [List.take_take, show min j k = j by omega]
  · rintro ⟨hk, j, hj, h2⟩
    rw [List.length_take] at hj
    rw [List.take_take, show min j k = j by omega] at h2
    exact ⟨hk, j, (h j).mpr ⟨by omega, h2⟩, by omega⟩
theorem Tk.one {name : List Nat} {pre : List (List Nat)} {p : List Nat} {ks ks' : List Nat} (hp : p ≠ starP) (h : Tk name pre ks) (h' : ∀ k, k ∈ ks' ↔ ∃ j ∈ ks, j < name.length ∧ okc p (name.getD j 0) = true ∧ k = j + 1) : Tk name (pre ++ [p]) ks' := fun k => by
  rw [h' k, Mt.snoc_one hp]
  constructor
  · rintro ⟨j, hj, hl, ho, rfl⟩
    obtain ⟨_, h2⟩ := (h j).mp hj
    refine ⟨hl, name.take j, name.getD j 0, ?_, h2, ho⟩
    rw [List.take_add_one]
    simp [hl]
  · rintro ⟨hk, u, c, e, hm, ho⟩
    have hlen := congrArg List.length e
    rw [List.length_take, List.length_append, List.length_singleton] at hlen
    have hul : u.length + 1 = k := by omega
    have hu : u = name.take u.length := by
      have := congrArg (List.take u.length) e
      rw [List.take_take, List.take_left, show min u.length k = u.length by omega] at this
      exact this.symm
    have hc : name.getD u.length 0 = c := by
      have h1 : (name.take k)[u.length]? = some c := by rw [e]; simp
      rw [List.getElem?_take, if_pos (by omega)] at h1
      simp [List.getD, h1]
    refine ⟨u.length, (h _).mpr ⟨by omega, hu ▸ hm⟩, by omega, by rw [hc]; exact ho, hul.symm⟩

/-- the places before an end of the pattern -/
def Ft (name : List Nat) (suf : List (List Nat)) (ks : List Nat) : Prop := ∀ k, k ∈ ks ↔ k ≤ name.length ∧ Mt suf (name.drop k)
theorem Ft.start (name : List Nat) : Ft name [] [name.length] := fun k => by
  rw [List.mem_singleton, Mt.nil_iff]
  constructor
  · rintro rfl; exact ⟨by omega, by simp⟩
  · rintro ⟨h1, h2⟩
    have := congrArg List.length h2
    rw [List.length_drop, List.length_nil] at this
    omega
theorem Ft.fin {name : List Nat} {suf : List (List Nat)} {ks : List Nat} (h : Ft name suf ks) : 0 ∈ ks ↔ Mt suf name := by
  rw [h 0, List.drop_zero]
  exact ⟨fun x => x.2, fun x => ⟨Nat.zero_le _, x⟩⟩
theorem Ft.star {name : List Nat} {suf : List (List Nat)} {ks ks' : List Nat} (h : Ft name suf ks) (h' : ∀ k, k ∈ ks' ↔ k ≤ name.length ∧ ∃ j ∈ ks, k ≤ j) : Ft name (starP :: suf) ks' := fun k => by
  rw [h' k, Mt.star_iff]
  constructor
  · rintro ⟨hk, j, hj, hjk⟩
    obtain ⟨hl, h2⟩ := (h j).mp hj
    refine ⟨hk, (name.drop k).take (j - k), (name.drop k).drop (j - k), (List.take_append_drop _ _).symm, ?_⟩
    rw [List.drop_drop, show k + (j - k) = j by omega]
    exact h2
  · rintro ⟨hk, u, v, e, h2⟩
    have hlen := congrArg List.length e
    rw [List.length_drop, List.length_append] at hlen
    refine ⟨hk, k + u.length, (h _).mpr ⟨by omega, ?_⟩, by omega⟩
    rw [← List.drop_drop, e, List.drop_left]
    exact h2
theorem Ft.one {name : List Nat} {suf : List (List Nat)} {p : List Nat} {ks ks' : List Nat} (hp : p ≠ starP) (h : Ft name suf ks) (h' : ∀ k, k ∈ ks' ↔ ∃ j ∈ ks, 0 < j ∧ okc p (name.getD (j - 1) 0) = true ∧ k = j - 1) : Ft name (p :: suf) ks' := fun k => by
  rw [h' k, Mt.one_iff hp]
  constructor
  · rintro ⟨j, hj, h0, ho, rfl⟩
    obtain ⟨hl, h2⟩ := (h j).mp hj
    have hlt : j - 1 < name.length := by omega
    refine ⟨by omega, name.getD (j - 1) 0, name.drop j, ?_, ho, h2⟩
    rw [List.drop_eq_getElem_cons hlt, show j - 1 + 1 = j by omega]
    simp [hlt]
  · rintro ⟨hk, c, v, e, ho, h2⟩
    have hlen := congrArg List.length e
    rw [List.length_drop, List.length_cons] at hlen
    have hlt : k < name.length := by omega
    rw [List.drop_eq_getElem_cons hlt] at e
    injection e with e1 e2
    refine ⟨k + 1, (h _).mpr ⟨by omega, by rw [e2]; exact h2⟩, by omega, ?_, by omega⟩
    have : name.getD (k + 1 - 1) 0 = c := by simp [hlt, e1]
    rw [this]; exact ho

/-- the ledger bears a cell with the value v; a cell, bound or not -/
def CellAt (nx : Led) (c : Addr) (v : Value) : Prop := ∃ o, (c, o) ∈ nx ∧ o.data = .cell (some v)
def CellB (nx : Led) (c : Addr) : Prop := ∃ o v, (c, o) ∈ nx ∧ o.data = .cell v
theorem CellAt.b {nx : Led} {c : Addr} {v : Value} (x : CellAt nx c v) : CellB nx c := let ⟨o, hm, e⟩ := x; ⟨o, _, hm, e⟩
theorem CellAt.mono {nx nx' : Led} {c : Addr} {v : Value} (x : CellAt nx c v) (hs : ∀ p ∈ nx, p ∈ nx') : CellAt nx' c v := let ⟨o, hm, e⟩ := x; ⟨o, hs _ hm, e⟩
theorem CellB.mono {nx nx' : Led} {c : Addr} (x : CellB nx c) (hs : ∀ p ∈ nx, p ∈ nx') : CellB nx' c := let ⟨o, v, hm, e⟩ := x; ⟨o, v, hs _ hm, e⟩
theorem CellAt.tail {nx : Led} {c : Addr} {v : Value} {p : Addr × Obj} (x : CellAt nx c v) : CellAt (p :: nx) c v := x.mono fun _ h => .tail _ h
theorem CellB.tail {nx : Led} {c : Addr} {p : Addr × Obj} (x : CellB nx c) : CellB (p :: nx) c := x.mono fun _ h => .tail _ h
theorem LsAt.tail {nx : Led} {l : Addr} {vs : List Value} {p : Addr × Obj} (x : LsAt nx l vs) : LsAt (p :: nx) l vs := x.mono fun _ h => .tail _ h
theorem TpAt.tail {nx : Led} {l : Addr} {vs : List Value} {p : Addr × Obj} (x : TpAt nx l vs) : TpAt (p :: nx) l vs := x.mono fun _ h => .tail _ h
theorem KeyAt.tail {nx : Led} {r : Addr} {k : Int × List Nat} {p : Addr × Obj} (x : KeyAt nx r k) : KeyAt (p :: nx) r k := x.mono fun _ h => .tail _ h
theorem LsAt.head {nx : Led} {l : Addr} {vs : List Value} {n : Nat} : LsAt ((l, listOf vs.toArray n) :: nx) l vs := ⟨_, .head _, n, rfl⟩
theorem CellAt.put {nx : Led} {c : Addr} {v : Value} {o' : Obj} (x : CellB nx c) (h : o'.data = .cell (some v)) : CellAt (putAt c o' nx) c v := let ⟨_, _, hm, _⟩ := x; ⟨o', putAt_self hm, h⟩
theorem CellAt.other {nx : Led} {l c : Addr} {v : Value} {o' : Obj} (x : CellAt nx c v) (hn : c ≠ l) : CellAt (putAt l o' nx) c v := let ⟨o, hm, r⟩ := x; ⟨o, putAt_other hm hn, r⟩
theorem CellB.other {nx : Led} {l c : Addr} {o' : Obj} (x : CellB nx c) (hn : c ≠ l) : CellB (putAt l o' nx) c := let ⟨o, v, hm, r⟩ := x; ⟨o, v, putAt_other hm hn, r⟩
theorem CellAt.off {it : Addr} {nx : Led} {c : Addr} {v : Value} (x : CellAt nx c v) (hn : c ≠ it) : CellAt (offIt it nx) c v := let ⟨o, hm, r⟩ := x; ⟨o, off_mem hm hn, r⟩
theorem CellB.off {it : Addr} {nx : Led} {c : Addr} (x : CellB nx c) (hn : c ≠ it) : CellB (offIt it nx) c := let ⟨o, v, hm, r⟩ := x; ⟨o, v, off_mem hm hn, r⟩
theorem CellB.ne {nx : Led} {c a : Addr} (h : CellB nx c) (hn : ∀ p ∈ nx, p.1 ≠ a) : c ≠ a := let ⟨_, _, hm, _⟩ := h; hn _ hm
theorem CellB.ls_ne {h₀ h : Heap} {L l c : Addr} {nx : Led} {vs : List Value} (N : News h₀ L h nx) (x : CellB nx c) (y : LsAt nx l vs) : l ≠ c := by
  obtain ⟨o, v, hm, e⟩ := x
  obtain ⟨o', hm', n', e'⟩ := y
  intro q
  subst q
  have h1 := (N _ hm).1
  have h2 := (N _ hm').1
  rw [h1] at h2
  have h3 : o = o' := Option.some.inj h2
  rw [h3, e'] at e
  cases e
theorem CellB.key_ne {h₀ h : Heap} {L l c : Addr} {nx : Led} {k : Int × List Nat} (N : News h₀ L h nx) (x : CellB nx c) (y : KeyAt nx l k) : l ≠ c := by
  obtain ⟨o, v, hm, e⟩ := x
  obtain ⟨o', dd, n, sl, t, u, hm', e'⟩ := y
  intro q
  subst q
  have h1 := (N _ hm).1
  have h2 := (N _ hm').1
  rw [h1] at h2
  have h3 : o = o' := Option.some.inj h2
  rw [h3, e'] at e
  cases e

section
variable {M : Model} {A : Around} {E : Value → Shared → Prop} {s : Shared} {h₀ : Heap} {L a C c : Addr} {m : Str → Option Value} {cn : Str} {cs scope : Scope} {ccd : Value} {cl : List (Str × Addr)} {env : Env}
  {x : Str} {pos : Pos} {v : Value} {nx : Led}
theorem nm_loc {Q : Value → Shared → Prop} (F : Fr h₀ L s.heap m) (hv : m x = some v) (h : Q v s)
    (hk : cs.kind = .function := by rfl) (hx : (envOfC cn cs L a ccd).kindOf x = some .local := by rfl) (hd : (x == ("__debug__" : Str)) = false := by decide) :
    wpAny M A (eval (.Name x pos) (envOfC cn cs L a ccd)) Q E s := wpAny_Name (wpAny_loadName_local hk hx F.ns hv h) hd
theorem nm_cell {Q : Value → Shared → Prop} (N : News h₀ L s.heap nx) (hc : (cellsFrom (L + 1) cs.names []).lookup x = some c) (hm : CellAt nx c v) (h : Q v s)
    (hk : cs.kind = .function := by rfl) (hx : (envOfC cn cs L a ccd).kindOf x = some .cell := by rfl) (hb : (x == ("__debug__" : Str)) = false := by decide) :
    wpAny M A (eval (.Name x pos) (envOfC cn cs L a ccd)) Q E s := let ⟨o, hm, hd⟩ := hm; wpAny_Name (wpAny_loadName_cell hk hx hc ⟨o, N.get hm, hd⟩ h) hb
theorem nm_free {Q : Value → Shared → Prop} (N : News h₀ L s.heap nx) (hc : cl.lookup x = some c) (hm : CellAt nx c v) (h : Q v s)
    (hk : (compEnvC scope cl C env).scope.kind = .function) (hx : (compEnvC scope cl C env).kindOf x = some .cell) (hb : (x == ("__debug__" : Str)) = false := by decide) :
    wpAny M A (eval (.Name x pos) (compEnvC scope cl C env)) Q E s := let ⟨_, hm, hd⟩ := hm; lcf_cell N hc hm hd h hk hx hb
theorem nm_free' {Q : Value → Shared → Prop} (N : News h₀ L s.heap nx) (hc : cl.lookup x = some c) (hm : CellAt nx c v) (h : Q v s)
    (hk : (compEnvC scope cl C env).scope.kind = .function) (hx : (compEnvC scope cl C env).kindOf x = some .free) (hb : (x == ("__debug__" : Str)) = false := by decide) (hn : (x == ("__classdict__" : Str)) = false := by decide) :
    wpAny M A (eval (.Name x pos) (compEnvC scope cl C env)) Q E s := let ⟨_, hm, hd⟩ := hm; lcf_free N hc hm hd h hk hx hb hn
theorem st_cell {Q : Unit → Shared → Prop} (F : Fr h₀ L s.heap m) (N : News h₀ L s.heap nx) (hc : (cellsFrom (L + 1) cs.names []).lookup x = some c) (hm : CellB nx c)
    (h : ∀ h' o', Fr h₀ L h' m → News h₀ L h' (putAt c o' nx) → o'.data = .cell (some v) → Q () { s with heap := h' })
    (hk : cs.kind = .function := by rfl) (hx : (envOfC cn cs L a ccd).kindOf x = some .cell := by rfl) : wpAny M A (storeName (envOfC cn cs L a ccd) x v) Q E s := by
  obtain ⟨o, v0, hm, hd⟩ := hm
  have hmem := N (c, o) hm
  refine wpAny_storeName_cell hk hx hc ⟨o, hmem.1, hd⟩ fun h' hv hs => ?_
  obtain ⟨o', ho', hd'⟩ := hv
  refine h h' o' ⟨F.ns.sameBut hs (Ne.symm hmem.2.1), fun b ob e => (hs.2 b (fun q => ?_)).trans (F.keep b ob e), F.above⟩ (newsPutAt N hm hs ho') hd'
  rw [q, hmem.2.2] at e; cases e
end
section
variable {prog : Program} {w : World} {A : Around} {E : Value → Shared → Prop} {s : Shared} {h₀ : Heap} {L : Addr} {m : Str → Option Value} {nx : Led}
theorem rg_ab {a b : Int} {t u : Tok} {Q : Value → Shared → Prop} (F : Fr h₀ L s.heap m) (N : News h₀ L s.heap nx)
    (h : ∀ r h' t' u' v' tk', Fr h₀ L h' m → News h₀ L h' ((r, rgO a b 1 t' u' v') :: nx) → (∀ p ∈ nx, p.1 < r) → Q (.ref r) { s with heap := h', toks := tk' }) : wpAny (model prog w) A (call (.type "range") [.int a t, .int b u]) Q E s :=
  call_range_2 (h _ _ _ _ _ _ (F.push _) (N.push F _) fun p hp => newsLt N p hp)
theorem rg_small1 (n : Nat) (hn : n ≤ 900) : Builtin.Range.small 1 (n : Int) 1 = true ∧ Builtin.Range.rangeSize 1 (n : Int) 1 = ((n - 1 : Nat) : Int) := by
  have e : Builtin.Range.rangeSize 1 (n : Int) 1 = ((n - 1 : Nat) : Int) := by
    rw [rangeSize_one]
    split <;> omega
  refine ⟨small_of (by omega) (by omega) (by omega) (by omega) (by rw [e]; omega) (by rw [e]; omega), e⟩
theorem RgStart.mk1 {n : Nat} {r : Addr} {t u v : Tok} {J : (Str → Option Value) → List (Addr × Obj) → Prop} {h : Heap} {tk : Nat} {m : Str → Option Value} {nx : List (Addr × Obj)} (F : Fr h₀ L h m) (N : News h₀ L h nx) (hr : (r, rgO 1 (n : Int) 1 t u v) ∈ nx) (hn : n ≤ 900) (hJ : J m nx) :
    RgStart h₀ L s 1 (n - 1) J (.ref r) { s with heap := h, toks := tk } := ⟨r, n, t, u, v, rfl, ⟨h, tk, rfl⟩, m, nx, F, N, (N _ hr).1, (rg_small1 n hn).1, (rg_small1 n hn).2, hJ⟩
theorem tup_ge {a b : Addr} {x y : Int × List Nat} {Q : Value → Shared → Prop} (hlt : klt x y = false) (hu : A.units < cLine) (N : News h₀ L s.heap nx) (ha : KeyAt nx a x) (hb : KeyAt nx b y) (h : Q (.bool false) s) : wpAny (model prog w) A (compareOp .Lt (.ref a) (.ref b)) Q E s :=
  tup_lt hu N ha hb (hlt ▸ h)
end

theorem all_t (n : Nat) : ((List.range n).all fun _ => true) = true := List.all_eq_true.mpr fun _ _ => rfl
section
variable {prog : Program} {w : World} {A : Around} {E : Value → Shared → Prop} {s : Shared} {h₀ : Heap} {L l b : Addr} {m : Str → Option Value} {nx : Led} {vs : List Value}
theorem ls_eqNil {Q : Value → Shared → Prop} (hu : A.units < cLine) (N : News h₀ L s.heap nx) (hl : LsAt nx l []) (hb : LsAt nx b []) (h : Q (.bool true) s) : wpAny (model prog w) A (compareOp .Eq (.ref l) (.ref b)) Q E s :=
  SeqAt.eq_listAt (e := fun _ => true) (hl.isList N) (hb.isList N) rfl hu (fun j h1 _ => absurd h1 (by simp)) (by simpa using h)
theorem ls_neNil {Q : Value → Shared → Prop} (hu : A.units < cLine) (N : News h₀ L s.heap nx) (hl : LsAt nx l vs) (hb : LsAt nx b []) (h : Q (.bool (decide (0 < vs.length))) s) : wpAny (model prog w) A (compareOp .NotEq (.ref l) (.ref b)) Q E s := by
  cases vs with
  | nil => exact SeqAt.RcNeAt.lists (e := fun _ => true) (hl.isList N) (hb.isList N) rfl hu (fun j h1 _ => absurd h1 (by simp)) prog w E Q (by simpa using h)
  | cons v r => exact SeqAt.RcNeAt.lists_lengths (hl.isList N) (hb.isList N) (by simp) hu prog w E Q (by simpa using h)
theorem ints_any {i : Int} : ∀ {vs : List Value} {ns : List Int}, IntsAre vs ns → (vs.any fun v => match v with | .int a _ => a == i | _ => false) = decide (i ∈ ns)
  | _, _, .nil => by simp
  | _, _, .cons n t r => by
    have h := ints_any (i := i) r
    simp only [List.any_cons, h, List.mem_cons]
    by_cases e : i = n
    · simp [e]
    · have : ¬ n = i := fun q => e q.symm
      simp [e, this]
theorem ints_mem : ∀ {vs : List Value} {ns : List Int}, IntsAre vs ns → ∀ v ∈ vs, ∃ a t, v = .int a t
  | _, _, .nil, _, h => by cases h
  | _, _, .cons n t r, v, h => by
    rcases List.mem_cons.mp h with rfl | h
    · exact ⟨n, t, rfl⟩
    · exact ints_mem r v h
theorem ls_in {ns : List Int} {i : Int} {t : Tok} {Q : Value → Shared → Prop} (N : News h₀ L s.heap nx) (hl : LsAt nx l vs) (hi : IntsAre vs ns) (h : Q (.bool (decide (i ∈ ns))) s) : wpAny (model prog w) A (compareOp .In (.int i t) (.ref l)) Q E s := by
  refine SeqAt.in_listAt (fun v => match v with | .int a _ => a == i | _ => false) (hl.isList N) (fun y hy => ?_) ?_
  · obtain ⟨a, u, rfl⟩ := ints_mem hi y (by simpa using hy)
    exact SeqAt.EqAt.int_int a u i t
  · have e := ints_any (i := i) hi
    simp only [List.any_toArray]
    rw [e]; exact h
theorem ls_min {ns : List Int} {Q : Value → Shared → Prop} (hh : A.handled = none) (F : Fr h₀ L s.heap m) (N : News h₀ L s.heap nx) (hl : LsAt nx l vs) (hi : IntsAre vs ns) (hne : 0 < ns.length)
    (h : ∀ h' M (t : Tok) tk, Fr h₀ L h' m → News h₀ L h' nx → M ∈ ns → (∀ a, a ∈ ns → M ≤ a) → Q (.int M t) { s with heap := h', toks := tk }) : wpAny (model prog w) A (call (.builtin "min") [.ref l]) Q E s :=
  min_list_N hh F N (hl.isList N) hi hne h
theorem ls_max {ns : List Int} {Q : Value → Shared → Prop} (hh : A.handled = none) (F : Fr h₀ L s.heap m) (N : News h₀ L s.heap nx) (hl : LsAt nx l vs) (hi : IntsAre vs ns) (hne : 0 < ns.length)
    (h : ∀ h' M (t : Tok) tk, Fr h₀ L h' m → News h₀ L h' nx → M ∈ ns → (∀ a, a ∈ ns → a ≤ M) → Q (.int M t) { s with heap := h', toks := tk }) : wpAny (model prog w) A (call (.builtin "max") [.ref l]) Q E s :=
  max_list_N hh F N (hl.isList N) hi hne h
/-- two lists of pairs with the same keys -/
theorem key_eqAt {a c : Addr} {k : Int × List Nat} (hu : A.units < cLine) (N : News h₀ L s.heap nx) (ha : KeyAt nx a k) (hc : KeyAt nx c k) : SeqAt.EqAt A s (.ref a) (.ref c) true := by
  by_cases hne : a = c
  · rw [hne]; exact SeqAt.EqAt.same _
  · refine SeqAt.EqAt.of_refs hne ?_
    obtain ⟨o, dd, n, sl, t, u, hm, e⟩ := ha
    obtain ⟨o2, dd2, n2, sl2, t2, u2, hm2, e2⟩ := hc
    subst e
    subst e2
    have h := SeqAt.RcAt.tuples (A := A) (s := s) (l := a) (b := c) (items := #[.int k.1 t, .str (S k.2) u]) (items2 := #[.int k.1 t2, .str (S k.2) u2]) (e := fun _ => true) ⟨_, (N _ hm).1, rfl, n, rfl⟩ ⟨_, (N _ hm2).1, rfl, n2, rfl⟩ hu (fun j h1 h2 => ?_)
    · have e2 : ((List.range (min 2 2)).all fun _ => true) = true := all_t _
      rw [show (#[Value.int k.1 t, Value.str (S k.2) u] : Array Value).size = 2 from rfl, show (#[Value.int k.1 t2, Value.str (S k.2) u2] : Array Value).size = 2 from rfl, e2] at h
      exact h
    · match j, h1 with
      | 0, _ => have := SeqAt.EqAt.int_int (A := A.in1) (s := s) k.1 t k.1 t2; simpa using this
      | 1, _ => have := SeqAt.EqAt.str_str (A := A.in1) (s := s) (S k.2) u (S k.2) u2; simpa using this
theorem ls_eqKeys {rs ts : List Addr} {key key2 : Addr → Int × List Nat} {Q : Value → Shared → Prop} (hu : A.units < cLine) (hu2 : A.in1.units < cLine) (N : News h₀ L s.heap nx) (hl : LsAt nx l (rs.map .ref)) (hb : LsAt nx b (ts.map .ref))
    (hr : ∀ r ∈ rs, KeyAt nx r (key r)) (ht : ∀ r ∈ ts, KeyAt nx r (key2 r)) (he : rs.map key = ts.map key2) (h : Q (.bool true) s) : wpAny (model prog w) A (compareOp .Eq (.ref l) (.ref b)) Q E s := by
  have hlen : rs.length = ts.length := by simpa using congrArg List.length he
  refine SeqAt.eq_listAt (e := fun _ => true) (hl.isList N) (hb.isList N) (by simpa using hlen) hu (fun j h1 h2 => ?_) (by rw [all_t]; exact h)
  have g1 : j < rs.length := by simpa using h1
  have g2 : j < ts.length := by simpa using h2
  have ek : key rs[j] = key2 ts[j] := by
    have := congrArg (fun l => l[j]?) he
    simpa [g1, g2] using this
  have := key_eqAt hu2 N (hr rs[j] (List.getElem_mem g1)) (ek ▸ ht ts[j] (List.getElem_mem g2))
  simpa using this
end

abbrev patF : Array Value := #[.str (Str.ofString "([&~|])") 319, .int 32 354, .int 1 0, .none, .none, .ref 49, .int 0 0]
abbrev codeF : Array Value := #[.int 14 0, .int 14 0, .int 4 0, .int 1 0, .int 1 0, .int 9 0, .int 0 0, .int 64 0, .int 0 0, .int 1342177280 0, .int 0 0, .int 0 0, .int 0 0, .int 0 0, .int 0 0, .int 17 0, .int 0 0, .int 13 0, .int 11 0, .int 9 0, .int 0 0, .int 64 0, .int 0 0, .int 1342177280 0, .int 0 0, .int 0 0, .int 0 0, .int 0 0, .int 0 0, .int 17 0, .int 1 0, .int 1 0]
theorem fn_call : typeLookup (.type "function") (Str.ofString "__call__") = pure (some (.builtin "function.__call__")) := by
  rw [typeLookup_type, builtinLookup_eq_fast]; kernel_rfl
theorem entry_sub : entryFor table "re.Pattern.sub" = some Builtin.«re.Pattern.sub» := entryFor_of_tree (by kernel_rfl)
theorem entry_subloop : entryFor table "re.Pattern.sub.loop" = some Builtin.«re.Pattern.sub.loop» := entryFor_of_tree (by kernel_rfl)
theorem plain_subloop : plainId "re.Pattern.sub.loop" = true := by decide +kernel
theorem slot_sub : Slot "re.Pattern" "sub" "re.Pattern.sub" :=
  .of (owner := "re.Pattern") (n := "sub") (by rw [typeLookup_type, builtinLookup_eq_fast]; kernel_rfl) (by decide +kernel) (by decide +kernel) (by decide +kernel)
    (by first | exact .inl (by decide +kernel) | exact .inr (by decide +kernel)) (by rw [isSubtype_type]; kernel_rfl)
theorem type_sub : typeOf (.builtin "re.Pattern.sub") = pure (.type "method_descriptor") := by show builtinType _ = _; rw [builtinType_eq_fast]; kernel_rfl
theorem args_sub (a b c : Value) : argsOk "re.Pattern.sub" ⟨[a, b, c], []⟩ := by unfold argsOk; kernel_rfl
theorem join_one {prog : Program} {w : World} {A : Around} (sep : Str) (tt : Tok) (l : Addr) (x : Str) (u : Tok) (hl : Builtin.Str.tooLong (([(x, u)].map (·.1)).toArray.foldl (· + ·.length + sep.length) 0) = false) {R2 : Result → Shared → Prop} {s2 : Shared}
    (hL : s2.heap.IsList l #[.str x u]) (h : R2 (.ok (.ret (.str x u))) s2) : codeAny (model prog w) A (.call (.builtin "str.join") ⟨[.str sep tt, .ref l], []⟩) R2 s2 :=
  codeAny_call_builtin (id := "str.join") PySem.F.slot_str_join.plain PySem.F.entry_str_join (PySem.F.slot_str_join.check _ _ _ _ _ _ _ _ rfl (PySem.F.args_str_join_2 _ _) (meets_str_join_list sep tt l [(x, u)] hl prog w A R2 s2 ⟨hL, h⟩))
theorem sre_failed : (Sre.M.runFor Builtin.Re.reTurnSteps (Sre.forSearch (Array.map (fun x => x.toNat) (Array.map Builtin.Re.reRawOf codeF)) #[97, 98] 1 0 2 false)).outcome = some .failed := by kernel_rfl
theorem sub_bytearray : isSubtype (.type "str") (.type "bytearray") = pure false := by rw [isSubtype_type]; kernel_rfl
open AutoSeq1 (wpAny_loadPart') in
open MeetsSeq MeetsSeq2 MeetsSeq3 in
theorem subloop_ab (P f l : Addr) (t : Tok) :
    Meets (Builtin.«re.Pattern.sub.loop» ⟨[.ref P, .str (S [97, 98]) t, .ref f, rawInt 1, rawInt 0, rawInt 0, rawInt 0, rawInt 0, .bool false, .ref l, .bool false], []⟩)
      (fun A R s => s.heap.get? P = some { cls := .type "re.Pattern", data := .fields patF } ∧ s.heap.get? 49 = some { cls := .type "tuple", data := .seq codeF 0 } ∧ s.heap.get? l = some { cls := .type "list", data := .seq #[] 0 } ∧
        (∀ h' tk tk', (∀ b o, b ≠ l → s.heap.get? b = some o → h'.get? b = some o) → R (.ok (.ret (.str (S [97, 98]) tk'))) { s with heap := h', toks := tk })) := by
  intro prog w A R s h
  obtain ⟨hp, g, d, tk, os⟩ := s; obtain ⟨hP, hc, hl, h⟩ := h
  have ho := sre_failed
  unfold Builtin.«re.Pattern.sub.loop»
  wp_walk using wpAny_loadPart' hP, wpAny_loadPart' hc
  generalize hm : Sre.M.runFor Builtin.Re.reTurnSteps (Sre.forSearch _ _ _ _ _ _) = mm
  have ho' : mm.outcome = some .failed := by rw [← hm]; exact ho
  clear hm ho
  rw [ho']
  wp_walk using wpAny_loadPart' hP, wpAny_loadPart' hc, wpAny_forIn_list _ (fun _ _ s' => s' = ⟨hp, g, d, tk, os⟩) _
  case turn =>
    rintro i rest b s' rfl
    refine wpAny_ite_split (fun _ => ?_) (fun _ => ?_)
    · wp_walk
      exact rfl
    · wp_walk
      exact rfl
  case fin =>
    rintro b s' rfl
    rw [ho']
    wp_walk using wpAny_loadPart' hP, wpAny_loadPart' hc, wpAny_loadPart' hl
    have hs2 : Heap.SameBut l hp (hp.update l (Obj.mapSeq fun x => x.push (.str (S [97, 98]) tk))) := Heap.SameBut.update ..
    refine join_one _ _ l (S [97, 98]) tk (by rfl) ⟨_, Heap.get?_update_self _ hl (by rfl), rfl, _, rfl⟩ ?_
    wp_walk
    exact h _ _ _ fun b o hb e => (hs2.2 b hb).trans e
  case h => rfl
open AutoSeq1 (wpAny_loadPart') in
open MeetsSeq MeetsSeq2 MeetsSeq3 in
theorem sub_ab (P f : Addr) (t : Tok) (fo : Obj) (hfo : fo.cls = .type "function") :
    Meets (Builtin.«re.Pattern.sub» ⟨[.ref P, .ref f, .str (S [97, 98]) t], []⟩)
      (fun A R s => s.heap.get? P = some { cls := .type "re.Pattern", data := .fields patF } ∧ s.heap.get? 49 = some { cls := .type "tuple", data := .seq codeF 0 } ∧ s.heap.get? f = some fo ∧
        (∀ h' tk tk', (∀ b o, s.heap.get? b = some o → h'.get? b = some o) → R (.ok (.ret (.str (S [97, 98]) tk'))) { s with heap := h', toks := tk })) := by
  intro prog w A R s h
  obtain ⟨hp, g, d, tk, os⟩ := s; obtain ⟨hP, hc, hf, h⟩ := h
  unfold Builtin.«re.Pattern.sub»
  wp_walk using wpAny_loadPart' hP, wpAny_loadPart' hc
  rw [hfo]
  have hb := sub_bytearray
  refine wpAny_of_eq fn_call ?_
  wp_walk using wpAny_loadPart' hP, wpAny_loadPart' hc
  have hlt : ∀ b o, hp.get? b = some o → b ≠ hp.objs.size := fun b o e => Nat.ne_of_lt (Heap.lt_size e)
  refine ⟨plainId_quiet plain_subloop _, codeAny_builtin entry_subloop ?_⟩
  rw [Around.under_plainId plain_subloop _]
  refine subloop_ab P f _ t prog w A R _ ⟨Heap.get?_push_of_some _ hP, Heap.get?_push_of_some _ hc, Heap.get?_push_size _ rfl, fun h' tk2 tk2' hk => ?_⟩
  exact h h' tk2 tk2' fun b o e => hk b o (hlt b o e) (Heap.get?_push_of_some _ e)

section
variable {prog : Program} {w : World} {A : Around} {E : Value → Shared → Prop} {s : Shared}
theorem gi {d : Addr} {k : Int} {t : Tok} {o : Obj} {es : Array DictEntry} {ep : Nat} {Q : Value → Shared → Prop} (ho : s.heap.get? d = some o) (lo : (d == sysModules) = false) (hE : o.ExactDict) (hd : o.data = .dict es ep) (hk : KeysOf (intKind prog w) es) (hh : A.handled = none)
    (h : ∀ h' e, Heap.NewExc s.heap h' e "KeyError" → E (.ref e) { s with heap := h', toks := s.toks + 1 }) (hl : findBy (intKind prog w).is es k = none) : wpAny (model prog w) A (getItem (.ref d) (.int k t)) Q E s :=
  wpAny_getItem_missing_of (f := fun k => findBy (intKind prog w).is es k) (intKind_is prog w k t) lo hh ⟨o, es, ep, ho, hE, hd, hk, fun _ => rfl⟩ hl h
theorem sub_lookup : isSubtype (.type "KeyError") (.type "LookupError") = pure true := by rw [isSubtype_type]; kernel_rfl
theorem translate_c {d : Addr} {c : Nat} {t : Tok} {o : Obj} {es : Array DictEntry} {ep : Nat} {Q : Value → Shared → Prop} (hc : c = 97 ∨ c = 65 ∨ c = 98) (ho : s.heap.get? d = some o) (lo : (d == sysModules) = false) (hE : o.ExactDict) (hd : o.data = .dict es ep) (hk : KeysOf (intKind prog w) es) (hh : A.handled = none) (hl : findBy (intKind prog w).is es (c : Int) = none)
    (h : ∀ h' tk tk', (∀ b o, s.heap.get? b = some o → h'.get? b = some o) → Q (.str (S [c]) tk') { s with heap := h', toks := tk }) : wpAny (model prog w) A (call (.builtin "str.translate") [.str (S [c]) t, .ref d]) Q E s := by
  refine wpAny_call_entry PySem.F.slot_str_translate rfl PySem.F.entry_str_translate ?_ (PySem.F.args_str_translate_2 _ _)
  obtain ⟨hp, g, dr, tk, os⟩ := s
  have hh1 : A.in1.handled = none := hh
  have T1 : ∀ t2, ({ heap := hp, gens := g, drawn := dr, toks := t2, os := os } : Shared).heap.get? d = some o := fun _ => ho
  unfold Builtin.«str.translate»
  rcases hc with rfl | rfl | rfl
  all_goals (
    wp_walk using gi (T1 _) lo hE hd hk hh1
    · intro h' e x
      have ht : ({ heap := h', gens := g, drawn := dr, toks := tk + 1 + 1, os := os } : Shared).TypeIs (.ref e) "KeyError" := let ⟨ob, t9, h1, h2, _⟩ := x.there; ⟨ob, h1, h2⟩
      have hs := sub_lookup
      have hk := x.keeps
      wp_walk
      refine' ⟨_, ?_, h _ _ (tk + 1 + 1) hk⟩
      rfl
    · exact hl)
end
def chkE (e : DictEntry) : Bool := match e.key with | .int k _ => e.hash == hashInt k | _ => false
theorem keys_of {prog : Program} {w : World} {es : Array DictEntry} (h : es.all chkE = true) : KeysOf (intKind prog w) es := by
  intro e he
  have h2 := Array.all_eq_true_iff_forall_mem.mp h e he
  unfold chkE at h2
  split at h2
  · rename_i k t hk
    exact ⟨k, by rw [hk]; exact intKind_is prog w k t, show e.hash = hashInt k from eq_of_beq h2⟩
  · cases h2
theorem o52 {prog : Program} {w : World} {q : Params} {h : Heap} (X : (Mine.hp.heap_1 q).In h) : ∃ o es ep, h.get? 52 = some o ∧ o.ExactDict ∧ o.data = .dict es ep ∧ KeysOf (intKind prog w) es ∧ findBy (intKind prog w).is es 97 = none ∧ findBy (intKind prog w).is es 65 = none ∧ findBy (intKind prog w).is es 98 = none := by
  have h1 := X 52 _ (by rfl)
  exact ⟨_, _, _, h1, ⟨rfl, rfl, rfl⟩, rfl, keys_of (by kernel_rfl), by rfl, by rfl, by rfl⟩

theorem md_get : typeLookup (.type "method_descriptor") (Str.ofString "__get__") = pure (some (.builtin "method_descriptor.__get__")) := by rw [typeLookup_type, builtinLookup_eq_fast]; kernel_rfl
theorem md_set : typeLookup (.type "method_descriptor") (Str.ofString "__set__") = pure none := by rw [typeLookup_type, builtinLookup_eq_fast]; kernel_rfl
theorem md_del : typeLookup (.type "method_descriptor") (Str.ofString "__delete__") = pure none := by rw [typeLookup_type, builtinLookup_eq_fast]; kernel_rfl
theorem slot_mdget : Slot "method_descriptor" "__get__" "method_descriptor.__get__" :=
  .of (owner := "method_descriptor") (n := "__get__") (by rw [typeLookup_type, builtinLookup_eq_fast]; kernel_rfl) (by decide +kernel) (by decide +kernel) (by decide +kernel)
    (by first | exact .inl (by decide +kernel) | exact .inr (by decide +kernel)) (by rw [isSubtype_type]; kernel_rfl)
theorem entry_mdget : entryFor table "method_descriptor.__get__" = some Builtin.«method_descriptor.__get__» := entryFor_of_tree (by kernel_rfl)
theorem args_mdget (a b c : Value) : argsOk "method_descriptor.__get__" ⟨[a, b, c], []⟩ := by unfold argsOk; kernel_rfl
abbrev bmO (id : String) (a : Addr) : Obj := { cls := .type "builtin_function_or_method", data := .fields #[.builtin id, .ref a] }
theorem sub_list_list : isSubtype (.type "list") (.type "list") = pure true := by rw [isSubtype_type]; kernel_rfl
theorem cut_list : ".".intercalate ("list.append".cutAt '.').dropLast = "list" := by decide +kernel
theorem mdget_append {prog : Program} {w : World} {A : Around} {R : Result → Shared → Prop} {s : Shared} {a : Addr} {o : Obj} (hx : s.heap.get? a = some o) (hc : o.cls = .type "list")
    (h : R (.ok (.ret (.ref s.heap.objs.size))) { s with heap := s.heap.push (bmO "list.append" a) }) : codeAny (model prog w) A (.call (.builtin "method_descriptor.__get__") ⟨[.builtin "list.append", .ref a, .type "list"], []⟩) R s := by
  refine codeAny_call_builtin slot_mdget.plain entry_mdget (slot_mdget.check _ _ _ _ _ _ _ _ PySem.F.type_list_append (args_mdget _ _ _) ?_)
  obtain ⟨hp, g, d, tk, os⟩ := s
  have hT : (⟨hp, g, d, tk, os⟩ : Shared).TypeIs (.ref a) "list" := ⟨_, hx, hc⟩
  have f1 := sub_list_list
  unfold Builtin.«method_descriptor.__get__»
  repeat (any_goals (first | assumption | wp_step))
  rw [cut_list]
  repeat (any_goals (first | assumption | wp_step))
theorem meets_ga_append (a : Addr) (xs : Array Value) (k : Nat) (u : Tok) :
    Meets (Builtin.«object.__getattribute__» ⟨[.ref a, .str (Str.ofString "append") u], []⟩) (fun A R s => s.heap.get? a = some { cls := .type "list", dict := none, data := .seq xs k, slots := #[] } ∧ R (.ok (.ret (.ref s.heap.objs.size))) { s with heap := s.heap.push (bmO "list.append" a) }) :=
  Meets.of_wp fun prog w A R s hs => by
    obtain ⟨hp, g, d, tk, os⟩ := s
    obtain ⟨hx, hs⟩ := hs
    have hT : (⟨hp, g, d, tk, os⟩ : Shared).TypeIs (.ref a) "list" := ⟨_, hx, rfl⟩
    have f1 := PySem.F.slot_list_append.lookup
    have f2 := PySem.F.slot_list_append.bind (.ref a)
    have f3 := PySem.F.type_list_append
    have f4 := md_get
    have f5 := md_set
    have f6 := md_del
    unfold Builtin.«object.__getattribute__»
    repeat (any_goals (first | assumption | wp_step))
    refine mdget_append hx rfl ?_
    exact wpAny_pure ⟨_, rfl, hs⟩
theorem getattr_append {prog : Program} {w : World} {A : Around} {E : Value → Shared → Prop} {s : Shared} {a : Addr} {xs : Array Value} {k : Nat} {Q : Value → Shared → Prop} (hx : s.heap.get? a = some { cls := .type "list", dict := none, data := .seq xs k, slots := #[] })
    (h : ∀ tk, Q (.ref s.heap.objs.size) { s with heap := s.heap.push (bmO "list.append" a), toks := tk }) : wpAny (model prog w) A (getAttr (.ref a) "append" true) Q E s := by
  obtain ⟨hp, g, d, tk, os⟩ := s
  have hT : ∀ tk', (⟨hp, g, d, tk', os⟩ : Shared).TypeIs (.ref a) "list" := fun _ => ⟨_, hx, rfl⟩
  have f3 := PySem.F.slot_list_getattribute.lookup
  have f4 := PySem.F.slot_list_getattribute.bind (.ref a)
  have f5 := am_list_getattr_none
  unfold getAttr getAttrBy
  repeat (any_goals (first | assumption | exact hT _ | ((with_reducible show wpAny _ _ (call (Value.builtin "list.__getattribute__") _ _) _ _ _); refine call_meets PySem.F.slot_list_getattribute (hT _) am_entry_list_getattribute (PySem.F.args_list_getattribute_2 _ _) (meets_ga_append a xs k _) ⟨hx, ?_⟩) | wp_step))
  show wpAny (model prog w) A (handedOut (.ref hp.objs.size)) Q E { heap := hp.push (bmO "list.append" a), gens := g, drawn := d, toks := tk + 1, os := os }
  have hb : (hp.push (bmO "list.append" a)).get? hp.objs.size = some (bmO "list.append" a) := Heap.get?_push_size _ rfl
  have hg := h (tk + 1)
  wp_walk
  exact hg
theorem sub_list_module : isSubtype (.type "list") (.type "module") = pure false := by rw [isSubtype_type]; kernel_rfl
theorem sub_list_type : isSubtype (.type "list") (.type "type") = pure false := by rw [isSubtype_type]; kernel_rfl
theorem plain_append : plainId "list.append" = true := by decide +kernel
theorem call_append {prog : Program} {w : World} {A : Around} {E : Value → Shared → Prop} {s : Shared} {b a : Addr} {v : Value} {Q : Value → Shared → Prop} (hb : s.heap.get? b = some (bmO "list.append" a)) {xs : Array Value} {n : Nat} (hx : s.heap.get? a = some { cls := .type "list", data := .seq xs n })
    (h : codeAny (model prog w) A (.builtin "list.append" ⟨[.ref a, v], []⟩) (fun r s' => match r with | .ok (.ret v) => Q v s' | .ok _ => False | .error e => E e s') s) : wpAny (model prog w) A (call (.ref b) [v]) Q E s := by
  refine wpAny_call (codeAny_of_tree ?_)
  obtain ⟨hp, g, d, tk, os⟩ := s
  have hT : (⟨hp, g, d, tk, os⟩ : Shared).TypeIs (.ref a) "list" := ⟨_, hx, rfl⟩
  have f1 := sub_list_module
  have f2 := sub_list_type
  show wpAny _ _ (callAny (.ref b) _) _ _ _
  unfold callAny
  wp_walk
  exact ⟨plainId_quiet plain_append _, h⟩
section
variable {prog : Program} {w : World} {A : Around} {E : Value → Shared → Prop} {s : Shared} {h₀ : Heap} {L l b : Addr} {m : Str → Option Value} {nx : Led} {vs : List Value}
theorem ca_append {v : Value} {R : Result → Shared → Prop} {n : Nat} (hlen : vs.length ≤ 1000) (ho : s.heap.get? l = some { cls := .type "list", dict := none, data := .seq vs.toArray n, slots := #[] })
    (h : R (.ok (.ret .none)) { s with heap := s.heap.update l (Obj.mapSeq fun x => x.push v), toks := s.toks }) : codeAny (model prog w) A (.builtin "list.append" ⟨[.ref l, v], []⟩) R s := by
  refine codeAny_builtin PySem.F.entry_list_append ?_
  rw [Around.under_plainId plain_append _]
  exact PySem.list_append l vs.toArray n v (by rw [sizeLine_eq]; simp; omega) prog w A R s ⟨ho, h⟩
/-- a bound append: called -/
theorem bm_append {v : Value} {Q : Value → Shared → Prop} (F : Fr h₀ L s.heap m) (N : News h₀ L s.heap nx) (hb : (b, bmO "list.append" l) ∈ nx) (hl : LsAt nx l vs) (hlen : vs.length ≤ 1000)
    (h : ∀ h' o', Fr h₀ L h' m → News h₀ L h' (putAt l o' nx) → IsLs o' (vs ++ [v]) → Q .none { s with heap := h' }) : wpAny (model prog w) A (call (.ref b) [v]) Q E s := by
  obtain ⟨o, hm, n, e⟩ := hl
  subst e
  have ho := (N _ hm).1
  refine call_append (N _ hb).1 ho (ca_append hlen ho ?_)
  have hs : Heap.SameBut l s.heap (s.heap.update l (Obj.mapSeq fun x => x.push v)) := Heap.SameBut.update ..
  refine h _ (listOf (vs ++ [v]).toArray (n + 1)) (frBut F hs.extBut (N _ hm).2.1 (N _ hm).2.2) (newsPutAt N hm hs ?_) ⟨n + 1, rfl⟩
  rw [Heap.get?_update_self _ ho (by rw [Obj.mapSeq_push_plain]; rfl), Obj.mapSeq_push_plain]
  simp [W.listOf]
/-- a bound append: made -/
theorem bm_make {Q : Value → Shared → Prop} (F : Fr h₀ L s.heap m) (N : News h₀ L s.heap nx) (hl : LsAt nx l vs)
    (h : ∀ b h' tk, Fr h₀ L h' m → News h₀ L h' ((b, bmO "list.append" l) :: nx) → (∀ p ∈ nx, p.1 < b) → Q (.ref b) { s with heap := h', toks := tk }) : wpAny (model prog w) A (getAttr (.ref l) "append" true) Q E s := by
  obtain ⟨n, ho⟩ := hl.at N
  exact getattr_append ho fun tk => h _ _ tk (F.push _) (N.push F _) fun p hp => newsLt N p hp
end

theorem plain_re : PlainAttrs "re.Pattern" := by
  first
  | exact ⟨⟨"object.__getattribute__", by rw [typeLookup_type, builtinLookup_eq_fast]; kernel_rfl, by decide +kernel⟩, by rw [typeLookup_type, builtinLookup_eq_fast]; kernel_rfl⟩
  | exact ⟨⟨"re.Pattern.__getattribute__", by rw [typeLookup_type, builtinLookup_eq_fast]; kernel_rfl, by decide +kernel⟩, by rw [typeLookup_type, builtinLookup_eq_fast]; kernel_rfl⟩
theorem o50 {q : Params} {h : Heap} (X : (Mine.hp.heap_1 q).In h) : h.get? 50 = some { cls := .type "re.Pattern", data := .fields patF } := X 50 _ (by rfl)
theorem o49 {q : Params} {h : Heap} (X : (Mine.hp.heap_1 q).In h) : h.get? 49 = some { cls := .type "tuple", data := .seq codeF 0 } := X 49 _ (by rfl)
section
variable {prog : Program} {w : World} {A : Around} {E : Value → Shared → Prop} {s : Shared} {h₀ : Heap} {L : Addr} {m : Str → Option Value} {nx : Led} {q : Params}
theorem re_meth {pl : Sem Bool} {Q : Value × List Value → Shared → Prop} (X : (Mine.hp.heap_1 q).In s.heap) (h : Q (.builtin "re.Pattern.sub", [.ref 50]) s) : wpAny (model prog w) A (getMethod (.ref 50) "sub" pl) Q E s :=
  getMethod_builtin ⟨_, o50 X, rfl⟩ plain_re slot_sub type_sub (fun a e => by cases e; exact ⟨_, o50 X, rfl⟩) h
theorem re_call {f : Addr} {fo : Obj} {t : Tok} {Q : Value → Shared → Prop} (X : (Mine.hp.heap_1 q).In s.heap) (F : Fr h₀ L s.heap m) (N : News h₀ L s.heap nx) (hf : (f, fo) ∈ nx) (hc : fo.cls = .type "function")
    (h : ∀ h' tk tk', Fr h₀ L h' m → News h₀ L h' nx → Q (.str (S [97, 98]) tk') { s with heap := h', toks := tk }) : wpAny (model prog w) A (call (.builtin "re.Pattern.sub") [.ref 50, .ref f, .str (S [97, 98]) t]) Q E s :=
  call_meets slot_sub ⟨_, o50 X, rfl⟩ entry_sub (args_sub _ _ _) (sub_ab 50 f t fo hc) ⟨o50 X, o49 X, (N _ hf).1, fun h' tk tk' hk => h h' tk tk' (F.keeps hk) fun p hp => ⟨hk _ _ (N p hp).1, (N p hp).2⟩⟩
end

/-- the table of the code of _translate: no lambda yet, or the one at pos -/
def Tab (pos : Pos) (nx : Led) : Prop := (64, tabObj #[]) ∈ nx ∨ ∃ c', (64, tabObj #[rawInt pos.line, rawInt pos.col, .ref c']) ∈ nx
theorem Tab.mono {pos : Pos} {nx nx' : Led} (x : Tab pos nx) (h : ∀ p ∈ nx, p.1 = 64 → p ∈ nx') : Tab pos nx' := by
  rcases x with x | ⟨c, x⟩
  · exact .inl (h _ x rfl)
  · exact .inr ⟨c, h _ x rfl⟩
theorem Tab.ls_ne {pos : Pos} {h₀ h : Heap} {L l : Addr} {nx : Led} {vs : List Value} (N : News h₀ L h nx) (x : Tab pos nx) (y : LsAt nx l vs) : l ≠ 64 := by
  obtain ⟨o', hm', n', e'⟩ := y
  intro q
  subst q
  have h2 := (N _ hm').1
  have key : ∀ ps, (64, tabObj ps) ∈ nx → False := fun ps hm => by
    have h1 := (N _ hm).1
    rw [h1] at h2
    have h3 : tabObj ps = o' := Option.some.inj h2
    rw [e'] at h3
    have h4 : (Value.none : Value) = Value.type "list" := congrArg Obj.cls h3
    cases h4
  rcases x with x | ⟨c, x⟩
  · exact key _ x
  · exact key _ x
/-- all of the ledger but the table -/
def But64 (news nx : Led) : Prop := ∀ p ∈ news, p.1 ≠ 64 → p ∈ nx
theorem code68 {q : Params} {h : Heap} (X : (Mine.hp.heap_1 q).In h) : CodeHd h 68 64 := by
  refine ⟨_, _, _, _, _, _, _, _, _, X 68 _ (by rfl), rfl, rfl, rfl, rfl, rfl, rfl, rfl, rfl, by decide⟩
section
variable {M : Model} {A : Around} {E : Value → Shared → Prop} {s : Shared} {h₀ : Heap} {L a : Addr} {m mg mb : Str → Option Value} {cn : Str} {cs : Scope} {nx : Led} {p : Program} {loose : List Str} {mean : ExcName → Option Value} {params : Arguments} {body : Expr} {scope : Scope} {pos : Pos} {q : Params}
theorem off64 {h : Heap} {ps : Array Value} (N : News h₀ L h nx) (hm : (64, tabObj ps) ∈ nx) : News h₀ L h ((64, tabObj ps) :: offIt 64 nx) := newsSub N fun r hr => by
  rcases List.mem_cons.mp hr with rfl | hr
  · exact hm
  · exact off_sub hr
theorem lam_eval {Q : Value → Shared → Prop} (F : Fr h₀ L s.heap m) (N : News h₀ L s.heap nx) (T : Top p loose mean mg mb h₀) (X : (Mine.hp.heap_1 q).In h₀) (tab : Tab pos nx)
    (hdef : defaultsOf params (envX cn cs L a (.ref 68) []) = ([], [])) (hcl : closureFor scope (envX cn cs L a (.ref 68) []) = pure [])
    (h : ∀ f fo nx' h' tk, Fr h₀ L h' m → News h₀ L h' ((f, fo) :: nx') → fo.cls = .type "function" → But64 nx nx' → Tab pos nx' → Q (.ref f) { s with heap := h', toks := tk }) :
    wpAny M A (eval (.Lambda params body scope pos) (envX cn cs L a (.ref 68) [])) Q E s := by
  refine kla_eval hdef ?_
  rcases tab with tab | ⟨c', tab⟩
  · refine kla_nest F (off64 N tab) T (code68 X) rfl (UpdF.head off_ne) trivial rfl hcl fun f c' oc vs t ctv h' tk F' N' _ _ _ _ => ?_
    refine h f _ ((c', oc) :: (64, tabObj #[rawInt pos.line, rawInt pos.col, .ref c']) :: offIt 64 nx) h' tk F' (by simpa using N') rfl (fun r hr hn => .tail _ (.tail _ (off_mem hr hn))) (.inr ⟨c', .tail _ (.head _)⟩)
  · refine kla_hit F N T (code68 X) rfl tab trivial (c' := c') (by simp [codeAmong, rawInt]) hcl fun f ctv h' tk F' N' _ => ?_
    exact h f _ nx h' tk F' N' rfl (fun r hr _ => hr) (.inr ⟨c', tab⟩)
end

theorem lookup_object_new : typeLookup (.type "object") "__new__" = pure (some (.builtin "object.__new__")) := by rw [typeLookup_type, builtinLookup_eq_fast]; kernel_rfl
theorem mro_obj : mroOf (.type "object") = pure [.type "object"] := by kernel_rfl
theorem called_object : TypeCalled "object" "object.__new__" "object.__init__" :=
  ⟨by decide +kernel, by decide +kernel, ⟨_, _, mro_obj⟩, madeBy_type mro_obj lookup_object_new (by decide +kernel), by decide +kernel, by rw [isSubtype_type]; kernel_rfl, PySem.F.slot_object_init⟩
theorem typeCall_object_0 : checkTypeCall "object" ⟨[], []⟩ = pure () := by kernel_rfl
theorem newCall_object_0 : checkBuiltinCall "object.__new__" ⟨[.type "object"], []⟩ = pure () := by kernel_rfl
theorem entry_obj_new : entryFor table "object.__new__" = some Builtin.«object.__new__» := entryFor_of_tree (by kernel_rfl)
abbrev obO : Obj := { cls := .type "object", data := .plain }
theorem meets_object_new : Meets (Builtin.«object.__new__» ⟨[.type "object"], []⟩) (fun _ R s => R (.ok (.ret (.ref s.heap.objs.size))) { s with heap := s.heap.push obO }) :=
  .of_wp fun prog w A R s h => by
    obtain ⟨hp, g, d, tk, os⟩ := s
    have f1 := called_object.made
    unfold Builtin.«object.__new__»
    repeat (any_goals (first | assumption | wp_step))
    exact ⟨_, rfl, h⟩
theorem meets_object_init (self : Value) : Meets (Builtin.«object.__init__» ⟨[self], []⟩) (fun _ R s => R (.ok (.ret .none)) s) :=
  .of_wp fun _ _ _ _ _ h => wpAny_pure ⟨_, rfl, h⟩
theorem call_object {prog : Program} {w : World} {A : Around} {E : Value → Shared → Prop} {s : Shared} {Q : Value → Shared → Prop} (h : Q (.ref s.heap.objs.size) { s with heap := s.heap.push obO }) : wpAny (model prog w) A (call (.type "object") []) Q E s :=
  callType_meets (Q₁ := fun obj s₁ => s₁.TypeIs obj "object" ∧ Q obj s₁) called_object typeCall_object_0 newCall_object_0 entry_obj_new PySem.F.entry_object_init meets_object_new ⟨⟨_, Heap.get?_push_size _ rfl, rfl⟩, h⟩
    fun obj _ hq => ⟨hq.1, PySem.F.args_object_init_1 obj, _, meets_object_init obj, rfl, hq.2⟩
theorem obj_new {prog : Program} {w : World} {A : Around} {E : Value → Shared → Prop} {s : Shared} {Q : Value → Shared → Prop} {h₀ : Heap} {L : Addr} {m : Str → Option Value} {nx : Led} (F : Fr h₀ L s.heap m) (N : News h₀ L s.heap nx)
    (h : ∀ r h', Fr h₀ L h' m → News h₀ L h' ((r, obO) :: nx) → (∀ p ∈ nx, p.1 < r) → Q (.ref r) { s with heap := h' }) : wpAny (model prog w) A (call (.type "object") []) Q E s :=
  call_object (h _ _ (F.push _) (N.push F _) fun p hp => newsLt N p hp)

/-- a sort's questions, answered by lt; each asks for places below n -/
def KasH (n : Nat) (lt : Nat → Nat → Bool) {α : Type} : KasT α → (α → Prop) → Prop
  | .ret a, R => R a
  | .ask i j k, R => i < n ∧ j < n ∧ KasH n lt (k (lt i j)) R
theorem KasH.bind {n : Nat} {lt : Nat → Nat → Bool} {α β : Type} {f : α → KasT β} {R : β → Prop} : ∀ (t : KasT α), KasH n lt t (fun a => KasH n lt (f a) R) → KasH n lt (t.bind f) R
  | .ret _, h => h
  | .ask _ _ k, h => ⟨h.1, h.2.1, KasH.bind (k _) h.2.2⟩
theorem KasH.wp {n : Nat} {lt : Nat → Nat → Bool} {cmp : Nat → Nat → (Bool → Shared → Prop) → Shared → Prop} {s : Shared} (hc : ∀ i j C, i < n → j < n → C (lt i j) s → cmp i j C s) {α : Type} {Q : α → Shared → Prop} :
    ∀ (t : KasT α), KasH n lt t (fun a => Q a s) → t.kasWp cmp Q s
  | .ret _, h => h
  | .ask i j k, h => hc i j _ h.1 h.2.1 (KasH.wp hc (k _) h.2.2)
section
variable {n : Nat} {lt : Nat → Nat → Bool}
/-- what a sort's places are: an order of 0 .. n - 1 -/
def PmOk (n : Nat) (p : Array Nat) : Prop := 0 < n ∧ p.Perm (List.range n).toArray
theorem PmOk.size {p : Array Nat} (h : PmOk n p) : p.size = n := by simpa using h.2.size_eq
theorem PmOk.ub {p : Array Nat} (h : PmOk n p) (k : Nat) : p.getD k 0 < n := by
  by_cases hk : k < p.size
  · have hm : p[k] ∈ (List.range n).toArray := h.2.mem_iff.mp (Array.getElem_mem hk)
    have e : p.getD k 0 = p[k] := by simp [Array.getD, hk]
    rw [e]; simpa using hm
  · have e : p.getD k 0 = 0 := by simp [Array.getD, hk]
    rw [e]; exact h.1
theorem PmOk.rev {p : Array Nat} (h : PmOk n p) (i j : Nat) : PmOk n (kas_rev p i j) := ⟨h.1, (mirror_perm p i j _).trans h.2⟩
theorem PmOk.move {p : Array Nat} (h : PmOk n p) (k d : Nat) : PmOk n (bubble p k d) := ⟨h.1, (bubble_perm p k d).trans h.2⟩
theorem gd_eq {p q : Array Nat} {i j : Nat} (h : p[i]? = q[j]?) : p.getD i 0 = q.getD j 0 := by
  rw [Array.getD_eq_getD_getElem?, Array.getD_eq_getD_getElem?, h]
theorem rev_in {p : Array Nat} {i j k : Nat} (hj : j ≤ p.size) (h1 : i ≤ k) (h2 : k < j) : (kas_rev p i j).getD k 0 = p.getD (i + j - 1 - k) 0 := gd_eq (by
  unfold kas_rev; rw [getElem?_mirror_all hj, if_pos ⟨h1, h2⟩])
theorem rev_out {p : Array Nat} {i j k : Nat} (hj : j ≤ p.size) (h : ¬ (i ≤ k ∧ k < j)) : (kas_rev p i j).getD k 0 = p.getD k 0 := gd_eq (by
  unfold kas_rev; rw [getElem?_mirror_all hj, if_neg h])
/-- upward, downward below m -/
def UpTo (lt : Nat → Nat → Bool) (p : Array Nat) (m : Nat) : Prop := ∀ i j, i ≤ j → j < m → lt (p.getD j 0) (p.getD i 0) = false
def DnTo (lt : Nat → Nat → Bool) (p : Array Nat) (m : Nat) : Prop := ∀ i j, i ≤ j → j < m → lt (p.getD i 0) (p.getD j 0) = false
def SameIn (lt : Nat → Nat → Bool) (p : Array Nat) (a b : Nat) : Prop := ∀ i j, a ≤ i → i < b → a ≤ j → j < b → lt (p.getD i 0) (p.getD j 0) = false
theorem UpTo.one (O : Ord lt) (p : Array Nat) : UpTo lt p 1 := fun i j h1 h2 => by
  rw [show i = j by omega]; exact O.refl _
theorem UpTo.more (O : Ord lt) {p : Array Nat} {m : Nat} (h : UpTo lt p m) (hm : 1 ≤ m) (hl : lt (p.getD m 0) (p.getD (m - 1) 0) = false) : UpTo lt p (m + 1) := fun i j h1 h2 => by
  by_cases e : j = m
  · subst e
    by_cases e2 : i = j
    · rw [e2]; exact O.refl _
    · exact O.le _ _ _ (h i (j - 1) (by omega) (by omega)) hl
  · exact h i j h1 (by omega)
theorem DnTo.more (O : Ord lt) {p : Array Nat} {m : Nat} (h : DnTo lt p m) (hm : 1 ≤ m) (hl : lt (p.getD (m - 1) 0) (p.getD m 0) = false) : DnTo lt p (m + 1) := fun i j h1 h2 => by
  by_cases e : j = m
  · subst e
    by_cases e2 : i = j
    · rw [e2]; exact O.refl _
    · exact O.le _ _ _ hl (h i (j - 1) (by omega) (by omega))
  · exact h i j h1 (by omega)
theorem DnTo.rev {p : Array Nat} {m : Nat} (h : DnTo lt p m) (hm : m ≤ p.size) : UpTo lt (kas_rev p 0 m) m := fun i j h1 h2 => by
  rw [rev_in hm (by omega) h2, rev_in hm (by omega) (by omega)]
  exact h _ _ (by omega) (by omega)
theorem DnTo.block {p : Array Nat} {a m : Nat} (h : DnTo lt p m) (hs : SameIn lt p a m) (hm : m ≤ p.size) : DnTo lt (kas_rev p a m) m := fun i j h1 h2 => by
  by_cases hi : a ≤ i
  · rw [rev_in hm hi (by omega), rev_in hm (by omega) h2]
    exact hs _ _ (by omega) (by omega) (by omega) (by omega)
  · rw [rev_out (k := i) hm (by omega)]
    by_cases hj : a ≤ j
    · rw [rev_in hm hj h2]; exact h _ _ (by omega) (by omega)
    · rw [rev_out hm (by omega)]; exact h _ _ h1 h2
theorem asc_h (O : Ord lt) {p : Array Nat} (hp : PmOk n p) {R : Nat → Prop} : ∀ (f m : Nat), 1 ≤ m → UpTo lt p m → (∀ m', m ≤ m' → m' ≤ m + f → UpTo lt p m' → (m' = m + f ∨ lt (p.getD m' 0) (p.getD (m' - 1) 0) = true) → R m') → KasH n lt (kas_asc p f m) R
  | 0, m, _, hu, h => h m (Nat.le_refl _) (Nat.le_refl _) hu (.inl rfl)
  | f + 1, m, hm, hu, h => by
    refine ⟨hp.ub _, hp.ub _, ?_⟩
    cases e : lt (p.getD m 0) (p.getD (m - 1) 0) with
    | true => exact h m (Nat.le_refl _) (by omega) hu (.inr e)
    | false => exact asc_h O hp f (m + 1) (by omega) (hu.more O hm e) fun m' a1 a2 a3 a4 => h m' (by omega) (by omega) a3 (by rcases a4 with a4 | a4; exact .inl (by omega); exact .inr a4)
theorem desc_h (O : Ord lt) {R : Array Nat × Nat × Nat → Prop} : ∀ (f : Nat) (p : Array Nat) (m q : Nat), PmOk n p → 1 ≤ m → m + f ≤ n → q + 1 ≤ m → DnTo lt p m → SameIn lt p (m - (q + 1)) m →
    (∀ p' m' q', PmOk n p' → 1 ≤ m' → m' ≤ m + f → q' + 1 ≤ m' → DnTo lt p' m' → SameIn lt p' (m' - (q' + 1)) m' → R (p', m', q')) → KasH n lt (kas_desc f p m q) R
  | 0, p, m, q, hp, hm, _, hq, hd, hs, h => h p m q hp hm (Nat.le_refl _) hq hd hs
  | f + 1, p, m, q, hp, hm, hf, hq, hd, hs, h => by
    refine ⟨hp.ub _, hp.ub _, ?_⟩
    have hsz := hp.size
    cases e : lt (p.getD m 0) (p.getD (m - 1) 0) with
    | true =>
      have hone : ∀ (p' : Array Nat), SameIn lt p' (m + 1 - (0 + 1)) (m + 1) := fun p' i j h1 h2 h3 h4 => by
        rw [show i = j by omega]; exact O.refl _
      show KasH n lt (if q > 0 then kas_desc f (kas_rev p (m - (q + 1)) m) (m + 1) 0 else kas_desc f p (m + 1) 0) R
      by_cases h0 : q > 0
      · rw [if_pos h0]
        refine desc_h O f _ (m + 1) 0 (hp.rev _ _) (by omega) (by omega) (by omega) ?_ (hone _) fun p' m' q' b1 b2 b3 => h p' m' q' b1 b2 (by omega)
        refine (hd.block hs (by omega)).more O hm ?_
        rw [rev_in (by omega) (by omega) (by omega), rev_out (by omega) (by omega)]
        exact O.le _ _ _ (O.asym _ _ e) (hs _ _ (by omega) (by omega) (by omega) (by omega))
      · rw [if_neg h0]
        exact desc_h O f p (m + 1) 0 hp (by omega) (by omega) (by omega) (hd.more O hm (O.asym _ _ e)) (hone _) fun p' m' q' b1 b2 b3 => h p' m' q' b1 b2 (by omega)
    | false =>
      refine ⟨hp.ub _, hp.ub _, ?_⟩
      cases e2 : lt (p.getD (m - 1) 0) (p.getD m 0) with
      | true => exact h p m q hp hm (by omega) hq hd hs
      | false =>
        refine desc_h O f p (m + 1) (q + 1) hp (by omega) (by omega) (by omega) (hd.more O hm e2) (fun i j h1 h2 h3 h4 => ?_) fun p' m' q' b1 b2 b3 => h p' m' q' b1 b2 (by omega)
        have key : ∀ i, m + 1 - (q + 1 + 1) ≤ i → i < m → lt (p.getD i 0) (p.getD m 0) = false ∧ lt (p.getD m 0) (p.getD i 0) = false := fun i g1 g2 =>
          ⟨O.le _ _ _ e2 (hs _ _ (by omega) (by omega) (by omega) (by omega)), O.le _ _ _ (hs _ _ (by omega) (by omega) (by omega) (by omega)) e⟩
        by_cases hi : i = m
        · by_cases hj : j = m
          · rw [hi, hj]; exact O.refl _
          · rw [hi]; exact (key j h3 (by omega)).2
        · by_cases hj : j = m
          · rw [hj]; exact (key i h1 (by omega)).1
          · exact hs _ _ (by omega) (by omega) (by omega) (by omega)
theorem tail3_h (O : Ord lt) {p : Array Nat} {m : Nat} (hp : PmOk n p) (hm : 1 ≤ m) (hn : m ≤ n) (hd : DnTo lt p m) {R : Nat × Array Nat → Prop} (h : ∀ p' m', PmOk n p' → 1 ≤ m' → m' ≤ n → UpTo lt p' m' → R (m', p')) : KasH n lt (kas_tail3 m n p) R := by
  refine KasH.bind _ (asc_h O (hp.rev _ _) _ _ hm (hd.rev (by rw [hp.size]; exact hn)) fun m' a1 a2 a3 _ => ?_)
  exact h _ m' (hp.rev _ _) (by omega) (by omega) a3
theorem descPart_h (O : Ord lt) {p : Array Nat} {m : Nat} (hp : PmOk n p) (hm : 1 ≤ m) (hn : m < n) (hd : DnTo lt p (m + 1)) {R : Nat × Array Nat → Prop} (h : ∀ p' m', PmOk n p' → 1 ≤ m' → m' ≤ n → UpTo lt p' m' → R (m', p')) : KasH n lt (kas_descPart m n p) R := by
  refine KasH.bind _ (desc_h O _ p (m + 1) 0 hp (by omega) (by omega) (by omega) hd (fun i j h1 h2 h3 h4 => by rw [show i = j by omega]; exact O.refl _) fun p' m' q' b1 b2 b3 b4 b5 b6 => ?_)
  show KasH n lt (if q' > 0 then kas_tail3 m' n (kas_rev p' (m' - (q' + 1)) m') else kas_tail3 m' n p') R
  by_cases h0 : q' > 0
  · rw [if_pos h0]; exact tail3_h O (b1.rev _ _) b2 (by omega) (b5.block b6 (by rw [b1.size]; omega)) h
  · rw [if_neg h0]; exact tail3_h O b1 b2 (by omega) b5 h
theorem count_h (O : Ord lt) {p : Array Nat} (hp : PmOk n p) {R : Nat × Array Nat → Prop} (h : ∀ p' m', PmOk n p' → 1 ≤ m' → m' ≤ n → UpTo lt p' m' → R (m', p')) : KasH n lt (kas_count n p) R := by
  have hn := hp.1
  refine KasH.bind _ (asc_h O hp _ _ (Nat.le_refl _) (UpTo.one O p) fun m a1 a2 a3 a4 => ?_)
  by_cases e : m = n
  · have e' : (m == n) = true := by simpa using e
    show KasH n lt (if (m == n) = true then KasT.ret (m, p) else _) R
    rw [if_pos e']; exact h p m hp a1 (by omega) a3
  · have e' : ¬ (m == n) = true := by simpa using e
    have hl : lt (p.getD m 0) (p.getD (m - 1) 0) = true := by rcases a4 with a4 | a4; exact absurd a4 (by omega); exact a4
    show KasH n lt (if (m == n) = true then KasT.ret (m, p) else if m > 1 then KasT.ask (p.getD 0 0) (p.getD (m - 1) 0) (fun c => if c = true then KasT.ret (m, p) else kas_descPart m n (kas_rev p 0 m)) else kas_descPart m n p) R
    rw [if_neg e']
    by_cases h1 : m > 1
    · rw [if_pos h1]
      refine ⟨hp.ub _, hp.ub _, ?_⟩
      cases e2 : lt (p.getD 0 0) (p.getD (m - 1) 0) with
      | true => exact h p m hp a1 (by omega) a3
      | false =>
        have hsz := hp.size
        have same : ∀ i j, i < m → j < m → lt (p.getD i 0) (p.getD j 0) = false := fun i j g1 g2 =>
          O.le _ _ _ (a3 j (m - 1) (by omega) (by omega)) (O.le _ _ _ e2 (a3 0 i (by omega) g1))
        refine descPart_h O (hp.rev _ _) a1 (by omega) ?_ h
        refine DnTo.more O (fun i j g1 g2 => ?_) a1 ?_
        · rw [rev_in (by omega) (by omega) (by omega), rev_in (by omega) (by omega) g2]
          exact same _ _ (by omega) (by omega)
        · rw [rev_in (by omega) (by omega) (by omega), rev_out (by omega) (by omega)]
          exact O.le _ _ _ (O.asym _ _ hl) (same _ _ (by omega) (by omega))
    · rw [if_neg h1]
      refine descPart_h O hp a1 (by omega) ?_ h
      refine DnTo.more O (fun i j g1 g2 => ?_) a1 (O.asym _ _ hl)
      rw [show i = j by omega]; exact O.refl _
theorem place_h {p : Array Nat} (O : Ord lt) (hp : PmOk n p) {k : Nat} (hu : UpTo lt p k) {R : Nat → Prop} (h : ∀ l, l ≤ k → (∀ i, i < l → lt (p.getD k 0) (p.getD i 0) = false) → (∀ i, l ≤ i → i < k → lt (p.getD k 0) (p.getD i 0) = true) → R l) :
    ∀ (f l r : Nat), l ≤ r → r ≤ k → r - l ≤ f → (∀ i, i < l → lt (p.getD k 0) (p.getD i 0) = false) → (∀ i, r ≤ i → i < k → lt (p.getD k 0) (p.getD i 0) = true) → KasH n lt (kas_place p k f l r) R
  | 0, l, r, h1, h2, h3, h4, h5 => h l (by omega) h4 fun i g1 g2 => h5 i (by omega) g2
  | f + 1, l, r, h1, h2, h3, h4, h5 => by
    unfold kas_place
    by_cases e : l ≥ r
    · rw [if_pos e]; exact h l (by omega) h4 fun i g1 g2 => h5 i (by omega) g2
    · rw [if_neg e]
      refine ⟨hp.ub _, hp.ub _, ?_⟩
      cases e2 : lt (p.getD k 0) (p.getD ((l + r) / 2) 0) with
      | true =>
        refine place_h O hp hu h f l _ (by omega) (by omega) (by omega) h4 fun i g1 g2 => ?_
        cases e3 : lt (p.getD k 0) (p.getD i 0) with
        | true => rfl
        | false =>
          have := O.le _ _ _ (hu ((l + r) / 2) i g1 g2) e3
          rw [e2] at this; cases this
      | false =>
        refine place_h O hp hu h f _ r (by omega) (by omega) (by omega) (fun i g1 => ?_) h5
        exact O.le _ _ _ (hu i ((l + r) / 2) (by omega) (by omega)) e2
theorem move_up (O : Ord lt) {p : Array Nat} {k l : Nat} (hk : k < p.size) (hl : l ≤ k) (hu : UpTo lt p k) (h1 : ∀ i, i < l → lt (p.getD k 0) (p.getD i 0) = false) (h2 : ∀ i, l ≤ i → i < k → lt (p.getD k 0) (p.getD i 0) = true) : UpTo lt (bubble p k (k - l)) (k + 1) := by
  have at_ : ∀ i, (bubble p k (k - l)).getD i 0 = if i = l then p.getD k 0 else if l < i ∧ i ≤ k then p.getD (i - 1) 0 else p.getD i 0 := fun i => by
    have e := getElem?_bubble hk (k - l) (by omega) i
    rw [show k - (k - l) = l by omega] at e
    by_cases g1 : i = l
    · rw [if_pos g1] at e ⊢; exact gd_eq e
    · rw [if_neg g1] at e ⊢
      by_cases g2 : l < i ∧ i ≤ k
      · rw [if_pos g2] at e ⊢; exact gd_eq e
      · rw [if_neg g2] at e ⊢; exact gd_eq e
  intro i j hij hj
  rw [at_ i, at_ j]
  by_cases ei : i = l
  · rw [if_pos ei]
    by_cases ej : j = l
    · rw [if_pos ej]; exact O.refl _
    · rw [if_neg ej, if_pos ⟨by omega, by omega⟩]
      exact O.asym _ _ (h2 (j - 1) (by omega) (by omega))
  · rw [if_neg ei]
    by_cases ej : j = l
    · rw [if_pos ej, if_neg (by omega)]
      exact h1 i (by omega)
    · rw [if_neg ej]
      by_cases gi : l < i ∧ i ≤ k
      · rw [if_pos gi, if_pos ⟨by omega, by omega⟩]; exact hu _ _ (by omega) (by omega)
      · rw [if_neg gi]
        by_cases gj : l < j ∧ j ≤ k
        · rw [if_pos gj]; exact hu _ _ (by omega) (by omega)
        · rw [if_neg gj]; exact hu _ _ hij (by omega)
theorem bin_h (O : Ord lt) {R : Array Nat → Prop} (h : ∀ p, PmOk n p → UpTo lt p n → R p) : ∀ (f : Nat) (p : Array Nat) (k : Nat), PmOk n p → k + f = n → UpTo lt p k → KasH n lt (kas_bin f p k) R
  | 0, p, k, hp, e, hu => h p hp (by rw [show n = k by omega]; exact hu)
  | f + 1, p, k, hp, e, hu => by
    refine KasH.bind _ (place_h O hp hu (fun l g1 g2 g3 => ?_) k 0 k (by omega) (by omega) (by omega) (fun i g => absurd g (by omega)) fun i g1 g2 => absurd g2 (by omega))
    exact bin_h O h f _ (k + 1) (hp.move _ _) (by omega) (move_up O (by rw [hp.size]; omega) g1 hu g2 g3)
theorem sort_h (O : Ord lt) (hn : 0 < n) {R : Array Nat → Prop} (h : ∀ p, PmOk n p → UpTo lt p n → R p) : KasH n lt (kas_sort n) R := by
  refine KasH.bind _ (count_h O ⟨hn, Array.Perm.refl _⟩ fun p m a1 a2 a3 a4 => ?_)
  show KasH n lt (if m < n then kas_bin (n - max m 1) p (max m 1) else KasT.ret p) R
  by_cases e : m < n
  · rw [if_pos e, show max m 1 = m by omega]
    exact bin_h O h _ p m a1 (by omega) a4
  · rw [if_neg e]
    exact h p a1 (by rw [show n = m by omega]; exact a4)
end

section
variable {prog : Program} {w : World} {A : Around} {E : Value → Shared → Prop} {s : Shared} {h₀ : Heap} {L l : Addr} {m : Str → Option Value} {nx : Led}
/-- a sort's question of two pairs -/
theorem key_ask {a b : Addr} {x y : Int × List Nat} {Q : Bool → Shared → Prop} (N : News h₀ L s.heap nx) (ha : KeyAt nx a x) (hb : KeyAt nx b y) (h : Q (klt x y) s) : wpAny (model prog w) A (keyLt' (tuples' true) (.ref a) (.ref b)) Q E s := by
  obtain ⟨o, dd, n, sl, t, u, hm, rfl⟩ := ha
  obtain ⟨o2, dd2, n2, sl2, t2, u2, hm2, rfl⟩ := hb
  refine kat_lt (N _ hm).1 rfl (N _ hm2).1 rfl (kat_cons (wpAny_eqBool_int ?_))
  unfold klt at h
  by_cases e : x.1 = y.1
  · rw [if_pos e] at h
    rw [show (x.1 == y.1) = true by simpa using e]
    refine kat_yes (kat_cons (wpAny_eqBool_str ?_))
    by_cases e2 : x.2 = y.2
    · rw [if_pos e2] at h
      rw [decide_eq_true (show S x.2 = S y.2 by rw [e2])]
      exact kat_yes (kat_nil h)
    · rw [if_neg e2] at h
      rw [decide_eq_false (fun q => e2 ((S_inj ..).mp q))]
      refine kat_no (kat_one _ _ (PyProof.Rows.lt_str ?_))
      show Q _ s
      simpa [S] using h
  · rw [if_neg e] at h
    rw [show (x.1 == y.1) = false by simpa using e]
    exact kat_no (oneLt_int h)
theorem key_firsts {h : Heap} {key : Addr → Int × List Nat} (N : News h₀ L h nx) : ∀ (rs : List Addr), (∀ r ∈ rs, KeyAt nx r (key r)) → ∃ fs : List Value, fs.length = rs.length ∧ KatTups h (rs.map .ref) fs ∧ ∀ v ∈ fs, ∃ n t, v = .int n t
  | [], _ => ⟨[], rfl, KatTups.nil, fun _ hv => (nomatch hv)⟩
  | r :: rs, hk => by
    obtain ⟨fs, e, k, i⟩ := key_firsts N rs fun q hq => hk q (.tail _ hq)
    obtain ⟨o, dd, n, sl, t, u, hm, rfl⟩ := hk r (.head _)
    refine ⟨.int (key r).1 t :: fs, by simp [e], KatTups.cons (N _ hm).1 rfl rfl rfl k, fun v hv => ?_⟩
    rcases List.mem_cons.mp hv with rfl | hv
    · exact ⟨_, _, rfl⟩
    · exact i v hv
theorem pm_map {n : Nat} {p : Array Nat} (hp : PmOk n p) {rs : List Addr} (e : rs.length = n) : (p.toList.map fun i => (rs.map Value.ref).getD i Value.none) = (p.toList.map fun i => rs.getD i L).map .ref := by
  rw [List.map_map]
  refine List.map_congr_left fun i hi => ?_
  have h1 : i ∈ (List.range n).toArray := hp.2.mem_iff.mp (by simpa using hi)
  have h2 : i < rs.length := by rw [e]; simpa using h1
  simp [h2]
theorem pm_perm {n : Nat} {p : Array Nat} (hp : PmOk n p) {rs : List Addr} (e : rs.length = n) : (p.toList.map fun i => rs.getD i L).Perm rs := by
  have h1 : p.toList.Perm (List.range n) := by have := Array.perm_iff_toList_perm.mp hp.2; simpa using this
  refine (h1.map _).trans (List.Perm.of_eq ?_)
  refine List.ext_getElem? fun i => ?_
  by_cases hi : i < n
  · have : i < rs.length := by omega
    simp [hi, this]
  · have : ¬ i < rs.length := by omega
    rw [List.getElem?_eq_none (by simp; omega), List.getElem?_eq_none (by omega)]
theorem pm_sorted {n : Nat} {p : Array Nat} {rs : List Addr} {key : Addr → Int × List Nat} (hp : PmOk n p) (hu : UpTo (fun i j => klt (key (rs.getD i L)) (key (rs.getD j L))) p n) : (p.toList.map fun i => rs.getD i L).Pairwise (fun a b => klt (key b) (key a) = false) := by
  rw [List.pairwise_map, List.pairwise_iff_getElem]
  intro i j hi hj hij
  have hsz := hp.size
  rw [Array.length_toList] at hi hj
  have := hu i j (Nat.le_of_lt hij) (by omega)
  simpa [Array.getD, hi, hj] using this
theorem idx_ord (rs : List Addr) (key : Addr → Int × List Nat) (L : Addr) : Ord (fun i j => klt (key (rs.getD i L)) (key (rs.getD j L))) := ⟨fun _ _ => klt_asym _ _, fun _ _ _ => klt_le _ _ _⟩
def SortPost (nx : Led) (rs : List Addr) (key : Addr → Int × List Nat) (D : Addr) (o : Obj) (rs' : List Addr) : Prop :=
  IsLs o (rs'.map .ref) ∧ rs'.Perm rs ∧ rs'.Pairwise (fun a b => klt (key b) (key a) = false) ∧ ∀ p ∈ nx, p.1 < D
theorem sorted_long {rs : List Addr} {key : Addr → Int × List Nat} {Q : Value → Shared → Prop} (F : Fr h₀ L s.heap m) (N : News h₀ L s.heap nx) (hl : LsAt nx l (rs.map .ref)) (hk : ∀ r ∈ rs, KeyAt nx r (key r)) (h2 : 2 ≤ rs.length) (h64 : rs.length < 64)
    (h : ∀ D o rs' h', Fr h₀ L h' m → News h₀ L h' ((D, o) :: nx) → SortPost nx rs key D o rs' → Q (.ref D) { s with heap := h' }) : wpAny (model prog w) A (call (.builtin "sorted") [.ref l]) Q E s := by
  refine kat_sorted F N (hl.isList N) (by simpa using h2) (by simpa using h64) fun D e1 h' F' N' lt => ?_
  have N2 : News h₀ L h' nx := fun p hp => N' p (.tail _ hp)
  obtain ⟨fs, e, k, i⟩ := key_firsts N2 rs hk
  refine kat_kind (T := .type "int") k (by omega) (fun v hv => ?_) (by decide) ?_
  · obtain ⟨n, t, rfl⟩ := i v hv
    exact Looks.of_pure rfl
  · rw [show (Value.type "int" != Value.type "tuple") = true by decide, List.length_map]
    have at_ : ∀ i, i < rs.length → (rs.map Value.ref).getD i Value.none = .ref (rs.getD i L) ∧ rs.getD i L ∈ rs := fun i hi => by simp [hi]
    refine KasH.wp (n := rs.length) (lt := fun i j => klt (key (rs.getD i L)) (key (rs.getD j L))) (fun i j C hi hj hC => ?_) _ (sort_h (idx_ord rs key L) (by omega) fun p hp hu => ?_)
    · unfold kas_ask
      rw [(at_ i hi).1, (at_ j hj).1]
      exact key_ask N2 (hk _ (at_ i hi).2) (hk _ (at_ j hj).2) hC
    · refine KasFin.intro F' N' (UpdF.head fun q hq => Nat.ne_of_lt (lt q hq)) fun h'' c F'' N'' => ?_
      rw [pm_map (L := L) hp rfl] at N''
      exact h D _ _ h'' F'' N'' ⟨⟨c, rfl⟩, pm_perm hp rfl, pm_sorted hp hu, lt⟩
theorem sorted_short {rs : List Addr} {key : Addr → Int × List Nat} {Q : Value → Shared → Prop} (F : Fr h₀ L s.heap m) (N : News h₀ L s.heap nx) (hl : LsAt nx l (rs.map .ref)) (h2 : rs.length < 2)
    (h : ∀ D o rs' h', Fr h₀ L h' m → News h₀ L h' ((D, o) :: nx) → SortPost nx rs key D o rs' → Q (.ref D) { s with heap := h' }) : wpAny (model prog w) A (call (.builtin "sorted") [.ref l]) Q E s := by
  have hlen : (rs.map Value.ref).length < 2 := by simpa using h2
  have hsl : 2 ≤ sizeLine := by rw [sizeLine_eq]; omega
  have hsz : (rs.map Value.ref).toArray.size < 2 := by simpa using h2
  refine Calls.call_function_entry kind_sorted plain_sorted entry_sorted (args_sorted1 _) ?_
  unfold Builtin.«sorted»
  refine wpAny_bind (m := checkCount "sorted" 1 1 _) (wpAny_pure ?_)
  refine wpAny_bind (collect_list (hl.isList N) ?_ (by omega))
  refine wpAny_bind (wpAny_newList ?_ (by show (rs.map Value.ref).length ≤ _; omega))
  generalize hH : (s.heap.push (seqObj "list" #[] 0)).update s.heap.objs.size (Obj.mapSeq (· ++ (rs.map Value.ref).toArray)) = H1
  have sz1 : H1.objs.size = s.heap.objs.size + 1 := by rw [← hH, Heap.size_update, size_push']
  have keep : ∀ b o, s.heap.get? b = some o → H1.get? b = some o := fun b o q => by
    have hlt : b < s.heap.objs.size := Heap.lt_size q
    rw [← hH, Heap.get?_update_ne _ _ _ _ (Nat.ne_of_lt hlt), Heap.get?_push_ne _ _ _ (Nat.ne_of_lt hlt)]
    exact q
  have F1 : Fr h₀ L H1 m := F.kept keep
  have N1 : News h₀ L H1 nx := N.grown keep
  have lt1 : ∀ p ∈ nx, p.1 < H1.objs.size := newsLt N1
  have fresh : (H1.push (seqObj "list" (rs.map Value.ref).toArray 0)).get? H1.objs.size = some (seqObj "list" (rs.map Value.ref).toArray 0) := Heap.get?_push_size _ rfl
  have F2 : Fr h₀ L (H1.push (seqObj "list" (rs.map Value.ref).toArray 0)) m := F1.push _
  have N2 : News h₀ L (H1.push (seqObj "list" (rs.map Value.ref).toArray 0)) ((H1.objs.size, seqObj "list" (rs.map Value.ref).toArray 0) :: nx) := N1.push F1 _
  show wpAny (model prog w) A.in1 _ _ E { s with heap := H1.push (seqObj "list" (rs.map Value.ref).toArray 0) }
  dsimp only
  refine wpAny_bind (wpAny_holding (wpAny_call_entry slot_list_sort ⟨_, fresh, rfl⟩ entry_list_sort ?body (args_list_sort _)))
  rw [list_sort_plain]
  clear hH keep sz1 N F N1 F1 fresh
  generalize H1.push (seqObj "list" (rs.map Value.ref).toArray 0) = H2 at *
  generalize H1.objs.size = D at *
  have hD := N2 _ (.head _)
  have s1 := Heap.SameBut.update H2 D (Obj.mapSeq fun _ => (#[] : Array Value))
  obtain ⟨e1, ho1⟩ : ∃ e1, (H2.update D (Obj.mapSeq fun _ => (#[] : Array Value))).get? D = some (seqObj "list" #[] e1) := ⟨_, get?_update_seq hD.1 fun _ => #[]⟩
  refine wpAny_bind (listItems_at hD.1 rfl ?_)
  refine wpAny_bind (listUpdate_at hD.1 rfl ?_ (by omega) (Nat.zero_le _))
  refine wpAny_bind (seqEpoch_at ho1 rfl ?_)
  have F3 : Fr h₀ L (H2.update D (Obj.mapSeq fun _ => (#[] : Array Value))) m := frBut F2 s1.extBut hD.2.1 hD.2.2
  have N3 : News h₀ L (H2.update D (Obj.mapSeq fun _ => (#[] : Array Value))) ((D, seqObj "list" #[] e1) :: nx) := newsPut N2 s1.extBut (fun p hp => Nat.ne_of_lt (lt1 p hp)) ho1
  clear s1 ho1 hD F2 N2
  generalize H2.update D (Obj.mapSeq fun _ => (#[] : Array Value)) = H3 at *
  refine wpAny_bind (wpAny_newTuple ?_ (by show (rs.map Value.ref).length ≤ _; omega))
  refine wpAny_bind (wpAny_newList ?_ (Nat.zero_le _))
  refine wpAny_holding ?_
  show wpAny (model prog w) A.in1.in1 _ _ E { s with heap := (H3.push (seqObj "tuple" (rs.map Value.ref).toArray 0)).push (seqObj "list" #[] 0) }
  have F4 : Fr h₀ L ((H3.push (seqObj "tuple" (rs.map Value.ref).toArray 0)).push (seqObj "list" #[] 0)) m := (F3.push _).push _
  have N4 : News h₀ L ((H3.push (seqObj "tuple" (rs.map Value.ref).toArray 0)).push (seqObj "list" #[] 0)) ((D, seqObj "list" #[] e1) :: nx) := N3.grown fun b x e => Heap.get?_push_of_some _ (Heap.get?_push_of_some _ e)
  clear F3 N3
  generalize (H3.push (seqObj "tuple" (rs.map Value.ref).toArray 0)).push (seqObj "list" #[] 0) = H4 at *
  have hD := N4 _ (.head _)
  dsimp only
  rw [if_pos hsz, if_pos hsz]
  refine wpAny_bind (wpAny_pure ?_)
  rw [StateT.run_pure]
  refine wpAny_bind (wpAny_pure ?_)
  dsimp only
  have out : ((arrOf (SortSt.mk' general' ((rs.map Value.ref).toArray.zip (rs.map Value.ref).toArray) #[] 7 none)).map fun x => x.2) = (rs.map Value.ref).toArray := by
    show ((rs.map Value.ref).toArray.zip (rs.map Value.ref).toArray).map (fun x => x.2) = _
    rw [show (fun x : Value × Value => x.2) = Prod.snd from rfl, Array.map_snd_zip (Nat.le_refl _)]
  rw [out]
  have s2 := Heap.SameBut.update H4 D (Obj.mapSeq fun _ => (rs.map Value.ref).toArray)
  obtain ⟨c2, hc2⟩ : ∃ c2, (H4.update D (Obj.mapSeq fun _ => (rs.map Value.ref).toArray)).get? D = some (seqObj "list" (rs.map Value.ref).toArray c2) := ⟨_, get?_update_seq hD.1 fun _ => (rs.map Value.ref).toArray⟩
  refine wpAny_bind (seqEpoch_at hD.1 rfl ?_)
  refine wpAny_bind (listUpdate_at hD.1 rfl ?_ (Nat.zero_le _) (by omega))
  show wpAny (model prog w) A.in1.in1 _ _ E { s with heap := H4.update D (Obj.mapSeq fun _ => (rs.map Value.ref).toArray) }
  simp only [bne_self_eq_false, Bool.false_eq_true, if_false]
  refine wpAny_pure ⟨_, rfl, wpAny_pure ⟨_, rfl, ?_⟩⟩
  refine h D _ rs _ (frBut F4 s2.extBut hD.2.1 hD.2.2) (newsPut N4 s2.extBut (fun p hp => Nat.ne_of_lt (lt1 p hp)) hc2) ⟨⟨c2, rfl⟩, List.Perm.refl _, ?_, lt1⟩
  match rs, h2 with
  | [], _ => exact List.Pairwise.nil
  | [r], _ => exact List.pairwise_singleton _ _
theorem ls_sorted {rs : List Addr} {key : Addr → Int × List Nat} {Q : Value → Shared → Prop} (F : Fr h₀ L s.heap m) (N : News h₀ L s.heap nx) (hl : LsAt nx l (rs.map .ref)) (hk : ∀ r ∈ rs, KeyAt nx r (key r)) (h64 : rs.length < 64)
    (h : ∀ D o rs' h', Fr h₀ L h' m → News h₀ L h' ((D, o) :: nx) → SortPost nx rs key D o rs' → Q (.ref D) { s with heap := h' }) : wpAny (model prog w) A (call (.builtin "sorted") [.ref l]) Q E s := by
  by_cases h2 : rs.length < 2
  · exact sorted_short F N hl h2 h
  · exact sorted_long F N hl hk (by omega) h64 h
end

section
local macro_rules | `(tactic| walk_at "TurnIf true") => `(tactic| refine TurnIf.t ?_)
local macro_rules | `(tactic| walk_at "TurnIf false") => `(tactic| refine TurnIf.f ?_)
local macro_rules | `(tactic| walk_at "TurnIf") => `(tactic| (refine TurnIf.s ?_ ?_ <;> intro _))
local macro_rules | `(tactic| walk_at "execs cons") => `(tactic| ((try dsimp only); refine wpAny_execs_cons ?_))
local macro_rules | `(tactic| walk_at "execs nil") => `(tactic| refine wpAny_execs_nil ?_)
local macro_rules | `(tactic| walk_at "truthy int") => `(tactic| (refine truth_yes ?z ?_; (case z => omega)))
local macro_rules | `(tactic| walk_at "truthy int") => `(tactic| (refine truth_no ?z ?_; (case z => omega)))
local macro_rules | `(tactic| walk_at "CutStep") => `(tactic| refine CutStep.r ?_)
local macro_rules | `(tactic| walk_at "WhStep") => `(tactic| refine WhStep.r ?_)
local macro_rules | `(tactic| walk_at "ForStep") => `(tactic| refine ForStep.r ?_)
local macro_rules | `(tactic| walk_at "call type:range") => `(tactic| k_dflt ((refine' rg_one ?F ?N ?_); (case F => assumption); (case N => assumption); intro r9 h9 t9 u9 v9 tk9 F9 N9 l9))
local macro_rules | `(tactic| walk_at "call type:range") => `(tactic| k_dflt ((refine' rg_three ?F ?N (by decide) (by decide) ?_); (case F => assumption); (case N => assumption); intro r9 h9 tk9 F9 N9 l9))
local macro_rules | `(tactic| walk_at "setItem ref int int") => `(tactic| refine Halt.i ?_)
local macro_rules | `(tactic| walk_at "call builtin:min") => `(tactic| k_dflt ((refine' min_I rfl ?F ?N ?_); (case F => assumption); (case N => assumption); intro h9 t9 tk9 F9 N9))
local macro_rules | `(tactic| walk_at "call type:list") => `(tactic| refine Halt.i ?_)
local macro_rules | `(tactic| tb_start) => `(tactic| first | assumption | omega | (simp only [List.length_drop, List.length_take, List.length_cons, List.length_nil, List.length_append]; omega))
local macro_rules | `(tactic| tb_rel) => `(tactic| first | exact List.length_drop | exact List.length_take | exact rfl)
local macro_rules | `(tactic| walk_at "exec While BoolOp cons nil") => `(tactic| refine Halt.i ?_)
local macro_rules | `(tactic| walk_at "exec While") => `(tactic| refine Halt.i ?_)
local macro_rules | `(tactic| walk_at "exec For Name Call cons nil") => `(tactic| refine Halt.i ?_)
local macro_rules | `(tactic| walk_at "truthy str") => `(tactic| k_dflt ((refine' truth_S2 ?n ?z ?_ ?_); (case n => tb_rel); (case z => tb_start); (all_goals intro _)))
local macro_rules | `(tactic| walk_at "subscriptTail Name Slice str ref") => `(tactic| k_dflt ((refine' sub_from (s := ⟨_, _, _, _, _⟩) (by assumption) (by assumption) ?z ?k ?_); (case z => tb_start); (case k => tb_start); intro _ _ _ _ _))
local macro_rules | `(tactic| walk_at "subscriptTail Name Name str int") => `(tactic| k_dflt ((refine' sub_item rfl ?z ?k ?_); (case z => tb_start); (case k => tb_start)))
local macro_rules | `(tactic| walk_at "subscriptTail Name Slice str ref") => `(tactic| k_dflt ((refine' sub_neg (s := ⟨_, _, _, _, _⟩) (by assumption) (by assumption) ?z rfl ?j ?k ?_); (case z => tb_start); (case j => tb_start); (case k => tb_start); intro _ _ _ _ _))
local macro_rules | `(tactic| walk_at "subscriptTail Name Slice str ref") => `(tactic| k_dflt ((refine' sub_all (s := ⟨_, _, _, _, _⟩) (by assumption) (by assumption) ?z ?_); (case z => tb_start); intro _ _ _ _ _))
local macro_rules | `(tactic| walk_at "subscriptTail Name BinOp str int") => `(tactic| k_dflt ((refine' sub_itemI ?z ?j ?k ?_); (case z => tb_start); (case j => tb_start); (case k => tb_start)))
local macro_rules | `(tactic| walk_at "exec If") => `(tactic| refine wpAny_If ?_)

section
local macro_rules | `(tactic| kcf_m) => `(tactic| first | assumption | (refine LsAt.tail ?_; kcf_m) | (refine CellAt.tail ?_; kcf_m) | (refine CellB.tail ?_; kcf_m) | (refine TpAt.tail ?_; kcf_m) | (refine KeyAt.tail ?_; kcf_m) | exact LsAt.head)
local macro_rules | `(tactic| walk_at "eval Name") => `(tactic| (k_here; (with_reducible show wpAny _ _ (eval (Expr.Name _ _) (envOf _ _ _ _ _)) _ _ _); k_dflt (refine' ld ?k1 ?k2 ?_; (case k1 => k_asm); (case k2 => first | exact rfl | assumption); k_whole)))
local macro_rules | `(tactic| walk_at "loadName") => `(tactic| (k_here; (with_reducible show wpAny _ _ (loadName (envOf _ _ _ _ _) _) _ _ _); k_dflt (refine' ldn ?k1 ?k2 ?_; (case k1 => k_asm); (case k2 => first | exact rfl | assumption); k_whole)))
local macro_rules | `(tactic| walk_at "eval Name") => `(tactic| (k_here; (with_reducible show wpAny _ _ (eval (Expr.Name _ _) (envOfC _ _ _ _ _)) _ _ _); k_dflt (first
  | (refine' nm_loc ?k1 ?k2 ?_; (case k1 => k_asm); (case k2 => first | exact rfl | assumption); k_whole)
  | (refine' nm_cell ?k1 ?k2 ?k3 ?_; (case k1 => k_asm); (case k2 => exact rfl); (case k3 => kcf_m); k_whole))))
local macro_rules | `(tactic| walk_at "eval Name") => `(tactic| (k_here; (with_reducible show wpAny _ _ (eval (Expr.Name _ _) (compEnvC _ _ _ _)) _ _ _); k_dflt (first
  | (refine' nm_free ?k1 ?k2 ?k3 ?_ ?k4 ?k5; (case k4 => exact rfl); (case k5 => exact rfl); (case k1 => k_asm); (case k2 => exact rfl); (case k3 => kcf_m); k_whole)
  | (refine' nm_free' ?k1 ?k2 ?k3 ?_ ?k4 ?k5; (case k4 => exact rfl); (case k5 => exact rfl); (case k1 => k_asm); (case k2 => exact rfl); (case k3 => kcf_m); k_whole))))
local macro_rules | `(tactic| walk_at "storeName") => `(tactic| (k_here; (with_reducible show wpAny _ _ (storeName (envOfC _ _ _ _ _) _ _) _ _ _); k_dflt (refine' st_cell ?k1 ?k2 ?k3 ?k4 ?_; (case k1 => k_asm); (case k2 => k_asm); (case k3 => exact rfl); (case k4 => kcf_m); k_whole; intro h9 o9 F9 N9 d9)))
local macro_rules | `(tactic| walk_at "call builtin:len") => `(tactic| k_dflt ((refine' len_S ?z ?_); (case z => tb_start)))
local macro_rules | `(tactic| walk_at "call builtin:len") => `(tactic| k_dflt ((refine' ls_len ?N ?l ?b ?_); (case N => assumption); (case l => kcf_m); (case b => tb_start)))
local macro_rules | `(tactic| tb_start) => `(tactic| (simp only [List.length_map, List.length_append, List.length_cons, List.length_nil]; omega))
local macro_rules | `(tactic| walk_at "call type:range") => `(tactic| k_dflt ((refine' rg_ab ?F ?N ?_); (case F => assumption); (case N => assumption); intro r9 h9 t9 u9 v9 tk9 F9 N9 l9))
local macro_rules | `(tactic| walk_at "eval ListComp") => `(tactic| refine Halt.i ?_)
local macro_rules | `(tactic| walk_at "exec Assign cons ListComp") => `(tactic| refine wpAny_Assign_Name ?_)
local macro_rules | `(tactic| walk_at "CompEnd") => `(tactic| refine Halt.i ?_)
local macro_rules | `(tactic| walk_at "call ref") => `(tactic| refine Halt.i ?_)
local macro_rules | `(tactic| walk_at "subscriptTail") => `(tactic| ((with_reducible show wpAny _ _ (subscriptTail _ _ (Value.ref _) (Value.int _ _)) _ _ _); refine Halt.i ?_))
local macro_rules | `(tactic| walk_at "compareOp Lt ref ref") => `(tactic| refine Halt.i ?_)
local macro_rules | `(tactic| walk_at "compareOp Eq ref ref") => `(tactic| refine Halt.i ?_)

theorem par_idx (i : Nat) : ((1 : Int) + (i : Int) - 1).fdiv 2 = ((i / 2 : Nat) : Int) := by
  rw [Int.fdiv_eq_ediv_of_nonneg _ (by omega)]
  omega
theorem heaped_spec {w : World} (l : Addr) (key : Addr → Int × List Nat) (rs : List Addr) (hlen : rs.length ≤ 30) (news : List (Addr × Obj))
    (hl : LsAt news l (rs.map .ref)) (hkey : ∀ r ∈ rs, KeyAt news r (key r)) (hok : HOk (kl key) rs) :
    Ctr w 124 3 [.ref l] news (fun r nx => nx = news ∧ r = .bool true) := by
  refine fillme PySem.Challenge.rw_in0056_01 Mine.hp.heap_1 ?_
  k_fill
  intro _
  unfold Ctr
  intro p loose mean mg mb dp un gd cn cs a ccd cl outer A₀ base h₀ L m s Q E B F X N T hk hd hu hret
  refine wpAny_call ?_
  k_dflt (refine' code_defC ?k1 ?k2 ?k3 ?k4 ?k5 ?kA ?kF ?kK ?k6 ?k7 ?k8 ?k9 ?kB ?kD ?_ ?c2 ?c3 ?c4)
  case kA => exact rfl
  case kF => exact rfl
  case kK => assumption
  case k1 => k_dflt k_asm
  case k2 => k_dflt k_asm
  case k3 => k_dflt k_asm
  case k4 => k_dflt k_asm
  case k5 => k_dflt k_asm
  case k6 => k_dflt k_is
  case k7 => k_dflt k_is
  case k8 => k_dflt ktr_room
  case k9 => exact BindsTo.of_eq rfl
  case kB => exact rfl
  case kD => decide +kernel
  case c2 => exact rfl
  case c3 => exact rfl
  case c4 => exact rfl
  k_whole
  intro g' L' h' tk' cells' FG' F' N' Y' B' X' T' hcl
  have hY := CellsAre.one Y'
  obtain ⟨oc1, hE', hd1⟩ := hY
  subst hE'
  clear Y'
  simp only [List.cons_append, List.nil_append] at N'
  (try dsimp only)
  (try k_fold)
  clear F N
  replace F' : Fr g' L' h' (fun _ => none) := by with_unfolding_all exact F'
  have hc : CellAt ((L' + 1, oc1) :: news) (L' + 1) (.ref l) := ⟨oc1, .head _, by with_unfolding_all exact hd1⟩
  have hl1 := hl.mono (fun p hp => List.Mem.tail (L' + 1, oc1) hp)
  have hsub1 : ∀ p ∈ news, p ∈ (L' + 1, oc1) :: news := fun p hp => .tail _ hp
  clear hd1
  k_steps
  refine Halt.o ?_
  refine comp_rangeT (a := 1) (n := rs.length - 1) F' (fun i vs nx => vs = [] ∧ (∀ p ∈ (L' + 1, oc1) :: news, p ∈ nx)) (by with_unfolding_all rfl) (by decide) (by rfl) (by decide) (by rfl) rfl (by omega) ?start ?turn ?done
  case start =>
    k_steps
    refine' RgStart.mk1 (n := rs.length) ?F ?N ?r ?n ?J
    case F => assumption
    case N => assumption
    case r => rw [List.length_map]; exact .head _
    case n => omega
    case J => exact ⟨rfl, trivial, fun p hp => .tail _ hp⟩
  case turn =>
    rintro i t5 vs nx I oI C oC D m₂ h tk E' hi ⟨rfl, hsub⟩ hC hk F2 N2 off ne
    have hcx := (hc.mono hsub).tail (p := (D, LCg.lst [])) |>.tail (p := (C, oC)) |>.tail (p := (I, oI))
    have hlx := (hl1.mono hsub).tail (p := (D, LCg.lst [])) |>.tail (p := (C, oC)) |>.tail (p := (I, oI))
    try clear N' F'
    have hb1 : i + 1 < rs.length := by omega
    obtain ⟨x, hx⟩ := At.get hb1
    have hb2 : i / 2 < rs.length := by omega
    obtain ⟨y, hy⟩ := At.get hb2
    have hlt := hok (i + 1) x y (by omega) hx.e (by rw [show (i + 1 - 1) / 2 = i / 2 by omega]; exact hy.e)
    have hxk := hkey x (List.mem_of_getElem? hx.e)
    have hyk := hkey y (List.mem_of_getElem? hy.e)
    have hxk' := (hxk.mono (fun p hp => hsub p (hsub1 p hp))).tail (p := (D, LCg.lst [])) |>.tail (p := (C, oC)) |>.tail (p := (I, oI))
    have hyk' := (hyk.mono (fun p hp => hsub p (hsub1 p hp))).tail (p := (D, LCg.lst [])) |>.tail (p := (C, oC)) |>.tail (p := (I, oI))
    k_steps
    refine Halt.o ?_
    k_dflt (refine' ls_get (s := ⟨_, _, _, _, _⟩) (k := i + 1) (v := .ref x) (by assumption) hlx (by omega) (by omega) (by simp [hx.e]) ?_)
    k_steps
    refine Halt.o ?_
    k_dflt (refine' ls_get (s := ⟨_, _, _, _, _⟩) (k := i / 2) (v := .ref y) (by assumption) hlx (par_idx i) (by omega) (by simp [hy.e]) ?_)
    k_steps
    refine Halt.o ?_
    k_dflt (refine' tup_ge (s := ⟨_, _, _, _, _⟩) hlt ?room (by assumption) hxk' hyk' ?_)
    case room => ktr_units
    k_steps
    refine Halt.o ?_
    refine' LCg.CompEnd.intro ?F ?N nx ?sub off trivial ⟨rfl, hsub⟩
    case F => assumption
    case N => assumption
    case sub => exact fun p hp => hp
  case done =>
    rintro D vs nx h tk ⟨rfl, hsub⟩ F2 N2 off
    k_steps
    refine Halt.o ?_
    k_dflt (refine' ls_eqNil (s := ⟨_, _, _, _, _⟩) ?room (by assumption) ⟨_, .tail _ (.head _), _, rfl⟩ ⟨_, .head _, _, rfl⟩ ?_)
    case room => ktr_units
    k_steps
    refine hret _ _ _ _ (by assumption) (newsSub (by assumption) ?_) ⟨rfl, rfl⟩
    exact fun p hp => .tail _ (.tail _ (hsub p (hsub1 p hp)))

end

section
local macro_rules | `(tactic| kcf_m) => `(tactic| first | (with_reducible assumption) | ((with_reducible show LsAt (_ :: _) _ _); with_reducible exact LsAt.head) | ((with_reducible show LsAt (_ :: _) _ _); exact LsAt.tail (by kcf_m)) | ((with_reducible show CellAt (_ :: _) _ _); exact CellAt.tail (by kcf_m)) | ((with_reducible show CellB (_ :: _) _); exact CellB.tail (by kcf_m)) | ((with_reducible show TpAt (_ :: _) _ _); exact TpAt.tail (by kcf_m)) | ((with_reducible show KeyAt (_ :: _) _ _); exact KeyAt.tail (by kcf_m)))
local macro_rules | `(tactic| walk_at "eval Name") => `(tactic| (k_here; (with_reducible show wpAny _ _ (eval (Expr.Name _ _) (envOf _ _ _ _ _)) _ _ _); k_dflt (refine' ld ?k1 ?k2 ?_; (case k1 => k_asm); (case k2 => first | exact rfl | assumption); k_whole)))
local macro_rules | `(tactic| walk_at "loadName") => `(tactic| (k_here; (with_reducible show wpAny _ _ (loadName (envOf _ _ _ _ _) _) _ _ _); k_dflt (refine' ldn ?k1 ?k2 ?_; (case k1 => k_asm); (case k2 => first | exact rfl | assumption); k_whole)))
local macro_rules | `(tactic| walk_at "eval Name") => `(tactic| (k_here; (with_reducible show wpAny _ _ (eval (Expr.Name _ _) (envOfC _ _ _ _ _)) _ _ _); k_dflt (first
  | (refine' nm_loc ?k1 ?k2 ?_; (case k1 => k_asm); (case k2 => first | exact rfl | assumption); k_whole)
  | (refine' nm_cell ?k1 ?k2 ?k3 ?_; (case k1 => k_asm); (case k2 => exact rfl); (case k3 => kcf_m); k_whole))))
local macro_rules | `(tactic| walk_at "eval Name") => `(tactic| (k_here; (with_reducible show wpAny _ _ (eval (Expr.Name _ _) (compEnvC _ _ _ _)) _ _ _); k_dflt (first
  | (refine' nm_free ?k1 ?k2 ?k3 ?_ ?k4 ?k5; (case k4 => exact rfl); (case k5 => exact rfl); (case k1 => k_asm); (case k2 => exact rfl); (case k3 => kcf_m); k_whole)
  | (refine' nm_free' ?k1 ?k2 ?k3 ?_ ?k4 ?k5; (case k4 => exact rfl); (case k5 => exact rfl); (case k1 => k_asm); (case k2 => exact rfl); (case k3 => kcf_m); k_whole))))
local macro_rules | `(tactic| walk_at "storeName") => `(tactic| (k_here; (with_reducible show wpAny _ _ (storeName (envOfC _ _ _ _ _) _ _) _ _ _); k_dflt (refine' st_cell ?k1 ?k2 ?k3 ?k4 ?_; (case k1 => k_asm); (case k2 => k_asm); (case k3 => exact rfl); (case k4 => kcf_m); k_whole; intro h9 o9 F9 N9 d9)))
local macro_rules | `(tactic| walk_at "call builtin:len") => `(tactic| k_dflt ((refine' len_S ?z ?_); (case z => tb_start)))
local macro_rules | `(tactic| walk_at "call builtin:len") => `(tactic| k_dflt ((refine' ls_len ?N ?l ?b ?_); (case N => assumption); (case l => kcf_m); (case b => tb_start)))
local macro_rules | `(tactic| tb_start) => `(tactic| (simp only [List.length_map, List.length_append, List.length_cons, List.length_nil]; omega))
local macro_rules | `(tactic| walk_at "call type:range") => `(tactic| k_dflt ((refine' rg_ab ?F ?N ?_); (case F => assumption); (case N => assumption); intro r9 h9 t9 u9 v9 tk9 F9 N9 l9))
local macro_rules | `(tactic| walk_at "eval ListComp") => `(tactic| refine Halt.i ?_)
local macro_rules | `(tactic| walk_at "exec Assign cons ListComp") => `(tactic| refine wpAny_Assign_Name ?_)
local macro_rules | `(tactic| walk_at "CompEnd") => `(tactic| refine Halt.i ?_)
local macro_rules | `(tactic| walk_at "call ref") => `(tactic| refine Halt.i ?_)

section
local macro_rules | `(tactic| walk_at "exec For") => `(tactic| refine Halt.i ?_)

section
section
variable {prog : Program} {w : World} {A : Around} {E : Value → Shared → Prop} {Q : Flow → Shared → Prop} {s : Shared} {env : Env} {h₀ : Heap} {L : Addr}
/-- a for over a list whose name is stored by the walk -/
theorem for_listC {x : Str} {px pos : Pos} {iter : Expr} {body : List Stmt} {l : Addr} {vs : List Value} {m₀ : Str → Option Value} (_F : Fr h₀ L s.heap m₀) (J : Nat → (Str → Option Value) → List (Addr × Obj) → Prop)
    (hh : A.handled = none)
    (start : wpAny (model prog w) A (eval iter env) (LsStart h₀ L s l vs (J 0)) E s)
    (turn : ∀ i v m₁ nx h tk it oi, At vs i v → J i m₁ nx → LsAt nx l vs → Fr h₀ L h m₁ → News h₀ L h ((it, oi) :: nx) → (∀ p ∈ nx, p.1 ≠ it) →
      wpAny (model prog w) A (storeName env x v) (fun _ s₂ => wpAny (model prog w) A (execs body env) (ForStep h₀ L s it oi (fun m' nx' => LsAt nx' l vs ∧ J (i + 1) m' nx') Q) E s₂) E { s with heap := h, toks := tk })
    (done : ∀ m₁ nx h tk, J vs.length m₁ nx → LsAt nx l vs → Fr h₀ L h m₁ → News h₀ L h nx → Q .next { s with heap := h, toks := tk })
    (hs : ∀ x, foldedSetIterable iter env x = pure x := by intro _; rfl)
    (hE : PassesOwn (model prog w) A env E := by passes_own) :
    wpAny (model prog w) A (exec (.For (.Name x px) iter body [] pos) env) Q E s := by
  refine wpAny_For (wpAny_mono start (fun v s₁ h₁ => ?_) fun _ _ e => e) hs
  obtain ⟨rfl, ⟨h, tk, rfl⟩, m, nx, F, N, hl, h0⟩ := h₁
  have hls : h.IsList l vs.toArray := hl.isList N
  refine wpAny_pyIter_list hls ?_
  refine codeAny_forLoop (R := fun r s' => match r with | .ok f => Q f s' | .error e => cameBackBy (model prog w) A env E e s')
    (fun k s' => ∃ i m₁ nx₁ h₁ tk₁ oi, k = vs.length - i ∧ i ≤ vs.length ∧ s' = { s with heap := h₁, toks := tk₁ } ∧ Fr h₀ L h₁ m₁ ∧ News h₀ L h₁ ((h.objs.size, oi) :: nx₁) ∧ IsIt l i oi ∧ (∀ p ∈ nx₁, p.1 ≠ h.objs.size) ∧ LsAt nx₁ l vs ∧ J i m₁ nx₁) ?_ vs.length
    ⟨0, m, nx, _, tk, iterO l 0, rfl, Nat.zero_le _, rfl, F.push _, N.push F _, ⟨rfl, rfl⟩, fun p hp => Nat.ne_of_lt (newsLt N p hp), hl, h0⟩
  rintro k s' ⟨i, m₁, nx₁, h₁, tk₁, oi, rfl, hi, rfl, F₁, N₁, hoi, ho₁, hl₁, hJ⟩
  have hI := N₁ _ (.head _)
  have hit : h₁.IsListIter h.objs.size l i := ⟨_, hI.1, hoi.1, hoi.2⟩
  have hls₁ : h₁.IsList l vs.toArray := hl₁.isList (newsSub N₁ fun q hq => .tail _ hq)
  by_cases hlt : i < vs.length
  · have hx' : At vs i vs[i] := ⟨by simp [hlt]⟩
    refine wpAny_pyNext_list_item (x := vs[i]) hit hls₁ (by simp [hlt]) fun h₂ hit₂ hs₂ => ?_
    have F₂ := frBut F₁ hs₂.extBut hI.2.1 hI.2.2
    obtain ⟨oi₂, hoi₂, hci, hdi⟩ := hit₂
    have N₂ := newsPut N₁ hs₂.extBut ho₁ hoi₂
    refine wpAny_assign_Name (wpAny_mono (turn i vs[i] m₁ nx₁ h₂ tk₁ h.objs.size oi₂ hx' hJ hl₁ F₂ N₂ ho₁) (fun _ s₂ hq => ?_) hE)
    refine wpAny_mono hq (fun f s₃ h₄ => ?_) hE
    have fin : (∃ h' tk m₂ nx, s₃ = { s with heap := h', toks := tk } ∧ Fr h₀ L h' m₂ ∧ News h₀ L h' ((h.objs.size, oi₂) :: nx) ∧ (∀ p ∈ nx, p.1 ≠ h.objs.size) ∧ LsAt nx l vs ∧ J (i + 1) m₂ nx) →
        ∃ k, k < vs.length - i ∧ ∃ i m₁ nx₁ h₁ tk₁ oi, k = vs.length - i ∧ i ≤ vs.length ∧ s₃ = { s with heap := h₁, toks := tk₁ } ∧ Fr h₀ L h₁ m₁ ∧ News h₀ L h₁ ((h.objs.size, oi) :: nx₁) ∧ IsIt l i oi ∧ (∀ p ∈ nx₁, p.1 ≠ h.objs.size) ∧ LsAt nx₁ l vs ∧ J i m₁ nx₁ := by
      rintro ⟨h', tk', m₂, nx₂, e, F', N', o', l', J'⟩
      exact ⟨vs.length - (i + 1), by omega, i + 1, m₂, nx₂, h', tk', oi₂, rfl, hlt, e, F', N', ⟨hci, hdi⟩, o', l', J'⟩
    cases f with
    | next => exact fin h₄
    | cont => exact fin h₄
    | brk => exact h₄
    | ret v => exact h₄
  · have hin : i = vs.length := by omega
    subst hin
    refine wpAny_mono (wpAny_pyNext_list_end hh hit hls₁ (by simp) fun h₂ hs₂ => wpAny_execs_nil ?_) (fun _ _ x => x) hE
    exact done m₁ nx₁ h₂ tk₁ hJ hl₁ (frBut F₁ hs₂ hI.2.1 hI.2.2) (newsBut (newsSub N₁ fun q hq => .tail _ hq) hs₂ ho₁)
end
/-- the parts' texts -/
def ptxt (p : List Nat) : List Nat := if p = anyP then [46] else p
def Piece (p : List Nat) : Prop := p = [97] ∨ p = [65] ∨ p = [98] ∨ p = anyP ∨ p = starP ∨ p = clsP
def PartV (st : Addr) (p : List Nat) (v : Value) : Prop := (p = starP ∧ v = .ref st) ∨ (p ≠ starP ∧ ∃ tk, v = .str (S (ptxt p)) tk)
def TkJ (xs : List Nat) (ps : List (List Nat)) (st cn cp ct : Addr) (news : Led) (i : Nat) (m₁ : Str → Option Value) (nx : Led) : Prop :=
  (∃ (P : Addr) (vs : List Value) (ks : List Nat), CellAt nx cp (.ref P) ∧ LsAt nx P vs ∧ IntsAre vs (ks.map Int.ofNat) ∧ Tk xs (ps.take i) ks ∧ ks.length ≤ xs.length + 1) ∧ (∃ tk, CellAt nx cn (.str (S xs) tk)) ∧ CellB nx ct ∧ (∀ p ∈ news, p ∈ nx) ∧ m₁ "star" = some (.ref st)
theorem c12 (a : Addr) : a + 1 ≠ a + 1 + 1 := Nat.ne_of_lt (Nat.lt_succ_self _)
theorem c13 (a : Addr) : a + 1 ≠ a + 1 + 1 + 1 := Nat.ne_of_lt (Nat.lt_succ_of_lt (Nat.lt_succ_self _))
theorem cAb {a : Addr} {news : Led} (h : ∀ p ∈ news, p.1 < a) (k : Nat) : ∀ p ∈ news, p.1 ≠ a + k := fun p hp => Nat.ne_of_lt (Nat.lt_of_lt_of_le (h p hp) (Nat.le_add_right _ _))
section
variable {M : Model} {A : Around} {E : Value → Shared → Prop} {s : Shared} {Q : Value → Shared → Prop}
theorem is_str_ref {x : Str} {t : Tok} {a : Addr} (h : Q (.bool false) s) : wpAny M A (compareOp .Is (.str x t) (.ref a)) Q E s := wpAny_is_other rfl (fun e => nomatch e) h
theorem isnot_str_ref {x : Str} {t : Tok} {a : Addr} (h : Q (.bool true) s) : wpAny M A (compareOp .IsNot (.str x t) (.ref a)) Q E s := wpAny_isNot_other rfl (fun e => nomatch e) h
end
theorem take_at {ps : List (List Nat)} {i : Nat} {p : List Nat} (h : At ps i p) : ps.take (i + 1) = ps.take i ++ [p] := by
  rw [List.take_add_one, h.e]; rfl
theorem newsNeA {h₀ h : Heap} {L : Addr} {nx : Led} {c l : Addr} {vs : List Value} (N : News h₀ L h nx) (x : CellB nx c) (y : LsAt nx l vs) : l ≠ c := x.ls_ne N y
/-- what a turn over the parts starts from -/
def TkT (xs : List Nat) (pvs : List Value) (PA cn cp ct : Addr) (pre : List (List Nat)) (v : Value) (it : Addr) (oi : Obj) (news nx : Led) : Prop :=
  (∃ (P : Addr) (vs : List Value) (ks : List Nat), CellAt nx cp (.ref P) ∧ LsAt nx P vs ∧ IntsAre vs (ks.map Int.ofNat) ∧ Tk xs pre ks ∧ ks.length ≤ xs.length + 1) ∧ (∃ tk, CellAt nx cn (.str (S xs) tk)) ∧ CellAt nx ct v ∧ LsAt nx PA pvs ∧ (∀ p ∈ news, p ∈ nx) ∧ (it, oi) ∈ nx ∧ CellB nx cp ∧ it ≠ cp
theorem tk_start {h₀ h : Heap} {L l PA st cn cp ct : Addr} {base1 news : Led} {u t : Tok} {xs : List Nat} {ps : List (List Nat)} {pvs : List Value} {o : Obj} {m : Str → Option Value}
    (N : News h₀ L h ((l, W.listOf #[.int 0 u] 0) :: base1)) (d : o.data = .cell (some (.ref l))) (hn : CellAt base1 cn (.str (S xs) t)) (hp : CellB base1 cp) (ht : CellB base1 ct) (hsub : ∀ p ∈ news, p ∈ base1) (hl : LsAt base1 PA pvs)
    (h1 : cn ≠ cp) (h2 : ct ≠ cp) (hlt : ∀ p ∈ news, p.1 ≠ cp) (hm : m "star" = some (.ref st)) :
    LsAt (putAt cp o ((l, W.listOf #[.int 0 u] 0) :: base1)) PA pvs ∧ TkJ xs ps st cn cp ct news 0 m (putAt cp o ((l, W.listOf #[.int 0 u] 0) :: base1)) := by
  have hL : LsAt ((l, W.listOf #[.int 0 u] 0) :: base1) l [.int 0 u] := ⟨_, .head _, 0, rfl⟩
  refine ⟨hl.tail.other (hp.tail.ls_ne N hl.tail), ⟨l, [.int 0 u], [0], CellAt.put hp.tail d, hL.other (hp.tail.ls_ne N hL), .cons 0 u .nil, ?_, by simp⟩, ⟨t, hn.tail.other h1⟩, ht.tail.other h2, fun p hp' => putAt_other (.tail _ (hsub p hp')) (hlt p hp'), hm⟩
  exact Tk.start xs
theorem tk_turn {h₀ h : Heap} {L PA st cn cp ct it : Addr} {nx news : Led} {oi o : Obj} {xs : List Nat} {ps : List (List Nat)} {pvs : List Value} {i : Nat} {v : Value} {m : Str → Option Value}
    (N : News h₀ L h ((it, oi) :: nx)) (off : ∀ p ∈ nx, p.1 ≠ it) (J : TkJ xs ps st cn cp ct news i m nx) (hl : LsAt nx PA pvs) (d : o.data = .cell (some v)) (h1 : cn ≠ ct) (h2 : cp ≠ ct) (hlt : ∀ p ∈ news, p.1 ≠ ct) :
    TkT xs pvs PA cn cp ct (ps.take i) v it oi news (putAt ct o ((it, oi) :: nx)) := by
  obtain ⟨⟨P, vs, ks, a1, a2, a3, a4, a5⟩, ⟨tk, b⟩, c, e, _⟩ := J
  have hit : it ≠ ct := (c.ne off).symm
  exact ⟨⟨P, vs, ks, a1.tail.other h2, a2.tail.other (c.tail.ls_ne N a2.tail), a3, a4, a5⟩, ⟨tk, b.tail.other h1⟩, CellAt.put c.tail d, hl.tail.other (c.tail.ls_ne N hl.tail), fun p hp => putAt_other (.tail _ (e p hp)) (hlt p hp), putAt_other (.head _) hit, a1.b.tail.other h2, (a1.b.ne off).symm⟩
def geB (ks : List Nat) (k : Nat) : Bool := ks.any fun j => decide (j ≤ k)
theorem geB_iff {ks : List Nat} {k : Nat} : geB ks k = true ↔ ∃ j ∈ ks, j ≤ k := by simp [geB]
theorem mem_filter_range {n : Nat} {f : Nat → Bool} {k : Nat} : k ∈ (List.range n).filter f ↔ k < n ∧ f k = true := by simp
theorem filter_range_succ {n : Nat} {f : Nat → Bool} : (List.range (n + 1)).filter f = (List.range n).filter f ++ if f n = true then [n] else [] := by
  rw [List.range_succ, List.filter_append]; simp [List.filter_cons]
theorem ints_snoc' : ∀ {vs : List Value} {ns : List Int} {x y : Int} {u : Tok}, IntsAre vs ns → x = y → IntsAre (vs ++ [.int x u]) (ns ++ [y]) := fun h e => ints_snoc h e
theorem ks_yes {f : Nat → Bool} {j : Nat} {ys : List Value} {i : Int} {t : Tok} (h : IntsAre ys (((List.range j).filter f).map Int.ofNat)) (hf : f j = true) (e : i = (j : Int)) : IntsAre (ys ++ [.int i t]) (((List.range (j + 1)).filter f).map Int.ofNat) := by
  rw [filter_range_succ, if_pos hf, List.map_append]
  exact ints_snoc h e
theorem ks_no {f : Nat → Bool} {j : Nat} {ys : List Value} (h : IntsAre ys (((List.range j).filter f).map Int.ofNat)) (hf : f j = false) : IntsAre ys (((List.range (j + 1)).filter f).map Int.ofNat) := by
  rw [filter_range_succ, if_neg (by rw [hf]; decide), List.append_nil]
  exact h
theorem min_geB {ks : List Nat} {M : Int} {j : Nat} (hM : M ∈ ks.map Int.ofNat) (hmin : ∀ a, a ∈ ks.map Int.ofNat → M ≤ a) : geB ks j = true ↔ M ≤ (j : Int) := by
  rw [geB_iff]
  constructor
  · rintro ⟨i, hi, hij⟩
    have := hmin (Int.ofNat i) (List.mem_map_of_mem hi)
    have e : Int.ofNat i = (i : Int) := rfl
    omega
  · intro h
    obtain ⟨i, hi, rfl⟩ := List.mem_map.mp hM
    have e : Int.ofNat i = (i : Int) := rfl
    exact ⟨i, hi, by omega⟩
theorem geB_nil {ks : List Nat} {vs : List Value} {j : Nat} (hv : IntsAre vs (ks.map Int.ofNat)) (h : ¬ 0 < vs.length) : geB ks j = false := by
  have := hv.length
  rw [List.length_map] at this
  have e : ks = [] := List.length_eq_zero_iff.mp (by omega)
  subst e; rfl
theorem tk_starStep {xs : List Nat} {pre : List (List Nat)} {ks : List Nat} (h : Tk xs pre ks) : Tk xs (pre ++ [starP]) ((List.range (xs.length + 1)).filter (geB ks)) := h.star fun k => by
  rw [mem_filter_range, geB_iff]
  constructor
  · rintro ⟨a, b⟩; exact ⟨by omega, b⟩
  · rintro ⟨a, b⟩; exact ⟨by omega, b⟩
theorem filter_len {n : Nat} {f : Nat → Bool} : ((List.range n).filter f).length ≤ n := Nat.le_trans (List.length_filter_le _ _) (by simp)
theorem ints_at : ∀ {vs : List Value} {ks : List Nat} {j : Nat} {v : Value}, IntsAre vs (ks.map Int.ofNat) → vs[j]? = some v → ∃ k t, At ks j k ∧ v = .int (k : Int) t
  | [], _, _, _, _, h => by simp at h
  | _ :: _, [], _, _, hv, _ => by have := hv.length; simp at this
  | v :: vs, n :: ks, 0, w, hv, h => by
    cases hv with
    | cons _ t r => simp at h; exact ⟨n, t, ⟨rfl⟩, h.symm⟩
  | v :: vs, n :: ks, j + 1, w, hv, h => by
    cases hv with
    | cons _ t r =>
      obtain ⟨k, t, a, b⟩ := ints_at (j := j) r (by simpa using h)
      exact ⟨k, t, ⟨by simpa using a.e⟩, b⟩
theorem str_dot : Str.ofString "." = S [46] := by decide +kernel
theorem str_cls : Str.ofString "[ab]" = S clsP := by decide +kernel
theorem str_ab : Str.ofString "ab" = S [97, 98] := by decide +kernel
theorem okA {p : List Nat} {d : Nat} (hp : Piece p) (h : (S (ptxt p) == Str.ofString ".") = true) : okc p d = true := by
  rw [str_dot, eq_S] at h
  have h := of_decide_eq_true h
  rcases hp with e | e | e | e | e | e <;> subst e <;> first | rfl | exact absurd h (by decide)
theorem okB {p : List Nat} {d : Nat} (hp : Piece p) (hd : Letter d) (h : (S (ptxt p) == S [d]) = true) : okc p d = true := by
  rw [eq_S] at h
  have h := of_decide_eq_true h
  rcases hd with f | f | f | f <;> subst f <;> rcases hp with e | e | e | e | e | e <;> subst e <;> first | rfl | exact absurd h (by decide)
theorem okC {p : List Nat} {d : Nat} (hp : Piece p) (hd : Letter d) (h : (S (ptxt p) == Str.ofString "[ab]") = true) : okc p d = (decide (d = 97) || decide (d = 98)) := by
  rw [str_cls, eq_S] at h
  have h := of_decide_eq_true h
  rcases hd with f | f | f | f <;> subst f <;> rcases hp with e | e | e | e | e | e <;> subst e <;> first | rfl | exact absurd h (by decide)
theorem okN {p : List Nat} {d : Nat} (hp : Piece p) (hs : p ≠ starP) (hd : Letter d) (h1 : (S (ptxt p) == Str.ofString ".") = false) (h2 : (S (ptxt p) == S [d]) = false) (h3 : (S (ptxt p) == Str.ofString "[ab]") = false) : okc p d = false := by
  rw [str_dot, eq_S] at h1
  rw [eq_S] at h2
  rw [str_cls, eq_S] at h3
  have h1 := of_decide_eq_false h1
  have h2 := of_decide_eq_false h2
  have h3 := of_decide_eq_false h3
  rcases hd with f | f | f | f <;> subst f <;> rcases hp with e | e | e | e | e | e <;> subst e <;> first | rfl | exact absurd rfl hs | exact absurd (by decide) h1 | exact absurd (by decide) h2 | exact absurd (by decide) h3
section
variable {prog : Program} {w : World} {A : Around} {E : Value → Shared → Prop} {s : Shared} {Q : Value → Shared → Prop}
theorem in_ab {d : Nat} {t u : Tok} (hd : Letter d) (h : Q (.bool (decide (d = 97) || decide (d = 98))) s) : wpAny (model prog w) A (compareOp .In (.str (S [d]) t) (.str (Str.ofString "ab") u)) Q E s := by
  refine PySem.P.in_str ?_
  have e : (!(Builtin.Str.occurrences (Str.ofString "ab") (S [d]) 0 (Str.ofString "ab").length 1).isEmpty) = (decide (d = 97) || decide (d = 98)) := by
    rcases hd with f | f | f | f <;> subst f <;> decide +kernel
  rw [e]; exact h
end
theorem fk_yes {f : Nat → Bool} {ks : List Nat} {j k : Nat} {ys : List Value} {i : Int} {t : Tok} (h : IntsAre ys ((((ks.take j).filter f).map (· + 1)).map Int.ofNat)) (hk : At ks j k) (hf : f k = true) (e : i = (k : Int) + 1) :
    IntsAre (ys ++ [.int i t]) ((((ks.take (j + 1)).filter f).map (· + 1)).map Int.ofNat) := by
  have e2 : ks.take (j + 1) = ks.take j ++ [k] := by rw [List.take_add_one, hk.e]; rfl
  rw [e2, List.filter_append, List.map_append, List.map_append]
  have e3 : [k].filter f = [k] := by simp [hf]
  rw [e3]
  exact ints_snoc h e
theorem fk_no {f : Nat → Bool} {ks : List Nat} {j k : Nat} {ys : List Value} (h : IntsAre ys ((((ks.take j).filter f).map (· + 1)).map Int.ofNat)) (hk : At ks j k) (hf : f k = false) :
    IntsAre ys ((((ks.take (j + 1)).filter f).map (· + 1)).map Int.ofNat) := by
  have e2 : ks.take (j + 1) = ks.take j ++ [k] := by rw [List.take_add_one, hk.e]; rfl
  have e3 : [k].filter f = [] := by simp [hf]
  rw [e2, List.filter_append, e3, List.append_nil]
  exact h
def tkf (p : List Nat) (xs : List Nat) (k : Nat) : Bool := decide (k < xs.length) && okc p (xs.getD k 0)
theorem tkf_yes {p xs : List Nat} {k : Nat} (h : k < xs.length) (ho : okc p (xs.getD k 0) = true) : tkf p xs k = true := by unfold tkf; rw [ho, decide_eq_true h]; rfl
theorem tkf_no {p xs : List Nat} {k : Nat} (ho : okc p (xs.getD k 0) = false) : tkf p xs k = false := by unfold tkf; rw [ho, Bool.and_false]
theorem tkf_out {p xs : List Nat} {k : Nat} (h : ¬ k < xs.length) : tkf p xs k = false := by unfold tkf; rw [decide_eq_false h, Bool.false_and]
theorem tk_oneStep {xs p : List Nat} {pre : List (List Nat)} {ks : List Nat} (hp : p ≠ starP) (h : Tk xs pre ks) : Tk xs (pre ++ [p]) ((ks.filter (tkf p xs)).map (· + 1)) := h.one hp fun k => by
  simp only [List.mem_map, List.mem_filter, tkf, Bool.and_eq_true, decide_eq_true_eq]
  constructor
  · rintro ⟨j, ⟨a, b, c⟩, rfl⟩; exact ⟨j, a, b, c, rfl⟩
  · rintro ⟨j, a, b, c, rfl⟩; exact ⟨j, ⟨a, b, c⟩, rfl⟩
theorem fk_len {f : Nat → Bool} {ks : List Nat} {n : Nat} (h : ks.length ≤ n) : ((ks.filter f).map (· + 1)).length ≤ n := by
  rw [List.length_map]; exact Nat.le_trans (List.length_filter_le _ _) h
theorem letter_getD {xs : List Nat} (hax : ∀ c ∈ xs, Letter c) {k : Nat} (h : k < xs.length) : Letter (xs.getD k 0) := hax _ (by simp [h])
theorem tk_fin {xs : List Nat} {ps : List (List Nat)} {ks : List Nat} (h : Tk xs ps ks) : decide ((xs.length : Int) ∈ ks.map Int.ofNat) = true ↔ Mt ps xs := by
  rw [decide_eq_true_iff, ← h.fin, List.mem_map]
  constructor
  · rintro ⟨a, ha, e⟩
    have : a = xs.length := by
      have e' : (a : Int) = (xs.length : Int) := e
      omega
    exact this ▸ ha
  · intro ha; exact ⟨_, ha, rfl⟩
/-- a turn's end -/
theorem tk_end {h₀ h : Heap} {L D PA st cn cp ct it : Addr} {nx2 nx news : Led} {oi o : Obj} {xs : List Nat} {ps : List (List Nat)} {pvs ys : List Value} {ks' : List Nat} {i : Nat} {v : Value} {m : Str → Option Value}
    (N : News h₀ L h ((D, LCg.lst ys) :: nx)) (hsub : ∀ p ∈ nx2, p ∈ nx) (T : TkT xs pvs PA cn cp ct (ps.take i) v it oi news nx2) (hD : ∀ p ∈ nx, p.1 ≠ D) (d : o.data = .cell (some (.ref D))) (h1 : cn ≠ cp) (h2 : ct ≠ cp)
    (hlt : ∀ p ∈ news, p.1 ≠ cp) (hoff : ∀ p ∈ news, p.1 ≠ it) (hi : IntsAre ys (ks'.map Int.ofNat)) (hk : Tk xs (ps.take (i + 1)) ks') (hkl : ks'.length ≤ xs.length + 1) (hm : m "star" = some (.ref st)) (hne : cn ≠ it) (hne2 : ct ≠ it) (hne3 : PA ≠ it) :
    (it, oi) ∈ putAt cp o ((D, LCg.lst ys) :: nx) ∧ LsAt (offIt it (putAt cp o ((D, LCg.lst ys) :: nx))) PA pvs ∧ TkJ xs ps st cn cp ct news (i + 1) m (offIt it (putAt cp o ((D, LCg.lst ys) :: nx))) := by
  obtain ⟨_, ⟨tk, b⟩, c, e, f, g, hcp, hit⟩ := T
  have hcp' : CellB ((D, LCg.lst ys) :: nx) cp := (hcp.mono hsub).tail
  have hL : LsAt ((D, LCg.lst ys) :: nx) D ys := ⟨_, .head _, _, rfl⟩
  have hDit : D ≠ it := (hD _ (hsub _ g)).symm
  have hPAc := hcp'.ls_ne N (e.mono hsub).tail
  refine ⟨putAt_other (.tail _ (hsub _ g)) hit, ((e.mono hsub).tail.other hPAc).off hne3, ⟨D, ys, ks', (CellAt.put hcp' d).off hit.symm, (hL.other (hcp'.ls_ne N hL)).off hDit, hi, hk, hkl⟩, ⟨tk, ((b.mono hsub).tail.other h1).off hne⟩, ((c.b.mono hsub).tail.other h2).off hne2, fun p hp => off_mem (putAt_other (.tail _ (hsub p (f p hp))) (hlt p hp)) (hoff p hp), hm⟩
local macro_rules | `(tactic| walk_at "exec For Name Name cons nil") => `(tactic| refine Halt.i ?_)
local macro_rules | `(tactic| walk_at "compareOp NotEq ref ref") => `(tactic| refine Halt.i ?_)
local macro_rules | `(tactic| walk_at "compareOp In") => `(tactic| refine Halt.i ?_)
local macro_rules | `(tactic| walk_at "compareOp In str str") => `(tactic| refine Halt.i ?_)
local macro_rules | `(tactic| walk_at "compareOp In int ref") => `(tactic| refine Halt.i ?_)
local macro_rules | `(tactic| walk_at "compareOp Is str ref") => `(tactic| refine is_str_ref ?_)
local macro_rules | `(tactic| walk_at "call builtin:min") => `(tactic| refine Halt.i ?_)

theorem takes_spec {w : World} (PA st : Addr) (ps : List (List Nat)) (pvs : List Value) (xs : List Nat) (hps : ∀ p ∈ ps, Piece p) (hlp : ps.length ≤ 20) (hx : xs.length ≤ 20) (hax : ∀ c ∈ xs, Letter c) (t : Tok) (news : List (Addr × Obj))
    (hl : LsAt news PA pvs) (hlen : pvs.length = ps.length) (hpv : ∀ i p v, At ps i p → At pvs i v → PartV st p v) :
    Ctr w 109 3 [.ref PA, .ref st, .str (S xs) t] news (fun r nx => nx = news ∧ ∃ b, r = .bool b ∧ (b = true ↔ Mt ps xs)) := by
  refine fillme PySem.Challenge.rw_in0056_01 Mine.hp.heap_1 ?_
  k_fill
  intro _
  unfold Ctr
  intro p loose mean mg mb dp un gd cn cs a ccd cl outer A₀ base h₀ L m s Q E B F X N T hk hd hu hret
  refine wpAny_call ?_
  k_dflt (refine' code_defC ?k1 ?k2 ?k3 ?k4 ?k5 ?kA ?kF ?kK ?k6 ?k7 ?k8 ?k9 ?kB ?kD ?_ ?c2 ?c3 ?c4)
  case kA => exact rfl
  case kF => exact rfl
  case kK => assumption
  case k1 => k_dflt k_asm
  case k2 => k_dflt k_asm
  case k3 => k_dflt k_asm
  case k4 => k_dflt k_asm
  case k5 => k_dflt k_asm
  case k6 => k_dflt k_is
  case k7 => k_dflt k_is
  case k8 => k_dflt ktr_room
  case k9 => exact BindsTo.of_eq rfl
  case kB => exact rfl
  case kD => decide +kernel
  case c2 => exact rfl
  case c3 => exact rfl
  case c4 => exact rfl
  k_whole
  intro g' L' h' tk' cells' FG' F' N' Y' B' X' T' hcl
  have hY := CellsAre.three Y'
  obtain ⟨oc1, oc2, oc3, hE', hd1, hd2, hd3⟩ := hY
  subst hE'
  clear Y'
  simp only [List.cons_append, List.nil_append] at N'
  (try dsimp only)
  (try k_fold)
  clear F N
  replace F' : Fr g' L' h' (fun y => if y = "star" then some (.ref st) else if y = "parts" then some (.ref PA) else none) := by with_unfolding_all exact F'
  have hn : CellAt ((L' + 1 + 1 + 1, oc1) :: (L' + 1 + 1, oc2) :: (L' + 1, oc3) :: news) (L' + 1) (.str (S xs) t) := ⟨oc3, .tail _ (.tail _ (.head _)), by with_unfolding_all exact hd3⟩
  have hp : CellB ((L' + 1 + 1 + 1, oc1) :: (L' + 1 + 1, oc2) :: (L' + 1, oc3) :: news) (L' + 1 + 1) := ⟨oc2, _, .tail _ (.head _), hd2⟩
  have ht : CellB ((L' + 1 + 1 + 1, oc1) :: (L' + 1 + 1, oc2) :: (L' + 1, oc3) :: news) (L' + 1 + 1 + 1) := ⟨oc1, _, .head _, hd1⟩
  have hsub : ∀ p ∈ news, p ∈ (L' + 1 + 1 + 1, oc1) :: (L' + 1 + 1, oc2) :: (L' + 1, oc3) :: news := fun p hp => .tail _ (.tail _ (.tail _ hp))
  have hl1 := hl.mono hsub
  clear hd1 hd2 hd3
  generalize hbase : (L' + 1 + 1 + 1, oc1) :: (L' + 1 + 1, oc2) :: (L' + 1, oc3) :: news = base1 at *
  clear hbase
  have hlt0 : ∀ p ∈ news, p.1 ≠ L' + 1 := cAb hcl 1
  have hlt1 : ∀ p ∈ news, p.1 ≠ L' + 1 + 1 := cAb hcl 2
  have hlt2 : ∀ p ∈ news, p.1 ≠ L' + 1 + 1 + 1 := cAb hcl 3
  have ne1 : L' + 1 ≠ L' + 1 + 1 := c12 _
  have ne2 : L' + 1 ≠ L' + 1 + 1 + 1 := c13 _
  have ne3 : L' + 1 + 1 ≠ L' + 1 + 1 + 1 := c12 _
  k_steps
  refine Halt.o ?_
  rename Obj.data _ = _ => d9
  rename News g' L' _ ((_, W.listOf _ _) :: base1) => N2
  rename Fr _ _ _ _ => F9
  have hst := tk_start (st := st) (ps := ps) (m := fun y => if y = "star" then some (.ref st) else if y = "parts" then some (.ref PA) else none) N2 d9 hn hp ht hsub hl1 ne1 ne3.symm hlt1 rfl
  refine for_listC (l := PA) (vs := pvs) F9 (TkJ xs ps st (L' + 1) (L' + 1 + 1) (L' + 1 + 1 + 1) news) rfl ?start ?turn ?done (hE := by passes_own)
  case start =>
    k_steps
    exact LsStart.mk (by assumption) (by assumption) hst.1 hst.2
  case turn =>
    rintro i v m₁ nx h₁ tk₁ it oi hAt J1 hl2 F1 N1 off
    clear F9 N2 hst
    have hJ := id J1
    unfold TkJ at hJ
    have hcnit : L' + 1 ≠ it := let ⟨_, b⟩ := hJ.2.1; b.b.ne off
    have hctit := hJ.2.2.1.ne off
    have hPAit := hl2.ne off
    have hoff : ∀ p ∈ news, p.1 ≠ it := fun p hp => off p (hJ.2.2.2.1 p hp)
    have hctb := hJ.2.2.1.tail (p := (it, oi))
    have hstar := hJ.2.2.2.2
    clear hJ
    k_dflt (refine' st_cell (s := ⟨_, _, _, _, _⟩) F1 N1 rfl hctb ?_)
    intro h2 o2 F2 N2' d2
    have hT := tk_turn N1 off J1 hl2 d2 ne2 ne3 hlt2
    clear J1 hl2 F1 N1 hctb d2
    generalize putAt _ o2 _ = nx2 at N2' hT
    have hT' := id hT
    unfold TkT at hT'
    obtain ⟨⟨P, vs, ks, hcp, hP, hvs, hks, hkl⟩, ⟨tn, hcn⟩, hct, hPA, hsub2, hit, hcpb, hitp⟩ := hT'
    have hil : i < ps.length := by rw [← hlen]; exact (List.getElem?_eq_some_iff.mp hAt.e).1
    obtain ⟨p₁, hp₁⟩ := At.get hil
    have htk := take_at hp₁
    have hpp := hps p₁ (List.mem_of_getElem? hp₁.e)
    rcases hpv i p₁ v hp₁ hAt with ⟨rfl, rfl⟩ | ⟨hne, tp, rfl⟩
    · k_steps
      refine Halt.o ?_
      refine comp_rangeT (a := 0) (n := xs.length + 1) F2 (fun j ys nx => (∀ p ∈ nx2, p ∈ nx) ∧ IntsAre ys (((List.range j).filter (geB ks)).map Int.ofNat)) (by with_unfolding_all rfl) (by decide) (by rfl) (by decide) (by rfl) rfl (by omega) ?start2 ?turn2 ?done2
      case start2 =>
        k_steps
        refine' RgStart.mk ?F ?N ?r ?n ?J
        case F => assumption
        case N => assumption
        case r => exact .head _
        case n => omega
        case J => exact ⟨rfl, fun p hp => .tail _ hp, .nil⟩
      case turn2 =>
        rintro j t5 ys nx3 I oI C oC D m₂ h3 tk3 E' hj ⟨hs3, hys⟩ hC hk F3 N3 off3 ne
        have hcp3 := (hcp.mono hs3).tail (p := (D, LCg.lst ys)) |>.tail (p := (C, oC)) |>.tail (p := (I, oI))
        have hP3 := (hP.mono hs3).tail (p := (D, LCg.lst ys)) |>.tail (p := (C, oC)) |>.tail (p := (I, oI))
        k_steps
        refine Halt.o ?_
        k_dflt (refine' ls_neNil (s := ⟨_, _, _, _, _⟩) (vs := vs) ?room ?N ?l ?b ?_)
        case room => ktr_units
        case N => assumption
        case l => exact hP3.tail
        case b => exact LsAt.head
        k_steps
        · have hne0 : 0 < (ks.map Int.ofNat).length := by rw [← hvs.length]; omega
          refine Halt.o ?_
          k_dflt (refine' ls_min (s := ⟨_, _, _, _, _⟩) (ns := ks.map Int.ofNat) rfl ?F ?N ?l hvs hne0 ?_)
          case F => assumption
          case N => assumption
          case l => exact hP3.tail
          intro h9 M t9 tk9 F9 N9 hM hMin
          have hmg := min_geB (j := j) hM hMin
          k_steps
          · have hg : geB ks j = true := hmg.mpr (by omega)
            refine Halt.o ?_
            refine' LCg.CompEnd.intro ?F ?N nx3 ?sub off3 trivial ⟨hs3, ks_yes hys hg (by omega)⟩
            case F => assumption
            case N => assumption
            case sub => exact fun p hp => .tail _ hp
          · have hg : geB ks j = false := by
              cases hq : geB ks j with
              | false => rfl
              | true => have := hmg.mp hq; omega
            refine Halt.o ?_
            refine' LCg.CompEnd.intro ?F ?N nx3 ?sub off3 trivial ⟨hs3, ks_no hys hg⟩
            case F => assumption
            case N => assumption
            case sub => exact fun p hp => .tail _ hp
        · have hng := geB_nil (j := j) hvs (by omega)
          refine Halt.o ?_
          refine' LCg.CompEnd.intro ?F ?N nx3 ?sub off3 trivial ⟨hs3, ks_no hys hng⟩
          case F => assumption
          case N => assumption
          case sub => exact fun p hp => .tail _ hp
      case done2 =>
        rintro D ys nx3 h3 tk3 ⟨hs3, hys⟩ F3 N3 off3
        dsimp only
        k_dflt (refine' st_cell (s := ⟨_, _, _, _, _⟩) F3 N3 rfl (hcpb.mono hs3).tail ?_)
        intro h4 o4 F4 N4 d4
        have hE := tk_end (i := i) N3 hs3 hT off3 d4 ne1 ne3.symm hlt1 hoff hys (by rw [htk]; exact tk_starStep hks) filter_len hstar hcnit hctit hPAit
        k_steps
        exact ForStep.mk2 (by assumption) (by assumption) hE.1 hE.2
    · k_steps
      refine Halt.o ?_
      refine comp_listT (l := P) (vs := vs) F2 (fun j ys nx => (∀ p ∈ nx2, p ∈ nx) ∧ IntsAre ys ((((ks.take j).filter (tkf p₁ xs)).map (· + 1)).map Int.ofNat)) (by with_unfolding_all rfl) (by decide) (by rfl) (by decide) (by rfl) rfl (by have := hvs.length; simp at this; omega) ?start2 ?turn2 ?done2
      case start2 =>
        k_steps
        exact LsStart.mk (by assumption) (by assumption) hP ⟨rfl, fun p hp => hp, .nil⟩
      case turn2 =>
        rintro j v5 ys nx3 I oI C oC D m₂ h3 tk3 E' hj ⟨hs3, hys⟩ hP2 hC hk F3 N3 off3 ne
        obtain ⟨k, t5, hkj, rfl⟩ := ints_at hvs hj
        clear hj
        have hcn3 := (hcn.mono hs3).tail (p := (D, LCg.lst ys)) |>.tail (p := (C, oC)) |>.tail (p := (I, oI))
        have hct3 := (hct.mono hs3).tail (p := (D, LCg.lst ys)) |>.tail (p := (C, oC)) |>.tail (p := (I, oI))
        k_steps
        · rename (S (ptxt p₁) == Str.ofString ".") = true => hA
          have hk1 : k < xs.length := by omega
          refine Halt.o ?_
          refine' LCg.CompEnd.intro ?F ?N nx3 ?sub off3 hP2 ⟨hs3, fk_yes hys hkj (tkf_yes hk1 (okA hpp hA)) rfl⟩
          case F => assumption
          case N => assumption
          case sub => exact fun p hp => hp
        · rename (S (ptxt p₁) == S [xs.getD k 0]) = true => hA
          have hk1 : k < xs.length := by omega
          refine Halt.o ?_
          refine' LCg.CompEnd.intro ?F ?N nx3 ?sub off3 hP2 ⟨hs3, fk_yes hys hkj (tkf_yes hk1 (okB hpp (letter_getD hax hk1) hA)) rfl⟩
          case F => assumption
          case N => assumption
          case sub => exact fun p hp => hp
        · rename (S (ptxt p₁) == Str.ofString "[ab]") = true => hA
          have hk1 : k < xs.length := by omega
          have hokc := okC hpp (letter_getD hax hk1) hA
          refine Halt.o ?_
          k_dflt (refine' in_ab (s := ⟨_, _, _, _, _⟩) (letter_getD hax hk1) ?_)
          rw [← hokc]
          cases hob : okc p₁ (xs.getD k 0) with
          | true =>
            k_steps
            refine Halt.o ?_
            refine' LCg.CompEnd.intro ?F ?N nx3 ?sub off3 hP2 ⟨hs3, fk_yes hys hkj (tkf_yes hk1 hob) rfl⟩
            case F => assumption
            case N => assumption
            case sub => exact fun p hp => hp
          | false =>
            k_steps
            refine Halt.o ?_
            refine' LCg.CompEnd.intro ?F ?N nx3 ?sub off3 hP2 ⟨hs3, fk_no hys hkj (tkf_no hob)⟩
            case F => assumption
            case N => assumption
            case sub => exact fun p hp => hp
        · rename (S (ptxt p₁) == Str.ofString ".") = false => hA
          rename (S (ptxt p₁) == S [xs.getD k 0]) = false => hB
          rename (S (ptxt p₁) == Str.ofString "[ab]") = false => hC9
          have hk1 : k < xs.length := by omega
          refine Halt.o ?_
          refine' LCg.CompEnd.intro ?F ?N nx3 ?sub off3 hP2 ⟨hs3, fk_no hys hkj (tkf_no (okN hpp hne (letter_getD hax hk1) hA hB hC9))⟩
          case F => assumption
          case N => assumption
          case sub => exact fun p hp => hp
        · have hk1 : ¬ k < xs.length := by omega
          refine Halt.o ?_
          refine' LCg.CompEnd.intro ?F ?N nx3 ?sub off3 hP2 ⟨hs3, fk_no hys hkj (tkf_out hk1)⟩
          case F => assumption
          case N => assumption
          case sub => exact fun p hp => hp
      case done2 =>
        rintro D ys nx3 h3 tk3 ⟨hs3, hys⟩ hP2 F3 N3 off3
        have hkn : ks.take vs.length = ks := List.take_of_length_le (by have := hvs.length; rw [List.length_map] at this; omega)
        rw [hkn] at hys
        dsimp only
        k_dflt (refine' st_cell (s := ⟨_, _, _, _, _⟩) F3 N3 rfl (hcpb.mono hs3).tail ?_)
        intro h4 o4 F4 N4 d4
        have hE := tk_end (i := i) N3 hs3 hT off3 d4 ne1 ne3.symm hlt1 hoff hys (by rw [htk]; exact tk_oneStep hne hks) (fk_len hkl) hstar hcnit hctit hPAit
        k_steps
        exact ForStep.mk2 (by assumption) (by assumption) hE.1 hE.2
  case done =>
    rintro m₁ nx h₁ tk₁ J1 hl2 F1 N1
    dsimp only
    clear F9 N2 hst
    have hJ := id J1
    unfold TkJ at hJ
    obtain ⟨⟨P, vs, ks, hcp, hP, hvs, hks, hkl⟩, ⟨tn, hcn⟩, hct, hsub2, hstar⟩ := hJ
    have htk : ps.take pvs.length = ps := List.take_of_length_le (by omega)
    rw [htk] at hks
    k_steps
    refine Halt.o ?_
    k_dflt (refine' ls_in (s := ⟨_, _, _, _, _⟩) (by assumption) hP hvs ?_)
    k_steps
    refine hret _ _ _ _ (by assumption) (newsSub (by assumption) hsub2) ⟨rfl, _, rfl, ?_⟩
    exact tk_fin hks

end

section
section
variable {prog : Program} {w : World} {A : Around} {E : Value → Shared → Prop} {Q : Flow → Shared → Prop} {s : Shared} {env : Env} {h₀ : Heap} {L : Addr}
/-- the same; the list is made by the for's head -/
theorem for_listE {x : Str} {px pos : Pos} {iter : Expr} {body : List Stmt} {vs : List Value} {m₀ : Str → Option Value} (_F : Fr h₀ L s.heap m₀) (J : Nat → (Str → Option Value) → List (Addr × Obj) → Prop)
    (hh : A.handled = none)
    (start : wpAny (model prog w) A (eval iter env) (fun v s₁ => ∃ l, LsStart h₀ L s l vs (J 0) v s₁) E s)
    (turn : ∀ l i v m₁ nx h tk it oi, At vs i v → J i m₁ nx → LsAt nx l vs → Fr h₀ L h m₁ → News h₀ L h ((it, oi) :: nx) → (∀ p ∈ nx, p.1 ≠ it) →
      wpAny (model prog w) A (storeName env x v) (fun _ s₂ => wpAny (model prog w) A (execs body env) (ForStep h₀ L s it oi (fun m' nx' => LsAt nx' l vs ∧ J (i + 1) m' nx') Q) E s₂) E { s with heap := h, toks := tk })
    (done : ∀ l m₁ nx h tk, J vs.length m₁ nx → LsAt nx l vs → Fr h₀ L h m₁ → News h₀ L h nx → Q .next { s with heap := h, toks := tk })
    (hs : ∀ x, foldedSetIterable iter env x = pure x := by intro _; rfl)
    (hE : PassesOwn (model prog w) A env E := by passes_own) :
    wpAny (model prog w) A (exec (.For (.Name x px) iter body [] pos) env) Q E s := by
  refine wpAny_For (wpAny_mono start (fun v s₁ h₁ => ?_) fun _ _ e => e) hs
  obtain ⟨l, rfl, ⟨h, tk, rfl⟩, m, nx, F, N, hl, h0⟩ := h₁
  have hls : h.IsList l vs.toArray := hl.isList N
  refine wpAny_pyIter_list hls ?_
  refine codeAny_forLoop (R := fun r s' => match r with | .ok f => Q f s' | .error e => cameBackBy (model prog w) A env E e s')
    (fun k s' => ∃ i m₁ nx₁ h₁ tk₁ oi, k = vs.length - i ∧ i ≤ vs.length ∧ s' = { s with heap := h₁, toks := tk₁ } ∧ Fr h₀ L h₁ m₁ ∧ News h₀ L h₁ ((h.objs.size, oi) :: nx₁) ∧ IsIt l i oi ∧ (∀ p ∈ nx₁, p.1 ≠ h.objs.size) ∧ LsAt nx₁ l vs ∧ J i m₁ nx₁) ?_ vs.length
    ⟨0, m, nx, _, tk, iterO l 0, rfl, Nat.zero_le _, rfl, F.push _, N.push F _, ⟨rfl, rfl⟩, fun p hp => Nat.ne_of_lt (newsLt N p hp), hl, h0⟩
  rintro k s' ⟨i, m₁, nx₁, h₁, tk₁, oi, rfl, hi, rfl, F₁, N₁, hoi, ho₁, hl₁, hJ⟩
  have hI := N₁ _ (.head _)
  have hit : h₁.IsListIter h.objs.size l i := ⟨_, hI.1, hoi.1, hoi.2⟩
  have hls₁ : h₁.IsList l vs.toArray := hl₁.isList (newsSub N₁ fun q hq => .tail _ hq)
  by_cases hlt : i < vs.length
  · have hx' : At vs i vs[i] := ⟨by simp [hlt]⟩
    refine wpAny_pyNext_list_item (x := vs[i]) hit hls₁ (by simp [hlt]) fun h₂ hit₂ hs₂ => ?_
    have F₂ := frBut F₁ hs₂.extBut hI.2.1 hI.2.2
    obtain ⟨oi₂, hoi₂, hci, hdi⟩ := hit₂
    have N₂ := newsPut N₁ hs₂.extBut ho₁ hoi₂
    refine wpAny_assign_Name (wpAny_mono (turn l i vs[i] m₁ nx₁ h₂ tk₁ h.objs.size oi₂ hx' hJ hl₁ F₂ N₂ ho₁) (fun _ s₂ hq => ?_) hE)
    refine wpAny_mono hq (fun f s₃ h₄ => ?_) hE
    have fin : (∃ h' tk m₂ nx, s₃ = { s with heap := h', toks := tk } ∧ Fr h₀ L h' m₂ ∧ News h₀ L h' ((h.objs.size, oi₂) :: nx) ∧ (∀ p ∈ nx, p.1 ≠ h.objs.size) ∧ LsAt nx l vs ∧ J (i + 1) m₂ nx) →
        ∃ k, k < vs.length - i ∧ ∃ i m₁ nx₁ h₁ tk₁ oi, k = vs.length - i ∧ i ≤ vs.length ∧ s₃ = { s with heap := h₁, toks := tk₁ } ∧ Fr h₀ L h₁ m₁ ∧ News h₀ L h₁ ((h.objs.size, oi) :: nx₁) ∧ IsIt l i oi ∧ (∀ p ∈ nx₁, p.1 ≠ h.objs.size) ∧ LsAt nx₁ l vs ∧ J i m₁ nx₁ := by
      rintro ⟨h', tk', m₂, nx₂, e, F', N', o', l', J'⟩
      exact ⟨vs.length - (i + 1), by omega, i + 1, m₂, nx₂, h', tk', oi₂, rfl, hlt, e, F', N', ⟨hci, hdi⟩, o', l', J'⟩
    cases f with
    | next => exact fin h₄
    | cont => exact fin h₄
    | brk => exact h₄
    | ret v => exact h₄
  · have hin : i = vs.length := by omega
    subst hin
    refine wpAny_mono (wpAny_pyNext_list_end hh hit hls₁ (by simp) fun h₂ hs₂ => wpAny_execs_nil ?_) (fun _ _ x => x) hE
    exact done l m₁ nx₁ h₂ tk₁ hJ hl₁ (frBut F₁ hs₂ hI.2.1 hI.2.2) (newsBut (newsSub N₁ fun q hq => .tail _ hq) hs₂ ho₁)
end
/-- the signs that a piece lets through -/
def sgn (p : List Nat) : List Nat := if p = anyP then [97, 65, 98, 66] else if p = clsP then [97, 98] else p
def PieceV (p : List Nat) (v : Value) : Prop := ∃ tk, v = .str (S p) tk
def FtJ (xs : List Nat) (ps : List (List Nat)) (cn cp ct : Addr) (news : Led) (i : Nat) (_m : Str → Option Value) (nx : Led) : Prop :=
  (∃ (P : Addr) (vs : List Value) (ks : List Nat), CellAt nx cp (.ref P) ∧ LsAt nx P vs ∧ IntsAre vs (ks.map Int.ofNat) ∧ Ft xs (ps.take i).reverse ks ∧ ks.length ≤ xs.length + 1) ∧ (∃ tk, CellAt nx cn (.str (S xs) tk)) ∧ CellB nx ct ∧ (∀ p ∈ news, p ∈ nx)
theorem ft_start {h₀ h : Heap} {L l PA cn cp ct : Addr} {base1 news : Led} {u t : Tok} {xs : List Nat} {ps : List (List Nat)} {pvs : List Value} {o : Obj} {m : Str → Option Value}
    (N : News h₀ L h ((l, W.listOf #[.int (xs.length : Nat) u] 0) :: base1)) (d : o.data = .cell (some (.ref l))) (hn : CellAt base1 cn (.str (S xs) t)) (hp : CellB base1 cp) (ht : CellB base1 ct) (hsub : ∀ p ∈ news, p ∈ base1) (hl : LsAt base1 PA pvs)
    (h1 : cn ≠ cp) (h2 : ct ≠ cp) (hlt : ∀ p ∈ news, p.1 ≠ cp) :
    LsAt (putAt cp o ((l, W.listOf #[.int (xs.length : Nat) u] 0) :: base1)) PA pvs ∧ FtJ xs ps cn cp ct news 0 m (putAt cp o ((l, W.listOf #[.int (xs.length : Nat) u] 0) :: base1)) := by
  have hL : LsAt ((l, W.listOf #[.int (xs.length : Nat) u] 0) :: base1) l [.int (xs.length : Nat) u] := ⟨_, .head _, 0, rfl⟩
  refine ⟨hl.tail.other (hp.tail.ls_ne N hl.tail), ⟨l, [.int (xs.length : Nat) u], [xs.length], CellAt.put hp.tail d, hL.other (hp.tail.ls_ne N hL), .cons _ u .nil, ?_, by simp⟩, ⟨t, hn.tail.other h1⟩, ht.tail.other h2, fun p hp' => putAt_other (.tail _ (hsub p hp')) (hlt p hp')⟩
  exact Ft.start xs
theorem FtJ.mono {xs : List Nat} {ps : List (List Nat)} {cn cp ct : Addr} {news nx nx' : Led} {i : Nat} {m m' : Str → Option Value} (J : FtJ xs ps cn cp ct news i m nx) (hs : ∀ p ∈ nx, p ∈ nx') : FtJ xs ps cn cp ct news i m' nx' :=
  let ⟨⟨P, vs, ks, a1, a2, a3, a4, a5⟩, ⟨tk, b⟩, c, e⟩ := J
  ⟨⟨P, vs, ks, a1.mono hs, a2.mono hs, a3, a4, a5⟩, ⟨tk, b.mono hs⟩, c.mono hs, fun p hp => hs _ (e p hp)⟩
/-- a turn's end -/
theorem ft_end {h₀ h : Heap} {L D PA cn cp ct it : Addr} {nx2 nx news : Led} {oi o : Obj} {xs : List Nat} {ps : List (List Nat)} {pvs ys : List Value} {ks' : List Nat} {i : Nat} {m : Str → Option Value} {t : Tok}
    (N : News h₀ L h ((D, LCg.lst ys) :: nx)) (hsub : ∀ p ∈ nx2, p ∈ nx) (hcp : CellB nx2 cp) (b : CellAt nx2 cn (.str (S xs) t)) (c : CellB nx2 ct) (e : LsAt nx2 PA pvs) (f : ∀ p ∈ news, p ∈ nx2) (g : (it, oi) ∈ nx2) (hit : it ≠ cp)
    (hD : ∀ p ∈ nx, p.1 ≠ D) (d : o.data = .cell (some (.ref D))) (h1 : cn ≠ cp) (h2 : ct ≠ cp)
    (hlt : ∀ p ∈ news, p.1 ≠ cp) (hoff : ∀ p ∈ news, p.1 ≠ it) (hi : IntsAre ys (ks'.map Int.ofNat)) (hk : Ft xs (ps.take (i + 1)).reverse ks') (hkl : ks'.length ≤ xs.length + 1) (hne : cn ≠ it) (hne2 : ct ≠ it) (hne3 : PA ≠ it) :
    (it, oi) ∈ putAt cp o ((D, LCg.lst ys) :: nx) ∧ LsAt (offIt it (putAt cp o ((D, LCg.lst ys) :: nx))) PA pvs ∧ FtJ xs ps cn cp ct news (i + 1) m (offIt it (putAt cp o ((D, LCg.lst ys) :: nx))) := by
  have hcp' : CellB ((D, LCg.lst ys) :: nx) cp := (hcp.mono hsub).tail
  have hL : LsAt ((D, LCg.lst ys) :: nx) D ys := ⟨_, .head _, _, rfl⟩
  have hDit : D ≠ it := (hD _ (hsub _ g)).symm
  have hPAc := hcp'.ls_ne N (e.mono hsub).tail
  exact ⟨putAt_other (.tail _ (hsub _ g)) hit, ((e.mono hsub).tail.other hPAc).off hne3, ⟨D, ys, ks', (CellAt.put hcp' d).off hit.symm, (hL.other (hcp'.ls_ne N hL)).off hDit, hi, hk, hkl⟩, ⟨t, ((b.mono hsub).tail.other h1).off hne⟩, ((c.mono hsub).tail.other h2).off hne2, fun p hp => off_mem (putAt_other (.tail _ (hsub p (f p hp))) (hlt p hp)) (hoff p hp)⟩
def leB (ks : List Nat) (k : Nat) : Bool := ks.any fun j => decide (k ≤ j)
theorem leB_iff {ks : List Nat} {k : Nat} : leB ks k = true ↔ ∃ j ∈ ks, k ≤ j := by simp [leB]
theorem max_leB {ks : List Nat} {M : Int} {j : Nat} (hM : M ∈ ks.map Int.ofNat) (hmax : ∀ a, a ∈ ks.map Int.ofNat → a ≤ M) : leB ks j = true ↔ (j : Int) ≤ M := by
  rw [leB_iff]
  constructor
  · rintro ⟨i, hi, hij⟩
    have := hmax (Int.ofNat i) (List.mem_map_of_mem hi)
    have e : Int.ofNat i = (i : Int) := rfl
    omega
  · intro h
    obtain ⟨i, hi, rfl⟩ := List.mem_map.mp hM
    have e : Int.ofNat i = (i : Int) := rfl
    exact ⟨i, hi, by omega⟩
theorem leB_nil {ks : List Nat} {vs : List Value} {j : Nat} (hv : IntsAre vs (ks.map Int.ofNat)) (h : ¬ 0 < vs.length) : leB ks j = false := by
  have := hv.length
  rw [List.length_map] at this
  have e : ks = [] := List.length_eq_zero_iff.mp (by omega)
  subst e; rfl
theorem ft_starStep {xs : List Nat} {suf : List (List Nat)} {ks : List Nat} (h : Ft xs suf ks) : Ft xs (starP :: suf) ((List.range (xs.length + 1)).filter (leB ks)) := h.star fun k => by
  rw [mem_filter_range, leB_iff]
  constructor
  · rintro ⟨a, b⟩; exact ⟨by omega, b⟩
  · rintro ⟨a, b⟩; exact ⟨by omega, b⟩
theorem rev_take {ps : List (List Nat)} {i : Nat} {p : List Nat} (h : At ps i p) : (ps.take (i + 1)).reverse = p :: (ps.take i).reverse := by
  rw [take_at h, List.reverse_append]; rfl
def ftf (p : List Nat) (xs : List Nat) (k : Nat) : Bool := decide (0 < k) && okc p (xs.getD (k - 1) 0)
theorem ftf_yes {p xs : List Nat} {k : Nat} (h : 0 < k) (ho : okc p (xs.getD (k - 1) 0) = true) : ftf p xs k = true := by unfold ftf; rw [ho, decide_eq_true h]; rfl
theorem ftf_no {p xs : List Nat} {k : Nat} (ho : okc p (xs.getD (k - 1) 0) = false) : ftf p xs k = false := by unfold ftf; rw [ho, Bool.and_false]
theorem ftf_out {p xs : List Nat} {k : Nat} (h : ¬ 0 < k) : ftf p xs k = false := by unfold ftf; rw [decide_eq_false h, Bool.false_and]
theorem ft_oneStep {xs p : List Nat} {suf : List (List Nat)} {ks : List Nat} (hp : p ≠ starP) (h : Ft xs suf ks) : Ft xs (p :: suf) ((ks.filter (ftf p xs)).map (· - 1)) := h.one hp fun k => by
  simp only [List.mem_map, List.mem_filter, ftf, Bool.and_eq_true, decide_eq_true_eq]
  constructor
  · rintro ⟨j, ⟨a, b, c⟩, rfl⟩; exact ⟨j, a, b, c, rfl⟩
  · rintro ⟨j, a, b, c, rfl⟩; exact ⟨j, ⟨a, b, c⟩, rfl⟩
theorem gk_yes {f : Nat → Bool} {ks : List Nat} {j k : Nat} {ys : List Value} {i : Int} {t : Tok} (h : IntsAre ys ((((ks.take j).filter f).map (· - 1)).map Int.ofNat)) (hk : At ks j k) (hf : f k = true) (h0 : 0 < k) (e : i = (k : Int) - 1) :
    IntsAre (ys ++ [.int i t]) ((((ks.take (j + 1)).filter f).map (· - 1)).map Int.ofNat) := by
  have e2 : ks.take (j + 1) = ks.take j ++ [k] := by rw [List.take_add_one, hk.e]; rfl
  rw [e2, List.filter_append, List.map_append, List.map_append]
  have e3 : [k].filter f = [k] := by simp [hf]
  rw [e3]
  refine ints_snoc h ?_
  show i = Int.ofNat (k - 1)
  have : Int.ofNat (k - 1) = ((k - 1 : Nat) : Int) := rfl
  omega
theorem gk_no {f : Nat → Bool} {ks : List Nat} {j k : Nat} {ys : List Value} (h : IntsAre ys ((((ks.take j).filter f).map (· - 1)).map Int.ofNat)) (hk : At ks j k) (hf : f k = false) :
    IntsAre ys ((((ks.take (j + 1)).filter f).map (· - 1)).map Int.ofNat) := by
  have e2 : ks.take (j + 1) = ks.take j ++ [k] := by rw [List.take_add_one, hk.e]; rfl
  have e3 : [k].filter f = [] := by simp [hf]
  rw [e2, List.filter_append, e3, List.append_nil]
  exact h
theorem gk_len {f : Nat → Bool} {ks : List Nat} {n : Nat} (h : ks.length ≤ n) : ((ks.filter f).map (· - 1)).length ≤ n := by
  rw [List.length_map]; exact Nat.le_trans (List.length_filter_le _ _) h
section
variable {prog : Program} {w : World} {A : Around} {E : Value → Shared → Prop} {s : Shared} {Q : Value → Shared → Prop}
theorem in_sgn {p : List Nat} {d : Nat} {t u : Tok} (hp : Piece p) (hs : p ≠ starP) (hd : Letter d) (h : Q (.bool (okc p d)) s) : wpAny (model prog w) A (compareOp .In (.str (S [d]) t) (.str (S (sgn p)) u)) Q E s := by
  refine PySem.P.in_str ?_
  have e : (!(Builtin.Str.occurrences (S (sgn p)) (S [d]) 0 (S (sgn p)).length 1).isEmpty) = okc p d := by
    rcases hp with e | e | e | e | e | e <;> subst e <;> first | exact absurd rfl hs | (rcases hd with f | f | f | f <;> subst f <;> decide +kernel)
  rw [e]; exact h
end
theorem ft_fin {xs : List Nat} {ps : List (List Nat)} {ks : List Nat} (h : Ft xs ps ks) : decide ((0 : Int) ∈ ks.map Int.ofNat) = true ↔ Mt ps xs := by
  rw [decide_eq_true_iff, ← h.fin, List.mem_map]
  constructor
  · rintro ⟨a, ha, e⟩
    have : a = 0 := by
      have e' : (a : Int) = 0 := e
      omega
    exact this ▸ ha
  · intro ha; exact ⟨_, ha, rfl⟩
theorem rev_pv {ps : List (List Nat)} {pvs : List Value} {i : Nat} {p : List Nat} {v : Value} (hlen : pvs.length = ps.length) (hpv : ∀ i p v, At ps i p → At pvs i v → PieceV p v) (h1 : At ps.reverse i p) (h2 : At pvs.reverse i v) : PieceV p v := by
  have hi := (List.getElem?_eq_some_iff.mp h1.e).1
  rw [List.length_reverse] at hi
  have e1 := h1.e
  have e2 := h2.e
  rw [List.getElem?_reverse hi] at e1
  rw [List.getElem?_reverse (by omega), hlen] at e2
  exact hpv _ p v ⟨e1⟩ ⟨e2⟩
theorem ft_cell {h₀ h : Heap} {L P PA cn cp ct it : Addr} {nx2 news : Led} {q : Addr × Obj} {oi o4 : Obj} {xs : List Nat} {pvs vs : List Value} {tn : Tok} {v : Value}
    (N : News h₀ L h (q :: nx2)) (hct : CellB nx2 ct) (hP : LsAt nx2 P vs) (hPA : LsAt nx2 PA pvs) (hcp : CellAt nx2 cp (.ref P)) (hcn : CellAt nx2 cn (.str (S xs) tn)) (hit : (it, oi) ∈ nx2) (hsub : ∀ p ∈ news, p ∈ nx2)
    (d : o4.data = .cell (some v)) (h1 : cp ≠ ct) (h2 : cn ≠ ct) (h3 : it ≠ ct) (hlt : ∀ p ∈ news, p.1 ≠ ct) :
    (LsAt (putAt ct o4 (q :: nx2)) P vs ∧ LsAt (putAt ct o4 (q :: nx2)) PA pvs) ∧ (CellAt (putAt ct o4 (q :: nx2)) cp (.ref P) ∧ CellAt (putAt ct o4 (q :: nx2)) cn (.str (S xs) tn)) ∧ (CellAt (putAt ct o4 (q :: nx2)) ct v ∧ (it, oi) ∈ putAt ct o4 (q :: nx2)) ∧ (∀ p ∈ news, p ∈ putAt ct o4 (q :: nx2)) :=
  ⟨⟨hP.tail.other (hct.tail.ls_ne N hP.tail), hPA.tail.other (hct.tail.ls_ne N hPA.tail)⟩, ⟨hcp.tail.other h1, hcn.tail.other h2⟩, ⟨CellAt.put hct.tail d, putAt_other (.tail _ hit) h3⟩, fun p hp => putAt_other (.tail _ (hsub p hp)) (hlt p hp)⟩
theorem ft_bound {xs : List Nat} {suf : List (List Nat)} {ks : List Nat} {j k : Nat} (h : Ft xs suf ks) (hk : At ks j k) : k ≤ xs.length := ((h k).mp (List.mem_of_getElem? hk.e)).1
theorem str_star : Str.ofString "*" = S starP := by decide +kernel
theorem str_sg1 : Str.ofString "aAbB" = S [97, 65, 98, 66] := by decide +kernel
section
variable {prog : Program} {w : World} {A : Around} {E : Value → Shared → Prop} {s : Shared} {Q : Value → Shared → Prop} {h₀ : Heap} {L d : Addr} {nx : Led} {o : Obj}
theorem get_sgn {p : List Nat} {t t1 t2 t3 t4 : Tok} (hp : Piece p) (hs : p ≠ starP) (N : News h₀ L s.heap nx) (hm : (d, o) ∈ nx) (lo : (d == sysModules) = false)
    (hd : o.IsDictOf (PySem.strKind prog w) (strPairs [(.str (Str.ofString "?") t1, .str (Str.ofString "aAbB") t2), (.str (Str.ofString "[ab]") t3, .str (Str.ofString "ab") t4)]))
    (h : ∀ tk tk', Q (.str (S (sgn p)) tk') { s with toks := tk }) : wpAny (model prog w) A (call (.builtin "dict.get") [.ref d, .str (S p) t, .str (S p) t]) Q E s := by
  rcases hp with e | e | e | e | e | e <;> subst e
  · exact kdg_get2 (knd := PySem.strKind prog w) N hm hd lo (strKind_is _ _ _ _) none (by rfl) (h _ t)
  · exact kdg_get2 (knd := PySem.strKind prog w) N hm hd lo (strKind_is _ _ _ _) none (by rfl) (h _ t)
  · exact kdg_get2 (knd := PySem.strKind prog w) N hm hd lo (strKind_is _ _ _ _) none (by rfl) (h _ t)
  · refine kdg_get2 (knd := PySem.strKind prog w) N hm hd lo (strKind_is _ _ _ _) (some (.str (Str.ofString "aAbB") t2)) (by rfl) ?_
    have := h (s.toks + 1) t2
    rw [show sgn anyP = [97, 65, 98, 66] from rfl, ← str_sg1] at this
    exact this
  · exact absurd rfl hs
  · refine kdg_get2 (knd := PySem.strKind prog w) N hm hd lo (strKind_is _ _ _ _) (some (.str (Str.ofString "ab") t4)) (by rfl) ?_
    have := h (s.toks + 1) t4
    rw [show sgn clsP = [97, 98] from rfl, ← str_ab] at this
    exact this
end
local macro_rules | `(tactic| walk_at "exec For Name Subscript cons nil") => `(tactic| refine Halt.i ?_)
local macro_rules | `(tactic| walk_at "compareOp NotEq ref ref") => `(tactic| refine Halt.i ?_)
local macro_rules | `(tactic| walk_at "compareOp In") => `(tactic| refine Halt.i ?_)
local macro_rules | `(tactic| walk_at "compareOp In str str") => `(tactic| refine Halt.i ?_)
local macro_rules | `(tactic| walk_at "compareOp In int ref") => `(tactic| refine Halt.i ?_)
local macro_rules | `(tactic| walk_at "call builtin:max") => `(tactic| refine Halt.i ?_)
local macro_rules | `(tactic| walk_at "call builtin:dict.get") => `(tactic| refine Halt.i ?_)
local macro_rules | `(tactic| walk_at "subscriptTail Name Slice ref ref") => `(tactic| refine Halt.i ?_)
theorem fits_spec {w : World} (PA : Addr) (ps : List (List Nat)) (pvs : List Value) (xs : List Nat) (hps : ∀ p ∈ ps, Piece p) (hlp : ps.length ≤ 20) (hx : xs.length ≤ 20) (hax : ∀ c ∈ xs, Letter c) (t : Tok) (news : List (Addr × Obj))
    (hl : LsAt news PA pvs) (hlen : pvs.length = ps.length) (hpv : ∀ i p v, At ps i p → At pvs i v → PieceV p v) :
    Ctr w 114 3 [.ref PA, .str (S xs) t] news (fun r nx => nx = news ∧ ∃ b, r = .bool b ∧ (b = true ↔ Mt ps xs)) := by
  refine fillme PySem.Challenge.rw_in0056_01 Mine.hp.heap_1 ?_
  k_fill
  intro _
  unfold Ctr
  intro p loose mean mg mb dp un gd cn cs a ccd cl outer A₀ base h₀ L m s Q E B F X N T hk hd hu hret
  refine wpAny_call ?_
  k_dflt (refine' code_defC ?k1 ?k2 ?k3 ?k4 ?k5 ?kA ?kF ?kK ?k6 ?k7 ?k8 ?k9 ?kB ?kD ?_ ?c2 ?c3 ?c4)
  case kA => exact rfl
  case kF => exact rfl
  case kK => assumption
  case k1 => k_dflt k_asm
  case k2 => k_dflt k_asm
  case k3 => k_dflt k_asm
  case k4 => k_dflt k_asm
  case k5 => k_dflt k_asm
  case k6 => k_dflt k_is
  case k7 => k_dflt k_is
  case k8 => k_dflt ktr_room
  case k9 => exact BindsTo.of_eq rfl
  case kB => exact rfl
  case kD => decide +kernel
  case c2 => exact rfl
  case c3 => exact rfl
  case c4 => exact rfl
  k_whole
  intro g' L' h' tk' cells' FG' F' N' Y' B' X' T' hcl
  have hY := CellsAre.three Y'
  obtain ⟨oc1, oc2, oc3, hE', hd1, hd2, hd3⟩ := hY
  subst hE'
  clear Y'
  simp only [List.cons_append, List.nil_append] at N'
  (try dsimp only)
  (try k_fold)
  clear F N
  replace F' : Fr g' L' h' (fun y => if y = "row" then some (.ref PA) else none) := by with_unfolding_all exact F'
  have hn : CellAt ((L' + 1 + 1 + 1, oc1) :: (L' + 1 + 1, oc2) :: (L' + 1, oc3) :: news) (L' + 1) (.str (S xs) t) := ⟨oc3, .tail _ (.tail _ (.head _)), by with_unfolding_all exact hd3⟩
  have hp : CellB ((L' + 1 + 1 + 1, oc1) :: (L' + 1 + 1, oc2) :: (L' + 1, oc3) :: news) (L' + 1 + 1) := ⟨oc2, _, .tail _ (.head _), hd2⟩
  have ht : CellB ((L' + 1 + 1 + 1, oc1) :: (L' + 1 + 1, oc2) :: (L' + 1, oc3) :: news) (L' + 1 + 1 + 1) := ⟨oc1, _, .head _, hd1⟩
  have hsub : ∀ p ∈ news, p ∈ (L' + 1 + 1 + 1, oc1) :: (L' + 1 + 1, oc2) :: (L' + 1, oc3) :: news := fun p hp => .tail _ (.tail _ (.tail _ hp))
  have hl1 := hl.mono hsub
  clear hd1 hd2 hd3
  generalize hbase : (L' + 1 + 1 + 1, oc1) :: (L' + 1 + 1, oc2) :: (L' + 1, oc3) :: news = base1 at *
  clear hbase
  have hlt0 : ∀ p ∈ news, p.1 ≠ L' + 1 := cAb hcl 1
  have hlt1 : ∀ p ∈ news, p.1 ≠ L' + 1 + 1 := cAb hcl 2
  have hlt2 : ∀ p ∈ news, p.1 ≠ L' + 1 + 1 + 1 := cAb hcl 3
  have ne1 : L' + 1 ≠ L' + 1 + 1 := c12 _
  have ne2 : L' + 1 ≠ L' + 1 + 1 + 1 := c13 _
  have ne3 : L' + 1 + 1 ≠ L' + 1 + 1 + 1 := c12 _
  k_steps
  refine Halt.o ?_
  rename Obj.data _ = _ => d9
  rename News g' L' _ ((_, W.listOf _ _) :: base1) => N2
  rename Fr _ _ _ _ => F9
  have hst := ft_start (ps := ps.reverse) (m := fun y => if y = "row" then some (.ref PA) else none) N2 d9 hn hp ht hsub hl1 ne1 ne3.symm hlt1
  refine for_listE (vs := pvs.reverse) F9 (FtJ xs ps.reverse (L' + 1) (L' + 1 + 1) (L' + 1 + 1 + 1) news) rfl ?start ?turn ?done (hE := by passes_own)
  case start =>
    k_steps
    refine Halt.o ?_
    k_dflt (refine' krv_lit (s := ⟨_, _, _, _, _⟩) (its := pvs.toArray) (zs := pvs.reverse) ?F ?N ?l ?k ?e ?_ ?s ?t ?z)
    case F => assumption
    case N => assumption
    case l => exact hst.1.isList (by assumption)
    case k => exact IsPart.int _ _
    case e => simp
    case s => with_unfolding_all rfl
    case t => intro _; with_unfolding_all rfl
    case z => rw [sizeLine_eq]; simp; omega
    intro D0 h8 F8 N8 l8
    exact ⟨D0, LsStart.mk F8 N8 LsAt.head (hst.2.mono fun p hp => .tail _ hp)⟩
  case turn =>
    rintro D0 i v m₁ nx h₁ tk₁ it oi hAt J1 hl2 F1 N1 off
    clear F9 N2 hst
    have hJ := id J1
    unfold FtJ at hJ
    have hcnit : L' + 1 ≠ it := let ⟨_, b⟩ := hJ.2.1; b.b.ne off
    have hctit := hJ.2.2.1.ne off
    have hPAit := hl2.ne off
    have hoff : ∀ p ∈ news, p.1 ≠ it := fun p hp => off p (hJ.2.2.2 p hp)
    obtain ⟨⟨P, vs, ks, hcp0, hP0, hvs, hks, hkl⟩, ⟨tn, hcn0⟩, hct0, hsub0⟩ := hJ
    have hcp := hcp0.tail (p := (it, oi))
    have hP := hP0.tail (p := (it, oi))
    have hcn := hcn0.tail (p := (it, oi))
    have hct := hct0.tail (p := (it, oi))
    have hPA := hl2.tail (p := (it, oi))
    have hit : (it, oi) ∈ (it, oi) :: nx := .head _
    have hsub2 : ∀ p ∈ news, p ∈ (it, oi) :: nx := fun p hp => .tail _ (hsub0 p hp)
    have hitp : it ≠ L' + 1 + 1 := (hcp0.b.ne off).symm
    have hitc : it ≠ L' + 1 + 1 + 1 := (hct0.ne off).symm
    clear hcp0 hP0 hcn0 hct0 hl2 hsub0 J1
    generalize (it, oi) :: nx = nx2 at *
    have hcpb := hcp.b
    have hil : i < ps.reverse.length := by
      have := (List.getElem?_eq_some_iff.mp hAt.e).1
      rw [List.length_reverse] at this ⊢
      omega
    obtain ⟨p₁, hp₁⟩ := At.get hil
    have htk := rev_take hp₁
    have hpp := hps p₁ (List.mem_reverse.mp (List.mem_of_getElem? hp₁.e))
    obtain ⟨tp, rfl⟩ := rev_pv hlen hpv hp₁ hAt
    k_steps
    · rename (S p₁ == Str.ofString "*") = true => hA
      have es : p₁ = starP := by rw [str_star, eq_S] at hA; exact of_decide_eq_true hA
      subst es
      refine Halt.o ?_
      rename Fr _ _ _ (fun y => if y = Str.ofString "piece" then _ else _) => kFr
      refine comp_rangeT (a := 0) (n := xs.length + 1) kFr (fun j ys nx => (∀ p ∈ nx2, p ∈ nx) ∧ IntsAre ys (((List.range j).filter (leB ks)).map Int.ofNat)) (by with_unfolding_all rfl) (by decide) (by rfl) (by decide) (by rfl) rfl (by omega) ?start2 ?turn2 ?done2
      case start2 =>
        k_steps
        refine' RgStart.mk ?F ?N ?r ?n ?J
        case F => assumption
        case N => assumption
        case r => exact .head _
        case n => omega
        case J => exact ⟨rfl, fun p hp => .tail _ hp, .nil⟩
      case turn2 =>
        rintro j t5 ys nx3 I oI C oC D m₂ h3 tk3 E' hj ⟨hs3, hys⟩ hC hk F3 N3 off3 ne
        have hcp3 := (hcp.mono hs3).tail (p := (D, LCg.lst ys)) |>.tail (p := (C, oC)) |>.tail (p := (I, oI))
        have hP3 := (hP.mono hs3).tail (p := (D, LCg.lst ys)) |>.tail (p := (C, oC)) |>.tail (p := (I, oI))
        k_steps
        refine Halt.o ?_
        k_dflt (refine' ls_neNil (s := ⟨_, _, _, _, _⟩) (vs := vs) ?room ?N ?l ?b ?_)
        case room => ktr_units
        case N => assumption
        case l => exact hP3.tail
        case b => exact LsAt.head
        k_steps
        · have hne0 : 0 < (ks.map Int.ofNat).length := by rw [← hvs.length]; omega
          refine Halt.o ?_
          k_dflt (refine' ls_max (s := ⟨_, _, _, _, _⟩) (ns := ks.map Int.ofNat) rfl ?F ?N ?l hvs hne0 ?_)
          case F => assumption
          case N => assumption
          case l => exact hP3.tail
          intro h9 M t9 tk9 F9 N9 hM hMax
          have hmg := max_leB (j := j) hM hMax
          k_steps
          · have hg : leB ks j = true := hmg.mpr (by omega)
            refine Halt.o ?_
            refine' LCg.CompEnd.intro ?F ?N nx3 ?sub off3 trivial ⟨hs3, ks_yes hys hg (by omega)⟩
            case F => assumption
            case N => assumption
            case sub => exact fun p hp => .tail _ hp
          · have hg : leB ks j = false := by
              cases hq : leB ks j with
              | false => rfl
              | true => have := hmg.mp hq; omega
            refine Halt.o ?_
            refine' LCg.CompEnd.intro ?F ?N nx3 ?sub off3 trivial ⟨hs3, ks_no hys hg⟩
            case F => assumption
            case N => assumption
            case sub => exact fun p hp => .tail _ hp
        · have hng := leB_nil (j := j) hvs (by omega)
          refine Halt.o ?_
          refine' LCg.CompEnd.intro ?F ?N nx3 ?sub off3 trivial ⟨hs3, ks_no hys hng⟩
          case F => assumption
          case N => assumption
          case sub => exact fun p hp => .tail _ hp
      case done2 =>
        rintro D ys nx3 h3 tk3 ⟨hs3, hys⟩ F3 N3 off3
        dsimp only
        k_dflt (refine' st_cell (s := ⟨_, _, _, _, _⟩) F3 N3 rfl (hcpb.mono hs3).tail ?_)
        intro h4 o4 F4 N4 d4
        have hE := ft_end (ps := ps.reverse) (i := i) (m := fun y => if y = Str.ofString "piece" then some (Value.str (S starP) tp) else m₁ y) N3 hs3 hcpb hcn hct hPA hsub2 hit hitp off3 d4 ne1 ne3.symm hlt1 hoff hys (by rw [htk]; exact ft_starStep hks) filter_len hcnit hctit hPAit
        k_steps
        exact ForStep.mk2 (by assumption) (by assumption) hE.1 hE.2
    · rename (S p₁ == Str.ofString "*") = false => hA
      have hne : p₁ ≠ starP := by
        intro es
        rw [str_star, es, eq_S] at hA
        exact absurd rfl (of_decide_eq_false hA)
      refine Halt.o ?_
      k_dflt (refine' get_sgn (s := ⟨_, _, _, _, _⟩) hpp hne (by assumption) (.head _) (by assumption) (by assumption) ?_)
      intro tk4 tk4'
      k_dflt (refine' st_cell (s := ⟨_, _, _, _, _⟩) (by assumption) (by assumption) rfl hct.tail ?_)
      intro h4 o4 F4' N4' d4
      rename News _ _ _ (_ :: nx2) => N8
      have h8 := ft_cell N8 hct hP hPA hcp hcn hit hsub2 d4 ne3 ne2 hitc hlt2
      clear hct hP hPA hcp hcn hit hsub2 N8 d4 hcpb
      generalize putAt _ o4 _ = nx4 at *
      have hP4 := h8.1.1
      have hPA4 := h8.1.2
      have hcp4 := h8.2.1.1
      have hcn4 := h8.2.1.2
      have hct4 := h8.2.2.1.1
      have hit4 := h8.2.2.1.2
      have hsub4 := h8.2.2.2
      have hcpb4 := hcp4.b
      clear h8
      k_steps
      refine Halt.o ?_
      refine comp_listT (l := P) (vs := vs) F4' (fun j ys nx => (∀ p ∈ nx4, p ∈ nx) ∧ IntsAre ys ((((ks.take j).filter (ftf p₁ xs)).map (· - 1)).map Int.ofNat)) (by with_unfolding_all rfl) (by decide) (by rfl) (by decide) (by rfl) rfl (by have := hvs.length; simp at this; omega) ?start2 ?turn2 ?done2
      case start2 =>
        k_steps
        exact LsStart.mk (by assumption) (by assumption) hP4 ⟨rfl, fun p hp => hp, .nil⟩
      case turn2 =>
        rintro j v5 ys nx3 I oI C oC D m₂ h3 tk3 E' hj ⟨hs3, hys⟩ hP2 hC hk F3 N3 off3 ne
        obtain ⟨k, t5, hkj, rfl⟩ := ints_at hvs hj
        clear hj
        have hcn3 := (hcn4.mono hs3).tail (p := (D, LCg.lst ys)) |>.tail (p := (C, oC)) |>.tail (p := (I, oI))
        have hct3 := (hct4.mono hs3).tail (p := (D, LCg.lst ys)) |>.tail (p := (C, oC)) |>.tail (p := (I, oI))
        have hkx := ft_bound hks hkj
        k_steps
        · have hk0 : 0 < k := by omega
          have hk1 : k - 1 < xs.length := by omega
          k_dflt (refine' sub_item (s := ⟨_, _, _, _, _⟩) (k := k - 1) (by omega) (by omega) (by omega) ?_)
          k_steps
          refine Halt.o ?_
          k_dflt (refine' in_sgn (s := ⟨_, _, _, _, _⟩) hpp hne (letter_getD hax hk1) ?_)
          cases hob : okc p₁ (xs.getD (k - 1) 0) with
          | true =>
            k_steps
            refine Halt.o ?_
            refine' LCg.CompEnd.intro ?F ?N nx3 ?sub off3 hP2 ⟨hs3, gk_yes hys hkj (ftf_yes hk0 hob) hk0 rfl⟩
            case F => assumption
            case N => assumption
            case sub => exact fun p hp => hp
          | false =>
            k_steps
            refine Halt.o ?_
            refine' LCg.CompEnd.intro ?F ?N nx3 ?sub off3 hP2 ⟨hs3, gk_no hys hkj (ftf_no hob)⟩
            case F => assumption
            case N => assumption
            case sub => exact fun p hp => hp
        · have hk1 : ¬ 0 < k := by omega
          refine Halt.o ?_
          refine' LCg.CompEnd.intro ?F ?N nx3 ?sub off3 hP2 ⟨hs3, gk_no hys hkj (ftf_out hk1)⟩
          case F => assumption
          case N => assumption
          case sub => exact fun p hp => hp
      case done2 =>
        rintro D ys nx3 h3 tk3 ⟨hs3, hys⟩ hP2 F3 N3 off3
        have hkn : ks.take vs.length = ks := List.take_of_length_le (by have := hvs.length; rw [List.length_map] at this; omega)
        rw [hkn] at hys
        dsimp only
        k_dflt (refine' st_cell (s := ⟨_, _, _, _, _⟩) F3 N3 rfl (hcpb4.mono hs3).tail ?_)
        intro h4 o4 F4 N4 d4
        have hE := ft_end (ps := ps.reverse) (i := i) (m := fun y => if y = Str.ofString "piece" then some (Value.str (S p₁) tp) else m₁ y) N3 hs3 hcpb4 hcn4 hct4.b hPA4 hsub4 hit4 hitp off3 d4 ne1 ne3.symm hlt1 hoff hys (by rw [htk]; exact ft_oneStep hne hks) (gk_len hkl) hcnit hctit hPAit
        k_steps
        exact ForStep.mk2 (by assumption) (by assumption) hE.1 hE.2
  case done =>
    rintro D0 m₁ nx h₁ tk₁ J1 hl2 F1 N1
    dsimp only
    clear F9 N2 hst
    have hJ := id J1
    unfold FtJ at hJ
    obtain ⟨⟨P, vs, ks, hcp, hP, hvs, hks, hkl⟩, ⟨tn, hcn⟩, hct, hsub2⟩ := hJ
    have htk : (ps.reverse.take pvs.reverse.length).reverse = ps := by
      rw [List.take_of_length_le (by simp [hlen]), List.reverse_reverse]
    rw [htk] at hks
    k_steps
    refine Halt.o ?_
    k_dflt (refine' ls_in (s := ⟨_, _, _, _, _⟩) (by assumption) hP hvs ?_)
    k_steps
    refine hret _ _ _ _ (by assumption) (newsSub (by assumption) hsub2) ⟨rfl, _, rfl, ?_⟩
    exact ft_fin hks

end

end

section
section
variable {prog : Program} {w : World} {A : Around} {E : Value → Shared → Prop} {s : Shared} {h₀ : Heap} {L : Addr} {m : Str → Option Value} {nx : Led}
theorem tr_meth {x : Str} {t : Tok} {pl : Sem Bool} {Q : Value × List Value → Shared → Prop} (h : Q (.builtin "str.translate", [.str x t]) s) : wpAny (model prog w) A (getMethod (.str x t) "translate" pl) Q E s :=
  getMethod_builtin rfl PySem.F.plainAttrs_str PySem.F.slot_str_translate PySem.F.type_str_translate (fun a e => nomatch e) h
theorem tr_call {c : Nat} {t : Tok} {q : Params} {Q : Value → Shared → Prop} (X : (Mine.hp.heap_1 q).In s.heap) (F : Fr h₀ L s.heap m) (N : News h₀ L s.heap nx) (hc : c = 97 ∨ c = 65 ∨ c = 98) (hh : A.handled = none)
    (h : ∀ h' tk tk', Fr h₀ L h' m → News h₀ L h' nx → Q (.str (S [c]) tk') { s with heap := h', toks := tk }) : wpAny (model prog w) A (call (.builtin "str.translate") [.str (S [c]) t, .ref 52]) Q E s :=
  let ⟨_, _, _, ho, hE, hd, hk, l1, l2, l3⟩ := o52 (prog := prog) (w := w) X
  translate_c hc ho (by decide) hE hd hk hh (by rcases hc with e | e | e <;> subst e; exact l1; exact l2; exact l3) fun h' tk tk' hk => h h' tk tk' (F.keeps hk) fun p hp => ⟨hk _ _ (N p hp).1, (N p hp).2⟩
end
local macro_rules | `(tactic| walk_at "call builtin:str.translate") => `(tactic| refine Halt.i ?_)
local macro_rules | `(tactic| walk_at "getMethod str") => `(tactic| refine tr_meth ?_)

theorem escape_spec {w : World} (c : Nat) (hc : c = 97 ∨ c = 65 ∨ c = 98) (t : Tok) (news : List (Addr × Obj)) :
    Ctr w 62 2 [.str (S [c]) t] news (fun r nx => nx = news ∧ ∃ tk, r = .str (S [c]) tk) := by
  refine fillme PySem.Challenge.rw_in0056_01 Mine.hp.heap_1 ?_
  k_fill
  intro _
  unfold Ctr
  intro p loose mean mg mb dp un gd cn cs a ccd cl outer A₀ base h₀ L m s Q E B F X N T hk hd hu hret
  refine wpAny_call ?_
  k_dflt ktr_enter
  clear F N
  k_steps
  refine Halt.o ?_
  k_dflt (refine' tr_call (s := ⟨_, _, _, _, _⟩) (q := w.params) ?X ?F ?N hc ?hh ?_)
  case F => assumption
  case N => assumption
  case X => exact Frag.In.keeps (by assumption) (Fr.keep (by assumption))
  case hh => exact rfl
  intro h9 tk9 tk9' F9 N9
  k_steps
  refine hret _ _ _ _ (by assumption) (by assumption) ⟨rfl, _, rfl⟩

end

section
section
variable {prog : Program} {w : World} {A : Around} {E : Value → Shared → Prop} {s : Shared} {Q : Value → Shared → Prop}
theorem lti_yes {a b : Int} {t u : Tok} (hz : a < b) (h : Q (.bool true) s) : wpAny (model prog w) A (compareOp .Lt (.int a t) (.int b u)) Q E s := PyProof.Rows.lt_int (by rw [decide_eq_true hz]; exact h)
theorem lti_no {a b : Int} {t u : Tok} (hz : ¬ a < b) (h : Q (.bool false) s) : wpAny (model prog w) A (compareOp .Lt (.int a t) (.int b u)) Q E s := PyProof.Rows.lt_int (by rw [decide_eq_false hz]; exact h)
theorem gei_no {a b : Int} {t u : Tok} (hz : ¬ b ≤ a) (h : Q (.bool false) s) : wpAny (model prog w) A (compareOp .GtE (.int a t) (.int b u)) Q E s := PyProof.Rows.ge_int (by rw [decide_eq_false hz]; exact h)
theorem eqi_yes {a b : Int} {t u : Tok} (hz : a = b) (h : Q (.bool true) s) : wpAny (model prog w) A (compareOp .Eq (.int a t) (.int b u)) Q E s := PyProof.Rows.eq_int (by rw [hz, beq_self_eq_true]; exact h)
theorem neqs_yes {x y : Str} {t u : Tok} (hz : (x == y) = false) (h : Q (.bool true) s) : wpAny (model prog w) A (compareOp .NotEq (.str x t) (.str y u)) Q E s := PyProof.Rows.ne_str (by rw [bne, hz]; exact h)
theorem neqs_no {x y : Str} {t u : Tok} (hz : (x == y) = true) (h : Q (.bool false) s) : wpAny (model prog w) A (compareOp .NotEq (.str x t) (.str y u)) Q E s := PyProof.Rows.ne_str (by rw [bne, hz]; exact h)
end
section
variable {prog : Program} {w : World} {A : Around} {E : Value → Shared → Prop} {s : Shared} {Q : Value → Shared → Prop}
theorem repl_bs {t : Tok} {c : Nat} (h : ∀ t' k, Q (.str (S [97, 98]) t') { s with toks := k }) : wpAny (model prog w) A (call (.builtin "str.replace") [.str (S [97, 98]) t, .str (Str.ofString "\\") (c + 1), .str (Str.ofString "\\\\") (c + 1 + 1)]) Q E s := by
  refine PySem.SC.replace (Nat.succ_ne_zero _) (Nat.succ_ne_zero _) (Nat.ne_of_lt (Nat.lt_succ_self _)) (by decide +kernel) (by decide +kernel) fun t' k => ?_
  have e : Txt.replace (S [97, 98]) (Str.ofString "\\") (Str.ofString "\\\\") = S [97, 98] := by decide +kernel
  rw [e]; exact h t' k
theorem no_dash {t u : Tok} (h : Q (.bool true) s) : wpAny (model prog w) A (compareOp .NotIn (.str (Str.ofString "-") u) (.str (S [97, 98]) t)) Q E s := by
  refine PySem.P.notIn_str ?_
  have e : (!(!(Builtin.Str.occurrences (S [97, 98]) (Str.ofString "-") 0 (S [97, 98]).length 1).isEmpty)) = true := by decide +kernel
  rw [e]; exact h
end
def BmAt (nx : Led) (b l : Addr) : Prop := (b, bmO "list.append" l) ∈ nx
theorem BmAt.tail {nx : Led} {b l : Addr} {p : Addr × Obj} (h : BmAt nx b l) : BmAt (p :: nx) b l := List.Mem.tail _ h
theorem BmAt.get {h₀ h : Heap} {L b l : Addr} {nx : Led} (N : News h₀ L h nx) (x : BmAt nx b l) : h.get? b = some (bmO "list.append" l) := (N _ x).1
section
variable {M : Model} {A : Around} {E : Value → Shared → Prop} {s : Shared} {env : Env} {pos : Pos} {first : List Value} {Q : Value → Shared → Prop}
theorem keeps_B {b l : Addr} (h : Heap) (X : h.get? b = some (bmO "list.append" l)) : ∃ k, (k = Keeper.frame ∨ k = Keeper.machine ∨ k = Keeper.boundFrame) ∧ Looks M h (keeperOf (.ref b)) k :=
  ⟨.machine, .inr (.inl rfl), (Looks.ld (part := none) X).andThen .now⟩
theorem callWith_B {h₀ : Heap} {L b l : Addr} {nx : Led} {e : Expr} {rest : List Expr} (_N : News h₀ L s.heap nx) (_x : BmAt nx b l) (h : wpAny M A (spliced (backTo pos (starEach (e :: rest) env))) (fun vs s₁ => s₁.heap.get? b = some (bmO "list.append" l) ∧ wpAny M A (call (.ref b) (first ++ vs)) Q E s₁) E s)
    (he : starEach (e :: rest) env = (false, eval e env) :: starEach rest env := by rfl) (hplain : (backTo pos (starEach rest env)).any (·.1) = false := by rfl) :
    wpAny M A (callWith pos (.ref b) first (backTo pos (starEach (e :: rest) env)) []) Q E s := by
  rw [he] at h ⊢
  exact callWith_of (by show ((false || (backTo pos (starEach rest env)).any (·.1)) || false) = false; rw [hplain]; rfl) (fun h X => keeps_B h X) (evalArgs_plain h)
end
section
variable {prog : Program} {w : World} {A : Around} {E : Value → Shared → Prop} {s : Shared} {Q : Value → Shared → Prop}
theorem eqs_yes {x y : Str} {t u : Tok} (hz : (x == y) = true) (h : Q (.bool true) s) : wpAny (model prog w) A (compareOp .Eq (.str x t) (.str y u)) Q E s := eq_str (by rw [hz]; exact h)
theorem eqs_no {x y : Str} {t u : Tok} (hz : (x == y) = false) (h : Q (.bool false) s) : wpAny (model prog w) A (compareOp .Eq (.str x t) (.str y u)) Q E s := eq_str (by rw [hz]; exact h)
end
section
variable {prog : Program} {w : World} {A : Around} {E : Value → Shared → Prop} {s : Shared} {h₀ : Heap} {L l : Addr} {nx : Led} {vs : List Value}
theorem ls_truthT {Q : Bool → Shared → Prop} (N : News h₀ L s.heap nx) (hl : LsAt nx l vs) (hb : vs.length ≤ 1000) (h0 : 0 < vs.length) (h : ∀ tk, Q true { s with toks := tk }) : wpAny (model prog w) A (truthy (.ref l)) Q E s :=
  ls_truth N hl hb (by rw [decide_eq_true h0]; exact h)
theorem ls_truthF {Q : Bool → Shared → Prop} (N : News h₀ L s.heap nx) (hl : LsAt nx l []) (h : ∀ tk, Q false { s with toks := tk }) : wpAny (model prog w) A (truthy (.ref l)) Q E s :=
  ls_truth N hl (by simp) h
end
theorem sub_itemK {prog : Program} {w : World} {A : Around} {E : Value → Shared → Prop} {s : Shared} {value slice : Expr} {l : List Nat} {t : Tok} {Q : Value → Shared → Prop} {k c : Nat} {i : Int} {u : Tok} (hg : l.getD k 0 = c) (hi : i = (k : Int)) (hsz : l.length ≤ 100) (hk : k < l.length) (h : Q (.str (S [c]) s.toks) { s with toks := s.toks + 1 })
    (hs : subscripted slice false (.str (S l) t) (.int i u) = operate [.str (S l) t, .int i u] (getItem (.str (S l) t) (.int i u)) := by with_unfolding_all rfl)
    (ht : ∀ r, letTemporaryGo value (.str (S l) t) r = pure () := by intro _; with_unfolding_all rfl) :
    wpAny (model prog w) A (subscriptTail value slice (.str (S l) t) (.int i u)) Q E s := sub_item hi hsz hk (by rw [hg]; exact h) hs ht
def PartsV (st : Addr) (qs : List (List Nat)) (pvs : List Value) : Prop := ∀ i p v, At qs i p → At pvs i v → PartV st p v
theorem PartsV.snoc {st : Addr} {qs : List (List Nat)} {pvs : List Value} {p : List Nat} {v : Value} (h : PartsV st qs pvs) (hl : pvs.length = qs.length) (hv : PartV st p v) : PartsV st (qs ++ [p]) (pvs ++ [v]) := by
  intro i p' v' h1 h2
  have a1 := h1.e
  have a2 := h2.e
  by_cases hi : i < qs.length
  · rw [List.getElem?_append_left hi] at a1
    rw [List.getElem?_append_left (by omega)] at a2
    exact h i p' v' ⟨a1⟩ ⟨a2⟩
  · have hb := (List.getElem?_eq_some_iff.mp a1).1
    rw [List.length_append, List.length_singleton] at hb
    have e : i = qs.length := by omega
    subst e
    rw [List.getElem?_concat_length] at a1
    rw [← hl, List.getElem?_concat_length] at a2
    cases a1; cases a2
    exact hv
def TlR (ps : List (List Nat)) (st R : Addr) (k : Nat) (nx : Led) : Prop :=
  ∃ (pvs : List Value) (qs : List (List Nat)), LsAt nx R pvs ∧ pvs.length = qs.length ∧ PartsV st qs pvs ∧ (∀ p ∈ qs, Piece p) ∧ qs.length ≤ k ∧ ∀ x, Mt qs x ↔ Mt (ps.take k) x
abbrev lamPos : Pos := ⟨106, 39, 106, 76⟩
def TlP (news : Led) (R b : Addr) (nx : Led) : Prop := (BmAt nx b R ∧ R < b) ∧ 64 < R ∧ Tab lamPos nx ∧ ∀ p ∈ news, p.1 ≠ 64 → p ∈ nx ∧ p.1 < R
theorem str_fin : Str.empty ++ Str.ofString "[" ++ S [97, 98] ++ Str.ofString "]" = S (ptxt clsP) := by decide +kernel
theorem tl_put {news nx : Led} {R b : Addr} {o' : Obj} (h : TlP news R b nx) : TlP news R b (putAt R o' nx) :=
  let ⟨⟨h1, h2⟩, h3, h4, h5⟩ := h
  ⟨⟨putAt_other (p := (b, _)) h1 (Nat.ne_of_gt h2), h2⟩, h3, h4.mono (fun p hp e => putAt_other hp (e ▸ Nat.ne_of_lt h3)), fun p hp e => ⟨putAt_other (h5 p hp e).1 (Nat.ne_of_lt (h5 p hp e).2), (h5 p hp e).2⟩⟩
theorem tl_lam {news nx nx' : Led} {R b f : Addr} {fo : Obj} (h : TlP news R b nx) (hb : But64 nx nx') (ht : Tab lamPos nx') : TlP news R b ((f, fo) :: nx') :=
  let ⟨⟨h1, h2⟩, h3, h4, h5⟩ := h
  ⟨⟨(List.Mem.tail _ (hb (b, _) h1 (Nat.ne_of_gt (Nat.lt_trans h3 h2))) : (b, _) ∈ (f, fo) :: nx'), h2⟩, h3, ht.mono (fun p hp _ => .tail _ hp), fun p hp e => ⟨.tail _ (hb p (h5 p hp e).1 e), (h5 p hp e).2⟩⟩
theorem LsAt.but64 {nx nx' : Led} {l : Addr} {vs : List Value} (x : LsAt nx l vs) (hb : But64 nx nx') (hl : 64 < l) : LsAt nx' l vs := let ⟨o, hm, r⟩ := x; ⟨o, hb _ hm (Nat.ne_of_gt hl), r⟩
def TlJ (ps : List (List Nat)) (st R b : Addr) (news : Led) (t u : Tok) (k : Nat) (m : Str → Option Value) (nx : Led) : Prop :=
  TlR ps st R k nx ∧ TlP news R b nx ∧ (m "pat" = some (.str (S ps.flatten) t) ∧ m "STAR" = some (.ref st) ∧ m "QUESTION_MARK" = some (.str (Str.ofString ".") u)) ∧ (m "res" = some (.ref R) ∧ m "add" = some (.ref b)) ∧ (∃ tk, m "i" = some (.int ((ps.take k).flatten.length : Nat) tk)) ∧ (∃ tk, m "n" = some (.int (ps.flatten.length : Nat) tk))
def TlW (st R b : Addr) (fl : List Nat) (t u : Tok) (i0 d : Nat) (m : Str → Option Value) : Prop :=
  (m "pat" = some (.str (S fl) t) ∧ m "STAR" = some (.ref st) ∧ m "QUESTION_MARK" = some (.str (Str.ofString ".") u)) ∧ (m "res" = some (.ref R) ∧ m "add" = some (.ref b)) ∧ (∃ tk, m "i" = some (.int ((i0 : Int) + 1) tk)) ∧ (∃ tk, m "n" = some (.int (fl.length : Nat) tk)) ∧ (∃ tk, m "j" = some (.int ((i0 : Int) + 1 + (d : Int)) tk))
theorem Piece.len {p : List Nat} (h : Piece p) : 1 ≤ p.length ∧ p.length ≤ 4 := by
  rcases h with e | e | e | e | e | e <;> subst e <;> decide
theorem flat_len {ps : List (List Nat)} (h : ∀ p ∈ ps, Piece p) : ps.flatten.length ≤ 4 * ps.length := by
  induction ps with
  | nil => simp
  | cons p r ih =>
    have h1 := (h p (.head _)).len
    have h2 := ih fun q hq => h q (.tail _ hq)
    simp only [List.flatten_cons, List.length_append, List.length_cons]
    omega
theorem flat_at {ps : List (List Nat)} {k : Nat} {p : List Nat} (h : At ps k p) : ps.flatten = (ps.take k).flatten ++ (p ++ (ps.drop (k + 1)).flatten) := by
  have hk := (List.getElem?_eq_some_iff.mp h.e)
  have e : ps = ps.take k ++ (p :: ps.drop (k + 1)) := by
    obtain ⟨h1, h2⟩ := hk
    rw [← h2, ← List.drop_eq_getElem_cons h1, List.take_append_drop]
  have := congrArg List.flatten e
  rw [List.flatten_append, List.flatten_cons] at this
  exact this
theorem flat_get {ps : List (List Nat)} {k j : Nat} {p : List Nat} (h : At ps k p) (hj : j < p.length) : ps.flatten.getD ((ps.take k).flatten.length + j) 0 = p.getD j 0 := by
  rw [flat_at h]
  simp [List.getD, List.getElem?_append_right, List.getElem?_append_left hj]
theorem flat_cut {ps : List (List Nat)} {k : Nat} (h : At ps k clsP) : (ps.flatten.drop ((ps.take k).flatten.length + 1)).take 2 = [97, 98] := by
  rw [flat_at h, ← List.drop_drop, List.drop_left]
  rfl
section
variable {prog : Program} {w : World} {A : Around} {E : Value → Shared → Prop} {s : Shared} {value slice : Expr} {l : List Nat} {t : Tok} {h₀ : Heap} {L : Addr} {m : Str → Option Value} {nx : Led} {Q : Value → Shared → Prop}
theorem sub_cut {i j : Int} {a n : Nat} {r : List Nat} {ui uj : Tok} (F : Fr h₀ L s.heap m) (N : News h₀ L s.heap nx) (hsz : l.length ≤ 100) (hi : i = (a : Int)) (hj : j = ((a + n : Nat) : Int)) (hn : a + n ≤ l.length) (hr : (l.drop a).take n = r)
    (h : ∀ h' t' c, Fr h₀ L h' m → News h₀ L h' nx → Q (.str (S r) t') { s with heap := h', toks := c })
    (hs : subscripted slice false (.str (S l) t) (.ref s.heap.objs.size) = operate [.ref s.heap.objs.size, .str (S l) t] (getItem (.str (S l) t) (.ref s.heap.objs.size)) := by with_unfolding_all rfl)
    (ht : ∀ r, letTemporaryGo value (.str (S l) t) r = pure () := by intro _; with_unfolding_all rfl) :
    wpAny (model prog w) A (subscriptTail value slice (.str (S l) t) (.ref s.heap.objs.size)) Q E { s with heap := s.heap.push { cls := .type "slice", data := .fields #[.int i ui, .int j uj, .none] } } := by
  subst hi hj hr
  refine slice_strN_ss F N (fun h' t' c F N => ?_) hs ht (by rw [S_len, sizeLine_eq]; omega)
  have e : Txt.slice (S l) (some (a : Int)) (some ((a + n : Nat) : Int)) = S ((l.drop a).take n) := by
    rw [sliceIs, StrLaws.sliceText_nat _ (by omega) (by rw [S_len]; exact hn)]
    simp [S]
  rw [e]
  exact h h' t' c F N
end
theorem flat_succ {ps : List (List Nat)} {k : Nat} {p : List Nat} (h : At ps k p) : (ps.take (k + 1)).flatten.length = (ps.take k).flatten.length + p.length := by
  rw [take_at h, List.flatten_append, List.length_append]; simp
theorem flat_le {ps : List (List Nat)} {k : Nat} {p : List Nat} (h : At ps k p) : (ps.take k).flatten.length + p.length ≤ ps.flatten.length := by
  have := congrArg List.length (flat_at h)
  rw [List.length_append, List.length_append] at this
  omega
theorem flat_lt {ps : List (List Nat)} {k : Nat} (hk : (ps.take k).flatten.length < ps.flatten.length) : k < ps.length := by
  by_cases h : k < ps.length
  · exact h
  · rw [List.take_of_length_le (by omega)] at hk; omega
theorem tl_start {ps : List (List Nat)} {st R b D : Addr} {news : Led} {t u t1 t2 : Tok} {o : Obj} {m : Str → Option Value} (h1 : m "pat" = some (.str (S ps.flatten) t)) (h2 : m "STAR" = some (.ref st)) (h3 : m "QUESTION_MARK" = some (.str (Str.ofString ".") u)) (h4 : m "res" = some (.ref R)) (h5 : m "add" = some (.ref b))
    (ht : Tab lamPos news) (h8 : ∀ p ∈ news, p.1 < R) (h9 : ∀ p ∈ (R, W.listOf #[] 0) :: news, p.1 < b) (h6 : m "i" = some (.int 0 t1)) (h7 : m "n" = some (.int (ps.flatten.length : Nat) t2)) : TlJ ps st R b news t u 0 m ((D, o) :: (b, bmO "list.append" R) :: (R, W.listOf #[] 0) :: news) :=
  ⟨⟨[], [], ⟨_, .tail _ (.tail _ (.head _)), 0, rfl⟩, rfl, fun i p v h => absurd h.e (by simp), (fun p hp => nomatch hp), Nat.zero_le _, (fun x => by rw [List.take_zero])⟩, ⟨⟨(List.Mem.tail _ (List.Mem.head _) : (b, _) ∈ (D, o) :: (b, bmO "list.append" R) :: _), h9 _ (.head _)⟩, (by rcases ht with ht | ⟨c, ht⟩ <;> exact h8 _ ht), ht.mono (fun p hp _ => .tail _ (.tail _ (.tail _ hp))), fun p hp _ => ⟨.tail _ (.tail _ (.tail _ hp)), h8 p hp⟩⟩, ⟨h1, h2, h3⟩, ⟨h4, h5⟩, ⟨t1, by rw [h6]; rfl⟩, ⟨t2, h7⟩⟩
theorem tl_exit {ps : List (List Nat)} {st R b : Addr} {news nx : Led} {t u : Tok} {k : Nat} {m : Str → Option Value} (h : ¬ (ps.take k).flatten.length < ps.flatten.length) (hps : ∀ p ∈ ps, Piece p) (hk9 : k ≤ ps.length) (J : TlJ ps st R b news t u k m nx) : TlJ ps st R b news t u ps.length m nx := by
  by_cases hk : k < ps.length
  · obtain ⟨p, hp⟩ := At.get hk
    have h1 := flat_le hp
    have h2 := (hps p (List.mem_of_getElem? hp.e)).len
    omega
  · obtain ⟨⟨pvs, qs, hR, hRl, hpv, hqs, hql, hmt⟩, a, b, c, d, e⟩ := J
    have e1 : ps.take k = ps := List.take_of_length_le (by omega)
    have e2 : ps.take ps.length = ps := List.take_of_length_le (Nat.le_refl _)
    rw [e1] at d hmt
    exact ⟨⟨pvs, qs, hR, hRl, hpv, hqs, Nat.le_trans hql hk9, by rw [e2]; exact hmt⟩, a, b, c, by rw [e2]; exact d, e⟩
theorem tl_same {ps qs' : List (List Nat)} {k : Nat} (hp : At ps k starP) (hm : ∀ x, Mt (qs' ++ [starP]) x ↔ Mt (ps.take k) x) (x : List Nat) : Mt (qs' ++ [starP]) x ↔ Mt (ps.take (k + 1)) x := by
  rw [take_at hp]
  refine Mt.snoc_star2.symm.trans (Mt.snoc_star.trans (Iff.trans ?_ Mt.snoc_star.symm))
  constructor
  · rintro ⟨j, hj, h⟩; exact ⟨j, hj, (hm _).mp h⟩
  · rintro ⟨j, hj, h⟩; exact ⟨j, hj, (hm _).mpr h⟩
theorem snocs {pvs : List Value} {qs : List (List Nat)} {st : Addr} (hl : pvs.length = qs.length) (hpv : PartsV st qs pvs) : pvs = [] ∨ ∃ pvs' v qs' q, pvs = pvs' ++ [v] ∧ qs = qs' ++ [q] ∧ PartV st q v := by
  rcases List.eq_nil_or_concat pvs with h | ⟨a, v, h⟩
  · exact .inl h
  · rcases List.eq_nil_or_concat qs with h2 | ⟨c, q, h2⟩
    · rw [h, h2] at hl; simp at hl
    · subst h h2
      simp at hl
      refine .inr ⟨a, v, c, q, by simp, by simp, hpv c.length q v ⟨by simp⟩ ⟨by simp [← hl]⟩⟩
/-- a part more -/
theorem tl_more {ps : List (List Nat)} {st R : Addr} {nx : Led} {k : Nat} {p : List Nat} {v : Value} {pvs : List Value} {qs : List (List Nat)} {o' : Obj} (hp : At ps k p) (hpp : Piece p) (hl : LsAt nx R pvs) (hlen : pvs.length = qs.length) (hpv : PartsV st qs pvs) (hqs : ∀ p ∈ qs, Piece p) (hk : qs.length ≤ k) (hm : ∀ x, Mt qs x ↔ Mt (ps.take k) x)
    (hv : PartV st p v) (hO : IsLs o' (pvs ++ [v])) : TlR ps st R (k + 1) (putAt R o' nx) := by
  refine ⟨pvs ++ [v], qs ++ [p], hl.put hO, by simp [hlen], hpv.snoc hlen hv, fun q hq => ?_, by simp; omega, fun x => ?_⟩
  · rcases List.mem_append.mp hq with h | h
    · exact hqs q h
    · rw [List.mem_singleton.mp h]; exact hpp
  · rw [take_at hp, Mt.append_iff, Mt.append_iff]
    constructor
    · rintro ⟨a, c, e, h1, h2⟩; exact ⟨a, c, e, (hm a).mp h1, h2⟩
    · rintro ⟨a, c, e, h1, h2⟩; exact ⟨a, c, e, (hm a).mpr h1, h2⟩
local macro_rules | `(tactic| walk_at "eval Lambda") => `(tactic| refine Halt.i ?_)
local macro_rules | `(tactic| walk_at "getMethod ref") => `(tactic| k_dflt ((refine' re_meth ?X ?_); (case X => exact Frag.In.keeps (by assumption) (Fr.keep (by assumption)))))
local macro_rules | `(tactic| walk_at "call builtin:re.Pattern.sub") => `(tactic| refine Halt.i ?_)
local macro_rules | `(tactic| walk_at "subscriptTail Name Slice str ref") => `(tactic| refine Halt.i ?_)
local macro_rules | `(tactic| walk_at "call builtin:str.replace") => `(tactic| refine Halt.i ?_)
local macro_rules | `(tactic| walk_at "compareOp NotIn str str") => `(tactic| refine Halt.i ?_)
local macro_rules | `(tactic| walk_at "compareOp Eq int int") => `(tactic| refine eqi_yes rfl ?_)
local macro_rules | `(tactic| walk_at "subscriptTail Name Name str int") => `(tactic| refine Halt.i ?_)
local macro_rules | `(tactic| walk_at "compareOp Lt int int") => `(tactic| first | (refine lti_yes (by omega) ?_) | (refine lti_no (by omega) ?_))
local macro_rules | `(tactic| walk_at "compareOp GtE int int") => `(tactic| first | (refine gei_no (by omega) ?_))
local macro_rules | `(tactic| walk_at "compareOp NotEq str str") => `(tactic| first | (refine neqs_no (by decide +kernel) ?_) | (refine neqs_yes (by decide +kernel) ?_))
local macro_rules | `(tactic| walk_at "truthy ref") => `(tactic| refine Halt.i ?_)
local macro_rules | `(tactic| walk_at "compareOp IsNot ref ref") => `(tactic| refine PySem.wpAny_isNot_ref_self ?_)
local macro_rules | `(tactic| walk_at "compareOp IsNot str ref") => `(tactic| refine isnot_str_ref ?_)
local macro_rules | `(tactic| kcf_m) => `(tactic| ((with_reducible show BmAt (_ :: _) _ _); exact BmAt.tail (by kcf_m)))
local macro_rules | `(tactic| walk_at "callWith ref") => `(tactic| (k_here; k_dflt (refine' callWith_B ?N ?x ?_; (case N => assumption); (case x => kcf_m); k_whole)))
local macro_rules | `(tactic| walk_at "And") => `(tactic| ((with_reducible show (_ = some (bmO _ _)) ∧ _); refine ⟨?a, ?_⟩; (case a => exact BmAt.get (by assumption) (by kcf_m))))
local macro_rules | `(tactic| walk_at "compareOp Eq str str") => `(tactic| first | (refine eqs_no (by decide +kernel) ?_) | (refine eqs_yes (by decide +kernel) ?_))
local macro_rules | `(tactic| walk_at "getAttr ref") => `(tactic| k_dflt ((refine' bm_make ?F ?N ?l ?_); (case F => assumption); (case N => assumption); (case l => kcf_m); intro b9 h9 tk9 F9 N9 l9))
local macro_rules | `(tactic| walk_at "subscriptTail") => `(tactic| ((with_reducible show wpAny _ _ (subscriptTail _ _ (Value.ref _) (Value.int _ _)) _ _ _); refine Halt.i ?_))
local macro_rules | `(tactic| walk_at "call builtin:list.append") => `(tactic| refine Halt.i ?_)
theorem translate_spec {w : World} (st : Addr) (ps : List (List Nat)) (hps : ∀ p ∈ ps, Piece p) (hlp : ps.length ≤ 6) (t u : Tok) (news : List (Addr × Obj)) (htab : Tab lamPos news) :
    Ctr w 69 8 [.str (S ps.flatten) t, .ref st, .str (Str.ofString ".") u] news (fun r nx => (But64 news nx ∧ Tab lamPos nx) ∧ ∃ (P : Addr) (pvs : List Value) (qs : List (List Nat)), r = .ref P ∧ LsAt nx P pvs ∧ pvs.length = qs.length ∧ (∀ i p v, At qs i p → At pvs i v → PartV st p v) ∧ (∀ p ∈ qs, Piece p) ∧ qs.length ≤ ps.length ∧ ∀ x, Mt qs x ↔ Mt ps x) := by
  refine fillme PySem.Challenge.rw_in0056_01 Mine.hp.heap_1 ?_
  k_fill
  intro _
  unfold Ctr
  intro p loose mean mg mb dp un gd cn cs a ccd cl outer A₀ base h₀ L m s Q E B F X N T hk hd hu hret
  refine wpAny_call ?_
  k_dflt ktr_enter
  clear F N
  have hfl : ps.flatten.length ≤ 24 := Nat.le_trans (flat_len hps) (by omega)
  k_steps
  refine Halt.o ?_
  rename Fr _ _ _ _ => F1
  rename News _ _ _ _ => N1
  refine while_x (n₀ := ps.length - 0) (fun n m₁ nx => ∃ k R b, n = ps.length - k ∧ k ≤ ps.length ∧ TlJ ps st R b news t u k m₁ nx) (fun m₁ nx => ∃ R b, TlJ ps st R b news t u ps.length m₁ nx) F1 N1 ⟨0, _, _, rfl, Nat.zero_le _, tl_start rfl rfl rfl rfl rfl htab (by assumption) (by assumption) rfl rfl⟩ ?turn ?done
  case turn =>
    rintro n m₁ nx h₁ tk₁ F2 N2 ⟨k, R, b, en, hkl9, hJ⟩
    subst en
    clear F1 N1
    unfold TlJ at hJ
    obtain ⟨⟨pvs, qs, hR, hRl, hpv, hqs, hql, hmt⟩, hP, ⟨m1, m2, m3⟩, ⟨m4, m5⟩, ⟨ti, m6⟩, ⟨tn, m7⟩⟩ := hJ
    have hb : BmAt nx b R := hP.1.1
    k_steps
    · rename decide (((ps.take k).flatten.length : Int) < (ps.flatten.length : Int)) = true => hd0
      have hd1 := of_decide_eq_true hd0
      have hkl := flat_lt (ps := ps) (k := k) (by omega)
      obtain ⟨p₁, hp₁⟩ := At.get hkl
      have hpp := hps p₁ (List.mem_of_getElem? hp₁.e)
      have hpp' := hpp
      have hle := flat_le hp₁
      have hsucc := flat_succ hp₁
      have hg := fun j => flat_get (j := j) hp₁
      have hpl := hpp.len.1
      have hg0 := hg 0 hpl
      rw [Nat.add_zero] at hg0
      rcases hpp with rfl | rfl | rfl | rfl | rfl | rfl
      · have hg0 : ps.flatten.getD (ps.take k).flatten.length 0 = 97 := hg0
        refine Halt.o ?_
        k_dflt (refine' sub_itemK (s := ⟨_, _, _, _, _⟩) hg0 rfl (by omega) (by omega) ?_)
        k_steps
        refine Halt.o ?_
        k_dflt (refine' ctr_use (escape_spec 97 (.inl rfl) _ _) ?B ?F ?X ?N ?T ?hk ?dp ?un ?_)
        case B => k_asm
        case F => k_asm
        case X => k_asm
        case N => k_asm
        case T => k_asm
        case hk => exact rfl
        case dp => ktr_room
        case un => ktr_units
        rintro _ _ h8 tk8 F8 N8 ⟨e8, t8, f8⟩
        subst e8
        subst f8
        (try dsimp only)
        k_steps
        refine Halt.o ?_
        k_dflt (refine' bm_append (s := ⟨_, _, _, _, _⟩) F8 N8 hb hR (by omega) ?_)
        intro h9 o9 F9 N9 hO
        k_steps
        refine' WhStep.mk (n' := ps.length - (k + 1)) ?F ?N ?lt ?J
        case F => assumption
        case N => assumption
        case lt => omega
        case J => exact ⟨k + 1, R, b, rfl, hkl, tl_more hp₁ hpp' hR hRl hpv hqs hql hmt (.inr ⟨by decide, _, rfl⟩) hO, tl_put hP, ⟨m1, m2, m3⟩, ⟨m4, m5⟩, ⟨_, by rw [hsucc]; rfl⟩, ⟨_, m7⟩⟩
      · have hg0 : ps.flatten.getD (ps.take k).flatten.length 0 = 65 := hg0
        refine Halt.o ?_
        k_dflt (refine' sub_itemK (s := ⟨_, _, _, _, _⟩) hg0 rfl (by omega) (by omega) ?_)
        k_steps
        refine Halt.o ?_
        k_dflt (refine' ctr_use (escape_spec 65 (.inr (.inl rfl)) _ _) ?B ?F ?X ?N ?T ?hk ?dp ?un ?_)
        case B => k_asm
        case F => k_asm
        case X => k_asm
        case N => k_asm
        case T => k_asm
        case hk => exact rfl
        case dp => ktr_room
        case un => ktr_units
        rintro _ _ h8 tk8 F8 N8 ⟨e8, t8, f8⟩
        subst e8
        subst f8
        (try dsimp only)
        k_steps
        refine Halt.o ?_
        k_dflt (refine' bm_append (s := ⟨_, _, _, _, _⟩) F8 N8 hb hR (by omega) ?_)
        intro h9 o9 F9 N9 hO
        k_steps
        refine' WhStep.mk (n' := ps.length - (k + 1)) ?F ?N ?lt ?J
        case F => assumption
        case N => assumption
        case lt => omega
        case J => exact ⟨k + 1, R, b, rfl, hkl, tl_more hp₁ hpp' hR hRl hpv hqs hql hmt (.inr ⟨by decide, _, rfl⟩) hO, tl_put hP, ⟨m1, m2, m3⟩, ⟨m4, m5⟩, ⟨_, by rw [hsucc]; rfl⟩, ⟨_, m7⟩⟩
      · have hg0 : ps.flatten.getD (ps.take k).flatten.length 0 = 98 := hg0
        refine Halt.o ?_
        k_dflt (refine' sub_itemK (s := ⟨_, _, _, _, _⟩) hg0 rfl (by omega) (by omega) ?_)
        k_steps
        refine Halt.o ?_
        k_dflt (refine' ctr_use (escape_spec 98 (.inr (.inr rfl)) _ _) ?B ?F ?X ?N ?T ?hk ?dp ?un ?_)
        case B => k_asm
        case F => k_asm
        case X => k_asm
        case N => k_asm
        case T => k_asm
        case hk => exact rfl
        case dp => ktr_room
        case un => ktr_units
        rintro _ _ h8 tk8 F8 N8 ⟨e8, t8, f8⟩
        subst e8
        subst f8
        (try dsimp only)
        k_steps
        refine Halt.o ?_
        k_dflt (refine' bm_append (s := ⟨_, _, _, _, _⟩) F8 N8 hb hR (by omega) ?_)
        intro h9 o9 F9 N9 hO
        k_steps
        refine' WhStep.mk (n' := ps.length - (k + 1)) ?F ?N ?lt ?J
        case F => assumption
        case N => assumption
        case lt => omega
        case J => exact ⟨k + 1, R, b, rfl, hkl, tl_more hp₁ hpp' hR hRl hpv hqs hql hmt (.inr ⟨by decide, _, rfl⟩) hO, tl_put hP, ⟨m1, m2, m3⟩, ⟨m4, m5⟩, ⟨_, by rw [hsucc]; rfl⟩, ⟨_, m7⟩⟩
      · have hg0 : ps.flatten.getD (ps.take k).flatten.length 0 = 63 := hg0
        refine Halt.o ?_
        k_dflt (refine' sub_itemK (s := ⟨_, _, _, _, _⟩) hg0 rfl (by omega) (by omega) ?_)
        k_steps
        refine Halt.o ?_
        k_dflt (refine' bm_append (s := ⟨_, _, _, _, _⟩) (by assumption) (by assumption) hb hR (by omega) ?_)
        intro h9 o9 F9 N9 hO
        k_steps
        refine' WhStep.mk (n' := ps.length - (k + 1)) ?F ?N ?lt ?J
        case F => assumption
        case N => assumption
        case lt => omega
        case J => exact ⟨k + 1, R, b, rfl, hkl, tl_more hp₁ hpp' hR hRl hpv hqs hql hmt (.inr ⟨by decide, _, congrArg (fun x => Value.str x _) str_dot⟩) hO, tl_put hP, ⟨m1, m2, m3⟩, ⟨m4, m5⟩, ⟨_, by rw [hsucc]; rfl⟩, ⟨_, m7⟩⟩
      · have hg0 : ps.flatten.getD (ps.take k).flatten.length 0 = 42 := hg0
        refine Halt.o ?_
        k_dflt (refine' sub_itemK (s := ⟨_, _, _, _, _⟩) hg0 rfl (by omega) (by omega) ?_)
        rcases snocs hRl hpv with e0 | ⟨pvs', v, qs', q, e1, e2, hvq⟩
        · subst e0
          k_steps
          refine Halt.o ?_
          k_dflt (refine' ls_truthF (s := ⟨_, _, _, _, _⟩) (by assumption) hR ?_)
          intro tk9
          k_steps
          refine Halt.o ?_
          k_dflt (refine' bm_append (s := ⟨_, _, _, _, _⟩) (by assumption) (by assumption) hb hR (by omega) ?_)
          intro h9 o9 F9 N9 hO
          k_steps
          refine' WhStep.mk (n' := ps.length - (k + 1)) ?F ?N ?lt ?J
          case F => assumption
          case N => assumption
          case lt => omega
          case J => exact ⟨k + 1, R, b, rfl, hkl, tl_more hp₁ hpp' hR hRl hpv hqs hql hmt (.inl ⟨rfl, rfl⟩) hO, tl_put hP, ⟨m1, m2, m3⟩, ⟨m4, m5⟩, ⟨_, by rw [hsucc]; rfl⟩, ⟨_, m7⟩⟩
        · subst e1
          subst e2
          k_steps
          refine Halt.o ?_
          k_dflt (refine' ls_truthT (s := ⟨_, _, _, _, _⟩) (by assumption) hR (by omega) (by simp) ?_)
          intro tk9
          k_steps
          refine Halt.o ?_
          k_dflt (refine' ls_getNeg (s := ⟨_, _, _, _, _⟩) (j := 1) (v := v) (by assumption) hR rfl (by decide) (by simp) (by simp at hRl hql; simp; omega) (by simp) ?_)
          rcases hvq with ⟨rfl, rfl⟩ | ⟨hq, tq, rfl⟩
          · k_steps
            refine' WhStep.mk (n' := ps.length - (k + 1)) ?F ?N ?lt ?J
            case F => assumption
            case N => assumption
            case lt => omega
            case J => exact ⟨k + 1, R, b, rfl, hkl, ⟨pvs' ++ [.ref st], qs' ++ [starP], hR, hRl, hpv, hqs, Nat.le_succ_of_le hql, tl_same hp₁ hmt⟩, hP, ⟨m1, m2, m3⟩, ⟨m4, m5⟩, ⟨_, by rw [hsucc]; rfl⟩, ⟨_, m7⟩⟩
          · k_steps
            refine Halt.o ?_
            k_dflt (refine' bm_append (s := ⟨_, _, _, _, _⟩) (by assumption) (by assumption) hb hR (by omega) ?_)
            intro h9 o9 F9 N9 hO
            k_steps
            refine' WhStep.mk (n' := ps.length - (k + 1)) ?F ?N ?lt ?J
            case F => assumption
            case N => assumption
            case lt => omega
            case J => exact ⟨k + 1, R, b, rfl, hkl, tl_more hp₁ hpp' hR hRl hpv hqs hql hmt (.inl ⟨rfl, rfl⟩) hO, tl_put hP, ⟨m1, m2, m3⟩, ⟨m4, m5⟩, ⟨_, by rw [hsucc]; rfl⟩, ⟨_, m7⟩⟩
      · have hg0 : ps.flatten.getD (ps.take k).flatten.length 0 = 91 := hg0
        refine Halt.o ?_
        k_dflt (refine' sub_itemK (s := ⟨_, _, _, _, _⟩) hg0 rfl (by omega) (by omega) ?_)
        have hg1 : ps.flatten.getD ((ps.take k).flatten.length + 1) 0 = 97 := hg 1 (by decide)
        have hg2 : ps.flatten.getD ((ps.take k).flatten.length + 2) 0 = 98 := hg 2 (by decide)
        have hg3 : ps.flatten.getD ((ps.take k).flatten.length + 3) 0 = 93 := hg 3 (by decide)
        have hle4 : (ps.take k).flatten.length + 4 ≤ ps.flatten.length := hle
        have hcut : (ps.flatten.drop ((ps.take k).flatten.length + 1)).take 2 = [97, 98] := flat_cut hp₁
        have hsucc4 : (ps.take (k + 1)).flatten.length = (ps.take k).flatten.length + 4 := hsucc
        clear hsucc hle hg hpl
        generalize hi0 : (ps.take k).flatten.length = i0 at *
        generalize hfle : ps.flatten = fl at *
        k_steps
        refine Halt.o ?_
        k_dflt (refine' sub_itemK (s := ⟨_, _, _, _, _⟩) hg1 (by omega) (by omega) (by omega) ?_)
        k_steps
        refine Halt.o ?_
        k_dflt (refine' sub_itemK (s := ⟨_, _, _, _, _⟩) hg1 (by omega) (by omega) (by omega) ?_)
        k_steps
        refine Halt.o ?_
        rename Fr _ _ _ _ => Fw
        rename News _ _ _ _ => Nw
        refine while_x (n₀ := 2 - 0) (fun n m₂ nx₂ => ∃ d, n = 2 - d ∧ d ≤ 2 ∧ TlW st R b fl t u i0 d m₂ ∧ nx₂ = nx) (fun m₂ nx₂ => TlW st R b fl t u i0 2 m₂ ∧ nx₂ = nx) Fw Nw ⟨0, rfl, by omega, ⟨⟨m1, m2, m3⟩, ⟨m4, m5⟩, ⟨_, rfl⟩, ⟨_, m7⟩, intSome (by omega)⟩, rfl⟩ ?turn2 ?done2
        case turn2 =>
          rintro n m₂ nx₂ h₂ tk₂ F3 N3 ⟨d, en2, hd2, ⟨⟨q1, q2, q3⟩, ⟨q4, q5⟩, ⟨ti2, q6⟩, ⟨tn2, q7⟩, ⟨tj, q8⟩⟩, hnx⟩
          subst en2
          subst hnx
          clear Fw Nw
          have hd3 : d = 0 ∨ d = 1 ∨ d = 2 := by omega
          rcases hd3 with rfl | rfl | rfl
          · k_steps
            refine Halt.o ?_
            k_dflt (refine' sub_itemK (s := ⟨_, _, _, _, _⟩) hg1 (by omega) (by omega) (by omega) ?_)
            k_steps
            refine' WhStep.mk (n' := 2 - 1) ?F ?N ?lt ?J
            case F => assumption
            case N => assumption
            case lt => omega
            case J => exact ⟨1, rfl, by omega, ⟨⟨q1, q2, q3⟩, ⟨q4, q5⟩, ⟨_, q6⟩, ⟨_, q7⟩, intSome (by omega)⟩, rfl⟩
          · k_steps
            refine Halt.o ?_
            k_dflt (refine' sub_itemK (s := ⟨_, _, _, _, _⟩) hg2 (by omega) (by omega) (by omega) ?_)
            k_steps
            refine' WhStep.mk (n' := 2 - 2) ?F ?N ?lt ?J
            case F => assumption
            case N => assumption
            case lt => omega
            case J => exact ⟨2, rfl, by omega, ⟨⟨q1, q2, q3⟩, ⟨q4, q5⟩, ⟨_, q6⟩, ⟨_, q7⟩, intSome (by omega)⟩, rfl⟩
          · k_steps
            refine Halt.o ?_
            k_dflt (refine' sub_itemK (s := ⟨_, _, _, _, _⟩) hg3 (by omega) (by omega) (by omega) ?_)
            k_steps
            refine' WhExit.mk ?F ?N ?J
            case F => assumption
            case N => assumption
            case J => exact ⟨⟨⟨q1, q2, q3⟩, ⟨q4, q5⟩, ⟨_, q6⟩, ⟨_, q7⟩, ⟨_, q8⟩⟩, rfl⟩
        case done2 =>
          rintro m₂ nx₂ h₂ tk₂ F3 N3 ⟨⟨⟨q1, q2, q3⟩, ⟨q4, q5⟩, ⟨ti2, q6⟩, ⟨tn2, q7⟩, ⟨tj, q8⟩⟩, hnx⟩
          subst hnx
          clear Fw Nw
          dsimp only
          k_steps
          refine Halt.o ?_
          k_dflt (refine' sub_cut (s := ⟨_, _, _, _, _⟩) (a := i0 + 1) (n := 2) (by assumption) (by assumption) (by omega) (by omega) (by omega) (by omega) hcut ?_)
          intro h8 t8 c8 F8 N8
          k_steps
          refine Halt.o ?_
          k_dflt (refine' no_dash (s := ⟨_, _, _, _, _⟩) ?_)
          k_steps
          refine Halt.o ?_
          k_dflt (refine' repl_bs (s := ⟨_, _, _, _, _⟩) ?_)
          intro t7 c7
          k_steps
          refine Halt.o ?_
          k_dflt (refine' lam_eval (s := ⟨_, _, _, _, _⟩) ?F ?N ?T ?X hP.2.2.1 rfl rfl ?_)
          case F => assumption
          case N => assumption
          case T => assumption
          case X => assumption
          intro f6 fo6 nx6 h6 tk6 F6 N6 hf6 hb6 ht6
          have hP6 : TlP news R b ((f6, fo6) :: nx6) := tl_lam hP hb6 ht6
          have hR6 : LsAt ((f6, fo6) :: nx6) R pvs := (hR.but64 hb6 hP.2.1).tail
          have hbm6 : BmAt ((f6, fo6) :: nx6) b R := hP6.1.1
          k_steps
          refine Halt.o ?_
          k_dflt (refine' re_call (s := ⟨_, _, _, _, _⟩) (q := w.params) ?X F6 N6 (.head _) hf6 ?_)
          case X => exact Frag.In.keeps (by assumption) F6.keep
          intro h5 tk5 tk5' F5 N5
          k_steps
          · refine Halt.o ?_
            rename News _ _ _ (_ :: (f6, fo6) :: nx6) => N7
            k_dflt (refine' bm_append (s := ⟨_, _, _, _, _⟩) (by assumption) (newsSub N7 fun p hp => .tail _ hp) hbm6 hR6 (by omega) ?_)
            intro h9 o9 F9 N9 hO
            k_steps
            refine' WhStep.mk (n' := ps.length - (k + 1)) ?F ?N ?lt ?J
            case F => assumption
            case N => assumption
            case lt => omega
            case J =>
              subst hfle
              exact ⟨k + 1, R, b, rfl, hkl, tl_more hp₁ hpp' hR6 hRl hpv hqs hql hmt (.inr ⟨by decide, _, congrArg (fun x => Value.str x _) str_fin⟩) hO, tl_put hP6, ⟨q1, q2, q3⟩, ⟨q4, q5⟩, intSome (by rw [hsucc4]; omega), ⟨_, q7⟩⟩
          · rename _ = 0 => hz
            exact absurd hz (by decide)
    · rename decide (((ps.take k).flatten.length : Int) < (ps.flatten.length : Int)) = false => hd0
      have hd1 := of_decide_eq_false hd0
      refine' WhExit.mk ?F ?N ?J
      case F => assumption
      case N => assumption
      case J => exact ⟨R, b, tl_exit (by omega) hps hkl9 ⟨⟨pvs, qs, hR, hRl, hpv, hqs, hql, hmt⟩, hP, ⟨m1, m2, m3⟩, ⟨m4, m5⟩, ⟨ti, m6⟩, ⟨tn, m7⟩⟩⟩
  case done =>
    rintro m₁ nx h₁ tk₁ F2 N2 ⟨R, b, hJ⟩
    clear F1 N1
    unfold TlJ at hJ
    obtain ⟨⟨pvs, qs, hR, hRl, hpv, hqs, hql, hmt⟩, hP, ⟨m1, m2, m3⟩, ⟨m4, m5⟩, ⟨ti, m6⟩, ⟨tn, m7⟩⟩ := hJ
    have e2 : ps.take ps.length = ps := List.take_of_length_le (Nat.le_refl _)
    rw [e2] at m6 hmt
    dsimp only
    k_steps
    refine hret _ _ _ _ (by assumption) (by assumption) ⟨⟨fun p hp e => (hP.2.2.2 p hp e).1, hP.2.2.1⟩, R, pvs, qs, rfl, hR, hRl, hpv, hqs, hql, hmt⟩

end

section
local macro_rules | `(tactic| walk_at "exec For") => `(tactic| refine Halt.i ?_)
local macro_rules | `(tactic| walk_at "exec For Name Name cons nil") => `(tactic| refine Halt.i ?_)

section
section
variable {prog : Program} {w : World} {A : Around} {E : Value → Shared → Prop} {s : Shared} {Q : Value → Shared → Prop}
theorem add_S {a b : List Nat} {t u : Tok} (ha : 0 < a.length) (hb : 0 < b.length) (hz : a.length + b.length ≤ 100) (h : ∀ tk, Q (.str (S (a ++ b)) s.toks) { s with toks := tk }) : wpAny (model prog w) A (binaryOp .Add (.str (S a) t) (.str (S b) u)) Q E s := by
  refine PySem.P.add_str ?_
  have e1 : ((S a).length == 0) = false := by rw [S_len]; simp; intro e; rw [e] at ha; simp at ha
  have e2 : ((S b).length == 0) = false := by rw [S_len]; simp; intro e; rw [e] at hb; simp at hb
  have e3 : S a ++ S b = S (a ++ b) := by show (⟨_⟩ : Str) = ⟨_⟩; simp [S]
  simp only [e1, e2, Bool.false_eq_true, if_false, e3]
  exact ⟨by rw [S_len, sizeLine_eq]; simp; omega, h _⟩
theorem sub_letters {value slice : Expr} {x : Str} {l : List Nat} {i : Int} {t u : Tok} (hx : x = S l) (hl : ∀ c ∈ l, Letter c) (hn : l.length ≤ 10) (h0 : 0 ≤ i) (hi : i < l.length) (h : ∀ c, Letter c → Q (.str (S [c]) s.toks) { s with toks := s.toks + 1 })
    (hs : subscripted slice false (.str x t) (.int i u) = operate [.str x t, .int i u] (getItem (.str x t) (.int i u)) := by with_unfolding_all rfl)
    (ht : ∀ r, letTemporaryGo value (.str x t) r = pure () := by intro _; with_unfolding_all rfl) :
    wpAny (model prog w) A (subscriptTail value slice (.str x t) (.int i u)) Q E s := by
  subst hx
  refine sub_item (k := i.toNat) (by omega) (by omega) (by omega) (h _ (hl _ ?_)) hs ht
  have : i.toNat < l.length := by omega
  simp [this]
end
def StrsV : List (List Nat) → List Value → Prop
  | [], [] => True
  | x :: xs, v :: vs => PieceV x v ∧ StrsV xs vs
  | _, _ => False
theorem StrsV.len : ∀ {xs : List (List Nat)} {vs : List Value}, StrsV xs vs → vs.length = xs.length
  | [], [], _ => rfl
  | _ :: _, _ :: _, h => by rw [List.length_cons, List.length_cons, StrsV.len h.2]
  | [], _ :: _, h => h.elim
  | _ :: _, [], h => h.elim
theorem StrsV.snoc : ∀ {xs : List (List Nat)} {vs : List Value} {x : List Nat} {v : Value}, StrsV xs vs → PieceV x v → StrsV (xs ++ [x]) (vs ++ [v])
  | [], [], _, _, _, hv => ⟨hv, trivial⟩
  | _ :: _, _ :: _, _, _, h, hv => ⟨h.1, StrsV.snoc h.2 hv⟩
  | [], _ :: _, _, _, h, _ => h.elim
  | _ :: _, [], _, _, h, _ => h.elim
theorem StrsV.at : ∀ {xs : List (List Nat)} {vs : List Value}, StrsV xs vs → ∀ i x v, At xs i x → At vs i v → PieceV x v
  | [], [], _, i, x, v, h, _ => absurd h.e (by simp)
  | _ :: _, _ :: _, h, 0, x, v, h1, h2 => by
    have a := h1.e; have b := h2.e
    simp at a b
    subst a b
    exact h.1
  | _ :: _, _ :: _, h, i + 1, x, v, h1, h2 => StrsV.at h.2 i x v ⟨by have := h1.e; simpa using this⟩ ⟨by have := h2.e; simpa using this⟩
  | [], _ :: _, h, _, _, _, _, _ => h.elim
  | _ :: _, [], h, _, _, _, _, _ => h.elim
theorem str_ab3 : Str.ofString "aAb" = S [97, 65, 98] := by decide +kernel
theorem str_aB : Str.ofString "aB" = S [97, 66] := by decide +kernel
theorem fm_pos (x : Int) {k : Int} (hk : 0 < k) : 0 ≤ x.fmod k ∧ x.fmod k < k := by
  rw [Int.fmod_eq_emod_of_nonneg _ (by omega)]
  exact ⟨Int.emod_nonneg _ (by omega), Int.emod_lt_of_pos _ hk⟩
theorem fd_nat (l : Nat) : ((l : Int)).fdiv 3 = ((l / 3 : Nat) : Int) := by
  rw [Int.fdiv_eq_ediv_of_nonneg _ (by omega)]
  omega
section
variable {prog : Program} {w : World} {A : Around} {E : Value → Shared → Prop} {s : Shared} {Q : Value → Shared → Prop}
theorem sub_menu {value slice : Expr} {x : Str} {l : List Nat} {i k : Int} {t u : Tok} (hx : x = S l) (hl : ∀ c ∈ l, Letter c) (hn : l.length ≤ 10) (hk : k = l.length) (hk0 : 0 < k) (h : ∀ c, Letter c → Q (.str (S [c]) s.toks) { s with toks := s.toks + 1 })
    (hs : subscripted slice false (.str x t) (.int (i.fmod k) u) = operate [.str x t, .int (i.fmod k) u] (getItem (.str x t) (.int (i.fmod k) u)) := by with_unfolding_all rfl)
    (ht : ∀ r, letTemporaryGo value (.str x t) r = pure () := by intro _; with_unfolding_all rfl) :
    wpAny (model prog w) A (subscriptTail value slice (.str x t) (.int (i.fmod k) u)) Q E s :=
  sub_letters hx hl hn (fm_pos i hk0).1 (hk ▸ (fm_pos i hk0).2) h hs ht
end
theorem menu6 {t1 t2 t3 t4 t5 t6 : Tok} (k : Nat) (hk : k < 6) : ∃ p v, At ([.str (Str.ofString "a") t1, .str (Str.ofString "A") t2, .str (Str.ofString "b") t3, .str (Str.ofString "?") t4, .str (Str.ofString "*") t5, .str (Str.ofString "[ab]") t6] : List Value) k v ∧ Piece p ∧ PieceV p v := by
  have e : k = 0 ∨ k = 1 ∨ k = 2 ∨ k = 3 ∨ k = 4 ∨ k = 5 := by omega
  rcases e with e | e | e | e | e | e <;> subst e
  · exact ⟨[97], _, ⟨rfl⟩, .inl rfl, _, congrArg (fun x => Value.str x t1) (show Str.ofString "a" = S [97] by decide +kernel)⟩
  · exact ⟨[65], _, ⟨rfl⟩, .inr (.inl rfl), _, congrArg (fun x => Value.str x t2) (show Str.ofString "A" = S [65] by decide +kernel)⟩
  · exact ⟨[98], _, ⟨rfl⟩, .inr (.inr (.inl rfl)), _, congrArg (fun x => Value.str x t3) (show Str.ofString "b" = S [98] by decide +kernel)⟩
  · exact ⟨anyP, _, ⟨rfl⟩, .inr (.inr (.inr (.inl rfl))), _, congrArg (fun x => Value.str x t4) (show Str.ofString "?" = S anyP by decide +kernel)⟩
  · exact ⟨starP, _, ⟨rfl⟩, .inr (.inr (.inr (.inr (.inl rfl)))), _, congrArg (fun x => Value.str x t5) (show Str.ofString "*" = S starP by decide +kernel)⟩
  · exact ⟨clsP, _, ⟨rfl⟩, .inr (.inr (.inr (.inr (.inr rfl)))), _, congrArg (fun x => Value.str x t6) str_cls⟩
theorem pcs_snoc {ps : List (List Nat)} {p : List Nat} (h : ∀ p ∈ ps, Piece p) (hp : Piece p) : ∀ q ∈ ps ++ [p], Piece q := fun q hq => by
  rcases List.mem_append.mp hq with hq | hq
  · exact h q hq
  · rw [List.mem_singleton.mp hq]; exact hp
def DrW (PT NM : Addr) (wd : List Nat) (l : Nat) (m : Str → Option Value) : Prop :=
  ∃ nm : List Nat, ((∃ tk, m "left" = some (.int (l : Nat) tk)) ∧ (∃ tk, m "name" = some (.str (S nm) tk))) ∧ ((∃ tk, m "word" = some (.str (S wd) tk)) ∧ m "pattern" = some (.ref PT) ∧ m "names" = some (.ref NM)) ∧ ((∀ c ∈ nm, Letter c) ∧ 0 < nm.length) ∧ ((l < 27 ∧ nm.length = 1) ∨ (l < 9 ∧ nm.length = 2) ∨ (l < 3 ∧ nm.length = 3))
theorem drw_step {nm : List Nat} {l : Nat} (h : (l < 27 ∧ nm.length = 1) ∨ (l < 9 ∧ nm.length = 2) ∨ (l < 3 ∧ nm.length = 3)) (h0 : 0 < l / 3) (c : Nat) : (l / 3 < 27 ∧ (nm ++ [c]).length = 1) ∨ (l / 3 < 9 ∧ (nm ++ [c]).length = 2) ∨ (l / 3 < 3 ∧ (nm ++ [c]).length = 3) := by
  rw [List.length_append, List.length_singleton]
  omega
theorem lets (c : Nat) (h : c ∈ ([97, 65, 98] : List Nat)) : Letter c := by
  simp at h
  rcases h with h | h | h <;> subst h <;> simp [Letter]
theorem lets4 (c : Nat) (h : c ∈ ([97, 65, 98, 66] : List Nat)) : Letter c := by
  simp at h
  rcases h with h | h | h | h <;> subst h <;> simp [Letter]
theorem lets_snoc {nm : List Nat} {c : Nat} (h : ∀ c ∈ nm, Letter c) (hc : Letter c) : ∀ d ∈ nm ++ [c], Letter d := fun d hd => by
  rcases List.mem_append.mp hd with hd | hd
  · exact h d hd
  · rw [List.mem_singleton.mp hd]; exact hc
theorem drw_start {PT NM : Addr} {wd : List Nat} {m : Str → Option Value} {x : Int} {l c : Nat} {t t2 tw : Tok} (h1 : m "left" = some (.int x t)) (h2 : m "name" = some (.str (S [c]) t2)) (h3 : m "word" = some (.str (S wd) tw)) (h4 : m "pattern" = some (.ref PT)) (h5 : m "names" = some (.ref NM)) (e : x = l) (hl : l < 27) (hc : Letter c) : DrW PT NM wd l m :=
  ⟨[c], ⟨⟨t, by rw [h1, e]⟩, ⟨t2, h2⟩⟩, ⟨⟨tw, h3⟩, h4, h5⟩, ⟨fun d hd => by rw [List.mem_singleton.mp hd]; exact hc, by simp⟩, .inl ⟨hl, rfl⟩⟩
theorem drw_next {PT NM : Addr} {wd nm : List Nat} {m : Str → Option Value} {x : Int} {l c : Nat} {t t2 tw : Tok} (h1 : m "left" = some (.int x t)) (h2 : m "name" = some (.str (S (nm ++ [c])) t2)) (h3 : m "word" = some (.str (S wd) tw)) (h4 : m "pattern" = some (.ref PT)) (h5 : m "names" = some (.ref NM)) (e : x = ((l / 3 : Nat) : Int)) (h0 : 0 < l / 3) (hnm : ∀ c ∈ nm, Letter c) (hc : Letter c) (h : (l < 27 ∧ nm.length = 1) ∨ (l < 9 ∧ nm.length = 2) ∨ (l < 3 ∧ nm.length = 3)) : DrW PT NM wd (l / 3) m :=
  ⟨nm ++ [c], ⟨⟨t, by rw [h1, e]⟩, ⟨t2, h2⟩⟩, ⟨⟨tw, h3⟩, h4, h5⟩, ⟨lets_snoc hnm hc, by simp⟩, drw_step h h0 c⟩
def NameOk (x : List Nat) : Prop := (∀ c ∈ x, Letter c) ∧ x.length ≤ 3
def DrJ (news : Led) (i : Nat) (m : Str → Option Value) (nx : Led) : Prop :=
  ∃ (PT NM : Addr) (wd : List Nat) (ps nms : List (List Nat)) (pvs nmv : List Value), ((∃ tk, m "word" = some (.str (S wd) tk)) ∧ m "pattern" = some (.ref PT) ∧ m "names" = some (.ref NM)) ∧
    (0 < wd.length ∧ wd.length ≤ 2 + i ∧ ∀ c ∈ wd, Letter c) ∧ (LsAt nx PT pvs ∧ StrsV ps pvs ∧ (∀ p ∈ ps, Piece p) ∧ ps.length ≤ 4) ∧ (LsAt nx NM nmv ∧ StrsV nms nmv ∧ (∀ p ∈ nms, NameOk p) ∧ nms.length ≤ 5 + i) ∧
    ((∀ p ∈ news, p ∈ nx ∧ p.1 ≠ PT ∧ p.1 ≠ NM) ∧ PT ≠ NM)
theorem dr_keep {l : Addr} {it : Addr} {oi o9 : Obj} {nx : Led} {x : Addr} {vs : List Value} (h : LsAt nx x vs) (off : ∀ p ∈ nx, p.1 ≠ it) (hn : x ≠ l) : LsAt (offIt it (putAt l o9 ((it, oi) :: nx))) x vs :=
  (h.tail.other hn).off (h.ne off)
theorem dr_sub {l it : Addr} {oi o9 : Obj} {nx news : Led} (hsub : ∀ p ∈ news, p ∈ nx ∧ p.1 ≠ l) (off : ∀ p ∈ nx, p.1 ≠ it) : ∀ p ∈ news, p ∈ offIt it (putAt l o9 ((it, oi) :: nx)) :=
  fun p hp => off_mem (putAt_other (.tail _ (hsub p hp).1) (hsub p hp).2) (off p (hsub p hp).1)
theorem dr_name {news nx : Led} {i : Nat} {m : Str → Option Value} {PT NM it : Addr} {oi o9 : Obj} {wd nm : List Nat} {ps nms : List (List Nat)} {pvs nmv : List Value} {v : Value} (h1 : ∃ tk, m "word" = some (.str (S wd) tk)) (h2 : m "pattern" = some (.ref PT)) (h3 : m "names" = some (.ref NM))
    (hw : 0 < wd.length ∧ wd.length ≤ 2 + i ∧ ∀ c ∈ wd, Letter c) (hP : LsAt nx PT pvs ∧ StrsV ps pvs ∧ (∀ p ∈ ps, Piece p) ∧ ps.length ≤ 4) (hN : LsAt nx NM nmv ∧ StrsV nms nmv ∧ (∀ p ∈ nms, NameOk p) ∧ nms.length ≤ 5 + i)
    (hsub : ∀ p ∈ news, p ∈ nx ∧ p.1 ≠ PT ∧ p.1 ≠ NM) (hPN : PT ≠ NM) (off : ∀ p ∈ nx, p.1 ≠ it) (hO : IsLs o9 (nmv ++ [v])) (hv : PieceV nm v) (hnm : NameOk nm) : DrJ news (i + 1) m (offIt it (putAt NM o9 ((it, oi) :: nx))) :=
  ⟨PT, NM, wd, ps, nms ++ [nm], pvs, nmv ++ [v], ⟨h1, h2, h3⟩, ⟨hw.1, by omega, hw.2.2⟩, ⟨dr_keep hP.1 off hPN, hP.2⟩, ⟨(hN.1.tail.put hO).off (hN.1.ne off), hN.2.1.snoc hv, fun q hq => by
    rcases List.mem_append.mp hq with hq | hq
    · exact hN.2.2.1 q hq
    · rw [List.mem_singleton.mp hq]; exact hnm, by rw [List.length_append, List.length_singleton]; omega⟩, ⟨fun p hp => ⟨dr_sub (fun p hp => ⟨(hsub p hp).1, (hsub p hp).2.2⟩) off p hp, (hsub p hp).2⟩, hPN⟩⟩
theorem dr_pat {news nx : Led} {i : Nat} {m : Str → Option Value} {PT NM it : Addr} {oi o9 : Obj} {wd p₁ : List Nat} {ps nms : List (List Nat)} {pvs nmv : List Value} {v : Value} (h1 : ∃ tk, m "word" = some (.str (S wd) tk)) (h2 : m "pattern" = some (.ref PT)) (h3 : m "names" = some (.ref NM))
    (hw : 0 < wd.length ∧ wd.length ≤ 2 + i ∧ ∀ c ∈ wd, Letter c) (hP : LsAt nx PT pvs ∧ StrsV ps pvs ∧ (∀ p ∈ ps, Piece p) ∧ ps.length < 4) (hN : LsAt nx NM nmv ∧ StrsV nms nmv ∧ (∀ p ∈ nms, NameOk p) ∧ nms.length ≤ 5 + i)
    (hsub : ∀ p ∈ news, p ∈ nx ∧ p.1 ≠ PT ∧ p.1 ≠ NM) (hPN : PT ≠ NM) (off : ∀ p ∈ nx, p.1 ≠ it) (hO : IsLs o9 (pvs ++ [v])) (hv : PieceV p₁ v) (hp₁ : Piece p₁) : DrJ news (i + 1) m (offIt it (putAt PT o9 ((it, oi) :: nx))) :=
  ⟨PT, NM, wd, ps ++ [p₁], nms, pvs ++ [v], nmv, ⟨h1, h2, h3⟩, ⟨hw.1, by omega, hw.2.2⟩, ⟨(hP.1.tail.put hO).off (hP.1.ne off), hP.2.1.snoc hv, pcs_snoc hP.2.2.1 hp₁, by rw [List.length_append, List.length_singleton]; omega⟩, ⟨dr_keep hN.1 off hPN.symm, hN.2.1, hN.2.2.1, by omega⟩, ⟨fun p hp => ⟨dr_sub (fun p hp => ⟨(hsub p hp).1, (hsub p hp).2.1⟩) off p hp, (hsub p hp).2⟩, hPN⟩⟩
theorem sv (x : String) (l : List Nat) (t : Tok) (h : Str.ofString x = S l) : PieceV l (.str (Str.ofString x) t) := ⟨t, by rw [h]⟩
def DrPost (news : Led) (r : Value) (nx : Led) : Prop :=
  ∃ (T PT NM : Addr) (wd : List Nat) (ps nms : List (List Nat)) (pvs nmv : List Value) (tk : Tok), (r = .ref T ∧ (T, ({ cls := Value.type "tuple", data := Data.seq #[.str (S wd) tk, .ref PT, .ref NM] } : Obj)) ∈ nx) ∧
    (0 < wd.length ∧ wd.length ≤ 9 ∧ ∀ c ∈ wd, Letter c) ∧ (LsAt nx PT pvs ∧ StrsV ps pvs ∧ (∀ p ∈ ps, Piece p) ∧ ps.length ≤ 4) ∧ (LsAt nx NM nmv ∧ StrsV nms nmv ∧ (∀ p ∈ nms, NameOk p) ∧ nms.length ≤ 12) ∧
    ((∀ p ∈ news, p ∈ nx ∧ p.1 ≠ PT ∧ p.1 ≠ NM ∧ p.1 ≠ T) ∧ PT ≠ NM ∧ PT ≠ T ∧ NM ≠ T)
theorem dr_start {D PT NM : Addr} {o : Obj} {news : Led} {t0 t1 t2 t3 t4 t5 t6 t7 : Tok} {m : Str → Option Value} (h1 : m "word" = some (.str (Str.ofString "aB") t0)) (h2 : m "pattern" = some (.ref PT)) (h3 : m "names" = some (.ref NM))
    (hlt : ∀ p ∈ news, p.1 < PT) (hlt2 : @LT.lt Nat _ PT NM ∧ AllLt NM news) :
    DrJ news 0 m ((D, o) :: (NM, W.listOf #[.str (Str.ofString "ab") t3, .str (Str.ofString "Ab") t4, .str (Str.ofString "ba") t5, .str (Str.ofString "") t6, .str (Str.ofString "aBb") t7] 0) :: (PT, W.listOf #[.str (Str.ofString "?") t1, .str (Str.ofString "*") t2] 0) :: news) := by
  refine ⟨PT, NM, [97, 66], [anyP, starP], [[97, 98], [65, 98], [98, 97], [], [97, 66, 98]], _, _, ⟨⟨t0, by rw [h1, str_aB]⟩, h2, h3⟩, ⟨by decide, by decide, ?_⟩, ⟨⟨_, .tail _ (.tail _ (.head _)), 0, rfl⟩, ⟨sv _ _ _ (by decide +kernel), sv _ _ _ (by decide +kernel), trivial⟩, ?_, by decide⟩,
    ⟨⟨_, .tail _ (.head _), 0, rfl⟩, ⟨sv _ _ _ (by decide +kernel), sv _ _ _ (by decide +kernel), sv _ _ _ (by decide +kernel), sv _ _ _ (by decide +kernel), sv _ _ _ (by decide +kernel), trivial⟩, ?_, by decide⟩, ⟨fun p hp => ⟨.tail _ (.tail _ (.tail _ hp)), Nat.ne_of_lt (hlt p hp), Nat.ne_of_lt (allLt_mem hlt2.2 p hp)⟩, Nat.ne_of_lt hlt2.1⟩⟩
  · simp [Letter]
  · simp [Piece]
  · simp [NameOk, Letter]
local macro_rules | `(tactic| walk_at "binaryOp Add str str") => `(tactic| refine Halt.i ?_)
local macro_rules | `(tactic| walk_at "subscriptTail") => `(tactic| refine Halt.i ?_)
local macro_rules | `(tactic| walk_at "call builtin:list.append") => `(tactic| refine Halt.i ?_)
local macro_rules | `(tactic| walk_at "getMethod ref") => `(tactic| k_dflt ((refine' ls_appendM ?N ?l ?_); (case N => assumption); (case l => kcf_m)))
theorem drawn_spec {w : World} (NL : Addr) (nvs : List Value) (ns : List Int) (hi : IntsAre nvs ns) (hlen : nvs.length ≤ 7) (news : List (Addr × Obj)) (hl : LsAt news NL nvs) :
    Ctr w 104 3 [.ref NL] news (DrPost news) := by
  refine fillme PySem.Challenge.rw_in0056_01 Mine.hp.heap_1 ?_
  k_fill
  intro _
  unfold Ctr
  intro p loose mean mg mb dp un gd cn cs a ccd cl outer A₀ base h₀ L m s Q E B F X N T hk hd hu hret
  refine wpAny_call ?_
  k_dflt ktr_enter
  clear F N
  k_steps
  refine Halt.o ?_
  rename Fr _ _ _ _ => F1
  rename News _ _ _ _ => N1
  refine for_list (l := NL) (vs := nvs) F1 (DrJ news) rfl rfl rfl rfl ?start ?turn ?done (hE := by passes_own)
  case start =>
    k_steps
    exact LsStart.mk (by assumption) (by assumption) hl.tail.tail.tail (dr_start rfl rfl rfl (by assumption) (by assumption))
  case turn =>
    rintro i v m₁ nx h₁ tk₁ it oi hv hJ hl2 F2 N2 off hit
    clear F1 N1
    obtain ⟨n, t9, rfl⟩ : ∃ n t9, v = .int n t9 := ints_mem hi v (List.mem_of_getElem? hv)
    have hiv : i < nvs.length := (List.getElem?_eq_some_iff.mp hv).1
    clear hv hit
    unfold DrJ at hJ
    obtain ⟨PT, NM, wd, ps, nms, pvs, nmv, ⟨⟨tw, m1⟩, m2, m3⟩, ⟨w0, w1, w2⟩, ⟨hP, hPv, hPp, hPl⟩, ⟨hN, hNv, hNp, hNl⟩, ⟨hsub, hPN⟩⟩ := hJ
    have hPlen := hPv.len
    have hNlen := hNv.len
    k_steps
    · refine Halt.o ?_
      k_dflt (refine' sub_menu (s := ⟨_, _, _, _, _⟩) str_ab3 lets (by decide) rfl (by decide) ?_)
      intro c hc
      k_steps
      refine Halt.o ?_
      rename Fr _ _ _ _ => F3
      rename News _ _ _ _ => N3
      have hlf := fm_pos (if n.fdiv 3 < 0 then -n.fdiv 3 else n.fdiv 3) (k := 27) (by decide)
      obtain ⟨l, el, hl27⟩ : ∃ l : Nat, (if n.fdiv 3 < 0 then -n.fdiv 3 else n.fdiv 3).fmod 27 = (l : Int) ∧ l < 27 := ⟨((if n.fdiv 3 < 0 then -n.fdiv 3 else n.fdiv 3).fmod 27).toNat, by omega, by omega⟩
      refine while_x (n₀ := l) (fun n₁ m₂ nx₂ => nx₂ = (it, oi) :: nx ∧ DrW PT NM wd n₁ m₂) (fun m₂ nx₂ => nx₂ = (it, oi) :: nx ∧ ∃ n₁, DrW PT NM wd n₁ m₂) F3 N3 ⟨rfl, drw_start rfl rfl m1 m2 m3 el hl27 hc⟩ ?turn2 ?done2
      case turn2 =>
        rintro l₁ m₂ nx₂ h₂ tk₂ F4 N4 ⟨rfl, ⟨nm, ⟨⟨t1, a1⟩, ⟨t2, a2⟩⟩, ⟨⟨t3, a3⟩, a4, a5⟩, ⟨hnm, hnm0⟩, hd⟩⟩
        clear F3 N3 m1 m2 m3 el hlf hl27
        k_steps
        · rename decide _ = true => hq0
          have hq := of_decide_eq_true hq0
          rw [fd_nat] at hq
          refine Halt.o ?_
          k_dflt (refine' sub_menu (s := ⟨_, _, _, _, _⟩) str_ab3 lets (by decide) rfl (by decide) ?_)
          intro d hd'
          k_steps
          refine Halt.o ?_
          k_dflt (refine' add_S (s := ⟨_, _, _, _, _⟩) hnm0 (by simp) (by simp; omega) ?_)
          intro tk4
          k_steps
          refine' WhStep.mk (n' := l₁ / 3) ?F ?N ?ltn ?J
          case F => assumption
          case N => assumption
          case ltn => omega
          case J => exact ⟨rfl, drw_next rfl rfl a3 a4 a5 (fd_nat l₁) (by omega) hnm hd' hd⟩
        · refine' WhExit.mk ?F ?N ?J
          case F => assumption
          case N => assumption
          case J => exact ⟨rfl, l₁, nm, ⟨⟨t1, a1⟩, ⟨t2, a2⟩⟩, ⟨⟨t3, a3⟩, a4, a5⟩, ⟨hnm, hnm0⟩, hd⟩
      case done2 =>
        rintro m₂ nx₂ h₂ tk₂ F4 N4 ⟨rfl, ⟨l₁, nm, ⟨⟨t1, a1⟩, ⟨t2, a2⟩⟩, ⟨⟨t3, a3⟩, a4, a5⟩, ⟨hnm, hnm0⟩, hd⟩⟩
        clear F3 N3 m1 m2 m3 el hlf hl27
        k_steps
        refine Halt.o ?_
        rename Fr _ _ _ _ => F5
        rename News _ _ _ _ => N5
        k_dflt (refine' ls_append (s := ⟨_, _, _, _, _⟩) (vs := nmv) F5 N5 hN.tail (by omega) ?_)
        intro h9 o9 F9 N9 hO
        clear F5 N5
        k_steps
        refine' ForStep.mk2 (nx := putAt NM o9 ((it, oi) :: nx)) ?F ?N ?hm ?J
        case F => assumption
        case N => assumption
        case hm => exact putAt_other (.head _) (fun e => hN.ne off e.symm)
        case J => exact ⟨dr_keep hl2 off (hl.ne fun p hp => (hsub p hp).2.2), dr_name ⟨_, a3⟩ a4 a5 ⟨w0, w1, w2⟩ ⟨hP, hPv, hPp, hPl⟩ ⟨hN, hNv, hNp, hNl⟩ hsub hPN off hO ⟨_, rfl⟩ ⟨hnm, by omega⟩⟩
    · refine Halt.o ?_
      k_dflt (refine' sub_menu (s := ⟨_, _, _, _, _⟩) str_sg1 lets4 (by decide) rfl (by decide) ?_)
      intro c hc
      k_steps
      refine Halt.o ?_
      k_dflt (refine' add_S (s := ⟨_, _, _, _, _⟩) w0 (by simp) (by simp; omega) ?_)
      intro tk4
      k_steps
      refine' ForStep.mk ?F ?N off ⟨hl2, ?J⟩
      case F => assumption
      case N => assumption
      case J => exact ⟨PT, NM, wd ++ [c], ps, nms, pvs, nmv, ⟨⟨_, rfl⟩, m2, m3⟩, ⟨by simp, by simp; omega, lets_snoc w2 hc⟩, ⟨hP, hPv, hPp, hPl⟩, ⟨hN, hNv, hNp, by omega⟩, ⟨hsub, hPN⟩⟩
    · have hd6 := fm_pos (n.fdiv 3) (k := 6) (by decide)
      obtain ⟨p₁, v₁, hv₁, hpp₁, hpv₁⟩ := menu6 ((n.fdiv 3).fmod 6).toNat (by omega)
      k_steps
      refine Halt.o ?_
      rename News _ _ _ (_ :: (it, oi) :: nx) => N4
      k_dflt (refine' ls_get (s := ⟨_, _, _, _, _⟩) (k := ((n.fdiv 3).fmod 6).toNat) (v := v₁) N4 ⟨_, .head _, 0, rfl⟩ (by omega) (by omega) hv₁.e ?_)
      clear hv₁
      k_steps
      refine Halt.o ?_
      rename Fr _ _ _ _ => F5
      rename News _ _ _ _ => N5
      have N6 := newsSub (news' := (it, oi) :: nx) N5 (fun q hq => .tail _ hq)
      clear N5
      k_dflt (refine' ls_append (s := ⟨_, _, _, _, _⟩) (vs := pvs) F5 N6 hP.tail (by omega) ?_)
      intro h9 o9 F9 N9 hO
      clear F5 N6
      k_steps
      refine' ForStep.mk2 (nx := putAt PT o9 ((it, oi) :: nx)) ?F ?N ?hm ?J
      case F => assumption
      case N => assumption
      case hm => exact putAt_other (.head _) (fun e => hP.ne off e.symm)
      case J =>

        exact ⟨dr_keep hl2 off (hl.ne fun p hp => (hsub p hp).2.1), dr_pat ⟨_, m1⟩ m2 m3 ⟨w0, w1, w2⟩ ⟨hP, hPv, hPp, by omega⟩ ⟨hN, hNv, hNp, hNl⟩ hsub hPN off hO hpv₁ hpp₁⟩
    · refine' ForStep.mk ?F ?N off ⟨hl2, ?J⟩
      case F => assumption
      case N => assumption
      case J => exact ⟨PT, NM, wd, ps, nms, pvs, nmv, ⟨⟨_, m1⟩, m2, m3⟩, ⟨w0, by omega, w2⟩, ⟨hP, hPv, hPp, hPl⟩, ⟨hN, hNv, hNp, by omega⟩, ⟨hsub, hPN⟩⟩
  case done =>
    rintro m₁ nx h₁ tk₁ hJ hl2 F2 N2
    clear F1 N1
    unfold DrJ at hJ
    obtain ⟨PT, NM, wd, ps, nms, pvs, nmv, ⟨⟨tw, m1⟩, m2, m3⟩, ⟨w0, w1, w2⟩, ⟨hP, hPv, hPp, hPl⟩, ⟨hN, hNv, hNp, hNl⟩, ⟨hsub, hPN⟩⟩ := hJ
    dsimp only
    k_steps
    rename ∀ (p : Addr × Obj), p ∈ nx → p.fst < _ => hlt
    refine hret _ _ _ _ (by assumption) (by assumption) ⟨_, PT, NM, wd, ps, nms, pvs, nmv, _, ⟨rfl, .head _⟩, ⟨w0, by omega, w2⟩, ⟨hP.tail, hPv, hPp, hPl⟩, ⟨hN.tail, hNv, hNp, by omega⟩, ⟨fun p hp => ⟨.tail _ (hsub p hp).1, (hsub p hp).2.1, (hsub p hp).2.2, Nat.ne_of_lt (hlt p (hsub p hp).1)⟩, hPN, hP.ne fun p hp => Nat.ne_of_lt (hlt p hp), hN.ne fun p hp => Nat.ne_of_lt (hlt p hp)⟩⟩

end

section
theorem HOk.congr {α : Type} {f g : α → α → Bool} {a : List α} (h : HOk f a) (e : ∀ x ∈ a, ∀ y ∈ a, g x y = f x y) : HOk g a := fun k x y hk hx hy => by
  rw [e x (List.mem_of_getElem? hx) y (List.mem_of_getElem? hy)]
  exact h k x y hk hx hy
theorem S_app (a b : List Nat) : S a ++ S b = S (a ++ b) := by show (⟨_⟩ : Str) = ⟨_⟩; simp [S]
theorem join_S : ∀ (ls : List (List Nat)), Str.join (S []) (ls.map S) = S ls.flatten
  | [] => rfl
  | [x] => by show S x = S [x].flatten; rw [List.flatten_cons, List.flatten_nil, List.append_nil]
  | x :: y :: r => by
    have h := join_S (y :: r)
    show S x ++ S [] ++ Str.join (S []) ((y :: r).map S) = _
    rw [h, S_app, S_app, List.append_nil]; rfl
theorem str_nil : Str.ofString "" = S [] := by decide +kernel
theorem glued_S (ls : List (List Nat)) : Txt.join (Str.ofString "") (ls.map S) = S ls.flatten := by
  rw [str_nil, ← join_S]; exact StrLaws.glued_eq_join _ _
theorem joinOk_S {ls : List (List Nat)} (h : ls.length ≤ 4) (hp : ∀ p ∈ ls, Piece p) : JoinOk (Str.ofString "") (ls.map S) = true := by
  have key : ∀ (ls : List (List Nat)), (∀ p ∈ ls, Piece p) → ((ls.map S).map (·.length)).sum ≤ 4 * ls.length := by
    intro ls
    induction ls with
    | nil => intro _; simp
    | cons x r ih =>
      intro hp
      have hx : x.length ≤ 4 := by
        have := hp x (List.mem_cons_self ..)
        rcases this with e | e | e | e | e | e <;> rw [e] <;> decide
      have := ih fun p hp' => hp p (List.mem_cons_of_mem _ hp')
      have e : (S x).length = x.length := S_len x
      rw [List.map_cons, List.map_cons, List.sum_cons, List.length_cons, e]
      omega
  have h2 := key ls hp
  refine joinOk_of_weight ?_ (by decide +kernel)
  rw [List.length_map]
  omega
theorem tabTail {pos : Pos} {p : Addr × Obj} {nx : Led} (h : Tab pos nx) : Tab pos (p :: nx) := h.mono fun _ hp _ => .tail _ hp
theorem strsV_strValues : ∀ {ps : List (List Nat)} {vs : List Value}, StrsV ps vs → ∃ l : List (Str × Tok), vs = strValues l ∧ l.map (·.1) = ps.map S
  | [], [], _ => ⟨[], rfl, rfl⟩
  | x :: xs, v :: vs, h => by
    obtain ⟨tk, hv⟩ := h.1
    obtain ⟨l, e1, e2⟩ := strsV_strValues h.2
    exact ⟨(S x, tk) :: l, by rw [hv, e1]; rfl, by rw [List.map_cons, List.map_cons, e2]⟩
  | [], _ :: _, h => h.elim
  | _ :: _, [], h => h.elim
noncomputable def mtB (ps : List (List Nat)) (x : List Nat) : Bool := @decide (Mt ps x) (Classical.propDecidable _)
theorem mtB_iff {ps : List (List Nat)} {x : List Nat} : mtB ps x = true ↔ Mt ps x := by unfold mtB; exact @decide_eq_true_iff _ (Classical.propDecidable _)
noncomputable def due (ps : List (List Nat)) (wd : List Nat) (ns : List (List Nat)) : List (Int × List Nat) := (ns.filter (mtB ps)).map fun x => ((dist wd x : Nat), x)
theorem due_snoc {ps : List (List Nat)} {wd x : List Nat} {ns : List (List Nat)} : due ps wd (ns ++ [x]) = if mtB ps x then due ps wd ns ++ [(((dist wd x : Nat) : Int), x)] else due ps wd ns := by
  unfold due
  rw [List.filter_append]
  by_cases h : mtB ps x = true
  · rw [if_pos h, List.filter_cons_of_pos h]; simp
  · rw [if_neg h, List.filter_cons_of_neg h]; simp
theorem strsV_at : ∀ {xs : List (List Nat)} {vs : List Value} {i : Nat} {v : Value}, StrsV xs vs → vs[i]? = some v → ∃ x tk, v = .str (S x) tk ∧ At xs i x
  | [], [], i, v, _, h => by simp at h
  | x :: _, _ :: _, 0, v, h, e => by
    obtain ⟨tk, hv⟩ := h.1
    simp at e
    exact ⟨x, tk, by rw [← e, hv], ⟨rfl⟩⟩
  | _ :: _, _ :: _, i + 1, v, h, e => by
    obtain ⟨x, tk, e1, e2⟩ := strsV_at (i := i) h.2 (by simpa using e)
    exact ⟨x, tk, e1, ⟨by have := e2.e; simpa using this⟩⟩
  | [], _ :: _, _, _, h, _ => h.elim
  | _ :: _, [], _, _, h, _ => h.elim
theorem At.lt {α : Type} {xs : List α} {i : Nat} {x : α} (h : At xs i x) : i < xs.length := (List.getElem?_eq_some_iff.mp h.e).1
theorem At.mem {α : Type} {xs : List α} {i : Nat} {x : α} (h : At xs i x) : x ∈ xs := List.mem_of_getElem? h.e
def PoM (P st H TD : Addr) (wd : List Nat) (m : Str → Option Value) : Prop :=
  (m "parts" = some (.ref P) ∧ m "star" = some (.ref st)) ∧ (m "heap" = some (.ref H) ∧ m "told" = some (.ref TD)) ∧ ∃ tk, m "word" = some (.str (S wd) tk)
def HeapAt (nx : Led) (H : Addr) (key : Addr → Int × List Nat) (rs : List Addr) : Prop := LsAt nx H (rs.map .ref) ∧ (∀ r ∈ rs, KeyAt nx r (key r)) ∧ HOk (kl key) rs
def PoJ (P st H TD : Addr) (wd : List Nat) (qs nms : List (List Nat)) (qvs : List Value) (news : Led) (i : Nat) (m : Str → Option Value) (nx : Led) : Prop :=
  ∃ (key : Addr → Int × List Nat) (rs : List Addr), PoM P st H TD wd m ∧ (HeapAt nx H key rs ∧ rs.length ≤ i ∧ (rs.map key).Perm (due qs wd (nms.take i))) ∧ (LsAt nx TD [] ∧ LsAt nx P qvs) ∧ (∀ p ∈ news, p ∈ nx ∧ p.1 ≠ H ∧ p.1 ≠ TD) ∧ (H ≠ TD ∧ P ≠ H ∧ P ≠ TD)
def PoJE (P : Addr) (wd : List Nat) (qs nms : List (List Nat)) (qvs : List Value) (news : Led) (i : Nat) (m : Str → Option Value) (nx : Led) : Prop :=
  ∃ st H TD, PoJ P st H TD wd qs nms qvs news i m nx ∧ ∀ i p v, At qs i p → At qvs i v → PartV st p v
theorem take_snoc {α : Type} {xs : List α} {i : Nat} {x : α} (h : At xs i x) : xs.take (i + 1) = xs.take i ++ [x] := by
  rw [List.take_add_one, h.e]; rfl
theorem po_no {qs nms : List (List Nat)} {wd x : List Nat} {i : Nat} {ks : List (Int × List Nat)} (hx : At nms i x) (hb : false = true ↔ Mt qs x) (hp : ks.Perm (due qs wd (nms.take i))) : ks.Perm (due qs wd (nms.take (i + 1))) := by
  rw [take_snoc hx, due_snoc, if_neg (fun h => Bool.false_ne_true (hb.mpr (mtB_iff.mp h)))]; exact hp
theorem po_yes {qs nms : List (List Nat)} {wd x : List Nat} {i : Nat} {ks : List (Int × List Nat)} (hx : At nms i x) (hb : true = true ↔ Mt qs x) (hp : ks.Perm (due qs wd (nms.take i))) : (ks ++ [(((dist wd x : Nat) : Int), x)]).Perm (due qs wd (nms.take (i + 1))) := by
  rw [take_snoc hx, due_snoc, if_pos (mtB_iff.mpr (hb.mp rfl))]; exact hp.append_right _
def keyOn (D : Addr) (k : Int × List Nat) (key : Addr → Int × List Nat) (a : Addr) : Int × List Nat := if a = D then k else key a
theorem keyOn_self {D : Addr} {k : Int × List Nat} {key : Addr → Int × List Nat} : keyOn D k key D = k := if_pos rfl
theorem keyOn_ne {D a : Addr} {k : Int × List Nat} {key : Addr → Int × List Nat} (h : a ≠ D) : keyOn D k key a = key a := if_neg h
theorem po_ne {D it : Addr} {nx : Led} {key : Addr → Int × List Nat} {rs : List Addr} (hlt : @LT.lt Nat _ it D ∧ AllLt D nx) (hkey : ∀ r ∈ rs, KeyAt nx r (key r)) : ∀ r ∈ rs, r ≠ D := fun r hr => by
  obtain ⟨o, dd, n, sl, t, u, hm, e⟩ := hkey r hr
  exact Nat.ne_of_lt (allLt_mem hlt.2 _ hm)
theorem po_key {D it : Addr} {oi : Obj} {nx : Led} {key : Addr → Int × List Nat} {rs : List Addr} {k : Int × List Nat} {t u : Tok} (hlt : @LT.lt Nat _ it D ∧ AllLt D nx) (hkey : ∀ r ∈ rs, KeyAt nx r (key r)) :
    ∀ r ∈ rs ++ [D], KeyAt ((D, { cls := .type "tuple", data := .seq #[.int k.1 t, .str (S k.2) u] }) :: (it, oi) :: nx) r (keyOn D k key r) := fun r hr => by
  rcases List.mem_append.mp hr with hr | hr
  · rw [keyOn_ne (po_ne hlt hkey r hr)]; exact (hkey r hr).mono fun p hp => .tail _ (.tail _ hp)
  · rw [List.mem_singleton.mp hr, keyOn_self]; exact ⟨_, _, _, _, _, _, .head _, rfl⟩
theorem po_hok {D it : Addr} {nx : Led} {key : Addr → Int × List Nat} {rs : List Addr} {k : Int × List Nat} (hlt : @LT.lt Nat _ it D ∧ AllLt D nx) (hkey : ∀ r ∈ rs, KeyAt nx r (key r)) (h : HOk (kl key) rs) : HOk (kl (keyOn D k key)) rs :=
  h.congr fun x hx y hy => by unfold kl; rw [keyOn_ne (po_ne hlt hkey x hx), keyOn_ne (po_ne hlt hkey y hy)]
theorem po_keep {h₀ h : Heap} {L H : Addr} {nx0 nx5 : Led} {vs : List Value} {key : Addr → Int × List Nat} {rs rs' : List Addr} (N : News h₀ L h nx0) (hl : LsAt nx0 H vs) (hk : ∀ r ∈ rs, KeyAt nx0 r (key r)) (hb : But H nx0 nx5) (hp : rs'.Perm rs) : ∀ r ∈ rs', KeyAt nx5 r (key r) := fun r hr => by
  have hne := (hk r (hp.subset hr)).ne N hl
  obtain ⟨o, dd, n, sl, t, u, hm, e⟩ := hk r (hp.subset hr)
  exact ⟨o, dd, n, sl, t, u, hb.1 _ hm hne, e⟩
theorem po_ls {H it x : Addr} {oi : Obj} {d : Addr × Obj} {nx nx5 : Led} {vs : List Value} (hbut : But H (d :: (it, oi) :: nx) nx5) (h : LsAt nx x vs) (hn : x ≠ H) (off : ∀ p ∈ nx, p.1 ≠ it) : LsAt (offIt it nx5) x vs := by
  obtain ⟨o, hm, e⟩ := h
  exact ⟨o, off_mem (hbut.1 _ (.tail _ (.tail _ hm)) hn) (off _ hm), e⟩
theorem po_nh {NM H TD : Addr} {nmv : List Value} {news nx : Led} (hN : LsAt news NM nmv) (hsub : ∀ p ∈ news, p ∈ nx ∧ p.1 ≠ H ∧ p.1 ≠ TD) : NM ≠ H := by
  obtain ⟨o, hm, _⟩ := hN
  exact (hsub _ hm).2.1
theorem po_koff {D it : Addr} {nx nx5 : Led} {key key' : Addr → Int × List Nat} {rs rs5 : List Addr} (hlt : @LT.lt Nat _ it D ∧ AllLt D nx) (hkey : ∀ r ∈ rs, KeyAt nx r (key r)) (off : ∀ p ∈ nx, p.1 ≠ it) (hp : rs5.Perm (rs ++ [D])) (hk5 : ∀ r ∈ rs5, KeyAt nx5 r (key' r)) : ∀ r ∈ rs5, KeyAt (offIt it nx5) r (key' r) := fun r hr => (hk5 r hr).off (by
  rcases List.mem_append.mp (hp.subset hr) with h | h
  · obtain ⟨o, dd, n, sl, t, u, hm, e⟩ := hkey r h
    exact off _ hm
  · rw [List.mem_singleton.mp h]; exact (Nat.ne_of_lt hlt.1).symm)
theorem po_perm {D it : Addr} {nx : Led} {key : Addr → Int × List Nat} {rs rs5 : List Addr} {qs nms : List (List Nat)} {wd x : List Nat} {i : Nat} (hlt : @LT.lt Nat _ it D ∧ AllLt D nx) (hkey : ∀ r ∈ rs, KeyAt nx r (key r)) (hp : rs5.Perm (rs ++ [D])) (hx : At nms i x) (hb : true = true ↔ Mt qs x) (h : (rs.map key).Perm (due qs wd (nms.take i))) : (rs5.map (keyOn D ((dist wd x : Nat), x) key)).Perm (due qs wd (nms.take (i + 1))) := by
  refine (hp.map _).trans ?_
  rw [List.map_append, List.map_cons, List.map_nil, keyOn_self, List.map_congr_left fun r hr => keyOn_ne (po_ne hlt hkey r hr)]
  exact po_yes hx hb h
def PwJ (H TD : Addr) (key : Addr → Int × List Nat) (rs0 : List Addr) (news : Led) (n : Nat) (m : Str → Option Value) (nx : Led) : Prop :=
  ∃ rs ts : List Addr, n = rs.length ∧ (m "heap" = some (.ref H) ∧ m "told" = some (.ref TD)) ∧ (LsAt nx H (rs.map .ref) ∧ (∀ r ∈ rs, KeyAt nx r (key r)) ∧ HOk (kl key) rs) ∧ (LsAt nx TD (ts.map .ref) ∧ (∀ r ∈ ts, KeyAt nx r (key r))) ∧
    ((ts ++ rs).Perm rs0 ∧ ts.Pairwise (fun a b => klt (key b) (key a) = false) ∧ ∀ a ∈ ts, ∀ b ∈ rs, klt (key b) (key a) = false) ∧ (∀ p ∈ news, p ∈ nx ∧ p.1 ≠ H ∧ p.1 ≠ TD)
theorem tab_ps {pos : Pos} {nx : Led} (h : Tab pos nx) : ∃ ps, (64, tabObj ps) ∈ nx := by
  rcases h with h | ⟨c, h⟩
  · exact ⟨_, h⟩
  · exact ⟨_, h⟩
theorem kept_of {news nx : Led} {ps : Array Value} (h : ∀ p ∈ news, p.1 ≠ 64 → p ∈ nx) (h64 : (64, tabObj ps) ∈ nx) : ∀ p ∈ (64, tabObj ps) :: offIt 64 news, p ∈ nx := fun p hp => by
  rcases List.mem_cons.mp hp with rfl | hp
  · exact h64
  · exact h p (off_sub hp) (off_ne p hp)
theorem po_start {P st H TD : Addr} {wd : List Nat} {qs nms : List (List Nat)} {qvs : List Value} {news nx2 : Led} {tk : Tok} {m : Str → Option Value}
    (h1 : m "parts" = some (.ref P)) (h2 : m "star" = some (.ref st)) (h3 : m "heap" = some (.ref H)) (h4 : m "told" = some (.ref TD)) (h5 : m "word" = some (.str (S wd) tk)) (hb : ∀ p ∈ news, p ∈ nx2) (hPA : LsAt nx2 P qvs) (hlt : ∀ p ∈ nx2, p.1 < H) (hlt2 : @LT.lt Nat _ H TD ∧ AllLt TD nx2) :
    PoJ P st H TD wd qs nms qvs news 0 m ((TD, W.listOf #[] 0) :: (H, W.listOf #[] 0) :: nx2) :=
  ⟨fun _ => (0, []), [], ⟨⟨h1, h2⟩, ⟨h3, h4⟩, _, h5⟩, ⟨⟨⟨_, .tail _ (.head _), 0, rfl⟩, fun r hr => absurd hr (by simp), fun k x y _ hx _ => absurd hx (by simp)⟩, Nat.zero_le _, by rw [List.take_zero]; exact List.Perm.refl _⟩, ⟨⟨_, .head _, 0, rfl⟩, hPA.tail.tail⟩,
    fun p hp => have hm := hb p hp; ⟨.tail _ (.tail _ hm), Nat.ne_of_lt (hlt p hm), Nat.ne_of_lt (allLt_mem hlt2.2 p hm)⟩, Nat.ne_of_lt hlt2.1, hPA.ne fun p hp => Nat.ne_of_lt (hlt p hp), hPA.ne fun p hp => Nat.ne_of_lt (allLt_mem hlt2.2 p hp)⟩
theorem pw_perm {ts us us' rs0 : List Addr} {x : Addr} (hp : (ts ++ us).Perm rs0) (h : (x :: us').Perm us) : ((ts ++ [x]) ++ us').Perm rs0 := by
  rw [List.append_assoc]
  exact (List.Perm.append_left ts h).trans hp
theorem pw_pair {key : Addr → Int × List Nat} {ts us us' : List Addr} {x : Addr} (h : (x :: us').Perm us) (h1 : ts.Pairwise (fun a b => klt (key b) (key a) = false)) (h2 : ∀ a ∈ ts, ∀ b ∈ us, klt (key b) (key a) = false) : (ts ++ [x]).Pairwise (fun a b => klt (key b) (key a) = false) :=
  List.pairwise_append.mpr ⟨h1, List.pairwise_singleton _ _, fun a ha b hb => by rw [List.mem_singleton.mp hb]; exact h2 a ha x (h.subset (List.mem_cons_self ..))⟩
theorem pw_all {key : Addr → Int × List Nat} {ts us us' : List Addr} {x : Addr} (h : (x :: us').Perm us) (h2 : ∀ a ∈ ts, ∀ b ∈ us, klt (key b) (key a) = false) (hm : ∀ y ∈ us', klt (key y) (key x) = false) : ∀ a ∈ ts ++ [x], ∀ b ∈ us', klt (key b) (key a) = false := fun a ha b hb => by
  rcases List.mem_append.mp ha with ha | ha
  · exact h2 a ha b (h.subset (List.mem_cons_of_mem _ hb))
  · rw [List.mem_singleton.mp ha]; exact hm b hb
theorem pw_keep {h₀ h h2 : Heap} {L H l2 : Addr} {nx nx5 : Led} {vs : List Value} {key : Addr → Int × List Nat} {ts : List Addr} {o6 : Obj} (N : News h₀ L h nx) (N5 : News h₀ L h2 nx5) (hH : LsAt nx H vs) {ws : List Value} (hT5 : LsAt nx5 l2 ws) (hb : But H nx nx5) (hk : ∀ r ∈ ts, KeyAt nx r (key r)) : ∀ r ∈ ts, KeyAt (putAt l2 o6 nx5) r (key r) := fun r hr =>
  have k5 := hb.key (hk r hr) ((hk r hr).ne N hH)
  k5.other (k5.ne N5 hT5)
theorem pw_keys {nx : Led} {key : Addr → Int × List Nat} {ts us us' : List Addr} {x : Addr} (h : (x :: us').Perm us) (h1 : ∀ r ∈ ts, KeyAt nx r (key r)) (h2 : ∀ r ∈ us, KeyAt nx r (key r)) : ∀ r ∈ ts ++ [x], KeyAt nx r (key r) := fun r hr => by
  rcases List.mem_append.mp hr with hr | hr
  · exact h1 r hr
  · rw [List.mem_singleton.mp hr]; exact h2 x (h.subset (List.mem_cons_self ..))
theorem pw_told {TD : Addr} {nx5 : Led} {o6 : Obj} {vs : List Value} {ts : List Addr} {x : Addr} (h : LsAt nx5 TD vs) (ho : IsLs o6 (ts.map .ref ++ [.ref x])) : LsAt (putAt TD o6 nx5) TD ((ts ++ [x]).map .ref) := by
  rw [List.map_append]; exact h.put ho
def PopSpec (ps : List (List Nat)) (wd : List Nat) (nms : List (List Nat)) (news : Led) (r : Value) (nx : Led) : Prop :=
  ((∀ p ∈ news, p.1 ≠ 64 → p ∈ nx) ∧ ∃ ps, (64, tabObj ps) ∈ nx) ∧ ∃ (TD : Addr) (ts : List Addr) (key : Addr → Int × List Nat), r = .ref TD ∧ LsAt nx TD (ts.map .ref) ∧ (∀ r ∈ ts, KeyAt nx r (key r)) ∧ (ts.map key).Perm (due ps wd nms) ∧ ts.Pairwise (fun a b => klt (key b) (key a) = false)
theorem due_congr {ps qs : List (List Nat)} {wd : List Nat} {nms : List (List Nat)} (h : ∀ x, Mt qs x ↔ Mt ps x) : due qs wd nms = due ps wd nms := by
  have e : mtB qs = mtB ps := by
    funext x
    rw [Bool.eq_iff_iff, mtB_iff, mtB_iff]
    exact h x
  unfold due; rw [e]
theorem strsV_len : ∀ {ps : List (List Nat)} {vs : List Value}, StrsV ps vs → vs.length = ps.length
  | [], [], _ => rfl
  | _ :: _, _ :: _, h => by simp [strsV_len h.2]
  | [], _ :: _, h => h.elim
  | _ :: _, [], h => h.elim
local macro_rules | `(tactic| walk_at "call builtin:str.join") => `(tactic| refine Halt.i ?_)
local macro_rules | `(tactic| walk_at "call builtin:list.append") => `(tactic| refine Halt.i ?_)
local macro_rules | `(tactic| walk_at "getMethod ref") => `(tactic| k_dflt ((refine' ls_appendM ?N ?l ?_); (case N => assumption); (case l => kcf_m)))
local macro_rules | `(tactic| walk_at "call type:object") => `(tactic| (refine' obj_new ?F ?N ?_; (case F => assumption); (case N => assumption); intro _ _ _ _ _))
local macro_rules | `(tactic| walk_at "call ref") => `(tactic| refine Halt.i ?_)
local macro_rules | `(tactic| walk_at "exec While") => `(tactic| refine Halt.i ?_)
local macro_rules | `(tactic| walk_at "truthy ref") => `(tactic| refine Halt.i ?_)
theorem popped_spec {w : World} (wd : List Nat) (tw : Tok) (PT NM : Addr) (ps nms : List (List Nat)) (pvs nmv : List Value) (hw : wd.length ≤ 9) (hwl : ∀ c ∈ wd, Letter c)
    (hPv : StrsV ps pvs) (hPp : ∀ p ∈ ps, Piece p) (hPl : ps.length ≤ 4) (hNv : StrsV nms nmv) (hNp : ∀ p ∈ nms, NameOk p) (hNl : nms.length ≤ 12) (news : List (Addr × Obj)) (hP : LsAt news PT pvs) (hN : LsAt news NM nmv) (hNM : NM ≠ 64) (htab : Tab lamPos news) :
    Ctr w 131 10 [.str (S wd) tw, .ref PT, .ref NM] news (PopSpec ps wd nms news) := by
  obtain ⟨ls, el, et⟩ := strsV_strValues hPv
  have hnv := strsV_len hNv
  refine fillme PySem.Challenge.rw_in0056_01 Mine.hp.heap_1 ?_
  k_fill
  intro _
  unfold Ctr
  intro p loose mean mg mb dp un gd cn cs a ccd cl outer A₀ base h₀ L m s Q E B F X N T hk hd hu hret
  refine wpAny_call ?_
  k_dflt ktr_enter
  clear F N
  k_steps
  refine Halt.o ?_
  rename News _ _ _ _ => N1
  k_dflt (refine' SC.join (s := ⟨_, _, _, _, _⟩) (l := ls) (texts := ps.map S) (el ▸ hP.tail.isList N1) et (joinOk_S hPl hPp) ?_)
  intro t4 k4
  rw [glued_S]
  k_steps
  refine Halt.o ?_
  k_dflt (refine' ctr_use (translate_spec _ ps hPp (by omega) _ _ _ (tabTail htab)) ?B ?F ?X ?N ?T ?hk ?dp ?un ?_)
  case B => k_asm
  case F => k_asm
  case X => k_asm
  case N => k_asm
  case T => k_asm
  case hk => exact rfl
  case dp => ktr_room
  case un => ktr_units
  rintro _ nx2 h8 tk8 F8 N8 ⟨⟨hb, hT⟩, P, qvs, qs, e8, hPA, hql, hqv, hqp, hqn, hqm⟩
  subst e8
  (try dsimp only)
  clear N1
  k_steps
  refine Halt.o ?_
  rename Fr _ _ _ _ => F1
  rename News _ _ _ ((_, _) :: (_, _) :: nx2) => N1
  obtain ⟨tps, h64⟩ := tab_ps hT
  have hkp := kept_of (fun p hp h => hb p (.tail _ hp) h) h64
  have hNk : LsAt ((64, tabObj tps) :: offIt 64 news) NM nmv := (hN.off hNM).tail
  have hN2 : LsAt nx2 NM nmv := let ⟨o, hm, e⟩ := hN; ⟨o, hb _ (.tail _ hm) hNM, e⟩
  refine for_list (l := NM) (vs := nmv) F1 (PoJE P wd qs nms qvs ((64, tabObj tps) :: offIt 64 news)) rfl rfl rfl rfl ?start ?turn ?done (hE := by passes_own)
  case start =>
    k_steps
    exact LsStart.mk (by assumption) (by assumption) hN2.tail.tail ⟨_, _, _, po_start rfl rfl rfl rfl rfl hkp hPA (by assumption) (by assumption), hqv⟩
  case turn =>
    rintro i v m₁ nx h₁ tk₁ it oi hv hJ hl2 F2 N2 off hit
    clear F1 N1 hqv
    obtain ⟨x, tx, rfl, hx⟩ : ∃ x tx, v = .str (S x) tx ∧ At nms i x := strsV_at hNv hv
    have hiv : i < nms.length := At.lt hx
    have hxo : NameOk x := hNp x (At.mem hx)
    clear hv
    unfold PoJE PoJ PoM at hJ
    obtain ⟨st, H, TD, ⟨key, rs, ⟨⟨m1, m2⟩, ⟨m3, m4⟩, t5, m5⟩, ⟨⟨hH, hkey, hok⟩, hrl, hperm⟩, ⟨hTD, hPA⟩, hsub, ⟨n1, n2, n3⟩⟩, hqv⟩ := hJ
    clear hb hT hkp h64
    k_steps
    refine Halt.o ?_
    k_dflt (refine' ctr_use (takes_spec P st qs qvs x hqp (by omega) (by have := hxo.2; omega) hxo.1 _ _ hPA.tail hql hqv) ?B ?F ?X ?N ?T ?hk ?dp ?un ?_)
    case B => k_asm
    case F => k_asm
    case X => k_asm
    case N => k_asm
    case T => k_asm
    case hk => exact rfl
    case dp => ktr_room
    case un => ktr_units
    rintro _ _ h8 tk8 F8 N8 ⟨e8, b8, f8, hb8⟩
    subst e8
    subst f8
    (try dsimp only)
    clear F2 N2
    rcases b8 with _ | _
    · k_steps
      refine' ForStep.mk ?F ?N off ⟨hl2, ?J⟩
      case F => assumption
      case N => assumption
      case J => exact ⟨st, H, TD, ⟨key, rs, ⟨⟨m1, m2⟩, ⟨m3, m4⟩, t5, m5⟩, ⟨⟨hH, hkey, hok⟩, by omega, po_no hx hb8 hperm⟩, ⟨hTD, hPA⟩, hsub, ⟨n1, n2, n3⟩⟩, hqv⟩
    · k_steps
      refine Halt.o ?_
      k_dflt (refine' ctr_use (lev_spec wd x (by omega) (by have := hxo.2; omega) hwl hxo.1 _ _ _ _) ?B ?F ?X ?N ?T ?hk ?dp ?un ?_)
      case B => k_asm
      case F => k_asm
      case X => k_asm
      case N => k_asm
      case T => k_asm
      case hk => exact rfl
      case dp => ktr_room
      case un => ktr_units
      rintro _ _ h7 tk7 F7 N7 ⟨e7, t7, f7⟩
      subst e7
      subst f7
      (try dsimp only)
      clear F8 N8
      k_steps
      refine Halt.o ?_
      rename @LT.lt Nat _ it _ ∧ AllLt _ nx => hlt
      k_dflt (refine' ctr_use (heappush_spec H (keyOn _ ((dist wd x : Nat), x) key) rs _ (by omega) _ (hH.tail.tail) (po_key hlt hkey) (po_hok hlt hkey hok)) ?B ?F ?X ?N ?T ?hk ?dp ?un ?_)
      case B => k_asm
      case F => k_asm
      case X => k_asm
      case N => k_asm
      case T => k_asm
      case hk => exact rfl
      case dp => ktr_room
      case un => ktr_units
      rintro _ nx5 h5 tk5 F5 N5 ⟨e5, rs5, hbut, hH5, hperm5, hok5⟩
      subst e5
      (try dsimp only)
      rename News _ _ _ (_ :: (it, oi) :: nx) => N9
      have hkey5 := po_keep N9 hH.tail.tail (po_key (k := ((dist wd x : Nat), x)) hlt hkey) hbut hperm5
      clear N9
      k_steps
      refine Halt.o ?_
      k_dflt (refine' ctr_use (heaped_spec H _ rs5 (by rw [hperm5.length_eq, List.length_append, List.length_singleton]; omega) _ hH5 hkey5 hok5) ?B ?F ?X ?N ?T ?hk ?dp ?un ?_)
      case B => k_asm
      case F => k_asm
      case X => k_asm
      case N => k_asm
      case T => k_asm
      case hk => exact rfl
      case dp => ktr_room
      case un => ktr_units
      rintro _ nx5 h6 tk6 F6 N6 ⟨e6, f6⟩
      subst e6
      subst f6
      (try dsimp only)
      clear F5 N5
      k_steps
      refine' ForStep.mk2 (nx := nx5) ?F ?N ?hm ?J
      case F => assumption
      case N => assumption
      case hm => exact hbut.1 _ (.tail _ (.head _)) (fun e => hH.ne off e.symm)
      case J =>
        have hNH : NM ≠ H := po_nh hNk hsub
        refine ⟨po_ls hbut hl2 hNH off, st, H, TD, ⟨keyOn _ ((dist wd x : Nat), x) key, rs5, ⟨⟨m1, m2⟩, ⟨m3, m4⟩, t5, m5⟩, ⟨⟨hH5.off (hH.ne off), po_koff hlt hkey off hperm5 hkey5, hok5⟩, by rw [hperm5.length_eq, List.length_append, List.length_singleton]; omega, po_perm hlt hkey hperm5 hx hb8 hperm⟩, ⟨po_ls hbut hTD n1.symm off, po_ls hbut hPA n2 off⟩, fun p hp => ⟨off_mem (hbut.1 _ (.tail _ (.tail _ (hsub p hp).1)) (hsub p hp).2.1) (off _ (hsub p hp).1), (hsub p hp).2⟩, ⟨n1, n2, n3⟩⟩, hqv⟩
  case done =>
    rintro m₁ nx h₁ tk₁ hJ hl2 F2 N2
    clear F1 N1 hqv hb hT hkp h64
    unfold PoJE PoJ PoM at hJ
    obtain ⟨st, H, TD, ⟨key, rs, ⟨⟨m1, m2⟩, ⟨m3, m4⟩, t5, m5⟩, ⟨⟨hH, hkey, hok⟩, hrl, hperm⟩, ⟨hTD, hPA⟩, hsub, ⟨n1, n2, n3⟩⟩, hqv⟩ := hJ
    dsimp only
    k_steps
    refine Halt.o ?_
    rename Fr _ _ _ _ => F3
    rename News _ _ _ _ => N3
    refine while_x (n₀ := rs.length) (PwJ H TD key rs ((64, tabObj tps) :: offIt 64 news)) (fun m₂ nx₂ => PwJ H TD key rs ((64, tabObj tps) :: offIt 64 news) 0 m₂ nx₂) F3 N3 ⟨rs, [], rfl, ⟨m3, m4⟩, ⟨hH, hkey, hok⟩, ⟨hTD, fun r hr => absurd hr (by simp)⟩, ⟨List.Perm.refl _, List.Pairwise.nil, fun r hr => absurd hr (by simp)⟩, hsub⟩ ?turn2 ?done2
    case turn2 =>
      clear F3 N3 hl2 hH hkey hok hperm hTD hPA hsub m1 m2 m3 m4 m5 hqv
      rintro n m₂ nx₂ h₂ tk₂ F4 N4 ⟨us, ts, rfl, ⟨a1, a2⟩, ⟨hH2, hk2, ho2⟩, ⟨hT2, hkt⟩, ⟨hp, hs1, hs2⟩, hsub2⟩
      have hplen := hp.length_eq
      rw [List.length_append] at hplen
      rcases Nat.eq_zero_or_pos us.length with h0 | h0
      · have hu0 := List.eq_nil_of_length_eq_zero h0
        subst hu0
        clear h0
        k_steps
        refine Halt.o ?_
        k_dflt (refine' ls_truthF (s := ⟨_, _, _, _, _⟩) (by assumption) hH2 ?_)
        intro tk5
        k_steps
        refine' WhExit.mk ?F ?N ?J
        case F => assumption
        case N => assumption
        case J => exact ⟨[], ts, rfl, ⟨a1, a2⟩, ⟨hH2, hk2, ho2⟩, ⟨hT2, hkt⟩, ⟨hp, hs1, hs2⟩, hsub2⟩
      · k_steps
        refine Halt.o ?_
        k_dflt (refine' ls_truthT (s := ⟨_, _, _, _, _⟩) (by assumption) hH2 (by simp; omega) (by simpa using h0) ?_)
        intro tk5
        k_steps
        refine Halt.o ?_
        k_dflt (refine' ctr_use (heappop_spec H key us h0 (by omega) _ hH2 hk2 ho2) ?B ?F ?X ?N ?T ?hk ?dp ?un ?_)
        case B => k_asm
        case F => k_asm
        case X => k_asm
        case N => k_asm
        case T => k_asm
        case hk => exact rfl
        case dp => ktr_room
        case un => ktr_units
        rintro _ nx5 h5 tk6 F5 N5 ⟨x, us', e5, hbut, hH5, hperm5, hok5, hmin⟩
        subst e5
        (try dsimp only)
        have hT5 : LsAt nx5 TD (ts.map .ref) := hbut.ls hT2 n1.symm
        k_steps
        refine Halt.o ?_
        k_dflt (refine' ls_append (s := ⟨_, _, _, _, _⟩) (by assumption) (by assumption) hT5 (by simp; omega) ?_)
        intro h6 o6 F6 N6 hO6
        have hk6 := pw_keep (o6 := o6) N5 N5 hH5 hT5 (But.refl H nx5) (fun r hr => hbut.key (hk2 r (hperm5.subset (List.mem_cons_of_mem _ hr))) ((hk2 r (hperm5.subset (List.mem_cons_of_mem _ hr))).ne N4 hH2))
        k_steps
        refine Halt.o ?_
        have hH6 := hH5.other (o' := o6) n1
        have hlen5 := hperm5.length_eq
        rw [List.length_cons] at hlen5
        k_dflt (refine' ctr_use (heaped_spec H _ us' (by omega) _ hH6 hk6 hok5) ?B ?F ?X ?N ?T ?hk ?dp ?un ?_)
        case B => k_asm
        case F => k_asm
        case X => k_asm
        case N => k_asm
        case T => k_asm
        case hk => exact rfl
        case dp => ktr_room
        case un => ktr_units
        rintro _ nx8 h8 tk8 F8 N8 ⟨e8, f8⟩
        subst e8
        subst f8
        (try dsimp only)
        k_steps
        refine' WhStep.mk ?F ?N (n' := us'.length) ?n ?J
        case F => assumption
        case N => assumption
        case n => omega
        case J => exact ⟨us', ts ++ [x], rfl, ⟨a1, a2⟩, ⟨hH6, hk6, hok5⟩, ⟨pw_told hT5 hO6, pw_keep N4 N5 hH2 hT5 hbut (pw_keys hperm5 hkt hk2)⟩, ⟨pw_perm hp hperm5, pw_pair hperm5 hs1 hs2, pw_all hperm5 hs2 hmin⟩, fun p hp => ⟨putAt_other (hbut.1 _ (hsub2 p hp).1 (hsub2 p hp).2.1) (hsub2 p hp).2.2, (hsub2 p hp).2⟩⟩
    case done2 =>
      rintro m₃ nx₃ h₃ tk₃ F7 N7 ⟨us, ts, e0, ⟨a1, a2⟩, ⟨hH2, hk2, ho2⟩, ⟨hT2, hkt⟩, ⟨hp, hs1, hs2⟩, hsub2⟩
      dsimp only
      have hu0 := List.eq_nil_of_length_eq_zero e0.symm
      subst hu0
      k_steps
      refine hret _ _ _ _ (by assumption) (by assumption) ⟨⟨fun p hp h => (hsub2 p (.tail _ (off_mem hp h))).1, tps, (hsub2 _ (.head _)).1⟩, TD, ts, key, rfl, hT2, hkt, ?_, hs1⟩
      rw [List.append_nil] at hp
      rw [hnv, List.take_length] at hperm
      exact (hp.map key).trans (due_congr hqm ▸ hperm)

end

end

section
theorem CellB.mk0 {nx : Led} {c : Addr} {o : Obj} {v : Option Value} (h : (c, o) ∈ nx) (e : o.data = .cell v) : CellB nx c := ⟨o, v, h, e⟩
theorem law_cells {nx8 : Led} {a : Addr} {o o' : Obj} {v1 v2 : Value} (h1 : CellB nx8 (a + 1)) (h2 : CellB nx8 (a + 1 + 1)) (d1 : o.data = .cell (some v1)) (d2 : o'.data = .cell (some v2)) :
    CellAt (putAt (a + 1 + 1) o' (putAt (a + 1) o nx8)) (a + 1) v1 ∧ CellAt (putAt (a + 1 + 1) o' (putAt (a + 1) o nx8)) (a + 1 + 1) v2 :=
  ⟨(CellAt.put h1 d1).other (c12 _), CellAt.put (h2.other (c12 _).symm) d2⟩
theorem law_ls {a x : Addr} {nx8 : Led} {o o' : Obj} {vs : List Value} (h1 : x ≠ a + 1) (h2 : x ≠ a + 1 + 1) (hl : LsAt nx8 x vs) : LsAt (putAt (a + 1 + 1) o' (putAt (a + 1) o nx8)) x vs := (hl.other h1).other h2
theorem law_64 {a : Addr} {nx8 : Led} {o o' t : Obj} (h : 64 < a) (hl : (64, t) ∈ nx8) : (64, t) ∈ putAt (a + 1 + 1) o' (putAt (a + 1) o nx8) :=
  putAt_other (putAt_other hl (Nat.ne_of_lt (Nat.lt_succ_of_lt h))) (Nat.ne_of_lt (Nat.lt_succ_of_lt (Nat.lt_succ_of_lt h)))
theorem law_led {nx8 : Led} {a PT NM : Addr} {o o' t : Obj} {v1 v2 : Value} {pvs nmv : List Value} (h1 : CellB nx8 (a + 1)) (h2 : CellB nx8 (a + 1 + 1)) (d1 : o.data = .cell (some v1)) (d2 : o'.data = .cell (some v2))
    (p1 : PT ≠ a + 1) (p2 : PT ≠ a + 1 + 1) (p3 : NM ≠ a + 1) (p4 : NM ≠ a + 1 + 1) (hP : LsAt nx8 PT pvs) (hN : LsAt nx8 NM nmv) (h : 64 < a) (hl : (64, t) ∈ nx8) :
    ((CellAt (putAt (a + 1 + 1) o' (putAt (a + 1) o nx8)) (a + 1) v1 ∧ CellAt (putAt (a + 1 + 1) o' (putAt (a + 1) o nx8)) (a + 1 + 1) v2) ∧ (LsAt (putAt (a + 1 + 1) o' (putAt (a + 1) o nx8)) PT pvs ∧ LsAt (putAt (a + 1 + 1) o' (putAt (a + 1) o nx8)) NM nmv)) ∧ (64, t) ∈ putAt (a + 1 + 1) o' (putAt (a + 1) o nx8) :=
  ⟨⟨law_cells h1 h2 d1 d2, law_ls p1 p2 hP, law_ls p3 p4 hN⟩, law_64 h hl⟩
theorem strsV_pieces : ∀ {ps : List (List Nat)} {vs : List Value}, StrsV ps vs → ∀ i p v, At ps i p → At vs i v → PieceV p v
  | [], _, _, i, p, v, h, _ => by have := h.e; simp at this
  | _ :: _, [], h, _, _, _, _, _ => h.elim
  | x :: xs, w :: ws, h, 0, p, v, hp, hv => by
    have e1 := hp.e
    have e2 := hv.e
    simp at e1 e2
    rw [← e1, ← e2]; exact h.1
  | x :: xs, w :: ws, h, i + 1, p, v, hp, hv => strsV_pieces h.2 i p v ⟨by have := hp.e; simpa using this⟩ ⟨by have := hv.e; simpa using this⟩
theorem due_len {ps : List (List Nat)} {wd : List Nat} {ns : List (List Nat)} : (due ps wd ns).length ≤ ns.length := by
  unfold due; rw [List.length_map]; exact List.length_filter_le ..
theorem keys_uniq : ∀ {a b : List (Int × List Nat)}, a.Perm b → a.Pairwise (fun x y => klt y x = false) → b.Pairwise (fun x y => klt y x = false) → a = b
  | [], b, h, _, _ => by rw [List.nil_perm.mp h]
  | x :: a, [], h, _, _ => absurd h.length_eq (by simp)
  | x :: a, y :: b, h, ha, hb => by
    rw [List.pairwise_cons] at ha hb
    have e : x = y := by
      by_cases q : x = y
      · exact q
      · have h1 : y ∈ a := by
          rcases List.mem_cons.mp (h.symm.subset (List.mem_cons_self ..)) with r | r
          · exact absurd r.symm q
          · exact r
        have h2 : x ∈ b := by
          rcases List.mem_cons.mp (h.subset (List.mem_cons_self ..)) with r | r
          · exact absurd r q
          · exact r
        exact klt_tri _ _ (hb.1 x h2) (ha.1 y h1)
    subst e
    rw [keys_uniq ((List.perm_cons x).mp h) ha.2 hb.2]
theorem law_same {ts rs rs2 : List Addr} {key key2 : Addr → Int × List Nat} {ks : List (Int × List Nat)} (h1 : (ts.map key2).Perm ks) (h2 : ts.Pairwise (fun a b => klt (key2 b) (key2 a) = false)) (h3 : rs2.Perm rs) (h4 : rs2.Pairwise (fun a b => klt (key b) (key a) = false)) (h5 : rs.map key = ks) : ts.map key2 = rs2.map key :=
  keys_uniq (h1.trans (h5 ▸ (h3.map key).symm)) (List.pairwise_map.mpr h2) (List.pairwise_map.mpr h4)
theorem Tab.key_ne {pos : Pos} {h₀ h : Heap} {L r : Addr} {nx : Led} {k : Int × List Nat} (N : News h₀ L h nx) (x : Tab pos nx) (y : KeyAt nx r k) : r ≠ 64 := by
  obtain ⟨o', dd, n, sl, t, u, hm', e'⟩ := y
  intro q
  subst q
  have h2 := (N _ hm').1
  have key : ∀ ps, (64, tabObj ps) ∈ nx → False := fun ps hm => by
    have h1 := (N _ hm).1
    rw [h1] at h2
    have h3 : tabObj ps = o' := Option.some.inj h2
    rw [e'] at h3
    have h4 : (Value.none : Value) = Value.type "tuple" := congrArg Obj.cls h3
    cases h4
  rcases x with x | ⟨c, x⟩
  · exact key _ x
  · exact key _ x
theorem law_keep {nx nx5 : Led} {rs : List Addr} {key : Addr → Int × List Nat} (hne : ∀ r ∈ rs, r ≠ 64) (hk : ∀ r ∈ rs, KeyAt nx r (key r)) (keep : ∀ p ∈ nx, p.1 ≠ 64 → p ∈ nx5) : ∀ r ∈ rs, KeyAt nx5 r (key r) := fun r hr => by
  obtain ⟨o, dd, n, sl, t, u, hm, e⟩ := hk r hr
  exact ⟨o, dd, n, sl, t, u, keep _ hm (hne r hr), e⟩
theorem law_post (ns : List Int) : PySem.Challenge.rw_in0056_01.row.claim.post [ofPy (PyData.list (ns.map PyData.int))] (WData.bool true) [ofPy (PyData.list (ns.map PyData.int))] = true := by
  wrow_post
theorem drPost_imp {news : Led} (r : Value) (nx : Led) (h : DrPost news r nx) (K : Value → Led → Prop)
    (k : ∀ (T PT NM : Addr) (wd : List Nat) (ps nms : List (List Nat)) (pvs nmv : List Value) (tk : Tok) (nx : Led), (T, ({ cls := Value.type "tuple", data := Data.seq #[.str (S wd) tk, .ref PT, .ref NM] } : Obj)) ∈ nx → wd.length ≤ 9 → (∀ c ∈ wd, Letter c) →
      LsAt nx PT pvs → StrsV ps pvs → (∀ p ∈ ps, Piece p) → ps.length ≤ 4 → LsAt nx NM nmv → StrsV nms nmv → (∀ p ∈ nms, NameOk p) → nms.length ≤ 12 → (∀ p ∈ news, p ∈ nx) → K (.ref T) nx) : K r nx := by
  obtain ⟨T, PT, NM, wd, ps, nms, pvs, nmv, tk, ⟨rfl, hT⟩, ⟨w0, w9, wl⟩, ⟨hP, hPv, hPp, hPl⟩, ⟨hN, hNv, hNp, hNl⟩, ⟨hsub, n1, n2, n3⟩⟩ := h
  exact k T PT NM wd ps nms pvs nmv tk nx hT w9 wl hP hPv hPp hPl hN hNv hNp hNl fun p hp => (hsub p hp).1
theorem popSpec_imp {ps : List (List Nat)} {wd : List Nat} {nms : List (List Nat)} {news : Led} (r : Value) (nx : Led) (h : PopSpec ps wd nms news r nx) (K : Value → Led → Prop)
    (k : ∀ (tps : Array Value) (TD : Addr) (ts : List Addr) (key : Addr → Int × List Nat) (nx : Led), (∀ p ∈ news, p.1 ≠ 64 → p ∈ nx) → (64, tabObj tps) ∈ nx → LsAt nx TD (ts.map .ref) → (∀ r ∈ ts, KeyAt nx r (key r)) → (ts.map key).Perm (due ps wd nms) → ts.Pairwise (fun a b => klt (key b) (key a) = false) → K (.ref TD) nx) : K r nx := by
  obtain ⟨⟨hkeep, tps, h64⟩, TD, ts, key, rfl, hTD, hk, hp, hw⟩ := h
  exact k tps TD ts key nx hkeep h64 hTD hk hp hw
def LawJ (nx9 : Led) (ps : List (List Nat)) (wd : List Nat) (nms : List (List Nat)) (i : Nat) (ys : List Value) (nx : Led) : Prop :=
  ∃ (rs : List Addr) (key : Addr → Int × List Nat), ys = rs.map .ref ∧ (∀ r ∈ rs, KeyAt nx r (key r)) ∧ rs.map key = due ps wd (nms.take i) ∧ ∀ p ∈ nx9, p ∈ nx
theorem LawJ.sub {nx9 nx : Led} {ps nms : List (List Nat)} {wd : List Nat} {i : Nat} {ys : List Value} (h : LawJ nx9 ps wd nms i ys nx) : ∀ p ∈ nx9, p ∈ nx := let ⟨_, _, _, _, _, x⟩ := h; x
theorem LawJ.el {nx9 nx : Led} {ps nms : List (List Nat)} {wd : List Nat} {i : Nat} {ys : List Value} (h : LawJ nx9 ps wd nms i ys nx) {P : Prop}
    (k : ∀ (rs : List Addr) (key : Addr → Int × List Nat), ys = rs.map .ref → (∀ r ∈ rs, KeyAt nx r (key r)) → rs.map key = due ps wd (nms.take i) → (∀ p ∈ nx9, p ∈ nx) → P) : P := by
  obtain ⟨rs, key, rfl, hk, he, hs⟩ := h
  exact k rs key rfl hk he hs
theorem law_yes {nx9 nx : Led} {ps nms : List (List Nat)} {wd x : List Nat} {i : Nat} {ys : List Value} {D : Addr} {t u : Tok} (hJ : LawJ nx9 ps wd nms i ys nx) (hlt : ∀ p ∈ nx, p.1 < D) (hx : At nms i x) (hb : true = true ↔ Mt ps x) :
    LawJ nx9 ps wd nms (i + 1) (ys ++ [.ref D]) ((D, { cls := .type "tuple", data := .seq #[.int ((dist wd x : Nat) : Int) t, .str (S x) u] }) :: nx) := by
  obtain ⟨rs, key, rfl, hk, he, hs⟩ := hJ
  have hne : ∀ r ∈ rs, r ≠ D := fun r hr => by
    obtain ⟨o, dd, n, sl, t, u, hm, e⟩ := hk r hr
    exact Nat.ne_of_lt (hlt _ hm)
  refine ⟨rs ++ [D], keyOn D ((dist wd x : Nat), x) key, by rw [List.map_append]; rfl, fun r hr => ?_, ?_, fun p hp => .tail _ (hs p hp)⟩
  · rcases List.mem_append.mp hr with hr | hr
    · rw [keyOn_ne (hne r hr)]; exact (hk r hr).tail
    · rw [List.mem_singleton.mp hr, keyOn_self]; exact ⟨_, _, _, _, _, _, .head _, rfl⟩
  · rw [take_snoc hx, due_snoc, if_pos (mtB_iff.mpr (hb.mp rfl)), List.map_append, List.map_cons, List.map_nil, keyOn_self, List.map_congr_left fun r hr => keyOn_ne (hne r hr), he]
theorem law_sub {p1 p2 p3 p4 : Addr × Obj} {nx : Led} : ∀ p ∈ p1 :: p2 :: p3 :: p4 :: nx, p ∈ p4 :: p1 :: p2 :: p3 :: nx := fun p hp => by
  rcases List.mem_cons.mp hp with rfl | hp
  · exact .tail _ (.head _)
  · rcases List.mem_cons.mp hp with rfl | hp
    · exact .tail _ (.tail _ (.head _))
    · rcases List.mem_cons.mp hp with rfl | hp
      · exact .tail _ (.tail _ (.tail _ (.head _)))
      · rcases List.mem_cons.mp hp with rfl | hp
        · exact .head _
        · exact .tail _ (.tail _ (.tail _ (.tail _ hp)))
theorem law_no {nx9 nx : Led} {ps nms : List (List Nat)} {wd x : List Nat} {i : Nat} {ys : List Value} (hJ : LawJ nx9 ps wd nms i ys nx) (hx : At nms i x) (hb : false = true ↔ Mt ps x) : LawJ nx9 ps wd nms (i + 1) ys nx := by
  obtain ⟨rs, key, e, hk, he, hs⟩ := hJ
  refine ⟨rs, key, e, hk, ?_, hs⟩
  rw [take_snoc hx, due_snoc, if_neg (fun h => Bool.false_ne_true (hb.mpr (mtB_iff.mp h)))]; exact he
local macro_rules | `(tactic| kcf_m) => `(tactic| ((with_reducible show CellB (putAt _ _ _) _); exact CellB.other (by kcf_m) (c12 _).symm))
local macro_rules | `(tactic| walk_at "exec For") => `(tactic| refine Halt.i ?_)
local macro_rules | `(tactic| walk_at "call ref") => `(tactic| refine Halt.i ?_)
local macro_rules | `(tactic| walk_at "assign Tuple") => `(tactic| refine Halt.i ?_)
local macro_rules | `(tactic| walk_at "call builtin:sorted") => `(tactic| refine Halt.i ?_)
local macro_rules | `(tactic| walk_at "compareOp Eq ref ref") => `(tactic| refine Halt.i ?_)
local macro_rules | `(tactic| walk_at "eval ListComp") => `(tactic| refine Halt.i ?_)
theorem law1 : PySem.Challenge.rw_in0056_01.Holds := by
  refine Mine.hd ?_
  w_strict k_go0
  rename CellsAre _ _ _ => X0
  obtain ⟨oc1, oc2, hE, hd1, hd2⟩ := CellsAre.two X0
  simp only [List.cons.injEq, Prod.mk.injEq, true_and, and_true] at hE
  obtain ⟨q1, q2⟩ := hE
  subst q1
  subst q2
  clear X0
  k_steps
  refine Halt.o ?_
  rename IntsAre _ (List.take 7 _) => hi7
  have hlen7 : _ := hi7.length
  rw [List.length_take] at hlen7
  rename News _ _ _ ((_, W.listOf (List.toArray _) 0) :: _) => N1
  k_dflt (refine' ctr_useC (drawn_spec _ _ _ hi7 (by omega) _ LsAt.head) drPost_imp ?B ?F ?X ?N ?T ?hk ?dp ?un ?_)
  case B => k_asm
  case F => k_asm
  case X => k_asm
  case N => k_asm
  case T => k_asm
  case hk => exact rfl
  case dp => ktr_room
  case un => ktr_units
  intro T PT NM wd ps nms pvs nmv tk nx8 hT w9 wl hP hPv hPp hPl hN hNv hNp hNl hsub h8 tk8 F8 N8
  (try dsimp only)
  have hc1 := CellB.mono (CellB.mk0 (.tail _ (.head _)) hd1) hsub
  have hc2 := CellB.mono (CellB.mk0 (.tail _ (.tail _ (.head _))) hd2) hsub
  have hc64 := hsub _ (.tail _ (.tail _ (.tail _ (.head _))))
  clear N1 hsub hd1 hd2
  k_steps
  refine Halt.o ?_
  have p1 := hc2.ls_ne N8 hP
  have p2 := hc1.ls_ne N8 hP
  have p3 := hc2.ls_ne N8 hN
  have p4 := hc1.ls_ne N8 hN
  refine unpackN_ F8 N8 ⟨_, N8.get hT, rfl, _, rfl⟩ rfl rfl rfl fun h9 F9 N9 => ?_
  clear F8 N8
  k_steps
  refine Halt.o ?_
  rename Obj.data _ = Data.cell (some (.ref PT)) => d2
  rename Obj.data _ = Data.cell (some (.str (S wd) tk)) => d1
  rename Fr _ _ _ _ => F10
  rename News _ _ _ (putAt _ _ _) => N10
  rename 64 < _ => l64
  have hall := law_led hc2 hc1 d1 d2 p1 p2 p3 p4 hP hN l64 hc64
  revert hall N10
  generalize putAt _ _ (putAt _ _ _) = nx9
  intro N10 hall
  clear hc1 hc2 hP hN hc64 hT d1 d2 p1 p2 p3 p4
  have cw := hall.1.1.1
  have cs := hall.1.1.2
  have hP := hall.1.2.1
  have hN := hall.1.2.2
  have h64 := hall.2
  clear hall
  refine comp_listT (l := NM) (vs := nmv) F10 (LawJ nx9 ps wd nms) (by with_unfolding_all rfl) (by decide) (by rfl) (by decide) (by rfl) rfl (by have := strsV_len hNv; omega) ?start ?turn ?done
  case start =>
    k_steps
    exact LsStart.mk (by assumption) (by assumption) hN ⟨rfl, [], fun _ => (0, []), rfl, fun r hr => absurd hr (by simp), by rw [List.take_zero]; rfl, fun p hp => hp⟩
  case turn =>
    rintro i v ys nx I oI C oC D m₂ h tk E' hv hJ hS hC hk F11 N11 off ne
    clear F10 N10
    obtain ⟨x, tx, rfl, hx⟩ : ∃ x tx, v = .str (S x) tx ∧ At nms i x := strsV_at hNv hv
    have hiv : i < nms.length := At.lt hx
    have hxo : NameOk x := hNp x (At.mem hx)
    clear hv
    have hsub := hJ.sub
    have cs1 := (cs.mono hsub).tail (p := (D, LCg.lst ys)) |>.tail (p := (C, oC)) |>.tail (p := (I, oI))
    have cw1 := (cw.mono hsub).tail (p := (D, LCg.lst ys)) |>.tail (p := (C, oC)) |>.tail (p := (I, oI))
    have hP1 := (hP.mono hsub).tail (p := (D, LCg.lst ys)) |>.tail (p := (C, oC)) |>.tail (p := (I, oI))
    clear hN hP cs cw h64
    k_steps
    refine Halt.o ?_
    k_dflt (refine' ctr_useC (fits_spec PT ps pvs x hPp (by omega) (by have := hxo.2; omega) hxo.1 _ _ hP1 (strsV_len hPv) (strsV_pieces hPv)) bool_imp ?B ?F ?X ?N ?T ?hk ?dp ?un ?_)
    case B => k_asm
    case F => k_asm
    case X => k_asm
    case N => k_asm
    case T => k_asm
    case hk => exact rfl
    case dp => ktr_room
    case un => ktr_units
    clear F11 N11
    refine And.symm ⟨?_, ?_⟩
    · intro hb8 h8 tk8 F8 N8
      (try dsimp only)
      k_steps
      refine Halt.o ?_
      refine' LCg.CompEnd.intro ?F ?N nx ?sub off hS (law_no hJ hx hb8)
      case F => assumption
      case N => assumption
      case sub => exact fun p hp => hp
    · intro hb8 h8 tk8 F8 N8
      (try dsimp only)
      k_steps
      refine Halt.o ?_
      k_dflt (refine' ctr_useC (far_spec wd x (by omega) (by have := hxo.2; omega) wl hxo.1 _ _ _) int_imp ?B ?F ?X ?N ?T ?hk ?dp ?un ?_)
      case B => k_asm
      case F => k_asm
      case X => k_asm
      case N => k_asm
      case T => k_asm
      case hk => exact rfl
      case dp => ktr_room
      case un => ktr_units
      intro t7 h7 tk7 F7 N7
      (try dsimp only)
      clear F8 N8
      k_steps
      refine Halt.o ?_
      rename @LT.lt Nat _ I _ ∧ _ => hlt
      rename News _ _ _ ((_, _) :: (I, oI) :: _) => N12
      have hltn := allLt_mem hlt.2.2.2
      refine' LCg.CompEnd.intro ?F N12 ((_, _) :: nx) ?sub ⟨⟨?o1, ?o2, ?o3⟩, off⟩ hS.tail (law_yes hJ hltn hx hb8)
      case F => assumption
      case o1 => exact (Nat.ne_of_lt hlt.1).symm
      case o2 => exact (Nat.ne_of_lt hlt.2.1).symm
      case o3 => exact (Nat.ne_of_lt hlt.2.2.1).symm
      case sub => exact law_sub
  case done =>
    intro D ys nx h tk hJ hS F11 N11 off
    clear F10 N10
    refine hJ.el ?_
    clear hJ
    intro rs key e1 hk he hsub
    subst e1
    have hrl := congrArg List.length he
    rw [List.length_map] at hrl
    have hdl := due_len (ps := ps) (wd := wd) (ns := List.take nmv.length nms)
    have hnl := strsV_len hNv
    rw [List.length_take] at hdl
    rw [hnl, List.take_length] at he
    k_steps
    refine Halt.o ?_
    refine ls_sorted F11 N11 (l := D) (rs := rs) (key := key) ⟨_, .head _, _, rfl⟩ (fun r hr => (hk r hr).tail) (by omega) fun D2 o2 rs2 h2 F12 N12 hso => ?_
    clear F11 N11
    have cs1 := (cs.mono hsub).tail (p := (D, LCg.lst (rs.map .ref))) |>.tail (p := (D2, o2))
    have cw1 := (cw.mono hsub).tail (p := (D, LCg.lst (rs.map .ref))) |>.tail (p := (D2, o2))
    have hP1 := (hP.mono hsub).tail (p := (D, LCg.lst (rs.map .ref))) |>.tail (p := (D2, o2))
    have hN1 := (hN.mono hsub).tail (p := (D, LCg.lst (rs.map .ref))) |>.tail (p := (D2, o2))
    have h641 := List.Mem.tail (D2, o2) (List.Mem.tail (D, LCg.lst (rs.map .ref)) (hsub _ h64))
    have hk1 : ∀ r ∈ rs2, KeyAt ((D2, o2) :: (D, LCg.lst (rs.map .ref)) :: nx) r (key r) := fun r hr => (hk r (hso.2.1.subset hr)).tail.tail
    have hD2 : LsAt ((D2, o2) :: (D, LCg.lst (rs.map .ref)) :: nx) D2 (rs2.map .ref) := ⟨o2, .head _, hso.1⟩
    have hNM := Tab.ls_ne (pos := lamPos) N12 (.inl h641) hN1
    have hDM := Tab.ls_ne (pos := lamPos) N12 (.inl h641) hD2
    clear hN hP cs cw h64 hS
    have hne4 : ∀ r ∈ rs2, r ≠ 64 := fun r hr => Tab.key_ne (pos := lamPos) N12 (.inl h641) (hk1 r hr)
    k_steps
    refine Halt.o ?_
    k_dflt (refine' ctr_useC (popped_spec wd _ PT NM ps nms pvs nmv w9 wl hPv hPp hPl hNv hNp hNl _ hP1 hN1 hNM (.inl h641)) popSpec_imp ?B ?F ?X ?N ?T ?hk ?dp ?un ?_)
    case B => k_asm
    case F => k_asm
    case X => k_asm
    case N => k_asm
    case T => k_asm
    case hk => exact rfl
    case dp => ktr_room
    case un => ktr_units
    intro tps TD ts key2 nx5 hkeep h645 hTD hk5 hperm5 hpw5 h5 tk5 F5 N5
    (try dsimp only)
    have hk6 := law_keep hne4 hk1 hkeep
    have hD6 : LsAt nx5 D2 (rs2.map .ref) := ⟨o2, hkeep _ (.head _) hDM, hso.1⟩
    k_steps
    refine Halt.o ?_
    refine ls_eqKeys ?room ?room2 N5 hTD hD6 hk5 hk6 (law_same hperm5 hpw5 hso.2.1 hso.2.2.1 he) ?_
    case room => ktr_units
    case room2 => ktr_units
    refine ⟨?_, GrownAt.of N5 h645, trivial⟩
    refine goodW_bool F5 ?gg ?rr ?pp
    case gg => assumption
    case rr => intro cls; rfl
    case pp => exact law_post _

end

end

end

end Mine
theorem PySem.Challenge.cw_in0056_01_holds : PySem.Challenge.rw_in0056_01.Holds := by
  exact Mine.law1

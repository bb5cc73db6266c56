import PyProof.Rows.All
import Wide.All
import OpenK.AllK
import Wide.FinOn
import PySem.Challenge.RW_il0154_01
open PySem PySem.W PyProof.Rows
set_option Elab.async false
set_option linter.unusedVariables false
set_option linter.unusedSectionVars false
set_option linter.unusedSimpArgs false
set_option linter.deprecated false
section D1S
set_option maxRecDepth 100000
namespace Mine
def topG (ok : Thread → Bool) (st : SharedT → Thread → Option (SharedT × Thread)) : Nat → SharedT → Thread → Option SharedT
  | 0, _, _ => none
  | n + 1, s, t => match through t with
    | true => some s
    | false => match ok t with
      | false => none
      | true => match st s t with
        | some (s', t') => topG ok st n s' t'
        | none => none
theorem topG_of {tb : String → Option Builtin} {p : Program} {w : World} {n₀ : Nat} {ann : Option Value} : ∀ {n : Nat} {s r : SharedT} {t : Thread}, topG (stepOk n₀ ann) (stepT (denote tb) p w) n s t = some r → topRun tb p w n₀ ann n s.abs t = some r.abs
  | 0, _, _, _, h => by cases h
  | n + 1, s, r, t, h => by
    unfold topG at h
    unfold topRun
    cases he : through t with
    | true => rw [he] at h; cases h; rfl
    | false =>
      rw [he] at h
      cases hk : stepOk n₀ ann t with
      | false => rw [hk] at h; cases h
      | true =>
        rw [hk] at h
        cases hs : stepT (denote tb) p w s t with
        | none => rw [hs] at h; cases h
        | some x => obtain ⟨s₂, t₂⟩ := x; rw [hs] at h; simp only [stepT_spec hs]; exact topG_of h
def tree : List Obj → Nat → BT → BT
  | [], _, t => t
  | o :: l, n, t => tree l (n + 1) (t.ins n o)
noncomputable def bootTree (P : Params) : BT := tree (boot_heap P).objs.toList 0 .nil
def vw : Program := PySem.W.view PySem.Challenge.pw_il0154_01 [0, 1, 3, 5, 7, 8, 10, 12, 13, 15, 16, 17, 20, 21, 22, 23, 24, 25, 26, 27]
def rowOf : OpenRow := PySem.Challenge.rw_il0154_01.row
def xt (s : Shared) : Bool := xlAt vw [] s && recOk (RowW.records rowOf.toRowW) s
noncomputable def runQ (w : World) (os : OsState) : Option SharedT :=
  topG (PySem.W.Fast.tw6613529449190102663 11 (some (.ref 6))) (PySem.W.Fast.tw10156331382660048174 (PySem.W.Fast.tw11892475500146522536 PySem.W.Fast.tw14364793385576792824) PySem.Challenge.pw_il0154_01 w) 3024 ⟨bootTree w.params, 11, (boot_heap w.params).life, Array.mk [], boot_drawn, boot_toks, os⟩ (topStub PySem.Challenge.pw_il0154_01)
noncomputable def looks (P : Params) (s : Shared) :=
  ((staticsOk (importedModules PySem.Challenge.pw_il0154_01.main.body) (boot_heap P) s.heap && namesBound PySem.Challenge.pw_il0154_01 s.heap && gensDone s && laidKept (boot_heap P) s.heap),
   PySem.W.Fast.tw4187177175401517315 vw [] (importedModules PySem.Challenge.pw_il0154_01.main.body) xt true s)
theorem looked0 (w : World) (os : OsState) : (runQ (w.withFollow "special-get-raises" false) os).map (fun r => looks (w.withFollow "special-get-raises" false).params r.abs) = some (true, openGood vw []) := by kernel_rfl
theorem looked1 (w : World) (os : OsState) : (runQ (w.withFollow "special-get-raises" true) os).map (fun r => looks (w.withFollow "special-get-raises" true).params r.abs) = some (true, openGood vw []) := by kernel_rfl
theorem opened : ∀ w : World, (fencedOpening treeTable PySem.Challenge.pw_il0154_01 w 3024).map (fun s => (s.heap, s.gens, s.drawn, s.toks)) = some (boot_heap w.params, Array.mk [], boot_drawn, boot_toks) :=
  boot_open (by kernel_rfl) (by decide +kernel) (fun s => by kernel_rfl)
theorem boot_abs (P : Params) : absHeap (bootTree P) 11 (boot_heap P).life = boot_heap P := by kernel_rfl
theorem boot_size (P : Params) : ((boot_heap P).isNs mainGlobals, (boot_heap P).objs.size, (boot_heap P).nsMap mainGlobals "__annotations__") = (true, 11, some (.ref 6)) := by kernel_rfl
theorem saidQ : PySem.Challenge.rw_il0154_01.wellSaid = true := by
  rw [PySem.W.Fast.te9446332074065402090]
  delta PySem.W.Fast.tw9446332074065402090
  repeat' (with_reducible refine Bool.and_eq_true_iff.mpr ⟨?_, ?_⟩)
  delta PySem.W.Fast.tw17960256430627541270
  repeat' (with_reducible refine Bool.and_eq_true_iff.mpr ⟨?_, ?_⟩)
  delta PySem.W.Fast.tw2436336058641802641
  repeat' (with_reducible refine Bool.and_eq_true_iff.mpr ⟨?_, ?_⟩)
  delta PySem.W.Fast.tw12908688711261696721
  repeat' (with_reducible refine Bool.and_eq_true_iff.mpr ⟨?_, ?_⟩)
  all_goals decide +kernel
end Mine
end D1S

section D2S
set_option maxRecDepth 100000
namespace Mine
theorem runQ_eq (w : World) (os : OsState) : topG (stepOk 11 (some (.ref 6))) (stepT (denote treeTable) PySem.Challenge.pw_il0154_01 w) 3024 ⟨bootTree w.params, 11, (boot_heap w.params).life, Array.mk [], boot_drawn, boot_toks, os⟩ (topStub PySem.Challenge.pw_il0154_01) = runQ w os := by
  unfold runQ
  rw [← PySem.W.Fast.te6613529449190102663, ← PySem.W.Fast.te10156331382660048174, ← PySem.W.Fast.te11892475500146522536, ← PySem.W.Fast.te14364793385576792824]
theorem top_some {w : World} {os : OsState} {s : Shared} (run : topRun treeTable PySem.Challenge.pw_il0154_01 w 11 (some (.ref 6)) 3024 ⟨boot_heap w.params, Array.mk [], boot_drawn, boot_toks, os⟩ (topStub PySem.Challenge.pw_il0154_01) = some s)
    (l1 : (staticsOk (importedModules PySem.Challenge.pw_il0154_01.main.body) (boot_heap w.params) s.heap && namesBound PySem.Challenge.pw_il0154_01 s.heap && gensDone s && laidKept (boot_heap w.params) s.heap) = true) :
    topFrom treeTable PySem.Challenge.pw_il0154_01 w 3024 ⟨boot_heap w.params, Array.mk [], boot_drawn, boot_toks, os⟩ = some s := by
  obtain ⟨z1, z2, z3⟩ : _ ∧ _ ∧ _ := by simpa only [Prod.mk.injEq] using boot_size w.params
  unfold topFrom
  dsimp only
  rw [z1, z2, z3, run]
  simp only [Option.bind_some, l1]
  rfl
theorem run_some {w : World} {os : OsState} {r : SharedT} (hr : runQ w os = some r) : topRun treeTable PySem.Challenge.pw_il0154_01 w 11 (some (.ref 6)) 3024 ⟨boot_heap w.params, Array.mk [], boot_drawn, boot_toks, os⟩ (topStub PySem.Challenge.pw_il0154_01) = some r.abs := by
  rw [← runQ_eq] at hr
  have run := topG_of hr
  have e0 : SharedT.abs ⟨bootTree w.params, 11, (boot_heap w.params).life, Array.mk [], boot_drawn, boot_toks, os⟩ = ⟨boot_heap w.params, Array.mk [], boot_drawn, boot_toks, os⟩ := by
    unfold SharedT.abs
    dsimp only
    rw [boot_abs]
  rw [e0] at run
  exact run
theorem left_of {w : World} (h : ∀ os, (runQ w os).map (fun r => looks w.params r.abs) = some (true, openGood vw [])) :
    (openEnds treeTable PySem.Challenge.pw_il0154_01 w 3024).map (fun s => (openSeen vw [] (importedModules PySem.Challenge.pw_il0154_01.main.body) xt true s, Hook.obs Hook.none s)) = some (openGood vw [], Hook.val Hook.none w) := by
  obtain ⟨⟨hp, gs, d, k, os⟩, e, e'⟩ := Option.map_eq_some_iff.mp (opened w)
  obtain ⟨rfl, rfl, rfl, rfl⟩ : hp = boot_heap w.params ∧ gs = Array.mk [] ∧ d = boot_drawn ∧ k = boot_toks := by simpa using e'
  obtain ⟨r, hr, hl⟩ := Option.map_eq_some_iff.mp (h os)
  unfold looks at hl
  obtain ⟨l1, l2⟩ := Prod.mk.inj hl
  have o : openEnds treeTable PySem.Challenge.pw_il0154_01 w 3024 = some r.abs := by
    unfold openEnds
    rw [e, Option.bind_some]
    exact top_some (run_some hr) l1
  rw [o]
  rw [← PySem.W.Fast.te4187177175401517315] at l2
  exact congrArg (fun x => some (x, ())) l2
theorem left : LeftO PySem.Challenge.pw_il0154_01 vw [] xt (Hook.obs Hook.none) (Hook.val Hook.none) 3024 := fun w =>
  byRow2 "special-get-raises" (P := fun w => (openEnds treeTable PySem.Challenge.pw_il0154_01 w 3024).map (fun s => (openSeen vw [] (importedModules PySem.Challenge.pw_il0154_01.main.body) xt true s, Hook.obs Hook.none s)) = some (openGood vw [], Hook.val Hook.none w))
    (fun w => left_of fun os => looked0 w os) (fun w => left_of fun os => looked1 w os) w
theorem head {d : DefRec} {kwd : List (Str × PySem.Expr)} (h1 : defOf vw rowOf.name = some (d, kwd)) (h2 : PySem.Challenge.pw_il0154_01.theDef rowOf.name = some (d.params, d.body, d.scope)) (h3 : kwWritten? d.params.kwonlyargs d.params.kw_defaults = some kwd)
    (call : WalkO vw [] (XL vw []) (Hook.says Hook.none) rowOf.toRowW d kwd fun f vs => PySem.call f vs) : PySem.Challenge.rw_il0154_01.Holds := by
  refine holds_law saidQ fun said => ?_
  refine PySem.W.holds_open (q := vw) (loose := []) (Xt := xt) (XP := XL vw []) (N := 3024) left (Hook.of Hook.none) (Hook.keeps Hook.none) (fun s e => xl_of s (Bool.and_eq_true_iff.mp e).1) XL.keeps h1 h2 h3 (fun s e => recFacts_of (Bool.and_eq_true_iff.mp e).2) ?d4 said ?d5 ?d6 ?d7 call
  case d4 => decide +kernel
  case d5 => decide +kernel
  case d6 => exact ⟨rfl, rfl, rfl, rfl, rfl, by decide +kernel⟩
  case d7 => w_witness2
end Mine
end D2S

section B1S
set_option linter.unusedVariables false
namespace Mine

inductive D where
  | none
  | bool (b : Bool)
  | int (i : Int)
  | str (x : Str)
  | bytes (b : Array UInt8)
  | imm (v : Value)
  | tup (ds : List D)
  | lst (ds : List D)

abbrev Ext (h h' : Heap) : Prop := ∀ b o, h.get? b = some o → h'.get? b = some o
def isSeq (o : Obj) : Prop := ∃ xs n, o.data = .seq xs n
/-- lists and tuples outside the avoided addresses stay -/
def SK (N : List Addr) (h h' : Heap) : Prop := ∀ b o, b ∉ N → h.get? b = some o → isSeq o → h'.get? b = some o

def PTup (h : Heap) (a : Addr) (vs : List Value) : Prop := ∃ n, h.get? a = some { cls := .type "tuple", data := .seq vs.toArray n }
def PLst (h : Heap) (a : Addr) (vs : List Value) : Prop := ∃ n, h.get? a = some { cls := .type "list", data := .seq vs.toArray n }

mutual
inductive Rep (N : List Addr) (h : Heap) : Value → D → Prop
  | none : Rep N h .none .none
  | bool (b : Bool) : Rep N h (.bool b) (.bool b)
  | int (i : Int) (t : Tok) : Rep N h (.int i t) (.int i)
  | str (x : Str) (t : Tok) : Rep N h (.str x t) (.str x)
  | bytes (b : Array UInt8) (t : Tok) : Rep N h (.bytes b t) (.bytes b)
  | imm (v : Value) : (∀ a, v ≠ .ref a) → Rep N h v (.imm v)
  | tup {a : Addr} {vs : List Value} {ds : List D} : PTup h a vs → a ∉ N → RepL N h vs ds → Rep N h (.ref a) (.tup ds)
  | lst {a : Addr} {vs : List Value} {ds : List D} : PLst h a vs → a ∉ N → RepL N h vs ds → Rep N h (.ref a) (.lst ds)
inductive RepL (N : List Addr) (h : Heap) : List Value → List D → Prop
  | nil : RepL N h [] []
  | cons {v : Value} {d : D} {vs : List Value} {ds : List D} : Rep N h v d → RepL N h vs ds → RepL N h (v :: vs) (d :: ds)
end

theorem PTup.sk {N : List Addr} {h h' : Heap} {a : Addr} {vs : List Value} (p : PTup h a vs) (hN : a ∉ N) (k : SK N h h') : PTup h' a vs := by
  obtain ⟨n, e⟩ := p
  exact ⟨n, k _ _ hN e ⟨_, n, rfl⟩⟩
theorem PLst.sk {N : List Addr} {h h' : Heap} {a : Addr} {vs : List Value} (p : PLst h a vs) (hN : a ∉ N) (k : SK N h h') : PLst h' a vs := by
  obtain ⟨n, e⟩ := p
  exact ⟨n, k _ _ hN e ⟨_, n, rfl⟩⟩
theorem PLst.ext {h h' : Heap} {a : Addr} {vs : List Value} (p : PLst h a vs) (k : Ext h h') : PLst h' a vs := let ⟨n, e⟩ := p; ⟨n, k _ _ e⟩
theorem PTup.ext {h h' : Heap} {a : Addr} {vs : List Value} (p : PTup h a vs) (k : Ext h h') : PTup h' a vs := let ⟨n, e⟩ := p; ⟨n, k _ _ e⟩
theorem PLst.isList {h : Heap} {a : Addr} {vs : List Value} (p : PLst h a vs) : h.IsList a vs.toArray := let ⟨n, e⟩ := p; ⟨_, e, rfl, n, rfl⟩
theorem PLst.plain {h : Heap} {a : Addr} {vs : List Value} (p : PLst h a vs) : h.PlainList a vs.toArray := p
theorem PTup.isTuple {h : Heap} {a : Addr} {vs : List Value} (p : PTup h a vs) : h.IsTuple a vs.toArray := let ⟨n, e⟩ := p; ⟨_, e, rfl, n, rfl⟩

mutual
theorem Rep.sk {N : List Addr} {h h' : Heap} (k : SK N h h') : ∀ {v : Value} {d : D}, Rep N h v d → Rep N h' v d
  | _, _, .none => .none
  | _, _, .bool b => .bool b
  | _, _, .int i t => .int i t
  | _, _, .str x t => .str x t
  | _, _, .bytes b t => .bytes b t
  | _, _, .imm v hv => .imm v hv
  | _, _, .tup p hN r => .tup (p.sk hN k) hN (RepL.sk k r)
  | _, _, .lst p hN r => .lst (p.sk hN k) hN (RepL.sk k r)
theorem RepL.sk {N : List Addr} {h h' : Heap} (k : SK N h h') : ∀ {vs : List Value} {ds : List D}, RepL N h vs ds → RepL N h' vs ds
  | _, _, .nil => .nil
  | _, _, .cons a r => .cons (Rep.sk k a) (RepL.sk k r)
end
mutual
theorem Rep.less {N N' : List Addr} {h : Heap} (k : ∀ a ∈ N', a ∈ N) : ∀ {v : Value} {d : D}, Rep N h v d → Rep N' h v d
  | _, _, .none => .none
  | _, _, .bool b => .bool b
  | _, _, .int i t => .int i t
  | _, _, .str x t => .str x t
  | _, _, .bytes b t => .bytes b t
  | _, _, .imm v hv => .imm v hv
  | _, _, .tup p hN r => .tup p (fun q => hN (k _ q)) (RepL.less k r)
  | _, _, .lst p hN r => .lst p (fun q => hN (k _ q)) (RepL.less k r)
theorem RepL.less {N N' : List Addr} {h : Heap} (k : ∀ a ∈ N', a ∈ N) : ∀ {vs : List Value} {ds : List D}, RepL N h vs ds → RepL N' h vs ds
  | _, _, .nil => .nil
  | _, _, .cons a r => .cons (Rep.less k a) (RepL.less k r)
end
-- an address that holds nothing (or no sequence) may be avoided too
mutual
theorem Rep.more {N : List Addr} {h : Heap} {a : Addr} (k : ∀ o, h.get? a = some o → ¬ isSeq o) : ∀ {v : Value} {d : D}, Rep N h v d → Rep (a :: N) h v d
  | _, _, .none => .none
  | _, _, .bool b => .bool b
  | _, _, .int i t => .int i t
  | _, _, .str x t => .str x t
  | _, _, .bytes b t => .bytes b t
  | _, _, .imm v hv => .imm v hv
  | _, _, .tup (a := b) p hN r => .tup p (fun q => by
      rcases List.mem_cons.mp q with rfl | q
      · obtain ⟨n, e⟩ := p; exact k _ e ⟨_, n, rfl⟩
      · exact hN q) (RepL.more k r)
  | _, _, .lst (a := b) p hN r => .lst p (fun q => by
      rcases List.mem_cons.mp q with rfl | q
      · obtain ⟨n, e⟩ := p; exact k _ e ⟨_, n, rfl⟩
      · exact hN q) (RepL.more k r)
theorem RepL.more {N : List Addr} {h : Heap} {a : Addr} (k : ∀ o, h.get? a = some o → ¬ isSeq o) : ∀ {vs : List Value} {ds : List D}, RepL N h vs ds → RepL (a :: N) h vs ds
  | _, _, .nil => .nil
  | _, _, .cons b r => .cons (Rep.more k b) (RepL.more k r)
end

theorem SK.of_ext {N : List Addr} {h h' : Heap} (k : Ext h h') : SK N h h' := fun b o _ e _ => k b o e
theorem SK.refl {N : List Addr} {h : Heap} : SK N h h := fun _ _ _ e _ => e
theorem SK.trans {N : List Addr} {h h' h'' : Heap} (a : SK N h h') (b : SK N h' h'') : SK N h h'' := fun x o hN e q => b x o hN (a x o hN e q) q
theorem SK.but {N : List Addr} {a : Addr} {h h' : Heap} (hs : Heap.SameBut a h h') (k : ∀ o, h.get? a = some o → ¬ isSeq o) : SK N h h' := fun b o _ e q =>
  (hs.2 b (fun x => by subst x; exact k _ e q)).trans e
theorem SK.butN {N : List Addr} {a : Addr} {h h' : Heap} (hs : Heap.SameBut a h h') (hN : a ∈ N) : SK N h h' := fun b o hb e _ =>
  (hs.2 b (fun x => by subst x; exact hb hN)).trans e
theorem SK.extBut {N : List Addr} {a : Addr} {h h' : Heap} (hs : Heap.ExtBut a h h') (k : ∀ o, h.get? a = some o → ¬ isSeq o) : SK N h h' := fun b o _ e q =>
  hs b o (fun x => by subst x; exact k _ e q) e

theorem Rep.ext {N : List Addr} {h h' : Heap} {v : Value} {d : D} (r : Rep N h v d) (k : Ext h h') : Rep N h' v d := r.sk (.of_ext k)
theorem RepL.ext {N : List Addr} {h h' : Heap} {v : List Value} {d : List D} (r : RepL N h v d) (k : Ext h h') : RepL N h' v d := r.sk (.of_ext k)
theorem RepL.length {N : List Addr} {h : Heap} : ∀ {vs : List Value} {ds : List D}, RepL N h vs ds → vs.length = ds.length
  | _, _, .nil => rfl
  | _, _, .cons _ r => by rw [List.length_cons, List.length_cons, r.length]
theorem RepL.append {N : List Addr} {h : Heap} : ∀ {vs ws : List Value} {ds es : List D}, RepL N h vs ds → RepL N h ws es → RepL N h (vs ++ ws) (ds ++ es)
  | _, _, _, _, .nil, k => k
  | _, _, _, _, .cons a r, k => .cons a (r.append k)
theorem RepL.get {N : List Addr} {h : Heap} : ∀ {vs : List Value} {ds : List D} {i : Nat} {d : D}, RepL N h vs ds → ds[i]? = some d → ∃ v, vs[i]? = some v ∧ Rep N h v d
  | _, _, i, d, .nil, e => by simp at e
  | _, _, 0, d, .cons a r, e => by simp at e; subst e; exact ⟨_, rfl, a⟩
  | _, _, i + 1, d, .cons a r, e => by simp at e; simpa using r.get e
theorem RepL.get' {N : List Addr} {h : Heap} : ∀ {vs : List Value} {ds : List D} {i : Nat} {v : Value}, RepL N h vs ds → vs[i]? = some v → ∃ d, ds[i]? = some d ∧ Rep N h v d
  | _, _, i, d, .nil, e => by simp at e
  | _, _, 0, d, .cons a r, e => by simp at e; subst e; exact ⟨_, rfl, a⟩
  | _, _, i + 1, d, .cons a r, e => by simp at e; simpa using r.get' e
theorem RepL.take {N : List Addr} {h : Heap} : ∀ {vs : List Value} {ds : List D} (i : Nat), RepL N h vs ds → RepL N h (vs.take i) (ds.take i)
  | _, _, 0, _ => by simp; exact .nil
  | _, _, i + 1, .nil => by simp; exact .nil
  | _, _, i + 1, .cons a r => by simp only [List.take_succ_cons]; exact .cons a (r.take i)
theorem RepL.drop {N : List Addr} {h : Heap} : ∀ {vs : List Value} {ds : List D} (i : Nat), RepL N h vs ds → RepL N h (vs.drop i) (ds.drop i)
  | _, _, 0, r => by simpa using r
  | _, _, i + 1, .nil => by simp; exact .nil
  | _, _, i + 1, .cons a r => by simp only [List.drop_succ_cons]; exact r.drop i

abbrev F0 : Value → Shared → Prop := fun _ _ => False

def Kp (s s' : Shared) : Prop := ∃ h' tk, s' = { s with heap := h', toks := tk } ∧ ∀ b o, s.heap.get? b = some o → h'.get? b = some o
theorem Kp.keeps {s s' : Shared} (a : Kp s s') : Keeps s s' := a
theorem Kp.of {s s' : Shared} (a : Keeps s s') : Kp s s' := a
theorem Kp.refl (s : Shared) : Kp s s := ⟨s.heap, s.toks, rfl, fun _ _ e => e⟩
theorem Kp.trans {s s' s'' : Shared} (a : Kp s s') (b : Kp s' s'') : Kp s s'' := by
  obtain ⟨h, t, rfl, k⟩ := a
  obtain ⟨h', t', rfl, k'⟩ := b
  exact ⟨h', t', rfl, fun x o e => k' x o (k x o e)⟩
theorem Kp.ext {s s' : Shared} (a : Kp s s') : Ext s.heap s'.heap := by
  obtain ⟨h, t, rfl, k⟩ := a
  exact k
theorem Kp.tok (s : Shared) (t : Nat) : Kp s { s with toks := t } := ⟨s.heap, t, rfl, fun _ _ e => e⟩
theorem Kp.push (s : Shared) (o : Obj) : Kp s { s with heap := s.heap.push o } := ⟨_, s.toks, rfl, fun _ _ e => Heap.get?_push_of_some _ e⟩
theorem Kp.mk' {s : Shared} {h' : Heap} {t : Nat} (k : Ext s.heap h') : Kp s { s with heap := h', toks := t } := ⟨h', t, rfl, k⟩
theorem Kp.mk1 {s : Shared} {h' : Heap} (k : Ext s.heap h') : Kp s { s with heap := h' } := ⟨h', s.toks, rfl, k⟩

end Mine
end B1S

section B2S
set_option linter.unusedVariables false
namespace Mine

structure Wd where
  prog : Program
  w : World
  base : Heap
  mg : Str → Option Value
  mb : Str → Option Value
  g : base.Ns mainGlobals mg
  b : base.Ns builtinsNs mb
  nl : base.NoLimit
  bt : ∀ x : Str, x ≠ "__name__" → mb x = bootBuiltins x

abbrev Wd.M (W : Wd) : Model := model W.prog W.w

structure Cx where
  A : Around
  env : Env

def RdV (env : Env) (h : Heap) (x : Str) (v : Value) : Prop :=
  (env.kindOf x = some .local ∧ ∃ m, h.Ns env.locals m ∧ m x = some v) ∨
  ((env.kindOf x = some .cell ∨ (env.kindOf x = some .free ∧ (x == ("__classdict__" : Str)) = false)) ∧ ∃ c, env.cells.lookup x = some c ∧ h.IsCell c (some v))

theorem RdV.ext {env : Env} {h h' : Heap} {x : Str} {v : Value} (r : RdV env h x v) (k : Ext h h') : RdV env h' x v := by
  rcases r with ⟨a, m, n, e⟩ | ⟨a, c, l, i⟩
  · exact .inl ⟨a, m, n.keeps k, e⟩
  · exact .inr ⟨a, c, l, i.keeps k⟩

structure Ok (k : Nat) (c : Cx) : Prop where
  fn : c.env.scope.kind = .function
  gl : c.env.globals = mainGlobals
  bl : c.env.builtins = builtinsNs
  hd : c.A.handled = none
  dp : c.A.depth + k < recursionLimit
  un : c.A.units + 8 * k + 100 < cLine

structure Rd (W : Wd) (k : Nat) (c : Cx) (N : List Addr) (δ : List (Str × D)) (s : Shared) : Prop where
  ok : Ok k c
  bs : Ext W.base s.heap
  av : ∀ a ∈ N, ∃ o, s.heap.get? a = some o
  vars : ∀ p ∈ δ, ∃ v, RdV c.env s.heap p.1 v ∧ Rep N s.heap v p.2

section
variable {W : Wd} {k : Nat} {c : Cx} {N : List Addr} {δ : List (Str × D)}

theorem Rd.keeps {s s' : Shared} (r : Rd W k c N δ s) (q : Kp s s') : Rd W k c N δ s' :=
  ⟨r.ok, fun b o e => q.ext b o (r.bs b o e), fun a ha => let ⟨o, e⟩ := r.av a ha; ⟨o, q.ext _ _ e⟩,
   fun p hp => let ⟨v, h1, h2⟩ := r.vars p hp; ⟨v, h1.ext q.ext, h2.ext q.ext⟩⟩

structure Ev (W : Wd) (k : Nat) (c : Cx) (N : List Addr) (δ : List (Str × D)) (e : Expr) (d : D) : Prop where
  run : ∀ s, Rd W k c N δ s → wpAny W.M c.A (eval e c.env) (fun v s' => Kp s s' ∧ Rep N s'.heap v d) F0 s
structure EvL (W : Wd) (k : Nat) (c : Cx) (N : List Addr) (δ : List (Str × D)) (es : List Expr) (ds : List D) : Prop where
  run : ∀ pos s, Rd W k c N δ s → wpAny W.M c.A (spliced (backTo pos (starEach es c.env))) (fun vs s' => Kp s s' ∧ RepL N s'.heap vs ds) F0 s
structure Tr (W : Wd) (k : Nat) (c : Cx) (N : List Addr) (δ : List (Str × D)) (e : Expr) (b : Bool) : Prop where
  run : ∀ s, Rd W k c N δ s → wpAny W.M c.A (isTrue e c.env (eval e c.env)) (fun b' s' => b' = b ∧ Kp s s') F0 s

/- the operations -/
structure Hp (W : Wd) (k : Nat) (A : Around) (N : List Addr) (s : Shared) : Prop where
  hd : A.handled = none
  dp : A.depth + k < recursionLimit
  un : A.units + 8 * k + 100 < cLine
  bs : Ext W.base s.heap
  av : ∀ a ∈ N, ∃ o, s.heap.get? a = some o
theorem Rd.hp {s : Shared} (r : Rd W k c N δ s) : Hp W k c.A N s := ⟨r.ok.hd, r.ok.dp, r.ok.un, r.bs, r.av⟩
theorem Hp.keeps {A : Around} {s s' : Shared} (r : Hp W k A N s) (q : Kp s s') : Hp W k A N s' :=
  ⟨r.hd, r.dp, r.un, fun b o e => q.ext b o (r.bs b o e), fun a ha => let ⟨o, e⟩ := r.av a ha; ⟨o, q.ext _ _ e⟩⟩

structure BinR (W : Wd) (k : Nat) (op : Operator) (a b d : D) : Prop where
  run : ∀ A N s v u, Hp W k A N s → Rep N s.heap v a → Rep N s.heap u b → wpAny W.M A (binaryOp op v u) (fun r s' => Kp s s' ∧ Rep N s'.heap r d) F0 s
structure CmpR (W : Wd) (k : Nat) (op : CmpOp) (a b : D) (t : Bool) : Prop where
  run : ∀ A N s v u, Hp W k A N s → Rep N s.heap v a → Rep N s.heap u b → wpAny W.M A (compareOp op v u) (fun r s' => Kp s s' ∧ r = .bool t) F0 s
structure UnR (W : Wd) (k : Nat) (op : UnaryOp) (a d : D) : Prop where
  run : ∀ A N s v, Hp W k A N s → Rep N s.heap v a → wpAny W.M A (unaryOp op v) (fun r s' => Kp s s' ∧ Rep N s'.heap r d) F0 s
/-- a call with values in hand -/
structure CallR (W : Wd) (k : Nat) (f : Value) (ds : List D) (d : D) : Prop where
  run : ∀ A N s vs, Hp W k A N s → RepL N s.heap vs ds → wpAny W.M A (call f vs) (fun r s' => Kp s s' ∧ Rep N s'.heap r d) F0 s
structure TruR (W : Wd) (k : Nat) (a : D) (t : Bool) : Prop where
  run : ∀ A N s v, Hp W k A N s → Rep N s.heap v a → wpAny W.M A (truthy v) (fun r s' => r = t ∧ Kp s s') F0 s

theorem Ev.var {x : Str} {pos : Pos} {d : D} (hm : (x, d) ∈ δ) (hd : (x == ("__debug__" : Str)) = false := by decide +kernel) : Ev W k c N δ (.Name x pos) d := .mk fun s r => by
  obtain ⟨v, hv, hr⟩ := r.vars _ hm
  refine wpAny_Name ?_ hd
  rcases hv with ⟨a, m, n, e⟩ | ⟨a | ⟨a, b⟩, cc, l, i⟩
  · exact wpAny_loadName_local r.ok.fn a n e ⟨.refl s, hr⟩
  · exact wpAny_loadName_cell r.ok.fn a l i ⟨.refl s, hr⟩
  · exact wpAny_loadName_free r.ok.fn a l i ⟨.refl s, hr⟩ b
theorem Ev.constInt {i : Int} {kk : Nat} {pos : Pos} : Ev W k c N δ (.Constant (.int i) kk pos) (.int i) := .mk fun s _ => wpAny_Constant_int ⟨.tok _ _, .int _ _⟩
theorem Ev.constBool {i : Bool} {kk : Nat} {pos : Pos} : Ev W k c N δ (.Constant (.bool i) kk pos) (.bool i) := .mk fun s _ => wpAny_Constant_bool ⟨.refl _, .bool _⟩
theorem Ev.constNone {kk : Nat} {pos : Pos} : Ev W k c N δ (.Constant .none kk pos) .none := .mk fun s _ => wpAny_Constant_none ⟨.refl _, .none⟩
theorem Ev.constStr {x : Str} {kk : Nat} {pos : Pos} : Ev W k c N δ (.Constant (.str x) kk pos) (.str x) := .mk fun s _ => wpAny_Constant_str ⟨.tok _ _, .str _ _⟩

theorem Ev.bin {a b : Expr} {op : Operator} {pos : Pos} {x y d : D} (ha : Ev W k c N δ a x) (hb : Ev W k c N δ b y) (ho : BinR W k op x y d) : Ev W k c N δ (.BinOp a op b pos) d := .mk fun s r =>
  wpAny_BinOp (wpAny_mono (ha.run s r) (fun v s₁ ⟨q₁, r₁⟩ => wpAny_mono (hb.run s₁ (r.keeps q₁)) (fun u s₂ ⟨q₂, r₂⟩ =>
    wpAny_mono (ho.run _ _ _ _ _ (r.keeps (q₁.trans q₂)).hp (r₁.ext q₂.ext) r₂) (fun _ _ ⟨q₃, r₃⟩ => ⟨(q₁.trans q₂).trans q₃, r₃⟩) fun _ _ x => x) fun _ _ x => x) fun _ _ x => x)
theorem Ev.un {a : Expr} {op : UnaryOp} {pos : Pos} {x d : D} (ha : Ev W k c N δ a x) (ho : UnR W k op x d) : Ev W k c N δ (.UnaryOp op a pos) d := .mk fun s r =>
  wpAny_UnaryOp (wpAny_mono (ha.run s r) (fun v s₁ ⟨q₁, r₁⟩ => wpAny_mono (ho.run _ _ _ _ (r.keeps q₁).hp r₁) (fun _ _ ⟨q₃, r₃⟩ => ⟨q₁.trans q₃, r₃⟩) fun _ _ x => x) fun _ _ x => x)
theorem Ev.cmp {a b : Expr} {op : CmpOp} {pos : Pos} {x y : D} {t : Bool} (ha : Ev W k c N δ a x) (hb : Ev W k c N δ b y) (ho : CmpR W k op x y t)
    (hm : behindInMarks op b = false := by with_unfolding_all rfl) : Ev W k c N δ (.Compare a [op] [b] pos) (.bool t) := .mk fun s r =>
  wpAny_Compare1 (wpAny_mono (ha.run s r) (fun v s₁ ⟨q₁, r₁⟩ => wpAny_mono (hb.run s₁ (r.keeps q₁)) (fun u s₂ ⟨q₂, r₂⟩ =>
    wpAny_mono (ho.run _ _ _ _ _ (r.keeps (q₁.trans q₂)).hp (r₁.ext q₂.ext) r₂) (fun _ _ ⟨q₃, r₃⟩ => ⟨(q₁.trans q₂).trans q₃, by rw [r₃]; exact .bool _⟩) fun _ _ x => x) fun _ _ x => x) fun _ _ x => x) hm
theorem Tr.cmp {a b : Expr} {op : CmpOp} {pos : Pos} {x y : D} {t : Bool} (ha : Ev W k c N δ a x) (hb : Ev W k c N δ b y) (ho : CmpR W k op x y t)
    (hm : behindInMarks op b = false := by with_unfolding_all rfl) : Tr W k c N δ (.Compare a [op] [b] pos) t := .mk fun s r =>
  wpAny_isTrue_Compare1 (wpAny_mono (ha.run s r) (fun v s₁ ⟨q₁, r₁⟩ => wpAny_mono (hb.run s₁ (r.keeps q₁)) (fun u s₂ ⟨q₂, r₂⟩ =>
    wpAny_mono (ho.run _ _ _ _ _ (r.keeps (q₁.trans q₂)).hp (r₁.ext q₂.ext) r₂) (fun v s₃ ⟨q₃, r₃⟩ => by
      subst r₃
      exact wpAny_truthy_bool ⟨rfl, (q₁.trans q₂).trans q₃⟩) fun _ _ x => x) fun _ _ x => x) fun _ _ x => x) hm
theorem Tr.not {a : Expr} {pos : Pos} {t : Bool} (ha : Tr W k c N δ a t) : Tr W k c N δ (.UnaryOp .Not a pos) (!t) := .mk fun s r =>
  wpAny_isTrue_Not (wpAny_mono (ha.run s r) (fun b s₁ ⟨e, q⟩ => ⟨by rw [e], q⟩) fun _ _ x => x)
theorem Tr.val {a : Expr} {x : D} {t : Bool} (ha : Ev W k c N δ a x) (ht : TruR W k x t)
    (he : isTrue a c.env (eval a c.env) = (do let v ← eval a c.env; standAt a.pos; holding [v] (truthy v)) := by rfl) : Tr W k c N δ a t := .mk fun s r =>
  wpAny_isTrue_value (wpAny_mono (ha.run s r) (fun v s₁ ⟨q₁, r₁⟩ => wpAny_mono (ht.run _ _ _ _ (r.keeps q₁).hp r₁) (fun _ _ ⟨e, q⟩ => ⟨e, q₁.trans q⟩) fun _ _ x => x) fun _ _ x => x) he

structure TrAll (W : Wd) (k : Nat) (c : Cx) (N : List Addr) (δ : List (Str × D)) (op : BoolOp) (es : List Expr) (b : Bool) : Prop where
  run : ∀ s, Rd W k c N δ s → wpAny W.M c.A (allTrue op es c.env) (fun b' s' => b' = b ∧ Kp s s') F0 s
theorem TrAll.andNil : TrAll W k c N δ .And [] true := .mk fun s _ => wpAny_allTrue_And_nil ⟨rfl, .refl _⟩
theorem TrAll.orNil : TrAll W k c N δ .Or [] false := .mk fun s _ => wpAny_allTrue_Or_nil ⟨rfl, .refl _⟩
theorem TrAll.and {e : Expr} {es : List Expr} {t u : Bool} (h1 : Tr W k c N δ e t) (h2 : t = true → TrAll W k c N δ .And es u) : TrAll W k c N δ .And (e :: es) (t && u) := .mk fun s r =>
  wpAny_allTrue_And_cons (wpAny_mono (h1.run s r) (fun b s₁ ⟨e, q⟩ => by
    subst e
    cases b with
    | false => exact ⟨by simp, q⟩
    | true => exact wpAny_mono ((h2 rfl).run s₁ (r.keeps q)) (fun b' s₂ ⟨e', q'⟩ => ⟨by simpa using e', q.trans q'⟩) fun _ _ x => x) fun _ _ x => x)
theorem TrAll.or {e : Expr} {es : List Expr} {t u : Bool} (h1 : Tr W k c N δ e t) (h2 : t = false → TrAll W k c N δ .Or es u) : TrAll W k c N δ .Or (e :: es) (t || u) := .mk fun s r =>
  wpAny_allTrue_Or_cons (wpAny_mono (h1.run s r) (fun b s₁ ⟨e, q⟩ => by
    subst e
    cases b with
    | true => exact ⟨by simp, q⟩
    | false => exact wpAny_mono ((h2 rfl).run s₁ (r.keeps q)) (fun b' s₂ ⟨e', q'⟩ => ⟨by simpa using e', q.trans q'⟩) fun _ _ x => x) fun _ _ x => x)
theorem Tr.bop {op : BoolOp} {es : List Expr} {pos : Pos} {t : Bool} (h : TrAll W k c N δ op es t) : Tr W k c N δ (.BoolOp op es pos) t := .mk fun s r => wpAny_isTrue_BoolOp (h.run s r)

theorem Ev.ite {t a b : Expr} {pos : Pos} {u : Bool} {d : D} (ht : Tr W k c N δ t u) (h1 : u = true → Ev W k c N δ a d) (h2 : u = false → Ev W k c N δ b d) : Ev W k c N δ (.IfExp t a b pos) d := .mk fun s r =>
  wpAny_IfExp (wpAny_mono (ht.run s r) (fun b' s₁ ⟨e, q⟩ => by
    subst e
    cases b' with
    | true => exact wpAny_mono ((h1 rfl).run s₁ (r.keeps q)) (fun _ _ ⟨q', r'⟩ => ⟨q.trans q', r'⟩) fun _ _ x => x
    | false => exact wpAny_mono ((h2 rfl).run s₁ (r.keeps q)) (fun _ _ ⟨q', r'⟩ => ⟨q.trans q', r'⟩) fun _ _ x => x) fun _ _ x => x)

theorem EvL.nil : EvL W k c N δ [] [] := .mk fun pos s _ => wpAny_items_nil ⟨.refl _, .nil⟩
theorem EvL.cons {e : Expr} {es : List Expr} {d : D} {ds : List D} (h : Ev W k c N δ e d) (hs : EvL W k c N δ es ds)
    (he : starEach (e :: es) c.env = (false, eval e c.env) :: starEach es c.env := by rfl) : EvL W k c N δ (e :: es) (d :: ds) := .mk fun pos s r =>
  wpAny_items_cons (wpAny_mono (h.run s r) (fun v s₁ ⟨q₁, r₁⟩ => wpAny_mono (hs.run pos s₁ (r.keeps q₁)) (fun vs s₂ ⟨q₂, r₂⟩ => ⟨q₁.trans q₂, .cons (r₁.ext q₂.ext) r₂⟩) fun _ _ x => x) fun _ _ x => x) he

theorem size_not_mem {s : Shared} (av : ∀ a ∈ N, ∃ o, s.heap.get? a = some o) : s.heap.objs.size ∉ N := fun h => by
  obtain ⟨o, e⟩ := av _ h
  exact Nat.lt_irrefl _ (Heap.lt_size e)
theorem Ev.tuple {es : List Expr} {ds : List D} {kk : Nat} {pos : Pos} (h : EvL W k c N δ es ds) (hz : ds.length ≤ 16777216 := by first | decide | simp) : Ev W k c N δ (.Tuple es kk pos) (.tup ds) := .mk fun s r =>
  wpAny_Tuple (wpAny_mono (h.run pos s r) (fun vs s₁ ⟨q₁, r₁⟩ => ⟨by rw [r₁.length, sizeLine_eq]; exact hz, q₁.trans (.push _ _),
    .tup ⟨0, Heap.get?_push_size _ rfl⟩ (size_not_mem (r.keeps q₁).av) (r₁.ext fun _ _ e => Heap.get?_push_of_some _ e)⟩) fun _ _ x => x)
theorem Ev.list {es : List Expr} {ds : List D} {pos : Pos} (h : EvL W k c N δ es ds) (hz : ds.length ≤ 16777216 := by first | decide | simp) : Ev W k c N δ (.List es pos) (.lst ds) := .mk fun s r =>
  wpAny_List (wpAny_mono (h.run pos s r) (fun vs s₁ ⟨q₁, r₁⟩ => ⟨by rw [r₁.length, sizeLine_eq]; exact hz, q₁.trans (.push _ _),
    .lst ⟨0, Heap.get?_push_size _ rfl⟩ (size_not_mem (r.keeps q₁).av) (r₁.ext fun _ _ e => Heap.get?_push_of_some _ e)⟩) fun _ _ x => x)
end

/- calls -/
section
variable {W : Wd} {k : Nat} {c : Cx} {N : List Addr} {δ : List (Str × D)}

theorem evArgs {M : Model} {A : Around} {E : Value → Shared → Prop} {s : Shared} {env : Env} {pos : Pos} {f : Value} {e : Expr} {es : List Expr} {Q : Args → Shared → Prop}
    (he : starEach (e :: es) env = (false, eval e env) :: starEach es env)
    (h : wpAny M A (spliced (backTo pos (starEach (e :: es) env))) (fun vs s' => Q ⟨vs, []⟩ s') E s) : wpAny M A (evalArgs f true (backTo pos (starEach (e :: es) env)) []) Q E s := by
  rw [he] at h ⊢
  exact Calls.evalArgs_plain h

theorem Ev.callDef {f : Str} {p pos : Pos} {e : Expr} {es : List Expr} {ds : List D} {d : D} {a : Addr} {o : Obj} {fd : FuncData}
    (hv : W.mg f = some (.ref a)) (ho : W.base.get? a = some o) (hd : o.data = .func fd) (hc : CallR W k (.ref a) ds d)
    (hx : c.env.kindOf f = some .globalImplicit := by kernel_rfl) (hdb : (f == ("__debug__" : Str)) = false := by decide +kernel) (ha : EvL W k c N δ (e :: es) ds)
    (he : starEach (e :: es) c.env = (false, eval e c.env) :: starEach es c.env := by rfl)
    (hp : ∀ pos, (backTo pos (starEach (e :: es) c.env)).any (·.1) = false := by intro _; rfl) : Ev W k c N δ (.Call (.Name f p) (e :: es) [] pos) d := .mk fun s r => by
  show wpAny W.M c.A (do callWith pos (← eval (.Name f p) c.env) [] (backTo pos (starEach (e :: es) c.env)) []) _ _ _
  refine wpAny_bind (Calls.Name_function_global r.ok.fn hx (Calls.loadGlobal_global (mg := W.mg) (by rw [r.ok.gl]; exact W.g.keeps r.bs) hv ?_) hdb)
  refine Calls.callWith_function (o := o) (fd := fd) (evArgs he (wpAny_mono (ha.run pos s r) (fun vs s₁ ⟨q, rl⟩ => ⟨⟨(r.keeps q).bs _ _ ho, hd⟩, ?_⟩) fun _ _ x => x))
  exact wpAny_mono (hc.run _ _ _ _ (r.keeps q).hp rl) (fun _ _ ⟨q', r'⟩ => ⟨q.trans q', r'⟩) fun _ _ x => x

theorem Ev.callB {f : Str} {p pos : Pos} {e : Expr} {es : List Expr} {ds : List D} {d : D} {id : String}
    (hv : W.mg f = none) (hb : bootBuiltins f = some (.builtin id)) (hc : CallR W k (.builtin id) ds d)
    (ha : EvL W k c N δ (e :: es) ds) (hx : c.env.kindOf f = some .globalImplicit := by kernel_rfl) (hdb : (f == ("__debug__" : Str)) = false := by decide +kernel)
    (hn : f ≠ "__name__" := by decide +kernel)
    (he : starEach (e :: es) c.env = (false, eval e c.env) :: starEach es c.env := by rfl)
    (hp : ∀ pos, (backTo pos (starEach (e :: es) c.env)).any (·.1) = false := by intro _; rfl) : Ev W k c N δ (.Call (.Name f p) (e :: es) [] pos) d := .mk fun s r => by
  show wpAny W.M c.A (do callWith pos (← eval (.Name f p) c.env) [] (backTo pos (starEach (e :: es) c.env)) []) _ _ _
  refine wpAny_bind (Calls.Name_function_global r.ok.fn hx (Calls.loadGlobal_builtin (mg := W.mg) (mb := W.mb) (by rw [r.ok.gl]; exact W.g.keeps r.bs) hv (by rw [r.ok.bl]; exact W.b.keeps r.bs) ((W.bt f hn).trans hb) ?_) hdb)
  refine Calls.callWith_builtin (hp pos) (evArgs he (wpAny_mono (ha.run pos s r) (fun vs s₁ ⟨q, rl⟩ => ?_) fun _ _ x => x))
  exact wpAny_mono (hc.run _ _ _ _ (r.keeps q).hp rl) (fun _ _ ⟨q', r'⟩ => ⟨q.trans q', r'⟩) fun _ _ x => x

theorem Ev.callT {f : Str} {p pos : Pos} {e : Expr} {es : List Expr} {ds : List D} {d : D} {T : String}
    (hv : W.mg f = none) (hb : bootBuiltins f = some (.type T)) (hc : CallR W k (.type T) ds d)
    (ha : EvL W k c N δ (e :: es) ds) (hx : c.env.kindOf f = some .globalImplicit := by kernel_rfl) (hdb : (f == ("__debug__" : Str)) = false := by decide +kernel)
    (hn : f ≠ "__name__" := by decide +kernel)
    (he : starEach (e :: es) c.env = (false, eval e c.env) :: starEach es c.env := by rfl)
    (hp : ∀ pos, (backTo pos (starEach (e :: es) c.env)).any (·.1) = false := by intro _; rfl) : Ev W k c N δ (.Call (.Name f p) (e :: es) [] pos) d := .mk fun s r => by
  show wpAny W.M c.A (do callWith pos (← eval (.Name f p) c.env) [] (backTo pos (starEach (e :: es) c.env)) []) _ _ _
  refine wpAny_bind (Calls.Name_function_global r.ok.fn hx (Calls.loadGlobal_builtin (mg := W.mg) (mb := W.mb) (by rw [r.ok.gl]; exact W.g.keeps r.bs) hv (by rw [r.ok.bl]; exact W.b.keeps r.bs) ((W.bt f hn).trans hb) ?_) hdb)
  refine PySem.callWith_type (hp pos) (evArgs he (wpAny_mono (ha.run pos s r) (fun vs s₁ ⟨q, rl⟩ => ?_) fun _ _ x => x))
  exact wpAny_mono (hc.run _ _ _ _ (r.keeps q).hp rl) (fun _ _ ⟨q', r'⟩ => ⟨q.trans q', r'⟩) fun _ _ x => x

/-- a built-in name as a value (bytes, str) -/
theorem Ev.bname {f : Str} {p : Pos} {v : Value} (hv : W.mg f = none) (hb : bootBuiltins f = some v) (hr : ∀ a, v ≠ .ref a)
    (hx : c.env.kindOf f = some .globalImplicit := by kernel_rfl) (hdb : (f == ("__debug__" : Str)) = false := by decide +kernel)
    (hn : f ≠ "__name__" := by decide +kernel) : Ev W k c N δ (.Name f p) (.imm v) := .mk fun s r =>
  Calls.Name_function_global r.ok.fn hx (Calls.loadGlobal_builtin (mg := W.mg) (mb := W.mb) (by rw [r.ok.gl]; exact W.g.keeps r.bs) hv (by rw [r.ok.bl]; exact W.b.keeps r.bs) ((W.bt f hn).trans hb) ⟨.refl s, .imm v hr⟩) hdb

def tyOf : D → Option String
  | .str _ => some "str"
  | .bytes _ => some "bytes"
  | .lst _ => some "list"
  | .tup _ => some "tuple"
  | .int _ => some "int"
  | .bool _ => some "bool"
  | _ => none
theorem Rep.typeIs {s : Shared} {v : Value} {d : D} {T : String} (r : Rep N s.heap v d) (h : tyOf d = some T) : s.TypeIs v T := by
  cases r with
  | none => cases h
  | bool b => cases h; rfl
  | int i t => cases h; rfl
  | str x t => cases h; rfl
  | bytes b t => cases h; rfl
  | imm v hv => cases h
  | tup p hN rl => cases h; obtain ⟨n, e⟩ := p; exact ⟨_, e, rfl⟩
  | lst p hN rl => cases h; obtain ⟨n, e⟩ := p; exact ⟨_, e, rfl⟩
theorem Rep.noDict {s : Shared} {v : Value} {d : D} (r : Rep N s.heap v d) : ∀ a, v = .ref a → ∃ o, s.heap.get? a = some o ∧ o.dict = Option.none := by
  intro a e
  cases r with
  | imm v hv => exact absurd e (hv a)
  | tup p hN rl => cases e; obtain ⟨n, e⟩ := p; exact ⟨_, e, rfl⟩
  | lst p hN rl => cases e; obtain ⟨n, e⟩ := p; exact ⟨_, e, rfl⟩
  | _ => cases e

theorem Ev.meth {o : Expr} {name : Str} {apos pos : Pos} {e : Expr} {es : List Expr} {T id : String} {x d : D} {ds : List D}
    (hT : tyOf x = some T) (pa : PlainAttrs T) (slot : Slot T name id) (hty : typeOf (.builtin id) = pure (.type "method_descriptor"))
    (ho : Ev W k c N δ o x) (ha : EvL W k c N δ (e :: es) ds) (hc : CallR W k (.builtin id) (x :: ds) d)
    (hbase : attributeBase o name c.env (eval o c.env) = eval o c.env := by rfl)
    (hfew : ∀ pos, ((backTo pos (starEach (e :: es) c.env)).all (fun x => !x.1) && (backToKw pos (keywordEach [] c.env)).all (fun x => x.1.isSome)
      && decide ((e :: es).length + ([] : List Keyword).length + (if ([] : List Keyword).isEmpty then 0 else 1) < 30)) = true := by intro _; rfl)
    (hline : (apos.endLine == pos.line) = true := by rfl)
    (he : starEach (e :: es) c.env = (false, eval e c.env) :: starEach es c.env := by rfl)
    (hp : ∀ pos, (backTo pos (starEach (e :: es) c.env)).any (·.1) = false := by intro _; rfl) :
    Ev W k c N δ (.Call (.Attribute o name apos) (e :: es) [] pos) d := .mk fun s r => by
  refine wpAny_Call_method hbase (hfew pos) hline pa slot hty (wpAny_mono (ho.run s r) (fun v s₁ ⟨q, rv⟩ => ⟨rv.typeIs hT, rv.noDict, ?_⟩) fun _ _ x => x)
  refine Calls.callWith_builtin (hp pos) (evArgs he (wpAny_mono (ha.run pos s₁ (r.keeps q)) (fun vs s₂ ⟨q', rl⟩ => ?_) fun _ _ x => x))
  exact wpAny_mono (hc.run _ _ _ _ (r.keeps (q.trans q')).hp (.cons (rv.ext q'.ext) rl)) (fun _ _ ⟨q'', r'⟩ => ⟨(q.trans q').trans q'', r'⟩) fun _ _ x => x
end
end Mine
end B2S

section B3S
set_option linter.unusedVariables false
namespace Mine

abbrev sT (l : List Nat) : D := .str ⟨l.toArray⟩
abbrev bA (l : List Nat) : Array UInt8 := (l.map UInt8.ofNat).toArray
abbrev bT (l : List Nat) : D := .bytes (bA l)
def lit (x : Str) : List Nat := x.cps.toList
theorem str_eta (x : Str) : (⟨x.cps.toList.toArray⟩ : Str) = x := by cases x; simp

def cut {α : Type} (lo hi : Option Int) (l : List α) : List α :=
  (l.drop (lo.elim 0 (clipAt l.length))).take (hi.elim l.length (clipAt l.length) - lo.elim 0 (clipAt l.length))

section
variable {W : Wd} {k : Nat}

theorem Ev.lit {c : Cx} {N : List Addr} {δ : List (Str × D)} {x : Str} {kk : Nat} {pos : Pos} : Ev W k c N δ (.Constant (.str x) kk pos) (sT (Mine.lit x)) := .mk fun s _ =>
  wpAny_Constant_str ⟨.tok _ _, by
    have e := str_eta x
    have h := Rep.str (N := N) (h := s.heap) x s.toks
    rw [← e] at h
    exact h⟩

theorem BinR.addInt {a b : Int} : BinR W k .Add (.int a) (.int b) (.int (a + b)) := .mk fun A N s v u hp ra rb => by
  cases ra; cases rb; exact add_int ⟨.tok _ _, .int _ _⟩
theorem BinR.subInt {a b : Int} : BinR W k .Sub (.int a) (.int b) (.int (a - b)) := .mk fun A N s v u hp ra rb => by
  cases ra; cases rb; exact sub_int ⟨.tok _ _, .int _ _⟩
theorem BinR.modInt {a b : Int} (hb : b ≠ 0) : BinR W k .Mod (.int a) (.int b) (.int (a.fmod b)) := .mk fun A N s v u hp ra rb => by
  cases ra; cases rb; exact mod_int' hb ⟨.tok _ _, .int _ _⟩
theorem BinR.divInt {a b : Int} (hb : b ≠ 0) (h2 : b.natAbs < 2 ^ 64) : BinR W k .FloorDiv (.int a) (.int b) (.int (a.fdiv b)) := .mk fun A N s v u hp ra rb => by
  cases ra; cases rb
  refine floordiv_int hb ⟨.tok _ _, .int _ _⟩ (.inl (PyProof.noPylong_of_log2 ?_))
  by_cases h0 : b.natAbs = 0
  · rw [h0]; decide +kernel
  · have := (Nat.log2_lt h0).mpr h2
    omega

theorem BinR.addStr {a b : List Nat} (hz : a.length + b.length ≤ 16777216) : BinR W k .Add (sT a) (sT b) (sT (a ++ b)) := .mk fun A N s v u hp ra rb => by
  cases ra; cases rb
  refine SB.add (fun t' k' => ⟨.tok _ _, ?_⟩) (by show a.toArray.size + b.toArray.size ≤ _; simpa [sizeLine_eq] using hz)
  have e : ((⟨a.toArray⟩ : Str) ++ (⟨b.toArray⟩ : Str)) = ⟨(a ++ b).toArray⟩ := by
    show Str.mk (a.toArray ++ b.toArray) = _
    simp
  rw [e]; exact .str _ _
theorem BinR.addBytes {a b : List Nat} (hz : a.length + b.length ≤ 16777216) : BinR W k .Add (bT a) (bT b) (bT (a ++ b)) := .mk fun A N s v u hp ra rb => by
  cases ra; cases rb
  refine KBy.add_bytes (by simpa using hz) (fun t' k' => ⟨.tok _ _, ?_⟩)
  have e : bA a ++ bA b = bA (a ++ b) := by simp
  rw [e]; exact .bytes _ _
theorem BinR.addList {a b : List D} (hz : a.length + b.length ≤ 16777216) : BinR W k .Add (.lst a) (.lst b) (.lst (a ++ b)) := .mk fun A N s v u hp ra rb => by
  cases ra with
  | lst p hN r =>
    cases rb with
    | lst p' hN' r' =>
      rename_i l vs l' vs'
      obtain ⟨n, e⟩ := p
      obtain ⟨n', e'⟩ := p'
      have hsz : vs.toArray.size + vs'.toArray.size ≤ sizeLine := by simpa [sizeLine_eq, r.length, r'.length] using hz
      refine concat_meets ⟨_, e, rfl⟩ ⟨_, e', rfl⟩ noFill_list_add seq_list_add PySem.F.slot_list_add PySem.F.entry_list_add (PySem.F.args_list_add_2 _ _) (list_addW l l' vs.toArray vs'.toArray n n' none none #[] #[] hsz) ⟨e, e', ?_⟩
      have q : vs.toArray ++ vs'.toArray = (vs ++ vs').toArray := by simp
      rw [q]
      exact ⟨.push _ _, .lst ⟨0, Heap.get?_push_size _ rfl⟩ (size_not_mem hp.av) ((r.append r').ext fun _ _ e => Heap.get?_push_of_some _ e)⟩

/-! equality -/
inductive Eqv : Nat → D → D → Bool → Prop
  | int (n : Nat) (a b : Int) : Eqv n (.int a) (.int b) (a == b)
  | str (n : Nat) (x y : Str) : Eqv n (.str x) (.str y) (x == y)
  | bytes (n : Nat) (x y : Array UInt8) : Eqv n (.bytes x) (.bytes y) (decide (x = y))
  | lst {n : Nat} {as bs : List D} {e : Nat → Bool} : as.length = bs.length → (∀ (j : Nat) (a b : D), as[j]? = some a → bs[j]? = some b → Eqv n a b (e j)) → Eqv (n + 1) (.lst as) (.lst bs) ((List.range as.length).all e)
  | lstNe {n : Nat} {as bs : List D} : as.length ≠ bs.length → Eqv (n + 1) (.lst as) (.lst bs) false
  | tup {n : Nat} {as bs : List D} {e : Nat → Bool} : (∀ (j : Nat) (a b : D), as[j]? = some a → bs[j]? = some b → Eqv n a b (e j)) → Eqv (n + 1) (.tup as) (.tup bs) ((List.range (min as.length bs.length)).all e && as.length == bs.length)

theorem Eqv.same {N N' : List Addr} {h : Heap} {n : Nat} {a b : D} {t : Bool} (q : Eqv n a b t) : ∀ {v : Value}, Rep N h v a → Rep N' h v b → t = true := by
  induction q with
  | int n a b => intro v ra rb; cases ra; cases rb; simp
  | str n a b => intro v ra rb; cases ra; cases rb; simp
  | bytes n a b => intro v ra rb; cases ra; cases rb; simp
  | lst hl hj ih =>
    rename_i as bs e
    intro v ra rb
    cases ra with
    | lst p hN r =>
      rename_i l vs
      cases rb with
      | lst p' hN' r' =>
        rename_i vs'
        obtain ⟨n1, e1⟩ := p
        obtain ⟨n2, e2⟩ := p'
        have hv : vs = vs' := by rw [e1] at e2; simpa using congrArg (fun o => match o with | some (⟨_, _, .seq xs _, _⟩ : Obj) => xs.toList | _ => []) e2
        subst hv
        rw [List.all_eq_true]
        intro j hj'
        have hlt : j < as.length := List.mem_range.mp hj'
        have h1 : as[j]? = some as[j] := List.getElem?_eq_getElem hlt
        have h2 : bs[j]? = some (bs[j]'(hl ▸ hlt)) := List.getElem?_eq_getElem _
        obtain ⟨v1, g1, r1⟩ := r.get h1
        obtain ⟨v2, g2, r2⟩ := r'.get h2
        rw [g1] at g2; cases g2
        exact ih j _ _ h1 h2 r1 r2
  | lstNe hl =>
    intro v ra rb
    cases ra with
    | lst p hN r =>
      rename_i l vs
      cases rb with
      | lst p' hN' r' =>
        rename_i vs'
        obtain ⟨n1, e1⟩ := p
        obtain ⟨n2, e2⟩ := p'
        have hv : vs = vs' := by rw [e1] at e2; simpa using congrArg (fun o => match o with | some (⟨_, _, .seq xs _, _⟩ : Obj) => xs.toList | _ => []) e2
        subst hv
        exact absurd (r.length.symm.trans r'.length) hl
  | tup hj ih =>
    rename_i as bs e
    intro v ra rb
    cases ra with
    | tup p hN r =>
      rename_i l vs
      cases rb with
      | tup p' hN' r' =>
        rename_i vs'
        obtain ⟨n1, e1⟩ := p
        obtain ⟨n2, e2⟩ := p'
        have hv : vs = vs' := by rw [e1] at e2; simpa using congrArg (fun o => match o with | some (⟨_, _, .seq xs _, _⟩ : Obj) => xs.toList | _ => []) e2
        subst hv
        have hl : as.length = bs.length := r.length.symm.trans r'.length
        simp only [Bool.and_eq_true, List.all_eq_true]
        refine ⟨?_, by simp [hl]⟩
        intro j hj'
        have hlt : j < as.length := by have := List.mem_range.mp hj'; omega
        have h1 : as[j]? = some as[j] := List.getElem?_eq_getElem hlt
        have h2 : bs[j]? = some (bs[j]'(hl ▸ hlt)) := List.getElem?_eq_getElem _
        obtain ⟨v1, g1, r1⟩ := r.get h1
        obtain ⟨v2, g2, r2⟩ := r'.get h2
        rw [g1] at g2; cases g2
        exact ih j _ _ h1 h2 r1 r2

theorem toArray_get {vs : List Value} {j : Nat} (h : j < vs.toArray.size) : vs[j]? = some vs.toArray[j] := by
  simp at h; simp [h]

theorem Eqv.rc {N N' : List Addr} {n : Nat} {a b : D} {t : Bool} (q : Eqv n a b t) : ∀ {A : Around} {s : Shared} {v u : Value}, Rep N s.heap v a → Rep N' s.heap u b → A.units + n + 1 < cLine →
    SeqAt.EqAt A s v u t ∧ ∀ x y, v = .ref x → u = .ref y → SeqAt.RcAt A s v u t ∧ SeqAt.RcNeAt A s v u (!t) := by
  induction q with
  | int n a b => intro A s v u ra rb hu; cases ra; cases rb; exact ⟨(MeetsSeq.EqGives.int _ _ _ _).at _ _, fun _ _ e => nomatch e⟩
  | str n a b => intro A s v u ra rb hu; cases ra; cases rb; exact ⟨(eqGives_str _ _ _ _).at _ _, fun _ _ e => nomatch e⟩
  | bytes n a b =>
    intro A s v u ra rb hu; cases ra; cases rb
    refine ⟨fun prog w E Q hq => eqBool_bytes ?_, fun _ _ e => nomatch e⟩
    have e : decide (a.toList = b.toList) = decide (a = b) := by simp [Array.toList_inj]
    rw [e]; exact hq
  | lst hl hj ih =>
    rename_i n as bs e
    intro A s v u ra rb hu
    have whole := fun (v : Value) (x1 : Rep N s.heap v (.lst as)) (x2 : Rep N' s.heap v (.lst bs)) => (Eqv.lst hl hj).same x1 x2
    cases ra with
    | lst p hN r =>
      rename_i l vs
      cases rb with
      | lst p' hN' r' =>
        rename_i l' vs'
        have hsz : vs.toArray.size = vs'.toArray.size := by simp [r.length, r'.length, hl]
        have hs1 : as.length = vs.toArray.size := by simp [r.length]
        have items : ∀ j (h1 : j < vs.toArray.size) (h2 : j < vs'.toArray.size), SeqAt.EqAt A.in1 s vs.toArray[j] vs'.toArray[j] (e j) := fun j h1 h2 => by
          obtain ⟨d1, g1, r1⟩ := r.get' (toArray_get h1)
          obtain ⟨d2, g2, r2⟩ := r'.get' (toArray_get h2)
          exact (ih j _ _ g1 g2 (A := A.in1) r1 r2 (by simp only [Around.in1_units]; omega)).1
        have rc := SeqAt.RcAt.lists p.isList p'.isList hsz (by omega) items
        have rn := SeqAt.RcNeAt.lists p.isList p'.isList hsz (by omega) items
        rw [← hs1] at rc rn
        refine ⟨?_, fun _ _ _ _ => ⟨rc, rn⟩⟩
        by_cases hll : l = l'
        · subst hll
          rw [whole _ (.lst p hN r) (.lst p' hN' r')]
          exact SeqAt.EqAt.same _
        · exact SeqAt.EqAt.of_refs hll rc
  | lstNe hl =>
    rename_i n as bs
    intro A s v u ra rb hu
    have whole := fun (v : Value) (x1 : Rep N s.heap v (.lst as)) (x2 : Rep N' s.heap v (.lst bs)) => (Eqv.lstNe (n := n) hl).same x1 x2
    cases ra with
    | lst p hN r =>
      rename_i l vs
      cases rb with
      | lst p' hN' r' =>
        rename_i l' vs'
        have hsz : (vs.toArray.size != vs'.toArray.size) = true := by simpa [r.length, r'.length] using hl
        have rc := SeqAt.RcAt.lists_lengths (A := A) p.isList p'.isList hsz (by omega)
        have rn := SeqAt.RcNeAt.lists_lengths (A := A) p.isList p'.isList hsz (by omega)
        refine ⟨?_, fun _ _ _ _ => ⟨rc, rn⟩⟩
        by_cases hll : l = l'
        · subst hll
          exact absurd (whole _ (.lst p hN r) (.lst p' hN' r')) (by simp)
        · exact SeqAt.EqAt.of_refs hll rc
  | tup hj ih =>
    rename_i n as bs e
    intro A s v u ra rb hu
    have whole := fun (v : Value) (x1 : Rep N s.heap v (.tup as)) (x2 : Rep N' s.heap v (.tup bs)) => (Eqv.tup hj).same x1 x2
    cases ra with
    | tup p hN r =>
      rename_i l vs
      cases rb with
      | tup p' hN' r' =>
        rename_i l' vs'
        have hs1 : as.length = vs.toArray.size := by simp [r.length]
        have hs2 : bs.length = vs'.toArray.size := by simp [r'.length]
        have items : ∀ j (h1 : j < vs.toArray.size) (h2 : j < vs'.toArray.size), SeqAt.EqAt A.in1 s vs.toArray[j] vs'.toArray[j] (e j) := fun j h1 h2 => by
          obtain ⟨d1, g1, r1⟩ := r.get' (toArray_get h1)
          obtain ⟨d2, g2, r2⟩ := r'.get' (toArray_get h2)
          exact (ih j _ _ g1 g2 (A := A.in1) r1 r2 (by simp only [Around.in1_units]; omega)).1
        have rc := SeqAt.RcAt.tuples p.isTuple p'.isTuple (by omega) items
        have rn := SeqAt.RcNeAt.tuples p.isTuple p'.isTuple (by omega) items
        rw [← hs1, ← hs2] at rc rn
        refine ⟨?_, fun _ _ _ _ => ⟨rc, rn⟩⟩
        by_cases hll : l = l'
        · subst hll
          rw [whole _ (.tup p hN r) (.tup p' hN' r')]
          exact SeqAt.EqAt.same _
        · exact SeqAt.EqAt.of_refs hll rc
end
end Mine
end B3S

section B4S
set_option linter.unusedVariables false
set_option maxRecDepth 100000
namespace Mine

/-- texts of both kinds: bytes where o, else str -/
def Tx (o : Bool) (l : List Nat) : D := if o then bT l else sT l
abbrev Bd (l : List Nat) : Prop := ∀ c ∈ l, c < 256

theorem u8_inj {a b : Nat} (ha : a < 256) (hb : b < 256) (h : UInt8.ofNat a = UInt8.ofNat b) : a = b := by
  have := congrArg UInt8.toNat h
  simp [UInt8.toNat_ofNat'] at this
  omega
theorem bA_inj : ∀ {a b : List Nat}, Bd a → Bd b → bA a = bA b → a = b := by
  intro a b ha hb h
  have h' : a.map UInt8.ofNat = b.map UInt8.ofNat := by simpa [bA] using h
  clear h
  induction a generalizing b with
  | nil => cases b with | nil => rfl | cons y b => cases h'
  | cons x a ih =>
    cases b with
    | nil => cases h'
    | cons y b =>
      simp only [List.map_cons, List.cons.injEq] at h'
      rw [u8_inj (ha _ (.head _)) (hb _ (.head _)) h'.1, ih (fun c hc => ha c (.tail _ hc)) (fun c hc => hb c (.tail _ hc)) h'.2]
theorem bA_eq {a b : List Nat} (ha : Bd a) (hb : Bd b) : decide (bA a = bA b) = decide (a = b) := by
  by_cases h : a = b
  · subst h; simp
  · rw [decide_eq_false h]; exact decide_eq_false fun e => h (bA_inj ha hb e)
theorem sT_beq (a b : List Nat) : ((⟨a.toArray⟩ : Str) == ⟨b.toArray⟩) = decide (a = b) := by
  by_cases h : a = b
  · subst h; simp
  · rw [decide_eq_false h]
    refine beq_eq_false_iff_ne.mpr fun e => h ?_
    have := congrArg (fun x : Str => x.cps.toList) e
    simpa using this

theorem ibeq (a b : Int) : (a == b) = decide (a = b) := by
  by_cases h : a = b
  · subst h; simp
  · rw [decide_eq_false h]; simpa using h
theorem lbeq (a b : List UInt8) : (a == b) = decide (a = b) := by
  by_cases h : a = b
  · subst h; simp
  · rw [decide_eq_false h]; simpa using h
theorem dArr (a b : Array UInt8) : decide (a.toList = b.toList) = decide (a = b) := by simp only [Array.toList_inj]
theorem Bd.append {a b : List Nat} (ha : Bd a) (hb : Bd b) : Bd (a ++ b) := fun c hc => (List.mem_append.mp hc).elim (ha c) (hb c)
theorem Bd.cut {a : List Nat} (lo hi : Option Int) (ha : Bd a) : Bd (cut lo hi a) := fun c hc => ha c (List.mem_of_mem_drop (List.mem_of_mem_take hc))

section
variable {W : Wd} {k : Nat} {o : Bool}

theorem BinR.addT {a b : List Nat} (hz : a.length + b.length ≤ 16777216) : BinR W k .Add (Tx o a) (Tx o b) (Tx o (a ++ b)) := by
  cases o
  · exact BinR.addStr hz
  · exact BinR.addBytes hz

theorem Eqv.tx {n : Nat} {a b : List Nat} (ha : Bd a) (hb : Bd b) : Eqv n (Tx o a) (Tx o b) (decide (a = b)) := by
  cases o
  · have h := Eqv.str n ⟨a.toArray⟩ ⟨b.toArray⟩
    rw [sT_beq] at h; exact h
  · have h := Eqv.bytes n (bA a) (bA b)
    rw [bA_eq ha hb] at h; exact h
theorem Eqv.txInt {n : Nat} {a b : Int} : Eqv n (.int a) (.int b) (decide (a = b)) := by
  have h := Eqv.int n a b
  rw [ibeq] at h; exact h

theorem CmpR.eqInt {a b : Int} : CmpR W k .Eq (.int a) (.int b) (decide (a = b)) := .mk fun A N s v u hp ra rb => by
  cases ra; cases rb; exact eq_int ⟨.refl _, by rw [ibeq]⟩
theorem CmpR.ltInt {a b : Int} : CmpR W k .Lt (.int a) (.int b) (decide (a < b)) := .mk fun A N s v u hp ra rb => by
  cases ra; cases rb; exact PyProof.Rows.lt_int ⟨.refl _, rfl⟩
theorem CmpR.gtInt {a b : Int} : CmpR W k .Gt (.int a) (.int b) (decide (b < a)) := .mk fun A N s v u hp ra rb => by
  cases ra; cases rb; exact PyProof.Rows.gt_int ⟨.refl _, rfl⟩
theorem CmpR.neInt {a b : Int} : CmpR W k .NotEq (.int a) (.int b) (!decide (a = b)) := .mk fun A N s v u hp ra rb => by
  cases ra; cases rb; exact PyProof.Rows.ne_int ⟨.refl _, by simp [bne, ibeq]⟩
theorem CmpR.eqT {a b : List Nat} (ha : Bd a) (hb : Bd b) : CmpR W k .Eq (Tx o a) (Tx o b) (decide (a = b)) := .mk fun A N s v u hp ra rb => by
  cases o
  · cases ra; cases rb; exact eq_str ⟨.refl _, by rw [sT_beq]⟩
  · cases ra; cases rb
    refine eq_bytes ⟨.refl _, ?_⟩
    rw [lbeq, dArr, bA_eq ha hb]
theorem CmpR.neT {a b : List Nat} (ha : Bd a) (hb : Bd b) : CmpR W k .NotEq (Tx o a) (Tx o b) (!decide (a = b)) := .mk fun A N s v u hp ra rb => by
  cases o
  · cases ra; cases rb; exact PyProof.Rows.ne_str ⟨.refl _, by congr 1; simp only [bne]; rw [sT_beq]⟩
  · cases ra; cases rb
    refine ne_bytes ⟨.refl _, ?_⟩
    show Value.bool (!((bA a).toList == (bA b).toList)) = _
    rw [lbeq, dArr, bA_eq ha hb]

theorem CmpR.eqL {n : Nat} {a b : List D} {t : Bool} (q : Eqv n (.lst a) (.lst b) t) (hn : n ≤ 90) : CmpR W k .Eq (.lst a) (.lst b) t := .mk fun A N s v u hp ra rb => by
  have h1 := hp.un
  have h := (q.rc ra rb (A := A) (by omega)).2
  cases ra; cases rb
  exact cmp_ofEq ((h _ _ rfl rfl).1 _ _ _ _ ⟨.refl _, rfl⟩)
theorem CmpR.neL {n : Nat} {a b : List D} {t : Bool} (q : Eqv n (.lst a) (.lst b) t) (hn : n ≤ 90) : CmpR W k .NotEq (.lst a) (.lst b) (!t) := .mk fun A N s v u hp ra rb => by
  have h1 := hp.un
  have h := (q.rc ra rb (A := A) (by omega)).2
  cases ra; cases rb
  exact cmp_ofNotEq ((h _ _ rfl rfl).2 _ _ _ _ ⟨.refl _, rfl⟩)
theorem CmpR.neTup {n : Nat} {a b : List D} {t : Bool} (q : Eqv n (.tup a) (.tup b) t) (hn : n ≤ 90) : CmpR W k .NotEq (.tup a) (.tup b) (!t) := .mk fun A N s v u hp ra rb => by
  have h1 := hp.un
  have h := (q.rc ra rb (A := A) (by omega)).2
  cases ra; cases rb
  exact cmp_ofNotEq ((h _ _ rfl rfl).2 _ _ _ _ ⟨.refl _, rfl⟩)


/-- which value is that text -/
def isT (o : Bool) (l : List Nat) : Value → Bool
  | .str x _ => !o && decide (x = ⟨l.toArray⟩)
  | .bytes b _ => o && decide (b = bA l)
  | _ => false
theorem isT_of {N : List Addr} {h : Heap} {v : Value} {a l : List Nat} (ha : Bd a) (hl : Bd l) (r : Rep N h v (Tx o a)) : isT o l v = decide (a = l) := by
  cases o
  · cases r
    show (!false && _) = _
    simp
  · cases r
    show (true && decide (bA a = bA l)) = _
    rw [bA_eq ha hl, Bool.true_and]
theorem EqAt.tx {N N' : List Addr} {A : Around} {s : Shared} {v u : Value} {a l : List Nat} (ha : Bd a) (hl : Bd l) (r : Rep N s.heap v (Tx o a)) (r' : Rep N' s.heap u (Tx o l)) : SeqAt.EqAt A s v u (isT o l v) := by
  rw [isT_of ha hl r]
  cases o
  · cases r; cases r'
    rename_i t1 t2
    have h := (eqGives_str ⟨a.toArray⟩ ⟨l.toArray⟩ t1 t2).at A s
    rw [sT_beq] at h; exact h
  · cases r; cases r'
    intro prog w E Q hq
    refine eqBool_bytes ?_
    rw [dArr, bA_eq ha hl]; exact hq
theorem RepL.texts {N : List Addr} {h : Heap} : ∀ {vs : List Value} {ls : List (List Nat)}, RepL N h vs (ls.map (Tx o)) → ∀ v ∈ vs, ∃ a ∈ ls, Rep N h v (Tx o a)
  | _, [], .nil, _, hv => nomatch hv
  | _, l :: ls, .cons r rs, v, hv => by
    rcases List.mem_cons.mp hv with rfl | hv
    · exact ⟨l, .head _, r⟩
    · obtain ⟨a, h1, h2⟩ := RepL.texts rs v hv
      exact ⟨a, .tail _ h1, h2⟩
theorem RepL.anyT {N : List Addr} {h : Heap} {l : List Nat} (hl : Bd l) : ∀ {vs : List Value} {ls : List (List Nat)}, (∀ a ∈ ls, Bd a) → RepL N h vs (ls.map (Tx o)) → vs.any (isT o l) = decide (l ∈ ls)
  | _, [], _, .nil => by simp
  | _, a :: ls, hb, .cons r rs => by
    rw [List.any_cons, isT_of (hb a (.head _)) hl r, RepL.anyT hl (fun a ha => hb a (.tail _ ha)) rs]
    by_cases h1 : a = l
    · subst h1; simp
    · have h2 : ¬ l = a := fun e => h1 e.symm
      simp [h1, h2]
theorem CmpR.inT {l : List Nat} {ls : List (List Nat)} (hl : Bd l) (hb : ∀ a ∈ ls, Bd a) : CmpR W k .In (Tx o l) (.lst (ls.map (Tx o))) (decide (l ∈ ls)) := .mk fun A N s v u hp ra rb => by
  cases rb with
  | lst p hN r =>
    refine SeqAt.in_listAt (isT o l) p.isList (fun y hy => ?_) ⟨.refl _, ?_⟩
    · obtain ⟨a, h1, h2⟩ := r.texts y (by simpa using hy)
      exact EqAt.tx (hb a h1) hl h2 ra
    · rw [← RepL.anyT hl hb r]; simp
theorem CmpR.notInT {l : List Nat} {ls : List (List Nat)} (hl : Bd l) (hb : ∀ a ∈ ls, Bd a) : CmpR W k .NotIn (Tx o l) (.lst (ls.map (Tx o))) (!decide (l ∈ ls)) := .mk fun A N s v u hp ra rb => by
  cases rb with
  | lst p hN r =>
    refine SeqAt.notIn_listAt (isT o l) p.isList (fun y hy => ?_) ⟨.refl _, ?_⟩
    · obtain ⟨a, h1, h2⟩ := r.texts y (by simpa using hy)
      exact EqAt.tx (hb a h1) hl h2 ra
    · rw [← RepL.anyT hl hb r]; simp
theorem CallR.indexT {l : List Nat} {ls : List (List Nat)} {j : Nat} (hl : Bd l) (hb : ∀ a ∈ ls, Bd a) (hj : ls[j]? = some l) (hno : ∀ m, m < j → ls[m]? ≠ some l) (hz : ls.length ≤ 16777216) :
    CallR W k (.builtin "list.index") [.lst (ls.map (Tx o)), Tx o l] (.int j) := .mk fun A N s vs hp r => by
  cases r with
  | cons rl r =>
    cases r with
    | cons rx r =>
      cases r
      rename_i u
      cases rl with
      | lst p hN r =>
        rename_i a items
        obtain ⟨n, e⟩ := p
        have hlen : items.length = ls.length := by simpa using r.length
        have hjl : j < ls.length := by
          rcases Nat.lt_or_ge j ls.length with h | h
          · exact h
          · rw [List.getElem?_eq_none h] at hj; cases hj
        have at' : ∀ m (hm : m < items.toArray.size), ∃ a, ls[m]? = some a ∧ isT o l items.toArray[m] = decide (a = l) := fun m hm => by
          obtain ⟨d, g, rd⟩ := r.get' (toArray_get hm)
          rw [List.getElem?_map] at g
          obtain ⟨a, ga, rfl⟩ := Option.map_eq_some_iff.mp g
          exact ⟨a, ga, isT_of (hb a (List.mem_of_getElem? ga)) hl rd⟩
        refine call_meets PySem.F.slot_list_index ⟨_, e, rfl⟩ PySem.F.entry_list_index (PySem.F.args_list_index_2 _ _)
          (SeqAt.list_indexAt a items.toArray n none #[] u (isT o l) j (by simpa [hlen] using hjl) (by omega) ?_ ?_) ⟨e, fun y hy => ?_, .tok _ _, .int _ _⟩
        · obtain ⟨a, g, e2⟩ := at' j (by simpa [hlen] using hjl)
          rw [hj] at g; cases g
          rw [e2]; simp
        · intro m hm hlt
          obtain ⟨a, g, e2⟩ := at' m hm
          rw [e2]
          refine decide_eq_false fun q => hno m hlt ?_
          rw [g, q]
        · obtain ⟨a, h1, h2⟩ := r.texts y (by simpa using hy)
          exact EqAt.tx (hb a h1) hl h2 rx
end
end Mine
end B4S

section B5S
set_option linter.unusedVariables false
set_option maxRecDepth 100000
namespace Mine

theorem subTail {prog : Program} {w : World} {A : Around} {E : Value → Shared → Prop} {s : Shared} {value slice : Expr} {o i : Value} {T id : String} {ops : List Value} {Q : Value → Shared → Prop} (hT : s.TypeIs o T)
    (hl : typeLookup (.type T) "__getitem__" = pure (some (.builtin id))) (hs : subscripted slice false o i = operate ops (getItem o i)) (h : wpAny (model prog w) A (getItem o i) Q E s) :
    wpAny (model prog w) A (subscriptTail value slice o i) Q E s := by
  unfold subscriptTail
  refine wpAny_bind ?_
  rw [getitemInPython_of_ne hT.not_modules]
  refine wpAny_bind (wpAny_specialOf hT hl ?_)
  have fin : wpAny (model prog w) A (subscripted slice false o i) (fun r s₃ => wpAny (model prog w) A (letTemporaryGo value o r >>= fun _ => pure r) Q E s₃) E s := by
    rw [hs]
    exact wpAny_operating (wpAny_mono h (fun r s₃ h₃ => wpAny_bind (wpAny_letTemporaryGo (wpAny_pure h₃))) fun _ _ x => x)
  first
    | exact wpAny_pure (wpAny_bind fin)
    | exact wpAny_bind (wpAny_pure (wpAny_bind fin))
    | exact wpAny_bind fin

section
variable {W : Wd} {k : Nat} {c : Cx} {N : List Addr} {δ : List (Str × D)} {o : Bool}

def getId : String → Option String
  | "str" => some "str.__getitem__"
  | "bytes" => some "bytes.__getitem__"
  | "list" => some "list.__getitem__"
  | "tuple" => some "tuple.__getitem__"
  | _ => none
def seqy : D → Bool
  | .str _ | .bytes _ | .lst _ | .tup _ => true
  | _ => false
theorem getLook {d : D} {T : String} (h : tyOf d = some T) (hs : (seqy d = true)) : ∃ id, typeLookup (.type T) "__getitem__" = pure (some (.builtin id)) := by
  cases d <;> cases h <;> first | cases hs | skip
  · exact ⟨_, F.slot_str_getitem.lookup⟩
  · exact ⟨_, PySem.W.FB.slot_bytes_getitem.lookup⟩
  · exact ⟨_, slot_tuple_getitem.lookup⟩
  · exact ⟨_, slot_list_getitem.lookup⟩

structure SubR (W : Wd) (k : Nat) (x : D) (i : Int) (d : D) : Prop where
  run : ∀ A N s v t, Hp W k A N s → Rep N s.heap v x → wpAny W.M A (getItem v (.int i t)) (fun r s' => Kp s s' ∧ Rep N s'.heap r d) F0 s
structure SliR (W : Wd) (k : Nat) (x : D) (lo hi : Option Int) (d : D) : Prop where
  run : ∀ A N s v sl vl vu, Hp W k A N s → Rep N s.heap v x → s.heap.IsSliceOf sl vl vu .none → IsPart vl lo → IsPart vu hi →
    wpAny W.M A (getItem v (.ref sl)) (fun r s' => Kp s s' ∧ Rep N s'.heap r d) F0 s

theorem Ev.sub {value slice : Expr} {pos : Pos} {x d : D} {i : Int} (hx : seqy x = true) (hv : Ev W k c N δ value x) (hi : Ev W k c N δ slice (.int i)) (ho : SubR W k x i d)
    (hs : ∀ o i, subscripted slice false o i = operate [o, i] (getItem o i) := by intro _ _; rfl) : Ev W k c N δ (.Subscript value slice pos) d := .mk fun s r => by
  refine Subscript_ (wpAny_mono (hv.run s r) (fun v s₁ ⟨q₁, r₁⟩ => wpAny_mono (hi.run s₁ (r.keeps q₁)) (fun iv s₂ ⟨q₂, r₂⟩ => ?_) fun _ _ x => x) fun _ _ x => x)
  cases r₂
  have hT : ∃ T, tyOf x = some T := by cases x <;> first | exact ⟨_, rfl⟩ | cases hx
  obtain ⟨T, hT⟩ := hT
  obtain ⟨id, hl⟩ := getLook hT hx
  refine subTail ((r₁.ext q₂.ext).typeIs hT) hl (hs _ _) (wpAny_mono (ho.run _ _ _ _ _ (r.keeps (q₁.trans q₂)).hp (r₁.ext q₂.ext)) (fun _ _ ⟨q, r'⟩ => ⟨(q₁.trans q₂).trans q, r'⟩) fun _ _ x => x)

/-- a slice's part -/
structure EvP (W : Wd) (k : Nat) (c : Cx) (N : List Addr) (δ : List (Str × D)) (e : Option Expr) (i : Option Int) : Prop where
  run : ∀ s, Rd W k c N δ s → wpAny W.M c.A (evalPart e c.env) (fun v s' => Kp s s' ∧ IsPart v i) F0 s
theorem EvP.none : EvP W k c N δ Option.none Option.none := .mk fun s r => wpAny_evalPart_none ⟨.refl _, .none⟩
theorem EvP.some {e : Expr} {i : Int} (h : Ev W k c N δ e (.int i)) : EvP W k c N δ (Option.some e) (Option.some i) := .mk fun s r =>
  wpAny_evalPart_some (wpAny_mono (h.run s r) (fun v s₁ ⟨q, rv⟩ => ⟨q, by cases rv; exact .int _ _⟩) fun _ _ x => x)

theorem Ev.slice {value : Expr} {lo hi : Option Expr} {p pos : Pos} {x d : D} {i j : Option Int} (hx : seqy x = true) (hv : Ev W k c N δ value x) (hl : EvP W k c N δ lo i) (hh : EvP W k c N δ hi j) (ho : SliR W k x i j d) :
    Ev W k c N δ (.Subscript value (.Slice lo hi Option.none p) pos) d := .mk fun s r => by
  refine Subscript_ (wpAny_mono (hv.run s r) (fun v s₁ ⟨q₁, r₁⟩ => wpAny_Slice (wpAny_mono (hl.run s₁ (r.keeps q₁)) (fun vl s₂ ⟨q₂, p₂⟩ => wpAny_mono (hh.run s₂ (r.keeps (q₁.trans q₂))) (fun vu s₃ ⟨q₃, p₃⟩ => ?_) fun _ _ x => x) fun _ _ x => x)) fun _ _ x => x)
  refine wpAny_evalPart_none ?_
  have hT : ∃ T, tyOf x = Option.some T := by cases x <;> first | exact ⟨_, rfl⟩ | cases hx
  obtain ⟨T, hT⟩ := hT
  obtain ⟨id, hlk⟩ := getLook hT hx
  have q₄ := Kp.push s₃ { cls := .type "slice", data := .fields #[vl, vu, .none] }
  have q := ((q₁.trans q₂).trans q₃).trans q₄
  have r₄ := r₁.ext ((q₂.trans q₃).trans q₄).ext
  refine subTail (ops := [.ref s₃.heap.objs.size, v]) (r₄.typeIs hT) hlk rfl (wpAny_mono (ho.run _ _ _ _ _ _ _ (r.keeps q).hp r₄ (Heap.IsSliceOf.new _ _ _ _) p₂ p₃) (fun _ _ ⟨q', r'⟩ => ⟨q.trans q', r'⟩) fun _ _ x => x)

/-! items -/
theorem SubR.lst {ds : List D} {i : Int} {d : D} (h0 : 0 ≤ i) (hd : ds[i.toNat]? = some d) (hz : ds.length ≤ 16777216) : SubR W k (.lst ds) i d := .mk fun A N s v t hp r => by
  cases r with
  | lst p hN r =>
    obtain ⟨v, g, rv⟩ := r.get hd
    have hlt : i.toNat < ds.length := by
      rcases Nat.lt_or_ge i.toNat ds.length with h | h
      · exact h
      · rw [List.getElem?_eq_none h] at hd; cases hd
    exact wpAny_getItem_list p.isList h0 (by omega) (by simpa using g) ⟨.refl _, rv⟩
theorem SubR.lstNeg {ds : List D} {i : Int} {d : D} (h0 : i < 0) (h1 : -(ds.length : Int) ≤ i) (hd : ds[(i + ds.length).toNat]? = some d) (hz : ds.length ≤ 16777216) : SubR W k (.lst ds) i d := .mk fun A N s v t hp r => by
  cases r with
  | lst p hN r =>
    obtain ⟨v, g, rv⟩ := r.get hd
    have hl := r.length
    refine wpAny_getItem_list_neg p.isList h0 (by simpa [hl] using h1) (by omega) ?_ ⟨.refl _, rv⟩
    simpa [hl] using g
theorem SubR.tup {ds : List D} {i : Int} {d : D} (h0 : 0 ≤ i) (hd : ds[i.toNat]? = some d) (hz : ds.length ≤ 16777216) : SubR W k (.tup ds) i d := .mk fun A N s v t hp r => by
  cases r with
  | tup p hN r =>
    obtain ⟨v, g, rv⟩ := r.get hd
    have hlt : i.toNat < ds.length := by
      rcases Nat.lt_or_ge i.toNat ds.length with h | h
      · exact h
      · rw [List.getElem?_eq_none h] at hd; cases hd
    exact getItem_tuple (j := i.toNat) p.isTuple (by omega) (by omega) (StrLaws.seqIndex_nonneg h0 (by simp [r.length]; omega)) (by simpa using g) ⟨.refl _, rv⟩
/-- one sign of a str -/
theorem SubR.str {l : List Nat} {i : Int} {ch : Nat} (h1 : -(l.length : Int) ≤ i) (h2 : i < l.length) (hd : l[(if i < 0 then i + l.length else i).toNat]? = some ch) (hz : l.length ≤ 16777216) : SubR W k (sT l) i (sT [ch]) := .mk fun A N s v t hp r => by
  cases r
  have e : Txt.charAt ⟨l.toArray⟩ i = some ch := by
    unfold Txt.charAt
    by_cases h : i < 0
    · rw [if_pos h] at hd
      have hs : seqIndex? i (Str.length ⟨l.toArray⟩) = some (i + l.length).toNat := StrLaws.seqIndex_neg (n := (Str.length ⟨l.toArray⟩)) h (by show -((l.toArray.size : Nat) : Int) ≤ i; simpa using h1)
      rw [hs]
      show l.toArray[(i + l.length).toNat]? = _
      simpa using hd
    · rw [if_neg h] at hd
      have hs : seqIndex? i (Str.length ⟨l.toArray⟩) = some i.toNat := StrLaws.seqIndex_nonneg (n := (Str.length ⟨l.toArray⟩)) (by omega) (by show i < ((l.toArray.size : Nat) : Int); simpa using h2)
      rw [hs]
      show l.toArray[i.toNat]? = _
      simpa using hd
  have e2 : Txt.item ⟨l.toArray⟩ i = ⟨[ch].toArray⟩ := by unfold Txt.item; rw [e]; rfl
  refine SB.getItem (fitsSsize_of (N := 9223372036854775808) (by omega) (by omega) (Int.le_refl _)) (by rw [e]; rfl) ?_
  rw [e2]
  exact ⟨.tok _ _, .str _ _⟩

/-! slices -/
theorem RepL.cut {N : List Addr} {h : Heap} {vs : List Value} {ds : List D} (lo hi : Option Int) (r : RepL N h vs ds) : RepL N h (cut lo hi vs) (cut lo hi ds) := by
  unfold Mine.cut
  rw [r.length]
  exact (r.drop _).take _
theorem SliR.lst {ds : List D} {lo hi : Option Int} (hz : ds.length ≤ 16777216) : SliR W k (.lst ds) lo hi (.lst (cut lo hi ds)) := .mk fun A N s v sl vl vu hp r hs pl pu => by
  cases r with
  | lst p hN r =>
    rename_i a vs
    refine wpAny_getItem_list_slice p.isList hs pl pu .none (by simp) ?_ (by simpa [sizeLine_eq, r.length] using hz)
    have e : slicePick vs.toArray lo hi none = (cut lo hi vs).toArray := by
      rw [slicePick_plain]; simp [cut]
    rw [e]
    exact ⟨.push _ _, .lst ⟨0, Heap.get?_push_size _ rfl⟩ (size_not_mem hp.av) ((RepL.cut lo hi r).ext fun _ _ e => Heap.get?_push_of_some _ e)⟩


theorem strIdx_plain (lo hi : Option Int) (n : Nat) : Builtin.Str.strSliceIndices lo hi 1 n = sliceRange (sliceBounds lo hi none n).1 (sliceBounds lo hi none n).2.1 1 := by
  cases lo <;> cases hi <;> rfl
theorem sliceMade_cut (l : List Nat) (lo hi : Option Int) : (((Builtin.Str.strSliceIndices lo hi 1 l.length).filterMap (l.toArray[·]?)) = cut lo hi l) := by
  rw [strIdx_plain, sliceBounds_plain]
  simp only [sliceRange_one, pick_run]
  simp [cut]
theorem cut_len {l : List Nat} {lo hi : Option Int} (h : (Builtin.Str.strSliceIndices lo hi 1 l.length).length = l.length) : cut lo hi l = l := by
  rw [strIdx_plain, sliceBounds_plain] at h
  simp only [sliceRange_one, List.length_map, List.length_range] at h
  unfold cut
  generalize ha : lo.elim 0 (clipAt l.length) = a at h ⊢
  generalize hb : hi.elim l.length (clipAt l.length) = b at h ⊢
  have hbl : b ≤ l.length := by
    subst hb
    cases hi with
    | none => exact Nat.le_refl _
    | some i => have := clipAt_cast l.length i; show clipAt l.length i ≤ _; omega
  by_cases h0 : l.length = 0
  · have : l = [] := List.length_eq_zero_iff.mp h0
    subst this; simp
  · have h1 : a = 0 := by omega
    subst h1
    have h2 : b = l.length := by omega
    rw [h2]; simp
theorem isPart_of {v : Value} {i : Option Int} (h : IsPart v i) : ∃ p : Option (Int × Tok), v = partValue p ∧ p.map (·.1) = i := by
  cases h with
  | none => exact ⟨none, rfl, rfl⟩
  | int i t => exact ⟨some (i, t), rfl, rfl⟩
theorem SliR.tx {l : List Nat} {lo hi : Option Int} (hz : l.length ≤ 16777216) : SliR W k (Tx o l) lo hi (Tx o (cut lo hi l)) := .mk fun A N s v sl vl vu hp r hs pl pu => by
  have hcl : (cut lo hi l).length ≤ l.length := by unfold cut; simp only [List.length_take, List.length_drop]; omega
  cases o
  · cases r
    obtain ⟨p, rfl, e1⟩ := isPart_of pl
    obtain ⟨q, rfl, e2⟩ := isPart_of pu
    refine wpAny_getItem_str_slice (l := p) (u := q) (st := none) hs rfl ?_
    unfold sliceMade slicePicked
    have e3 : ∀ t' k', Kp s { s with toks := k' } ∧ Rep N ({ s with toks := k' } : Shared).heap (.str ⟨(cut lo hi l).toArray⟩ t') (sT (cut lo hi l)) := fun t' k' => ⟨.tok _ _, .str _ _⟩
    rw [e1, e2]
    show Made.post (if ((1 : Int) == 1 && (Builtin.Str.strSliceIndices lo hi 1 l.toArray.size).length == l.toArray.size) = true then _ else Made.str ⟨((Builtin.Str.strSliceIndices lo hi 1 l.toArray.size).filterMap (l.toArray[·]?)).toArray⟩) _ _
    rw [List.size_toArray, sliceMade_cut]
    split
    · rename_i h
      have h' : (Builtin.Str.strSliceIndices lo hi 1 l.length).length = l.length := by simpa using h
      have := cut_len h'
      show Kp s s ∧ Rep N s.heap (.str ⟨l.toArray⟩ _) (sT (cut lo hi l))
      rw [this]
      exact ⟨.refl _, .str _ _⟩
    · exact ⟨by show (cut lo hi l).toArray.size ≤ _; rw [List.size_toArray, sizeLine_eq]; omega, e3 _ _⟩
  · cases r
    refine getItem_meets (typeIs_bytes _ _ _) (by decide) PySem.W.FB.slot_bytes_getitem PySem.W.FB.entry_bytes_getitem (PySem.W.FB.args_bytes_getitem_2 _ _) (KBc.meets_slice2 (bA l) _ sl pl pu) ⟨hs, ?_, fun t' k' => ⟨.tok _ _, ?_⟩⟩
    · exact Nat.le_trans (KBc.size_picked_le _ lo hi) (by simpa [bA, sizeLine_eq] using hz)
    · have e : KBy.picked (bA l) lo hi = bA (cut lo hi l) := by
        rw [KBc.picked_eq]
        simp [bA, cut, List.map_take, List.map_drop]
      rw [e]; exact .bytes _ _

/-! lengths and truth -/
theorem CallR.lenL {ds : List D} (hz : ds.length ≤ 16777216) : CallR W k (.builtin "len") [.lst ds] (.int ds.length) := .mk fun A N s vs hp r => by
  cases r with
  | cons rl r =>
    cases r
    cases rl with
    | lst p hN r =>
      have hl := r.length
      refine PyProof.Rows.len_list p.isList (by simp [hl]; omega) ?_
      have e : ((List.toArray ‹List Value›).size : Int) = ds.length := by simp [hl]
      rw [e]
      exact ⟨.tok _ _, .int _ _⟩
theorem TruR.int {a : Int} : TruR W k (.int a) (!decide (a = 0)) := .mk fun A N s v hp r => by
  cases r
  exact truthy_int ⟨by simp [bne, ibeq], .refl _⟩
theorem TruR.bool {a : Bool} : TruR W k (.bool a) a := .mk fun A N s v hp r => by
  cases r
  exact wpAny_truthy_bool ⟨rfl, .refl _⟩
theorem TruR.none : TruR W k .none false := .mk fun A N s v hp r => by
  cases r
  exact wpAny_of_eq (a := false) rfl ⟨rfl, .refl _⟩
theorem TruR.tx {l : List Nat} (hz : l.length ≤ 16777216) : TruR W k (Tx o l) (!decide (l = [])) := .mk fun A N s v hp r => by
  have e : ((l.length : Int) != 0) = !decide (l = []) := by cases l <;> simp <;> omega
  cases o
  · cases r
    refine P.truthy_str (by show ¬ ((l.toArray.size : Nat) : Int) ≥ _; rw [List.size_toArray]; omega) ⟨?_, .tok _ _⟩ -- ((l.toArray.size : Nat) : Int) < _; rw [List.size_toArray]; omega) ⟨?_, .tok _ _⟩
    show (((l.toArray.size : Nat) : Int) != 0) = _
    rw [List.size_toArray, e]
  · cases r
    refine truthy_bytes (by simp [bA]; omega) ⟨?_, .tok _ _⟩
    rw [← e]; simp [bA]
end
end Mine
end B5S

section B6S
set_option linter.unusedVariables false
set_option maxRecDepth 100000
namespace Mine

abbrev Own := Option (Str × Addr × List D)
def oa : Own → List Addr
  | none => []
  | some q => [q.2.1]

def valOf (env : Env) (m cm : Str → Option Value) (x : Str) : Option Value :=
  match env.kindOf x with
  | some .local => m x
  | some .cell => if (env.cells.lookup x).isSome then cm x else none
  | _ => none

theorem valOf_rd {env : Env} {m cm : Str → Option Value} {s₀ s : Shared} {x : Str} {v : Value} (ic : InCallC s₀ env.locals m env.cells cm s) (h : valOf env m cm x = some v) : RdV env s.heap x v := by
  unfold valOf at h
  split at h
  · rename_i hk
    exact .inl ⟨hk, m, ic.toInCall.ns, h⟩
  · rename_i hk
    split at h
    · rename_i hc
      obtain ⟨c, hc⟩ := Option.isSome_iff_exists.mp hc
      exact .inr ⟨.inl hk, c, hc, h ▸ ic.cell x c hc⟩
    · cases h
  · cases h

theorem InCallC.kp {s₀ s s' : Shared} {L : Addr} {m cm : Str → Option Value} {cs : List (Str × Addr)} (x : InCallC s₀ L m cs cm s) (q : Kp s s') : InCallC s₀ L m cs cm s' := by
  obtain ⟨⟨⟨h1, t1, e1⟩, ns, kp, fr⟩, cell, ap, ab⟩ := x
  obtain ⟨h2, t2, e2, k2⟩ := q
  subst e1; subst e2
  exact ⟨⟨⟨h2, t2, rfl⟩, ns.keeps k2, fun b o e => k2 b o (kp b o e), fr⟩, fun n c hc => (cell n c hc).keeps k2, ap, ab⟩

structure Sta (W : Wd) (k : Nat) (s₀ : Shared) (c : Cx) (N : List Addr) (own : Own) (δ : List (Str × D)) (s : Shared) : Prop where
  ok : Ok k c
  b0 : Ext W.base s₀.heap
  av0 : ∀ a ∈ N, ∃ o, s₀.heap.get? a = some o
  ic : ∃ m cm, InCallC s₀ c.env.locals m c.env.cells cm s ∧ (∀ p ∈ δ, ∃ v, valOf c.env m cm p.1 = some v ∧ Rep (oa own ++ N) s.heap v p.2) ∧
    ∀ q, own = some q → valOf c.env m cm q.1 = some (.ref q.2.1) ∧ s₀.heap.get? q.2.1 = none ∧ ∃ vs, PLst s.heap q.2.1 vs ∧ RepL (q.2.1 :: N) s.heap vs q.2.2

section
variable {W : Wd} {k : Nat} {s₀ : Shared} {c : Cx} {N : List Addr} {own : Own} {δ : List (Str × D)}

theorem Sta.keep {s : Shared} (r : Sta W k s₀ c N own δ s) : Kp s₀ s := by
  obtain ⟨m, cm, ic, _⟩ := r.ic
  obtain ⟨h, tk, e, kk⟩ := ic.done
  exact ⟨h, tk, e, kk⟩
theorem Sta.rd {s : Shared} (r : Sta W k s₀ c N own δ s) : Rd W k c (oa own ++ N) δ s := by
  have hk := r.keep.ext
  refine ⟨r.ok, fun b o e => hk b o (r.b0 b o e), fun a ha => ?_, fun p hp => ?_⟩
  · rcases List.mem_append.mp ha with ha | ha
    · obtain ⟨m, cm, ic, _, ho⟩ := r.ic
      cases own with
      | none => cases ha
      | some q =>
        obtain ⟨_, _, vs, ⟨n, e⟩, _⟩ := ho q rfl
        rw [List.mem_singleton.mp ha]
        exact ⟨_, e⟩
    · obtain ⟨o, e⟩ := r.av0 a ha
      exact ⟨o, hk _ _ e⟩
  · obtain ⟨m, cm, ic, hv, ho⟩ := r.ic
    obtain ⟨v, h1, h2⟩ := hv p hp
    exact ⟨v, valOf_rd ic h1, h2⟩
theorem Sta.kp {s s' : Shared} (r : Sta W k s₀ c N own δ s) (q : Kp s s') : Sta W k s₀ c N own δ s' := by
  obtain ⟨m, cm, ic, hv, ho⟩ := r.ic
  exact ⟨r.ok, r.b0, r.av0, m, cm, InCallC.kp ic q, fun p hp => let ⟨v, h1, h2⟩ := hv p hp; ⟨v, h1, h2.ext q.ext⟩, fun z hz => let ⟨h1, h2, vs, h3, h4⟩ := ho z hz; ⟨h1, h2, vs, h3.ext q.ext, h4.ext q.ext⟩⟩
theorem Sta.sub {δ' : List (Str × D)} {s : Shared} (r : Sta W k s₀ c N own δ s) (h : ∀ p ∈ δ', p ∈ δ) : Sta W k s₀ c N own δ' s := by
  obtain ⟨m, cm, ic, hv, ho⟩ := r.ic
  exact ⟨r.ok, r.b0, r.av0, m, cm, ic, fun p hp => hv p (h p hp), ho⟩

/-- what else stays: all but the frame, its cells and the list that is grown -/
def Kb (env : Env) (os : List Addr) (h h' : Heap) : Prop := ∀ b o, b ≠ env.locals → (∀ n, env.cells.lookup n ≠ some b) → b ∉ os → h.get? b = some o → h'.get? b = some o
theorem Kb.refl {env : Env} {os : List Addr} {h : Heap} : Kb env os h h := fun _ _ _ _ _ e => e
theorem Kb.trans {env : Env} {os : List Addr} {h h' h'' : Heap} (a : Kb env os h h') (b : Kb env os h' h'') : Kb env os h h'' := fun x o h1 h2 h3 e => b x o h1 h2 h3 (a x o h1 h2 h3 e)
theorem Kb.of_ext {env : Env} {os : List Addr} {h h' : Heap} (a : Ext h h') : Kb env os h h' := fun x o _ _ _ e => a x o e

inductive Del (x : Str) : List (Str × D) → List (Str × D) → Prop
  | nil : Del x [] []
  | skip {y : Str} {d : D} {δ δ' : List (Str × D)} : y ≠ x → Del x δ δ' → Del x ((y, d) :: δ) ((y, d) :: δ')
  | drop {y : Str} {d : D} {δ δ' : List (Str × D)} : Del x δ δ' → Del x ((y, d) :: δ) δ'
theorem Del.mem {x : Str} {δ δ' : List (Str × D)} (h : Del x δ δ') : ∀ p ∈ δ', p.1 ≠ x ∧ p ∈ δ := by
  induction h with
  | nil => intro p hp; cases hp
  | skip hy _ ih =>
    intro p hp
    rcases List.mem_cons.mp hp with rfl | hp
    · exact ⟨hy, .head _⟩
    · exact ⟨(ih p hp).1, .tail _ (ih p hp).2⟩
  | drop _ ih => intro p hp; exact ⟨(ih p hp).1, .tail _ (ih p hp).2⟩

theorem ns_noSeq {h : Heap} {a : Addr} {m : Str → Option Value} (n : h.Ns a m) : ∀ o, h.get? a = some o → ¬ isSeq o := by
  obtain ⟨o, es, ep, ho, hd, _⟩ := n
  rintro o' e ⟨xs, n, q⟩
  rw [ho] at e; cases e
  rw [hd] at q; cases q
theorem cell_noSeq {h : Heap} {a : Addr} {v : Option Value} (n : h.IsCell a v) : ∀ o, h.get? a = some o → ¬ isSeq o := by
  obtain ⟨o, ho, hd⟩ := n
  rintro o' e ⟨xs, n, q⟩
  rw [ho] at e; cases e
  rw [hd] at q; cases q

def Sto (env : Env) (x : Str) : Prop := env.kindOf x = some .local ∨ (env.kindOf x = some .cell ∧ (env.cells.lookup x).isSome = true)

theorem store_wp {s : Shared} {x : Str} {v : Value} {d : D} {δ' : List (Str × D)} (r : Sta W k s₀ c N own δ s) (hx : Sto c.env x) (hv : Rep (oa own ++ N) s.heap v d) (hd : Del x δ δ') (hz : ∀ q, own = some q → q.1 ≠ x) :
    wpAny W.M c.A (storeName c.env x v) (fun _ s' => Sta W k s₀ c N own ((x, d) :: δ') s' ∧ Kb c.env (oa own) s.heap s'.heap) F0 s := by
  obtain ⟨m, cm, ic, hvs, ho⟩ := r.ic
  have hn := r.ok.fn
  rcases hx with hl | ⟨hl, hcs⟩
  · refine wpAny_storeName_local hl ic.toInCall.ns (fun h' hn' hs' => ?_) (by rw [hn]; rfl)
    have sk : SK (oa own ++ N) s.heap h' := .but hs' (ns_noSeq ic.toInCall.ns)
    refine ⟨⟨r.ok, r.b0, r.av0, (fun y => if y = x then some v else m y), cm, ?_, ?_, ?_⟩, fun b o h1 _ _ e => hs'.extBut b o h1 e⟩
    · obtain ⟨⟨⟨h1, t1, e1⟩, ns, kp, fr⟩, cell, ap, ab⟩ := ic
      subst e1
      exact ⟨⟨⟨h', _, rfl⟩, hn', fun b o e => hs'.extBut b o (Nat.ne_of_lt (Nat.lt_of_lt_of_le (Heap.lt_size e) fr)) (kp b o e), fr⟩, fun n c hc => (cell n c hc).sameBut hs' (Nat.ne_of_gt (ab n c (mem_of_lookup hc))), ap, ab⟩
    · intro p hp
      rcases List.mem_cons.mp hp with rfl | hp
      · exact ⟨v, by unfold valOf; rw [hl]; simp, hv.sk sk⟩
      · obtain ⟨h1, h2⟩ := hd.mem p hp
        obtain ⟨u, g1, g2⟩ := hvs p h2
        refine ⟨u, ?_, g2.sk sk⟩
        unfold valOf at g1 ⊢
        split <;> simp_all
    · intro q hq
      obtain ⟨g1, g2, vs, g3, g4⟩ := ho q hq
      have skq : SK (q.2.1 :: N) s.heap h' := .but hs' (ns_noSeq ic.toInCall.ns)
      refine ⟨?_, g2, vs, ?_, g4.sk skq⟩
      · have := hz q hq
        unfold valOf at g1 ⊢
        split <;> simp_all
      · obtain ⟨n, e⟩ := g3
        exact ⟨n, hs'.extBut _ _ (fun e' => ns_noSeq ic.toInCall.ns _ (e' ▸ e) ⟨_, n, rfl⟩) e⟩
  · obtain ⟨cc, hc⟩ := Option.isSome_iff_exists.mp hcs
    have hLc := ic.above x cc (mem_of_lookup hc)
    have hcell := ic.cell x cc hc
    refine wpAny_storeName_cell hn hl hc hcell fun h' hc' hs' => ?_
    have sk : SK (oa own ++ N) s.heap h' := .but hs' (cell_noSeq hcell)
    refine ⟨⟨r.ok, r.b0, r.av0, m, (fun y => if y = x then some v else cm y), ?_, ?_, ?_⟩, fun b o _ h2 _ e => hs'.extBut b o (fun q => h2 x (q ▸ hc)) e⟩
    · obtain ⟨⟨⟨h1, t1, e1⟩, ns, kp, fr⟩, cell, ap, ab⟩ := ic
      subst e1
      refine ⟨⟨⟨h', _, rfl⟩, ns.sameBut hs' (Nat.ne_of_lt hLc), fun b o e => hs'.extBut b o (Nat.ne_of_lt (Nat.lt_trans (Nat.lt_of_lt_of_le (Heap.lt_size e) fr) hLc)) (kp b o e), fr⟩, fun kk c' hk' => ?_, ap, ab⟩
      by_cases hkn : kk = x
      · subst hkn
        rw [hc] at hk'; cases hk'
        simpa using hc'
      · rw [if_neg hkn]
        exact (cell kk c' hk').sameBut hs' fun e => hkn (name_of_addr ap (mem_of_lookup hk') (e ▸ mem_of_lookup hc))
    · intro p hp
      rcases List.mem_cons.mp hp with rfl | hp
      · exact ⟨v, by unfold valOf; rw [hl]; simp [hcs], hv.sk sk⟩
      · obtain ⟨h1, h2⟩ := hd.mem p hp
        obtain ⟨u, g1, g2⟩ := hvs p h2
        refine ⟨u, ?_, g2.sk sk⟩
        unfold valOf at g1 ⊢
        split <;> simp_all
    · intro q hq
      obtain ⟨g1, g2, vs, g3, g4⟩ := ho q hq
      have skq : SK (q.2.1 :: N) s.heap h' := .but hs' (cell_noSeq hcell)
      refine ⟨?_, g2, vs, ?_, g4.sk skq⟩
      · have := hz q hq
        unfold valOf at g1 ⊢
        split <;> simp_all
      · obtain ⟨n, e⟩ := g3
        exact ⟨n, hs'.extBut _ _ (fun e' => cell_noSeq hcell _ (e' ▸ e) ⟨_, n, rfl⟩) e⟩

/-! statements -/
inductive Out
  | next (own : Own) (δ : List (Str × D))
  | ret (d : D)
def OutOk (W : Wd) (k : Nat) (s₀ : Shared) (c : Cx) (N : List Addr) (own : Own) (s : Shared) : Out → Flow → Shared → Prop
  | .next own' δ', f, s' => f = .next ∧ Sta W k s₀ c N own' δ' s' ∧ Kb c.env (oa own ++ oa own') s.heap s'.heap
  | .ret d, f, s' => ∃ v, f = .ret v ∧ Kp s₀ s' ∧ Rep N s'.heap v d
structure Exs (W : Wd) (k : Nat) (s₀ : Shared) (c : Cx) (N : List Addr) (own : Own) (δ : List (Str × D)) (ss : List Stmt) (o : Out) : Prop where
  run : ∀ s, Sta W k s₀ c N own δ s → wpAny W.M c.A (execs ss c.env) (OutOk W k s₀ c N own s o) F0 s

theorem OutOk.from {s s₁ s' : Shared} {o : Out} {f : Flow} {own₁ : Own} (kb : Kb c.env (oa own) s.heap s₁.heap) (hsub : own₁ = own) (h : OutOk W k s₀ c N own₁ s₁ o f s') : OutOk W k s₀ c N own s o f s' := by
  subst hsub
  cases o with
  | ret d => exact h
  | next own' δ' =>
    obtain ⟨h1, h2, h3⟩ := h
    refine ⟨h1, h2, fun b o e1 e2 e3 e => h3 b o e1 e2 e3 (kb b o e1 e2 (fun q => e3 (List.mem_append_left _ q)) e)⟩

/-- one statement that goes on -/
def Ex1 (W : Wd) (k : Nat) (s₀ : Shared) (c : Cx) (N : List Addr) (own : Own) (δ : List (Str × D)) (st : Stmt) (δ' : List (Str × D)) : Prop :=
  ∀ s, Sta W k s₀ c N own δ s → wpAny W.M c.A (exec st c.env) (fun f s' => f = .next ∧ Sta W k s₀ c N own δ' s' ∧ Kb c.env (oa own) s.heap s'.heap) F0 s

theorem Exs.cons {st : Stmt} {rest : List Stmt} {δ' : List (Str × D)} {o : Out} (h : Ex1 W k s₀ c N own δ st δ') (hr : Exs W k s₀ c N own δ' rest o) : Exs W k s₀ c N own δ (st :: rest) o := .mk fun s r =>
  wpAny_execs_cons (wpAny_mono (h s r) (fun f s₁ ⟨e, r₁, kb⟩ => by
    subst e
    exact wpAny_mono (hr.run s₁ r₁) (fun f s₂ h₂ => h₂.from kb rfl) fun _ _ x => x) fun _ _ x => x)
theorem Exs.nil {δ' : List (Str × D)} (h : ∀ p ∈ δ', p ∈ δ) : Exs W k s₀ c N own δ [] (.next own δ') := .mk fun s r => wpAny_execs_nil ⟨rfl, r.sub h, .refl⟩
theorem Exs.ret {e : Expr} {pos : Pos} {d : D} {rest : List Stmt} (h : Ev W k c (oa own ++ N) δ e d) : Exs W k s₀ c N own δ (.Return (some e) pos :: rest) (.ret d) := .mk fun s r =>
  wpAny_execs_cons (wpAny_Return_some (wpAny_mono (h.run s r.rd) (fun v s₁ ⟨q, rv⟩ => ⟨v, rfl, r.keep.trans q, rv.less fun a ha => List.mem_append_right _ ha⟩) fun _ _ x => x))
theorem Exs.retD {e : Expr} {pos : Pos} {d d' : D} {rest : List Stmt} (h : Ev W k c (oa own ++ N) δ e d) (hd : d = d') : Exs W k s₀ c N own δ (.Return (some e) pos :: rest) (.ret d') := hd ▸ Exs.ret h


theorem Exs.weak {δ' : List (Str × D)} {ss : List Stmt} {o : Out} (h : Exs W k s₀ c N own δ' ss o) (hs : ∀ p ∈ δ', p ∈ δ) : Exs W k s₀ c N own δ ss o := .mk fun s r => h.run s (r.sub hs)

/-- what follows an arm -/
def Cont (W : Wd) (k : Nat) (s₀ : Shared) (c : Cx) (N : List Addr) (own : Own) (rest : List Stmt) (o : Out) : Out → Prop
  | .next own' δ' => own' = own ∧ Exs W k s₀ c N own δ' rest o
  | .ret d => o = .ret d
theorem Cont.next {own : Own} {δ' : List (Str × D)} {rest : List Stmt} {o : Out} (h : Exs W k s₀ c N own δ' rest o) : Cont W k s₀ c N own rest o (.next own δ') := ⟨rfl, h⟩
theorem Cont.ret {own : Own} {rest : List Stmt} {d : D} : Cont W k s₀ c N own rest (.ret d) (.ret d) := rfl
theorem Exs.nil' : Exs W k s₀ c N own δ [] (.next own δ) := Exs.nil fun _ h => h

theorem after {s s₁ : Shared} {f : Flow} {o o₁ : Out} {rest : List Stmt} (kb : Kb c.env (oa own) s.heap s₁.heap) (hc : Cont W k s₀ c N own rest o o₁) {s₂ : Shared} : OutOk W k s₀ c N own s₁ o₁ f s₂ →
    match f with | .next => wpAny W.M c.A (execs rest c.env) (OutOk W k s₀ c N own s o) F0 s₂ | f => OutOk W k s₀ c N own s o f s₂ := by
  intro h
  cases o₁ with
  | ret d =>
    obtain ⟨v, e, h1, h2⟩ := h
    subst e
    have : o = .ret d := hc
    subst this
    exact ⟨v, rfl, h1, h2⟩
  | next own' δ' =>
    obtain ⟨e, h1, h2⟩ := h
    subst e
    obtain ⟨e, hr⟩ := hc
    subst e
    refine wpAny_mono (hr.run s₂ h1) (fun f s₃ h₃ => h₃.from (fun b ob e1 e2 e3 e => h2 b ob e1 e2 (by simpa using e3) (kb b ob e1 e2 e3 e)) rfl) fun _ _ x => x

theorem Exs.ite {test : Expr} {body orelse rest : List Stmt} {pos : Pos} {t : Bool} {o o₁ o₂ : Out} (ht : Tr W k c (oa own ++ N) δ test t)
    (h1 : t = true → Exs W k s₀ c N own δ body o₁) (c1 : t = true → Cont W k s₀ c N own rest o o₁)
    (h2 : t = false → Exs W k s₀ c N own δ orelse o₂) (c2 : t = false → Cont W k s₀ c N own rest o o₂) : Exs W k s₀ c N own δ (.If test body orelse pos :: rest) o := .mk fun s r => by
  refine wpAny_execs_cons (wpAny_If (wpAny_mono (ht.run s r.rd) (fun b s₁ ⟨e, q⟩ => ?_) fun _ _ x => x))
  subst e
  have kb : Kb c.env (oa own) s.heap s₁.heap := .of_ext q.ext
  cases b with
  | true => exact wpAny_mono ((h1 rfl).run s₁ (r.kp q)) (fun f s₂ h => after kb (c1 rfl) h) fun _ _ x => x
  | false => exact wpAny_mono ((h2 rfl).run s₁ (r.kp q)) (fun f s₂ h => after kb (c2 rfl) h) fun _ _ x => x

/-! assignment of a name -/
theorem Exs.assign {x : Str} {p pos : Pos} {e : Expr} {d : D} {δ' : List (Str × D)} {rest : List Stmt} {o : Out} (he : Ev W k c (oa own ++ N) δ e d) (hx : Sto c.env x) (hd : Del x δ δ') (hz : ∀ q, own = some q → q.1 ≠ x)
    (hr : Exs W k s₀ c N own ((x, d) :: δ') rest o) (hs : swapsWith e (some (.Name x p)) pos.line c.env = pure false := by rfl) : Exs W k s₀ c N own δ (.Assign [.Name x p] e pos :: rest) o :=
  Exs.cons (fun s r => wpAny_Assign_Name (wpAny_mono (he.run s r.rd) (fun v s₁ ⟨q, rv⟩ => wpAny_mono (store_wp (r.kp q) hx rv hd hz) (fun _ s₂ ⟨r₂, kb⟩ => ⟨rfl, r₂, (Kb.of_ext q.ext).trans kb⟩) fun _ _ x => x) fun _ _ x => x) hs) hr

/-- an assignment's target in hand of a value -/
structure Asg (W : Wd) (k : Nat) (s₀ : Shared) (c : Cx) (N : List Addr) (own : Own) (t : Expr) (d : D) (δ δ' : List (Str × D)) : Prop where
  run : ∀ s v, Sta W k s₀ c N own δ s → Rep (oa own ++ N) s.heap v d → wpAny W.M c.A (assign t c.env v) (fun _ s' => Sta W k s₀ c N own δ' s' ∧ Kb c.env (oa own) s.heap s'.heap ∧ SK (oa own ++ N) s.heap s'.heap) F0 s

theorem SK.of_kb {env : Env} {os N : List Addr} {h h' : Heap} (kb : Kb env os h h') (hos : ∀ a ∈ os, a ∈ N) (h1 : ∀ o, h.get? env.locals = some o → ¬ isSeq o) (h2 : ∀ n a, env.cells.lookup n = some a → ∀ o, h.get? a = some o → ¬ isSeq o) : SK N h h' := fun b o hN e q =>
  kb b o (fun x => by subst x; exact h1 _ e q) (fun n x => h2 n b x _ e q) (fun x => hN (hos _ x)) e
theorem Sta.sk {s : Shared} {h' : Heap} (r : Sta W k s₀ c N own δ s) (kb : Kb c.env (oa own) s.heap h') : SK (oa own ++ N) s.heap h' := by
  obtain ⟨m, cm, ic, _, _⟩ := r.ic
  exact SK.of_kb kb (fun a ha => List.mem_append_left _ ha) (ns_noSeq ic.toInCall.ns) fun n a hl => cell_noSeq (ic.cell n a hl)

theorem Asg.name {x : Str} {p : Pos} {d : D} {δ' : List (Str × D)} (hx : Sto c.env x) (hd : Del x δ δ') (hz : ∀ q, own = some q → q.1 ≠ x) : Asg W k s₀ c N own (.Name x p) d δ ((x, d) :: δ') := .mk fun s v r rv =>
  wpAny_assign_Name (wpAny_mono (store_wp r hx rv hd hz) (fun _ s₂ ⟨r₂, kb⟩ => ⟨r₂, kb, r.sk kb⟩) fun _ _ x => x)
theorem Asg.tup2 {a b : Expr} {d1 d2 : D} {kk : Nat} {pos : Pos} {δ₁ δ₂ : List (Str × D)} (h1 : Asg W k s₀ c N own a d1 δ δ₁) (h2 : Asg W k s₀ c N own b d2 δ₁ δ₂)
    (he : assignEach [a, b] c.env = [(false, assign a c.env), (false, assign b c.env)] := by rfl) : Asg W k s₀ c N own (.Tuple [a, b] kk pos) (.tup [d1, d2]) δ δ₂ := .mk fun s v r rv => by
  cases rv with
  | tup p hN rl =>
    cases rl with
    | cons r1 rl =>
      cases rl with
      | cons r2 rl =>
        cases rl
        refine wpAny_assign_Tuple r.ok.hd p.isTuple (by rw [he]; rfl) (by rw [he]; rfl) fun h' hx => ?_
        rw [he]
        have q : Kp s { s with heap := h' } := ⟨h', s.toks, rfl, fun b o e => hx b o (Nat.ne_of_lt (Heap.lt_size e)) e⟩
        show wpAny _ _ (do holding _ (assign a c.env _); assignInOrder [assign b c.env] [_]) _ _ _
        refine wpAny_bind (wpAny_holding (wpAny_mono (h1.run _ _ (r.kp q) (r1.ext q.ext)) (fun _ s₁ ⟨r₁, kb₁, sk₁⟩ => ?_) fun _ _ x => x))
        show wpAny _ _ (do holding _ (assign b c.env _); assignInOrder [] []) _ _ _
        refine wpAny_bind (wpAny_holding (wpAny_mono (h2.run _ _ r₁ ((r2.ext q.ext).sk sk₁)) (fun _ s₂ ⟨r₂, kb₂, sk₂⟩ => ?_) fun _ _ x => x))
        exact wpAny_pure ⟨r₂, ((Kb.of_ext q.ext).trans kb₁).trans kb₂, ((SK.of_ext q.ext).trans sk₁).trans sk₂⟩
theorem Asg.tup3 {a b e : Expr} {d1 d2 d3 : D} {kk : Nat} {pos : Pos} {δ₁ δ₂ δ₃ : List (Str × D)} (h1 : Asg W k s₀ c N own a d1 δ δ₁) (h2 : Asg W k s₀ c N own b d2 δ₁ δ₂) (h3 : Asg W k s₀ c N own e d3 δ₂ δ₃)
    (he : assignEach [a, b, e] c.env = [(false, assign a c.env), (false, assign b c.env), (false, assign e c.env)] := by rfl) : Asg W k s₀ c N own (.Tuple [a, b, e] kk pos) (.tup [d1, d2, d3]) δ δ₃ := .mk fun s v r rv => by
  cases rv with
  | tup p hN rl =>
    cases rl with
    | cons r1 rl =>
      cases rl with
      | cons r2 rl =>
        cases rl with
        | cons r3 rl =>
          cases rl
          refine wpAny_assign_Tuple r.ok.hd p.isTuple (by rw [he]; rfl) (by rw [he]; rfl) fun h' hx => ?_
          rw [he]
          have q : Kp s { s with heap := h' } := ⟨h', s.toks, rfl, fun b o e => hx b o (Nat.ne_of_lt (Heap.lt_size e)) e⟩
          show wpAny _ _ (do holding _ (assign a c.env _); assignInOrder [assign b c.env, assign e c.env] [_, _]) _ _ _
          refine wpAny_bind (wpAny_holding (wpAny_mono (h1.run _ _ (r.kp q) (r1.ext q.ext)) (fun _ s₁ ⟨r₁, kb₁, sk₁⟩ => ?_) fun _ _ x => x))
          show wpAny _ _ (do holding _ (assign b c.env _); assignInOrder [assign e c.env] [_]) _ _ _
          refine wpAny_bind (wpAny_holding (wpAny_mono (h2.run _ _ r₁ ((r2.ext q.ext).sk sk₁)) (fun _ s₂ ⟨r₂, kb₂, sk₂⟩ => ?_) fun _ _ x => x))
          show wpAny _ _ (do holding _ (assign e c.env _); assignInOrder [] []) _ _ _
          refine wpAny_bind (wpAny_holding (wpAny_mono (h3.run _ _ r₂ (((r3.ext q.ext).sk sk₁).sk sk₂)) (fun _ s₃ ⟨r₃, kb₃, sk₃⟩ => ?_) fun _ _ x => x))
          exact wpAny_pure ⟨r₃, (((Kb.of_ext q.ext).trans kb₁).trans kb₂).trans kb₃, (((SK.of_ext q.ext).trans sk₁).trans sk₂).trans sk₃⟩

theorem Exs.assignTup {elts : List Expr} {kk : Nat} {p pos : Pos} {e : Expr} {d : D} {δ' : List (Str × D)} {rest : List Stmt} {o : Out} (he : Ev W k c (oa own ++ N) δ e d) (ha : Asg W k s₀ c N own (.Tuple elts kk p) d δ δ')
    (hr : Exs W k s₀ c N own δ' rest o)
    (hs : swapsWithSole [.Tuple elts kk p] e pos.line c.env = pure false := by rfl) (hw : swappedStores [.Tuple elts kk p] e c.env = pure none := by rfl) : Exs W k s₀ c N own δ (.Assign [.Tuple elts kk p] e pos :: rest) o :=
  Exs.cons (fun s r => Assign_Tuple (wpAny_mono (he.run s r.rd) (fun v s₁ ⟨q, rv⟩ => wpAny_mono (ha.run _ _ (r.kp q) rv) (fun _ s₂ ⟨r₂, kb, _⟩ => ⟨rfl, r₂, (Kb.of_ext q.ext).trans kb⟩) fun _ _ x => x) fun _ _ x => x) hs hw) hr

/-- x op= e, of values -/
structure InR (W : Wd) (k : Nat) (op : Operator) (a b d : D) : Prop where
  run : ∀ A N s v u, Hp W k A N s → Rep N s.heap v a → Rep N s.heap u b → wpAny W.M A (inplaceOp op v u) (fun r s' => Kp s s' ∧ Rep N s'.heap r d) F0 s
theorem loadN {N' : List Addr} {x : Str} {d : D} {s : Shared} (r : Rd W k c N' δ s) (hm : (x, d) ∈ δ) : wpAny W.M c.A (loadName c.env x) (fun v s' => Kp s s' ∧ Rep N' s'.heap v d) F0 s := by
  obtain ⟨v, hv, hr⟩ := r.vars _ hm
  rcases hv with ⟨a, m, n, e⟩ | ⟨a | ⟨a, b⟩, cc, l, i⟩
  · exact wpAny_loadName_local r.ok.fn a n e ⟨.refl s, hr⟩
  · exact wpAny_loadName_cell r.ok.fn a l i ⟨.refl s, hr⟩
  · exact wpAny_loadName_free r.ok.fn a l i ⟨.refl s, hr⟩ b
theorem Exs.aug {x : Str} {p pos : Pos} {op : Operator} {e : Expr} {a b d : D} {δ' : List (Str × D)} {rest : List Stmt} {o : Out} (hm : (x, a) ∈ δ) (he : Ev W k c (oa own ++ N) δ e b) (ho : InR W k op a b d) (hx : Sto c.env x) (hd : Del x δ δ') (hz : ∀ q, own = some q → q.1 ≠ x)
    (hr : Exs W k s₀ c N own ((x, d) :: δ') rest o) : Exs W k s₀ c N own δ (.AugAssign (.Name x p) op e pos :: rest) o :=
  Exs.cons (fun s r => wpAny_AugAssign_Name (wpAny_mono (loadN r.rd hm) (fun v s₁ ⟨q, rv⟩ => wpAny_mono (he.run s₁ (r.kp q).rd) (fun u s₂ ⟨q₂, ru⟩ => wpAny_mono (ho.run _ _ _ _ _ (r.kp (q.trans q₂)).rd.hp (rv.ext q₂.ext) ru) (fun w s₃ ⟨q₃, rw⟩ =>
    wpAny_mono (store_wp (r.kp ((q.trans q₂).trans q₃)) hx rw hd hz) (fun _ s₄ ⟨r₄, kb⟩ => ⟨rfl, r₄, (Kb.of_ext ((q.trans q₂).trans q₃).ext).trans kb⟩) fun _ _ x => x) fun _ _ x => x) fun _ _ x => x) fun _ _ x => x)) hr
end
end Mine
end B6S

section B7S
set_option linter.unusedVariables false
set_option maxRecDepth 100000
namespace Mine
section
variable {W : Wd} {k : Nat} {s₀ : Shared} {c : Cx} {N : List Addr} {own : Own} {δ : List (Str × D)}

/-- a list that was made by this very expression -/
structure EvF (W : Wd) (k : Nat) (c : Cx) (N : List Addr) (δ : List (Str × D)) (e : Expr) (ds : List D) : Prop where
  run : ∀ s, Rd W k c N δ s → wpAny W.M c.A (eval e c.env) (fun v s' => Kp s s' ∧ ∃ M vs, v = .ref M ∧ s.heap.get? M = none ∧ PLst s'.heap M vs ∧ RepL (M :: N) s'.heap vs ds) F0 s
theorem none_of_size (h : Heap) : h.get? h.objs.size = none := Heap.get?_none_of_le (Nat.le_refl _)
theorem RepL.fresh {N : List Addr} {h h' : Heap} {M : Addr} {vs : List Value} {ds : List D} (r : RepL N h vs ds) (hM : h.get? M = none) (k : Ext h h') : RepL (M :: N) h' vs ds :=
  (RepL.more (fun o e => by rw [hM] at e; cases e) r).ext k
theorem Rep.fresh {N : List Addr} {h h' : Heap} {M : Addr} {v : Value} {d : D} (r : Rep N h v d) (hM : h.get? M = Option.none) (k : Ext h h') : Rep (M :: N) h' v d :=
  (Rep.more (fun o e => by rw [hM] at e; cases e) r).ext k
theorem Kp.none {s s' : Shared} (q : Kp s s') : s.heap.get? s'.heap.objs.size = Option.none := by
  cases e : s.heap.get? s'.heap.objs.size with
  | none => rfl
  | some o => have := q.ext _ _ e; rw [none_of_size] at this; cases this
theorem EvF.list {es : List Expr} {ds : List D} {pos : Pos} (h : EvL W k c N δ es ds) (hz : ds.length ≤ 16777216 := by first | decide | simp) : EvF W k c N δ (.List es pos) ds := .mk fun s r =>
  wpAny_List (wpAny_mono (h.run pos s r) (fun vs s₁ ⟨q₁, r₁⟩ => ⟨by rw [r₁.length, sizeLine_eq]; exact hz, q₁.trans (.push _ _), s₁.heap.objs.size, vs, rfl, q₁.none, ⟨0, Heap.get?_push_size _ rfl⟩, RepL.fresh r₁ (none_of_size _) fun _ _ e => Heap.get?_push_of_some _ e⟩) fun _ _ x => x)
theorem EvF.ev {e : Expr} {ds : List D} (h : EvF W k c N δ e ds) : Ev W k c N δ e (.lst ds) := .mk fun s r =>
  wpAny_mono (h.run s r) (fun v s' ⟨q, M, vs, e, hM, p, rl⟩ => ⟨q, by
    subst e
    refine .lst p (fun hm => ?_) (rl.less fun a ha => .tail _ ha)
    obtain ⟨o, ho⟩ := r.av M hm
    rw [hM] at ho; cases ho⟩) fun _ _ x => x

theorem acq_wp {s s₁ : Shared} {z : Str} {M : Addr} {vs : List Value} {ds : List D} {δ' : List (Str × D)} (r : Sta W k s₀ c N none δ s) (q : Kp s s₁) (hx : Sto c.env z) (hM : s.heap.get? M = none) (p : PLst s₁.heap M vs) (rl : RepL (M :: N) s₁.heap vs ds) (hd : Del z δ δ') :
    wpAny W.M c.A (storeName c.env z (.ref M)) (fun _ s' => Sta W k s₀ c N (some (z, M, ds)) δ' s' ∧ Kb c.env [] s₁.heap s'.heap) F0 s₁ := by
  have r₁ := r.kp q
  -- the store is that of some value; what is known of the others avoids M as well
  have h0 : s₀.heap.get? M = none := by
    cases e : s₀.heap.get? M with
    | none => rfl
    | some o => have := r.keep.ext _ _ e; rw [hM] at this; cases this
  obtain ⟨m, cm, ic, hvs, _⟩ := r.ic
  have ic₁ := InCallC.kp ic q
  have hvs₁ : ∀ p ∈ δ, ∃ v, valOf c.env m cm p.1 = some v ∧ Rep (M :: N) s₁.heap v p.2 := fun p hp => by
    obtain ⟨v, h1, h2⟩ := hvs p hp
    exact ⟨v, h1, Rep.fresh h2 hM q.ext⟩
  have hn := r.ok.fn
  rcases hx with hl | ⟨hl, hcs⟩
  · refine wpAny_storeName_local hl ic₁.toInCall.ns (fun h' hn' hs' => ?_) (by rw [hn]; rfl)
    have sk : SK (M :: N) s₁.heap h' := .but hs' (ns_noSeq ic₁.toInCall.ns)
    refine ⟨⟨r.ok, r.b0, r.av0, (fun y => if y = z then some (.ref M) else m y), cm, ?_, ?_, ?_⟩, fun b o h1 _ _ e => hs'.extBut b o h1 e⟩
    · obtain ⟨⟨⟨h1, t1, e1⟩, ns, kp, fr⟩, cell, ap, ab⟩ := ic₁
      subst e1
      exact ⟨⟨⟨h', _, rfl⟩, hn', fun b o e => hs'.extBut b o (Nat.ne_of_lt (Nat.lt_of_lt_of_le (Heap.lt_size e) fr)) (kp b o e), fr⟩, fun n c hc => (cell n c hc).sameBut hs' (Nat.ne_of_gt (ab n c (mem_of_lookup hc))), ap, ab⟩
    · intro p hp
      obtain ⟨h1, h2⟩ := hd.mem p hp
      obtain ⟨u, g1, g2⟩ := hvs₁ p h2
      refine ⟨u, ?_, g2.sk sk⟩
      unfold valOf at g1 ⊢
      split <;> simp_all
    · intro qq hq
      cases hq
      refine ⟨by unfold valOf; rw [hl]; simp, h0, vs, ?_, rl.sk sk⟩
      obtain ⟨n, e⟩ := p
      have hne : M ≠ c.env.locals := fun e' => ns_noSeq ic₁.toInCall.ns _ (e' ▸ e) ⟨_, n, rfl⟩
      exact ⟨n, hs'.extBut _ _ hne e⟩
  · obtain ⟨cc, hc⟩ := Option.isSome_iff_exists.mp hcs
    have hLc := ic₁.above z cc (mem_of_lookup hc)
    have hcell := ic₁.cell z cc hc
    refine wpAny_storeName_cell hn hl hc hcell fun h' hc' hs' => ?_
    have sk : SK (M :: N) s₁.heap h' := .but hs' (cell_noSeq hcell)
    refine ⟨⟨r.ok, r.b0, r.av0, m, (fun y => if y = z then some (.ref M) else cm y), ?_, ?_, ?_⟩, fun b o _ h2 _ e => hs'.extBut b o (fun x => h2 z (x ▸ hc)) e⟩
    · obtain ⟨⟨⟨h1, t1, e1⟩, ns, kp, fr⟩, cell, ap, ab⟩ := ic₁
      subst e1
      refine ⟨⟨⟨h', _, rfl⟩, ns.sameBut hs' (Nat.ne_of_lt hLc), fun b o e => hs'.extBut b o (Nat.ne_of_lt (Nat.lt_trans (Nat.lt_of_lt_of_le (Heap.lt_size e) fr) hLc)) (kp b o e), fr⟩, fun kk c' hk' => ?_, ap, ab⟩
      by_cases hkn : kk = z
      · subst hkn
        rw [hc] at hk'; cases hk'
        simpa using hc'
      · rw [if_neg hkn]
        exact (cell kk c' hk').sameBut hs' fun e => hkn (name_of_addr ap (mem_of_lookup hk') (e ▸ mem_of_lookup hc))
    · intro p hp
      obtain ⟨h1, h2⟩ := hd.mem p hp
      obtain ⟨u, g1, g2⟩ := hvs₁ p h2
      refine ⟨u, ?_, g2.sk sk⟩
      unfold valOf at g1 ⊢
      split <;> simp_all
    · intro qq hq
      cases hq
      refine ⟨by unfold valOf; rw [hl]; simp [hcs], h0, vs, ?_, rl.sk sk⟩
      obtain ⟨n, e⟩ := p
      have hne : M ≠ cc := fun e' => cell_noSeq hcell _ (e' ▸ e) ⟨_, n, rfl⟩
      exact ⟨n, hs'.extBut _ _ hne e⟩

/-- with a list of one's own: whatever address it has -/
theorem acq_go {s s₁ : Shared} {z : Str} {M : Addr} {ds : List D} {δ' : List (Str × D)} {rest : List Stmt} {o : Out} (hM : s.heap.get? M = none) (r₁ : Sta W k s₀ c N (some (z, M, ds)) δ' s₁) (kb : Kb c.env [] s.heap s₁.heap)
    (hr : ∀ M, Exs W k s₀ c N (some (z, M, ds)) δ' rest o) : wpAny W.M c.A (execs rest c.env) (OutOk W k s₀ c N none s o) F0 s₁ :=
  wpAny_mono ((hr M).run s₁ r₁) (fun f s₂ h => by
    cases o with
    | ret d => exact h
    | next own' δ'' =>
      obtain ⟨h1, h2, h3⟩ := h
      refine ⟨h1, h2, fun b o e1 e2 e3 e => h3 b o e1 e2 (fun hm => ?_) (kb b o e1 e2 (fun h => nomatch h) e)⟩
      rcases List.mem_append.mp hm with hm | hm
      · rw [List.mem_singleton.mp hm, hM] at e; cases e
      · exact e3 hm) fun _ _ x => x
theorem Exs.acq {z : Str} {p pos : Pos} {e : Expr} {ds : List D} {δ' : List (Str × D)} {rest : List Stmt} {o : Out} (he : EvF W k c N δ e ds) (hx : Sto c.env z) (hd : Del z δ δ')
    (hr : ∀ M, Exs W k s₀ c N (some (z, M, ds)) δ' rest o) (hs : swapsWith e (some (.Name z p)) pos.line c.env = pure false := by rfl) : Exs W k s₀ c N none δ (.Assign [.Name z p] e pos :: rest) o := .mk fun s r => by
  refine wpAny_execs_cons (wpAny_Assign_Name (wpAny_mono (he.run s r.rd) (fun v s₁ ⟨q, M, vs, e, hM, p, rl⟩ => ?_) fun _ _ x => x) hs)
  subst e
  exact wpAny_mono (acq_wp r q hx hM p rl hd) (fun _ s₂ ⟨r₂, kb⟩ => acq_go hM r₂ ((Kb.of_ext q.ext).trans kb) hr) fun _ _ x => x

theorem Exs.rel {z : Str} {M : Addr} {ds : List D} {ss : List Stmt} {o : Out} (hr : Exs W k s₀ c N none ((z, .lst ds) :: δ) ss o) : Exs W k s₀ c N (some (z, M, ds)) δ ss o := .mk fun s r => by
  have r' : Sta W k s₀ c N none ((z, .lst ds) :: δ) s := by
    obtain ⟨m, cm, ic, hvs, ho⟩ := r.ic
    obtain ⟨g1, g2, vs, g3, g4⟩ := ho _ rfl
    refine ⟨r.ok, r.b0, r.av0, m, cm, ic, fun p hp => ?_, fun q hq => nomatch hq⟩
    rcases List.mem_cons.mp hp with rfl | hp
    · refine ⟨_, g1, .lst g3 (fun hm => ?_) (g4.less fun a ha => .tail _ ha)⟩
      obtain ⟨o, e⟩ := r.av0 _ hm
      rw [g2] at e; cases e
    · obtain ⟨v, h1, h2⟩ := hvs p hp
      exact ⟨v, h1, h2.less fun a ha => List.mem_append_right _ ha⟩
  refine wpAny_mono (hr.run s r') (fun f s₂ h => ?_) fun _ _ x => x
  cases o with
  | ret d => exact h
  | next own' δ'' =>
    obtain ⟨h1, h2, h3⟩ := h
    exact ⟨h1, h2, fun b o e1 e2 e3 e => h3 b o e1 e2 (fun hm => e3 ((List.mem_append.mp hm).elim (fun h => nomatch h) fun h => List.mem_append_right _ h)) e⟩

/-- the one list is written -/
theorem Sta.grow {z : Str} {M : Addr} {ds ds' : List D} {vs' : List Value} {s : Shared} {h' : Heap} (r : Sta W k s₀ c N (some (z, M, ds)) δ s) (hs : Heap.SameBut M s.heap h') (p : PLst h' M vs') (rl : RepL (M :: N) s.heap vs' ds') :
    Sta W k s₀ c N (some (z, M, ds')) δ { s with heap := h' } ∧ Kb c.env [M] s.heap h' := by
  obtain ⟨m, cm, ic, hvs, ho⟩ := r.ic
  obtain ⟨g1, g2, vs, g3, g4⟩ := ho _ rfl
  obtain ⟨n, e⟩ := g3
  have hsq : ∀ a, (∀ o, s.heap.get? a = some o → ¬ isSeq o) → a ≠ M := fun a h q => h _ (q ▸ e) ⟨_, n, rfl⟩
  have sk : SK (M :: N) s.heap h' := .butN hs (.head _)
  refine ⟨⟨r.ok, r.b0, r.av0, m, cm, ?_, fun p hp => let ⟨v, h1, h2⟩ := hvs p hp; ⟨v, h1, h2.sk sk⟩, fun q hq => ?_⟩, fun b o _ _ h3 e => hs.extBut b o (fun x => h3 (by simp [x])) e⟩
  · obtain ⟨⟨⟨h1, t1, e1⟩, ns, kp, fr⟩, cell, ap, ab⟩ := ic
    subst e1
    have ns' : ({ s₀ with heap := h1, toks := t1 } : Shared).heap.Ns c.env.locals m := ns
    refine ⟨⟨⟨h', _, rfl⟩, ns.sameBut hs (hsq _ (ns_noSeq ns)), fun b o e => hs.extBut b o (fun x => ?_) (kp b o e), fr⟩, fun n c hc => (cell n c hc).sameBut hs (hsq _ (cell_noSeq (cell n c hc))), ap, ab⟩
    have e' : s₀.heap.get? M = some o := x ▸ e
    have g2' : s₀.heap.get? M = none := g2
    rw [g2'] at e'; cases e'
  · cases hq
    exact ⟨g1, g2, vs', p, rl.sk sk⟩

theorem OutOk.from' {s s₁ s' : Shared} {o : Out} {f : Flow} {own own₁ : Own} (kb : Kb c.env (oa own) s.heap s₁.heap) (h : OutOk W k s₀ c N own₁ s₁ o f s') (hsub : oa own₁ = oa own := by rfl) : OutOk W k s₀ c N own s o f s' := by
  cases o with
  | ret d => exact h
  | next own' δ' =>
    obtain ⟨h1, h2, h3⟩ := h
    exact ⟨h1, h2, fun b o e1 e2 e3 e => h3 b o e1 e2 (hsub ▸ e3) (kb b o e1 e2 (fun q => e3 (List.mem_append_left _ q)) e)⟩

theorem own_name {z : Str} {M : Addr} {ds : List D} {s : Shared} (r : Sta W k s₀ c N (some (z, M, ds)) δ s) : wpAny W.M c.A (loadName c.env z) (fun v s' => v = .ref M ∧ s' = s) F0 s := by
  obtain ⟨m, cm, ic, hvs, ho⟩ := r.ic
  obtain ⟨g1, _⟩ := ho _ rfl
  have hn := r.ok.fn
  rcases valOf_rd ic g1 with ⟨a, m, n, e⟩ | ⟨a | ⟨a, b⟩, cc, l, i⟩
  · exact wpAny_loadName_local hn a n e ⟨rfl, rfl⟩
  · exact wpAny_loadName_cell hn a l i ⟨rfl, rfl⟩
  · exact wpAny_loadName_free hn a l i ⟨rfl, rfl⟩ b

theorem Exs.append {z : Str} {M : Addr} {ds : List D} {d : D} {e : Expr} {p apos pos pos' : Pos} {rest : List Stmt} {o : Out} (hm : Ev W k c (M :: N) δ e d) (hz : ds.length ≤ 16777215)
    (hr : Exs W k s₀ c N (some (z, M, ds ++ [d])) δ rest o)
    (hi : interactive c.env = false := by rfl) (hdb : (z == ("__debug__" : Str)) = false := by decide +kernel)
    (hbase : attributeBase (.Name z p) "append" c.env (eval (.Name z p) c.env) = eval (.Name z p) c.env := by rfl)
    (hline : (apos.endLine == pos.line) = true := by rfl)
    (he : starEach [e] c.env = (false, eval e c.env) :: starEach [] c.env := by rfl) : Exs W k s₀ c N (some (z, M, ds)) δ (.Expr (.Call (.Attribute (.Name z p) "append" apos) [e] [] pos) pos' :: rest) o := .mk fun s r => by
  have hfew : ((backTo pos (starEach [e] c.env)).all (fun x => !x.1) && (backToKw pos (keywordEach [] c.env)).all (fun x => x.1.isSome) && decide ([e].length + ([] : List Keyword).length + (if ([] : List Keyword).isEmpty then 0 else 1) < 30)) = true := by rw [he]; rfl
  refine wpAny_execs_cons (wpAny_Expr (wpAny_Call_method hbase hfew hline PySem.F.plainAttrs_list slot_list_append type_list_append (wpAny_Name (wpAny_mono (own_name r) (fun v s₁ ⟨e1, e2⟩ => ?_) fun _ _ x => x) hdb)) hi rfl)
  subst e1 e2
  have hM : ∃ vs, PLst s₁.heap M vs ∧ RepL (M :: N) s₁.heap vs ds := by
    obtain ⟨m, cm, ic, hvs, ho⟩ := r.ic
    obtain ⟨g1, g2, g3⟩ := ho _ rfl
    exact g3
  obtain ⟨vs, ⟨n, eM⟩, g4⟩ := hM
  refine ⟨⟨_, eM, rfl⟩, fun a ea => by cases ea; exact ⟨_, eM, rfl⟩, ?_⟩
  refine Calls.callWith_builtin (by rw [he]; rfl) (evArgs he (wpAny_mono ((EvL.cons hm EvL.nil he).run pos s₁ r.rd) (fun vs' s₂ ⟨q, rl⟩ => ?_) fun _ _ x => x))
  cases rl with
  | cons rd rl =>
    cases rl
    rename_i v' _
    have r₂ := r.kp q
    have hl : s₂.heap.PlainList M vs.toArray := ⟨n, q.ext _ _ eM⟩
    refine wpAny_list_append_plain hl (fun h' hp hs => ?_) (by rw [List.size_toArray, g4.length, sizeLine_eq]; omega)
    have hp' : PLst h' M (vs ++ [v']) := by
      obtain ⟨n', e'⟩ := hp
      exact ⟨n', by rw [e']; simp⟩
    obtain ⟨r₃, kb⟩ := r₂.grow hs hp' ((g4.ext q.ext).append (.cons rd .nil))
    have kb' : Kb c.env (oa (some (z, M, ds))) s₁.heap h' := Kb.trans (Kb.of_ext q.ext) kb
    exact wpAny_mono (hr.run _ r₃) (fun f s₄ h => OutOk.from' (own := some (z, M, ds)) (s₁ := { s₂ with heap := h' }) kb' h) fun _ _ x => x

theorem restore_wp {z : Str} {M : Addr} {ds : List D} {s : Shared} (r : Sta W k s₀ c N (some (z, M, ds)) δ s) (hx : Sto c.env z) (hd : ∀ p ∈ δ, p.1 ≠ z) :
    wpAny W.M c.A (storeName c.env z (.ref M)) (fun _ s' => Sta W k s₀ c N (some (z, M, ds)) δ s' ∧ Kb c.env [M] s.heap s'.heap) F0 s := by
  obtain ⟨m, cm, ic, hvs, ho⟩ := r.ic
  obtain ⟨g1, g2, vs, g3, g4⟩ := ho _ rfl
  obtain ⟨n, eM⟩ := g3
  have hn := r.ok.fn
  rcases hx with hl | ⟨hl, hcs⟩
  · refine wpAny_storeName_local hl ic.toInCall.ns (fun h' hn' hs' => ?_) (by rw [hn]; rfl)
    have hne : M ≠ c.env.locals := fun e' => ns_noSeq ic.toInCall.ns _ (e' ▸ eM) ⟨_, n, rfl⟩
    have sk : SK (M :: N) s.heap h' := .but hs' (ns_noSeq ic.toInCall.ns)
    refine ⟨⟨r.ok, r.b0, r.av0, (fun y => if y = z then some (.ref M) else m y), cm, ?_, ?_, ?_⟩, fun b o h1 _ _ e => hs'.extBut b o h1 e⟩
    · obtain ⟨⟨⟨h1, t1, e1⟩, ns, kp, fr⟩, cell, ap, ab⟩ := ic
      subst e1
      exact ⟨⟨⟨h', _, rfl⟩, hn', fun b o e => hs'.extBut b o (Nat.ne_of_lt (Nat.lt_of_lt_of_le (Heap.lt_size e) fr)) (kp b o e), fr⟩, fun n c hc => (cell n c hc).sameBut hs' (Nat.ne_of_gt (ab n c (mem_of_lookup hc))), ap, ab⟩
    · intro p hp
      have h1 := hd p hp
      obtain ⟨u, g1, g2⟩ := hvs p hp
      refine ⟨u, ?_, g2.sk sk⟩
      unfold valOf at g1 ⊢
      split <;> simp_all
    · intro qq hq
      cases hq
      exact ⟨by unfold valOf; rw [hl]; simp, g2, vs, ⟨n, hs'.extBut _ _ hne eM⟩, g4.sk sk⟩
  · obtain ⟨cc, hc⟩ := Option.isSome_iff_exists.mp hcs
    have hLc := ic.above z cc (mem_of_lookup hc)
    have hcell := ic.cell z cc hc
    refine wpAny_storeName_cell hn hl hc hcell fun h' hc' hs' => ?_
    have hne : M ≠ cc := fun e' => cell_noSeq hcell _ (e' ▸ eM) ⟨_, n, rfl⟩
    have sk : SK (M :: N) s.heap h' := .but hs' (cell_noSeq hcell)
    refine ⟨⟨r.ok, r.b0, r.av0, m, (fun y => if y = z then some (.ref M) else cm y), ?_, ?_, ?_⟩, fun b o _ h2 _ e => hs'.extBut b o (fun x => h2 z (x ▸ hc)) e⟩
    · obtain ⟨⟨⟨h1, t1, e1⟩, ns, kp, fr⟩, cell, ap, ab⟩ := ic
      subst e1
      refine ⟨⟨⟨h', _, rfl⟩, ns.sameBut hs' (Nat.ne_of_lt hLc), fun b o e => hs'.extBut b o (Nat.ne_of_lt (Nat.lt_trans (Nat.lt_of_lt_of_le (Heap.lt_size e) fr) hLc)) (kp b o e), fr⟩, fun kk c' hk' => ?_, ap, ab⟩
      by_cases hkn : kk = z
      · subst hkn
        rw [hc] at hk'; cases hk'
        simpa using hc'
      · rw [if_neg hkn]
        exact (cell kk c' hk').sameBut hs' fun e => hkn (name_of_addr ap (mem_of_lookup hk') (e ▸ mem_of_lookup hc))
    · intro p hp
      have h1 := hd p hp
      obtain ⟨u, g1, g2⟩ := hvs p hp
      refine ⟨u, ?_, g2.sk sk⟩
      unfold valOf at g1 ⊢
      split <;> simp_all
    · intro qq hq
      cases hq
      exact ⟨by unfold valOf; rw [hl]; simp [hcs], g2, vs, ⟨n, hs'.extBut _ _ hne eM⟩, g4.sk sk⟩

theorem inplace_lists {prog : Program} {w : World} {A : Around} {E : Value → Shared → Prop} {s : Shared} {l b : Addr} {items items2 : List Value} {n n2 : Nat} {Q : Value → Shared → Prop}
    (hl : s.heap.get? l = some { cls := .type "list", data := .seq items.toArray n }) (hb : s.heap.get? b = some { cls := .type "list", data := .seq items2.toArray n2 }) (hz : items.length + items2.length ≤ 16777215)
    (h : ∀ h', PLst h' l (items ++ items2) → Heap.SameBut l s.heap h' → Q (.ref l) { s with heap := h' }) : wpAny (model prog w) A (inplaceOp .Add (.ref l) (.ref b)) Q E s := by
  have hT : s.TypeIs (.ref l) "list" := ⟨_, hl, rfl⟩
  have hU : s.TypeIs (.ref b) "list" := ⟨_, hb, rfl⟩
  unfold inplaceOp
  refine wpAny_holding ?_
  have hfi : fillsInplaceSlot (.type "list") "add" (Operator.Add == .Add) = pure false := by
    unfold fillsInplaceSlot
    show (typeLookup (.type "list") (dunderI "add") >>= fun fi => pure (fi.isSome && !isSeqSlot fi)) = pure false
    rw [PySem.F.slot_list_iadd.lookup]
    show (pure (true && !isSeqSlot (some (.builtin "list.__iadd__"))) : Sem Bool) = pure false
    have e : isSeqSlot (some (.builtin "list.__iadd__")) = true := by decide +kernel
    rw [e]; rfl
  have hsi : seqSlot? (.type "list") (dunderI "add") = pure (some (.builtin "list.__iadd__")) := PySem.seqSlot_of PySem.F.slot_list_iadd.lookup (by decide +kernel)
  refine wpAny_bind (wpAny_typeOf hT (wpAny_bind (wpAny_of_eq hfi ?_)))
  show wpAny _ A (if false = true then _ else _) Q E s
  rw [if_neg Bool.false_ne_true]
  refine wpAny_bind (wpAny_binaryOp1_none (nm := "add") hT hU noFill_list_add ?_)
  refine wpAny_bind (wpAny_of_eq hsi ?_)
  refine wpAny_bind (wpAny_rule ?_)
  have hq : (items.toArray ++ items2.toArray).size = items.length + items2.length := by simp
  have hc : wpAny (model prog w) A (call (.builtin "list.__iadd__") [.ref l, .ref b]) Q E s :=
    call_meets PySem.F.slot_list_iadd hT PySem.F.entry_list_iadd (PySem.F.args_list_iadd_2 _ _) (AutoSeq1.list___iadd___list_list_0 l items.toArray n b items2.toArray n2
      (by simp [Builtin.List.listTooLong, sizeLine_eq]; omega) (by simp [sizeLine_eq]; omega) (by simp [sizeLine_eq]; omega)) ⟨hl, hb, h _ ?_ (Heap.SameBut.update ..)⟩
  · exact hc
  · obtain ⟨n', hd'⟩ := Obj.data_mapSeq (o := { cls := .type "list", data := .seq items.toArray n }) rfl (· ++ items2.toArray)
    refine ⟨n', ?_⟩
    have e := Heap.get?_update_self (Obj.mapSeq fun x => x ++ items2.toArray) hl (Obj.isFreed_of_seq hd')
    rw [e]
    have e2 : (Obj.mapSeq (fun x => x ++ items2.toArray) { cls := .type "list", data := .seq items.toArray n } : Obj) = { cls := .type "list", data := (Obj.mapSeq (fun x => x ++ items2.toArray) { cls := .type "list", data := .seq items.toArray n } : Obj).data } := rfl
    rw [e2, hd']
    simp

theorem Exs.augList {z : Str} {M : Addr} {ds es : List D} {e : Expr} {p pos : Pos} {rest : List Stmt} {o : Out} (he : Ev W k c (M :: N) δ e (.lst es)) (hz : ds.length + es.length ≤ 16777215) (hx : Sto c.env z)
    (hd : ∀ p ∈ δ, p.1 ≠ z) (hr : Exs W k s₀ c N (some (z, M, ds ++ es)) δ rest o) : Exs W k s₀ c N (some (z, M, ds)) δ (.AugAssign (.Name z p) .Add e pos :: rest) o := .mk fun s r => by
  refine wpAny_execs_cons (wpAny_AugAssign_Name (wpAny_mono (own_name r) (fun v s₁ ⟨e1, e2⟩ => ?_) fun _ _ x => x))
  subst e1 e2
  refine wpAny_mono (he.run s₁ r.rd) (fun u s₂ ⟨q, ru⟩ => ?_) fun _ _ x => x
  have r₂ := r.kp q
  have hM : ∃ vs, PLst s₂.heap M vs ∧ RepL (M :: N) s₂.heap vs ds := by
    obtain ⟨m, cm, ic, hvs, ho⟩ := r₂.ic
    obtain ⟨g1, g2, g3⟩ := ho _ rfl
    exact g3
  obtain ⟨vs, ⟨n, eM⟩, g4⟩ := hM
  cases ru with
  | lst p' hN' rl =>
    rename_i l vs'
    obtain ⟨n', el⟩ := p'
    refine inplace_lists eM el (by rw [g4.length, rl.length]; exact hz) fun h' hp hs => ?_
    obtain ⟨r₃, kb⟩ := r₂.grow hs hp (g4.append rl)
    -- the name is bound anew to the same list
    refine wpAny_mono (restore_wp r₃ hx hd) (fun _ s₄ ⟨r₄, kb₄⟩ => ?_) fun _ _ x => x
    have kb' : Kb c.env (oa (some (z, M, ds))) s₁.heap s₄.heap := Kb.trans (Kb.of_ext q.ext) (Kb.trans kb kb₄)
    exact wpAny_mono (hr.run _ r₄) (fun f s₅ h => OutOk.from' (own := some (z, M, ds)) kb' h) fun _ _ x => x
end
end Mine
end B7S

section B8S
set_option linter.unusedVariables false
set_option maxRecDepth 100000
namespace Mine
section
variable {W : Wd} {k : Nat} {s₀ : Shared} {c : Cx} {N : List Addr} {own : Own} {δ : List (Str × D)}

/-! a while loop -/
theorem Exs.whileN {test : Expr} {body rest : List Stmt} {pos : Pos} {o : Out} (δs : Nat → List (Str × D)) (n : Nat) (h0 : ∀ p ∈ δs 0, p ∈ δ)
    (ht : ∀ j, j < n → Tr W k c (oa own ++ N) (δs j) test true) (hb : ∀ j, j < n → Exs W k s₀ c N own (δs j) body (.next own (δs (j + 1))))
    (he : (Tr W k c (oa own ++ N) (δs n) test false ∧ Exs W k s₀ c N own (δs n) rest o) ∨ (Tr W k c (oa own ++ N) (δs n) test true ∧ ∃ d, o = .ret d ∧ Exs W k s₀ c N own (δs n) body (.ret d))) :
    Exs W k s₀ c N own δ (.While test body [] pos :: rest) o := .mk fun s r => by
  refine wpAny_execs_cons (wpAny_While (codeAny_whileLoop
    (fun m s' => ∃ j, j ≤ n ∧ m = n - j ∧ Sta W k s₀ c N own (δs j) s' ∧ Kb c.env (oa own) s.heap s'.heap) ?_ n ⟨0, Nat.zero_le _, rfl, r.sub h0, .refl⟩))
  rintro m s' ⟨j, hj, rfl, r', kb⟩
  rcases Nat.lt_or_ge j n with hlt | hge
  · refine wpAny_mono ((ht j hlt).run s' r'.rd) (fun b s₁ ⟨e, q⟩ => ?_) fun _ _ x => x.elim
    subst e
    refine wpAny_mono ((hb j hlt).run s₁ (r'.kp q)) (fun f s₂ ⟨e, r₂, kb₂⟩ => ?_) fun _ _ x => x.elim
    subst e
    exact ⟨n - (j + 1), by omega, j + 1, hlt, rfl, r₂, (kb.trans (Kb.of_ext q.ext)).trans fun b ob e1 e2 e3 e => kb₂ b ob e1 e2 (by simpa using e3) e⟩
  · have : j = n := by omega
    subst this
    rcases he with ⟨t, hr⟩ | ⟨t, d, e, hr⟩
    · refine wpAny_mono (t.run s' r'.rd) (fun b s₁ ⟨e, q⟩ => ?_) fun _ _ x => x.elim
      subst e
      exact wpAny_execs_nil (wpAny_mono (hr.run s₁ (r'.kp q)) (fun f s₂ h => h.from (kb.trans (Kb.of_ext q.ext)) rfl) fun _ _ x => x)
    · subst e
      refine wpAny_mono (t.run s' r'.rd) (fun b s₁ ⟨e, q⟩ => ?_) fun _ _ x => x.elim
      subst e
      refine wpAny_mono (hr.run s₁ (r'.kp q)) (fun f s₂ ⟨v, e, h1, h2⟩ => ?_) fun _ _ x => x.elim
      subst e
      exact ⟨v, rfl, h1, h2⟩

/-! what is walked through -/
def Quiet (o : Obj) : Prop := ∃ n, o.cls = .type n ∧ (["enumerate", "zip", "dict_itemiterator", "dict_reverseitemiterator", "odict_iterator", "itertools.zip_longest", "itertools.pairwise"].contains n) = false
theorem go_wp {A : Around} {target : Expr} {I : Addr} {v : Value} {s : Shared} {Q : Unit → Shared → Prop} {E : Value → Shared → Prop} (h : ∃ o, s.heap.get? I = some o ∧ Quiet o) (hQ : Q () s) : wpAny W.M A (letOwnedTupleGo target (.ref I) v) Q E s := by
  obtain ⟨o, ho, n, hc, hn⟩ := h
  have key : ∀ a, wpAny W.M A (do
      let o ← load I
      match o.cls, o.data with
      | .type n, .fields vs =>
        if ["enumerate", "zip", "dict_itemiterator", "dict_reverseitemiterator", "odict_iterator", "itertools.zip_longest", "itertools.pairwise"].contains n && vs[0]? == some (rawInt a) then
          rule "for.unpacks-the-owned-tuple"
          updateField I 0 .none
      | _, _ => pure ()) Q E s := fun a => by
    refine wpAny_bind (wpAny_load ho ?_)
    rw [hc]
    cases o.data with
    | fields vs =>
      show wpAny _ _ (if (_ && _) = true then _ else _) _ _ _
      rw [hn]
      exact wpAny_pure hQ
    | _ => exact wpAny_pure hQ
  unfold letOwnedTupleGo
  cases target <;> first | exact wpAny_pure hQ | (cases v <;> first | exact wpAny_pure hQ | exact key _)
def It (W : Wd) (A : Around) (N : List Addr) (s h₀ : Heap) (I : Addr) (ds : List D) : Prop :=
  ∃ fp P, ∃ St : Nat → Heap → Prop, Walks W.prog W.w A I fp [I] ds.length P St ∧ St 0 h₀ ∧ (∀ i v d, ds[i]? = some d → P i v → Rep N h₀ v d) ∧ (∀ i h, St i h → ∃ o, h.get? I = some o ∧ ¬ isSeq o ∧ Quiet o) ∧
    s.get? I = none ∧ ∀ b ∈ fp, b = I ∨ (b ∉ N ∧ ∃ o, h₀.get? b = some o ∧ isSeq o)
structure Itr (W : Wd) (k : Nat) (c : Cx) (N : List Addr) (δ : List (Str × D)) (e : Expr) (ds : List D) : Prop where
  run : ∀ s, Rd W k c N δ s → wpAny W.M c.A (eval e c.env) (fun xv s₁ => wpAny W.M c.A (pyIter xv) (fun it s₂ => Kp s s₂ ∧ ∃ I, it = .ref I ∧ It W c.A N s.heap s₂.heap I ds) F0 s₁) F0 s

theorem Itr.list {e : Expr} {ds : List D} (h : Ev W k c N δ e (.lst ds)) : Itr W k c N δ e ds := .mk fun s r => by
  refine wpAny_mono (h.run s r) (fun v s₁ ⟨q, rv⟩ => ?_) fun _ _ x => x
  cases rv with
  | @lst l vs _ p hN rl =>
    obtain ⟨n, e⟩ := p
    refine wpAny_pyIter_list ⟨_, e, rfl, n, rfl⟩ ?_
    have hne : l ≠ s₁.heap.objs.size := Nat.ne_of_lt (Heap.lt_size e)
    have hx : Ext s₁.heap (s₁.heap.push { cls := .type "list_iterator", data := .fields #[.ref l, .int 0 0] }) := fun _ _ e => Heap.get?_push_of_some _ e
    have hl : vs.toArray.size = ds.length := rl.length
    refine ⟨q.trans (.push _ _), _, rfl, [s₁.heap.objs.size, l], (fun i v => vs.toArray[i]? = some v), (fun i h => h.IsListIter s₁.heap.objs.size l i ∧ h.IsList l vs.toArray), hl ▸ Walks.list r.ok.hd _ l hne vs.toArray, ⟨⟨_, Heap.get?_push_size _ rfl, rfl, rfl⟩, ⟨_, hx _ _ e, rfl, n, rfl⟩⟩, ?_, ?_, q.none, ?_⟩
    · intro i v d hd hv
      obtain ⟨v', h1, h2⟩ := rl.get hd
      have : v' = v := by rw [List.getElem?_toArray] at hv; rw [h1] at hv; exact Option.some.inj hv
      exact this ▸ h2.ext hx
    · rintro i h ⟨⟨o, ho, hc, hd⟩, _⟩
      exact ⟨o, ho, (fun ⟨xs, n, q⟩ => by rw [hd] at q; cases q), _, hc, by decide⟩
    · intro b hb
      rcases List.mem_cons.mp hb with rfl | hb
      · exact .inl rfl
      · rw [List.mem_singleton.mp hb]
        exact .inr ⟨hN, _, hx _ _ e, _, n, rfl⟩

theorem Walks.tuple {prog : Program} {w : World} {A : Around} (hh : A.handled = none) (I ax : Addr) (hne : ax ≠ I) (items : Array Value) :
    Walks prog w A I [I, ax] [I] items.size (fun i v => items[i]? = some v) (fun i h => h.IsTupleIter I ax i ∧ h.IsTuple ax items) where
  sub := fun b hb => by simp at hb; simp [hb]
  frame := fun _ _ _ st hk => ⟨let ⟨o, ho, r⟩ := st.1; ⟨o, hk I (by simp) o ho, r⟩, let ⟨o, ho, r⟩ := st.2; ⟨o, hk ax (by simp) o ho, r⟩⟩
  item := fun i s Q E hi st hQ => by
    refine wpAny_pyNext_tuple_item st.1 st.2 (x := items[i]) (by simp [hi]) fun h' hit' hs' => ?_
    exact hQ _ h' s.toks (by simp [hi]) ⟨hit', let ⟨o, ho, r⟩ := st.2; ⟨o, hs'.extBut _ _ hne ho, r⟩⟩ fun b o hb e => hs'.extBut b o (fun h => hb (by simp [h])) e
  done := fun s Q E st hQ => wpAny_pyNext_tuple_end hh st.1 st.2 (by simp) fun h' he' => hQ h' s.toks fun b o hb e => he' b o (fun h => hb (by simp [h])) e
  self := fun _ _ _ _ st hQ => by
    obtain ⟨o, ho, hc, hd⟩ := st.1
    have hT : Shared.TypeIs _ (.ref I) "tuple_iterator" := ⟨o, ho, hc⟩
    refine wpAny_pyIter_slot hT F.slot_tuple_iterator_iter (wpAny_call_entry F.slot_tuple_iterator_iter hT F.entry_tuple_iterator_iter ?_ (F.args_tuple_iterator_iter_1 _))
    show wpAny _ _ (ret (.ref I)) _ _ _
    exact wpAny_pure ⟨_, rfl, "tuple_iterator", _, hT, F.slot_tuple_iterator_next.lookup, hQ⟩

theorem Itr.tup {e : Expr} {ds : List D} (h : Ev W k c N δ e (.tup ds)) : Itr W k c N δ e ds := .mk fun s r => by
  refine wpAny_mono (h.run s r) (fun v s₁ ⟨q, rv⟩ => ?_) fun _ _ x => x
  cases rv with
  | @tup l vs _ p hN rl =>
    obtain ⟨n, e⟩ := p
    refine wpAny_pyIter_tuple ⟨_, e, rfl, n, rfl⟩ ?_
    have hne : l ≠ s₁.heap.objs.size := Nat.ne_of_lt (Heap.lt_size e)
    have hx : Ext s₁.heap (s₁.heap.push { cls := .type "tuple_iterator", data := .fields #[.ref l, .int 0 0] }) := fun _ _ e => Heap.get?_push_of_some _ e
    have hl : vs.toArray.size = ds.length := rl.length
    refine ⟨q.trans (.push _ _), _, rfl, [s₁.heap.objs.size, l], (fun i v => vs.toArray[i]? = some v), (fun i h => h.IsTupleIter s₁.heap.objs.size l i ∧ h.IsTuple l vs.toArray), hl ▸ Walks.tuple r.ok.hd _ l hne vs.toArray, ⟨⟨_, Heap.get?_push_size _ rfl, rfl, rfl⟩, ⟨_, hx _ _ e, rfl, n, rfl⟩⟩, ?_, ?_, q.none, ?_⟩
    · intro i v d hd hv
      obtain ⟨v', h1, h2⟩ := rl.get hd
      have : v' = v := by rw [List.getElem?_toArray] at hv; rw [h1] at hv; exact Option.some.inj hv
      exact this ▸ h2.ext hx
    · rintro i h ⟨⟨o, ho, hc, hd⟩, _⟩
      exact ⟨o, ho, (fun ⟨xs, n, q⟩ => by rw [hd] at q; cases q), _, hc, by decide⟩
    · intro b hb
      rcases List.mem_cons.mp hb with rfl | hb
      · exact .inl rfl
      · rw [List.mem_singleton.mp hb]
        exact .inr ⟨hN, _, hx _ _ e, _, n, rfl⟩

theorem signs_get {l : List Nat} {i : Nat} {v : Value} {d : D} {N : List Addr} {h : Heap} (hd : (l.map fun x => sT [x])[i]? = some d) (hv : SignAt ⟨l.toArray⟩ i v) : Rep N h v d := by
  obtain ⟨x, u, h1, rfl⟩ := hv
  have h2 : l[i]? = some x := by simpa using h1
  rw [List.getElem?_map, h2] at hd
  cases hd
  exact Rep.str ⟨#[x]⟩ u
theorem Itr.str {e : Expr} {l : List Nat} (h : Ev W k c N δ e (sT l)) : Itr W k c N δ e (l.map fun x => sT [x]) := .mk fun s r => by
  refine wpAny_mono (h.run s r) (fun v s₁ ⟨q, rv⟩ => ?_) fun _ _ x => x
  cases rv with | str _ t =>
  have hl : (l.map fun x => sT [x]).length = (⟨l.toArray⟩ : Str).cps.size := by simp
  cases ha : (⟨l.toArray⟩ : Str).cps.all (· < 128)
  · refine wpAny_pyIter_wide ha ⟨q.trans (.push _ _), _, rfl, _, _, _, hl ▸ Walks.strWide r.ok.hd _ _ t, ⟨_, Heap.get?_push_size _ rfl, rfl, rfl⟩, fun i v d hd hv => signs_get hd hv, ?_, q.none, fun b hb => .inl (List.mem_singleton.mp hb)⟩
    rintro i h ⟨o, ho, hc, hd⟩
    exact ⟨o, ho, (fun ⟨xs, n, q⟩ => by rw [hd] at q; cases q), _, hc, by decide⟩
  · refine wpAny_pyIter_ascii ha ⟨q.trans (.push _ _), _, rfl, _, _, _, hl ▸ Walks.strAscii r.ok.hd _ _ t, ⟨_, Heap.get?_push_size _ rfl, rfl, rfl⟩, fun i v d hd hv => signs_get hd hv, ?_, q.none, fun b hb => .inl (List.mem_singleton.mp hb)⟩
    rintro i h ⟨o, ho, hc, hd⟩
    exact ⟨o, ho, (fun ⟨xs, n, q⟩ => by rw [hd] at q; cases q), _, hc, by decide⟩

def upto (n : Nat) : List D := (List.range n).map fun i => .int (i : Nat)
theorem hlen {A : Around} {I : Addr} (n : Nat) (hh : A.handled = none) : Walks W.prog W.w A I [I] [I] (upto n).length (fun i v => ∃ t, v = .int (0 + (i : Int)) t) (fun i h => IsRangeIter h I (0 + (i : Nat) * 1) ((n : Int) - (i : Nat)) 1) := by
  have e : (upto n).length = n := by simp [upto]
  rw [e]
  exact LCg.range_walks hh 0 n
theorem Itr.range {p pos : Pos} {e : Expr} {n : Nat} (hv : W.mg "range" = none) (ha : EvL W k c N δ [e] [.int (n : Nat)]) (hn : n < 4611686018427387904) (hx : c.env.kindOf "range" = some .globalImplicit := by kernel_rfl)
    (he : starEach [e] c.env = (false, eval e c.env) :: starEach [] c.env := by rfl)
    (hp : ∀ pos, (backTo pos (starEach [e] c.env)).any (·.1) = false := by intro _; rfl) : Itr W k c N δ (.Call (.Name "range" p) [e] [] pos) (upto n) := .mk fun s r => by
  show wpAny W.M c.A (do callWith pos (← eval (.Name "range" p) c.env) [] (backTo pos (starEach [e] c.env)) []) _ _ _
  refine wpAny_bind (Calls.Name_function_global r.ok.fn hx (Calls.loadGlobal_builtin (mg := W.mg) (mb := W.mb) (by rw [r.ok.gl]; exact W.g.keeps r.bs) hv (by rw [r.ok.bl]; exact W.b.keeps r.bs) ((W.bt "range" (by decide +kernel)).trans (by decide +kernel : bootBuiltins "range" = some (.type "range"))) ?_) (by decide +kernel))
  refine PySem.callWith_type (hp pos) (evArgs he (wpAny_mono (ha.run pos s r) (fun vs s₁ ⟨q, rl⟩ => ?_) fun _ _ x => x))
  cases rl with
  | cons a rl =>
    cases rl
    cases a with | int _ t =>
    refine call_range_1 ?_
    have hrs : Builtin.Range.rangeSize 0 (n : Int) 1 = (n : Int) := by rw [rangeSize_one]; split <;> omega
    refine wpAny_pyIter_range (IsRange.new _ _ _ _ _ _ _) (small_one (by omega) (by omega) (by omega) (by omega)) ?_
    have q' := ((q.trans ((Kp.push (s := s₁) { cls := .type "range", data := .fields #[.int 0 s₁.toks, .int n t, .int 1 (s₁.toks + 1)] }))).trans (.tok _ (s₁.toks + 1 + 1)))
    refine ⟨q'.trans (.push _ _), _, rfl, _, _, _, hlen n r.ok.hd, ?_, ?_, ?_, q'.none, fun b hb => .inl (List.mem_singleton.mp hb)⟩
    · rw [hrs]
      show Heap.get? _ _ = some _
      rw [Heap.get?_push_size _ rfl]
      simp
    · rintro i v d hd ⟨t, rfl⟩
      have hi : i < n := by
        have := (List.getElem?_eq_some_iff.mp hd).1
        simpa [upto] using this
      simp [upto, List.getElem?_range hi] at hd
      subst hd
      simpa using Rep.int _ _
    · rintro i h st
      exact ⟨_, st, (fun ⟨xs, n, q⟩ => by cases q), _, rfl, by decide⟩

/-- the iterator's step, seen by what is kept -/
theorem Sta.step {s : Shared} {h' : Heap} {tk : Tok} {I : Addr} (r : Sta W k s₀ c N own δ s) (hI : ∃ o, s.heap.get? I = some o ∧ ¬ isSeq o) (h0 : s₀.heap.get? I = none) (hL : I ≠ c.env.locals) (hC : ∀ n, c.env.cells.lookup n ≠ some I)
    (hk : ∀ b o, b ≠ I → s.heap.get? b = some o → h'.get? b = some o) : Sta W k s₀ c N own δ { s with heap := h', toks := tk } := by
  obtain ⟨o, hIo, hns⟩ := hI
  have sk : ∀ N, SK N s.heap h' := fun N b ob _ e q => hk b ob (fun x => by subst x; rw [hIo] at e; cases e; exact hns q) e
  obtain ⟨m, cm, ic, hvs, ho⟩ := r.ic
  refine ⟨r.ok, r.b0, r.av0, m, cm, ?_, fun p hp => let ⟨v, h1, h2⟩ := hvs p hp; ⟨v, h1, h2.sk (sk _)⟩, fun q hq => ?_⟩
  · obtain ⟨⟨⟨h1, t1, e1⟩, ns, kp, fr⟩, cell, ap, ab⟩ := ic
    subst e1
    refine ⟨⟨⟨h', _, rfl⟩, ns.at' fun o e => hk _ o (Ne.symm hL) e, fun b o e => hk b o (fun x => ?_) (kp b o e), fr⟩, fun n c hc => ?_, ap, ab⟩
    · rw [x, h0] at e; cases e
    · obtain ⟨o, ho, hd⟩ := cell n c hc
      exact ⟨o, hk _ _ (fun x => hC n (x ▸ hc)) ho, hd⟩
  · obtain ⟨g1, g2, vs, ⟨n, g3⟩, g4⟩ := ho q hq
    refine ⟨g1, g2, vs, ⟨n, hk _ _ (fun x => ?_) g3⟩, g4.sk (sk _)⟩
    rw [x, hIo] at g3; cases g3
    exact hns ⟨_, n, rfl⟩

/-! a for loop: n turns that go on, then the end or a turn that returns -/
theorem Exs.forN {target iter : Expr} {body rest : List Stmt} {pos : Pos} {o : Out} (ds : List D) (δs δb : Nat → List (Str × D)) (owns : Nat → Own) (n : Nat) (hn : n ≤ ds.length)
    (hit : Itr W k c (oa own ++ N) δ iter ds) (ho0 : owns 0 = own) (hos : ∀ j, oa (owns j) = oa own) (h0 : ∀ p ∈ δs 0, p ∈ δ)
    (ha : ∀ j d, j ≤ n → ds[j]? = some d → Asg W k s₀ c N (owns j) target d (δs j) (δb j))
    (hb : ∀ j, j < n → Exs W k s₀ c N (owns j) (δb j) body (.next (owns (j + 1)) (δs (j + 1))))
    (he : (n = ds.length ∧ Exs W k s₀ c N (owns n) (δs n) rest o) ∨ (n < ds.length ∧ ∃ d, o = .ret d ∧ Exs W k s₀ c N (owns n) (δb n) body (.ret d)))
    (hs : ∀ x, foldedSetIterable iter c.env x = pure x := by intro _; rfl) :
    Exs W k s₀ c N own δ (.For target iter body [] pos :: rest) o := .mk fun s r => by
  refine wpAny_execs_cons (wpAny_For (wpAny_mono (hit.run s r.rd) (fun xv s₁ h₁ => wpAny_mono h₁ (fun it s₂ h₂ => ?_) fun _ _ x => x.elim) fun _ _ x => x.elim) hs)
  obtain ⟨q, I, rfl, fp, P, St, hW, hst, hP, hns, hI, hfp⟩ := h₂
  have hs0 : s₀.heap.get? I = none := by
    cases e : s₀.heap.get? I with
    | none => rfl
    | some ob => have := r.keep.ext _ _ e; rw [hI] at this; cases this
  obtain ⟨m0, cm0, ic0, _, _⟩ := r.ic
  have hIL : I ≠ c.env.locals := fun x => by obtain ⟨ob, _, _, e, _⟩ := ic0.toInCall.ns; rw [← x, hI] at e; cases e
  have hIC : ∀ nn, c.env.cells.lookup nn ≠ some I := fun nn x => by obtain ⟨ob, e, _⟩ := ic0.cell nn I x; rw [hI] at e; cases e
  have hIO : I ∉ oa own := fun x => by
    have := r.rd.av I (List.mem_append_left _ x)
    obtain ⟨ob, e⟩ := this
    rw [hI] at e; cases e
  refine codeAny_forLoop_any (fun m s' => ∃ j, j ≤ n ∧ m = n + 1 - j ∧ Sta W k s₀ c N (owns j) (δs j) s' ∧ Kb c.env (oa own) s.heap s'.heap ∧ SK (oa own ++ N) s₂.heap s'.heap ∧ St j s'.heap) ?_ (n + 1)
    ⟨0, Nat.zero_le _, rfl, ho0 ▸ (r.kp q).sub h0, .of_ext q.ext, .of_ext fun _ _ e => e, hst⟩
  rintro m s' ⟨j, hj, rfl, r', kb, sk, st⟩
  have kbw : ∀ h', (∀ b ob, b ∉ [I] → s'.heap.get? b = some ob → h'.get? b = some ob) → Kb c.env (oa own) s.heap h' := fun h' hk b ob e1 e2 e3 e =>
    hk b ob (fun x => by rw [List.mem_singleton.mp x, hI] at e; cases e) (kb b ob e1 e2 e3 e)
  obtain ⟨oI, hoI, hsI, hqI⟩ := hns _ _ st
  have skw : ∀ h' NN, (∀ b ob, b ∉ [I] → s'.heap.get? b = some ob → h'.get? b = some ob) → SK NN s'.heap h' := fun h' NN hk b ob _ e q =>
    hk b ob (fun x => by rw [List.mem_singleton.mp x, hoI] at e; cases e; exact hsI q) e
  have step : ∀ h' tk, (∀ b ob, b ∉ [I] → s'.heap.get? b = some ob → h'.get? b = some ob) → Sta W k s₀ c N (owns j) (δs j) { s' with heap := h', toks := tk } := fun h' tk hk =>
    r'.step ⟨oI, hoI, hsI⟩ hs0 hIL hIC fun b ob e1 e => hk b ob (by simpa using e1) e
  rcases Nat.lt_or_ge j ds.length with hlt | hge
  · have hd : ds[j]? = some ds[j] := List.getElem?_eq_getElem hlt
    refine hW.item j s' _ _ hlt st fun v h' tk hv st' hk => ?_
    have rv : Rep (oa own ++ N) h' v ds[j] := ((hP j v _ hd hv).sk sk).sk (skw _ _ hk)
    have r₃ := step h' tk hk
    show wpAny _ _ (letOwnedTupleGo target (.ref I) v) _ _ _
    refine go_wp (let ⟨o, a, _, b⟩ := hns _ _ st'; ⟨o, a, b⟩) ?_
    refine wpAny_mono ((ha j _ hj hd).run _ v r₃ (hos j ▸ rv)) (fun _ s₃ ⟨r₄, kb₄, sk₄⟩ => ?_) fun _ _ x => x.elim
    have kb5 : Kb c.env (oa own) s.heap s₃.heap := (kbw h' hk).trans (hos j ▸ kb₄)
    rcases Nat.lt_or_ge j n with hjn | hjn
    · refine wpAny_mono ((hb j hjn).run s₃ r₄) (fun f s₄ ⟨e, r₅, kb₅⟩ => ?_) fun _ _ x => x.elim
      subst e
      have kb₅' : Kb c.env (oa own) s₃.heap s₄.heap := fun b ob e1 e2 e3 e => kb₅ b ob e1 e2 (by rw [hos, hos]; simpa using e3) e
      have hfpk : ∀ b ∈ fp, ∀ ob, h'.get? b = some ob → s₄.heap.get? b = some ob := fun b hb ob e => by
        rcases hfp b hb with rfl | ⟨hbN, o', e', qo⟩
        · exact kb₅' _ _ hIL hIC hIO (kb₄ _ _ hIL hIC (hos j ▸ hIO) e)
        · have x1 : s'.heap.get? b = some o' := sk b o' hbN e' qo
          have x2 := skw h' (oa own ++ N) hk b o' hbN x1 qo
          rw [x2] at e; cases e
          have x3 := sk₄ b _ (hos j ▸ hbN) x2 qo
          exact r₄.sk (hos j ▸ kb₅') b _ (hos j ▸ hbN) x3 qo
      refine ⟨n + 1 - (j + 1), by omega, j + 1, hjn, rfl, r₅, kb5.trans kb₅', ((sk.trans (skw _ _ hk)).trans (hos j ▸ sk₄)).trans (hos j ▸ r₄.sk (hos j ▸ kb₅')), hW.frame _ _ _ st' hfpk⟩
    · have : j = n := by omega
      subst this
      rcases he with ⟨e, _⟩ | ⟨_, d, e, hr⟩
      · omega
      · subst e
        refine wpAny_mono (hr.run s₃ r₄) (fun f s₄ ⟨v, e, h1, h2⟩ => ?_) fun _ _ x => x.elim
        subst e
        exact ⟨v, rfl, h1, h2⟩
  · have : j = n := by omega
    subst this
    have hl : j = ds.length := by omega
    rcases he with ⟨_, hr⟩ | ⟨hlt, _⟩
    · refine hW.done s' _ _ (hl ▸ st) fun h' tk hk => ?_
      refine wpAny_execs_nil (wpAny_mono (hr.run _ (step h' tk hk)) (fun f s₄ h => OutOk.from' (kbw h' hk) h (hos j)) fun _ _ x => x)
    · omega
end
end Mine
end B8S

section B9S
set_option linter.unusedVariables false
set_option maxRecDepth 100000
namespace Mine
section
variable {W : Wd} {k : Nat} {s₀ : Shared} {c : Cx} {N : List Addr} {own : Own} {δ : List (Str × D)}

theorem loop_go {prog : Program} {w : World} {A : Around} {s : Shared} {elt target iter : Expr} {ifs : List Expr} {scope : Scope} {pos : Pos} {it acc : Value} {env : Env} {R : Result → Shared → Prop} (I : Nat → Shared → Prop)
    (turn : ∀ n s, I n s → wpAny (model prog w) A (pyNext it) (fun r s₁ => match r with
      | none => R (.ok .next) s₁
      | some v => wpAny (model prog w) A (letOwnedTupleGo target it v) (fun _ s₁' => wpAny (model prog w) A (assign target env v) (fun _ s₂ =>
          wpAny (model prog w) A (forIn ifs true fun c r => if r = true then do let ok ← isTrue c env (eval c env); pure (ForInStep.yield ok) else pure (ForInStep.yield r)) (fun ok s₃ =>
            if ok = true then wpAny (model prog w) A (eval elt env) (fun x s₄ => wpAny (model prog w) A (call (.builtin "list.append") [acc, x]) (fun _ s₅ => ∃ m, m < n ∧ I m s₅) F0 s₄) F0 s₃
            else ∃ m, m < n ∧ I m s₃) F0 s₂) F0 s₁') F0 s₁) F0 s)
    (n : Nat) (h : I n s) : codeAny (model prog w) A (.compLoop (.ListComp elt [⟨target, iter, ifs, 0⟩] scope pos) 0 it acc env) R s := by
  refine codeAny_loop rfl I (fun n s hI => ?_) n h
  show wpAny _ A ((compTurn (.ListComp elt [⟨target, iter, ifs, 0⟩] scope pos) 0 it acc env).onRaise (fun x => do noteFrame x env; theTreesLotGoes x)) _ _ s
  refine wpAny_noted ?_
  rw [compTurn_list]
  refine wpAny_bind (wpAny_standAt (wpAny_bind (wpAny_mono (turn n s hI) (fun r s₁ h₁ => ?_) fun _ _ h' => h'.elim)))
  cases r with
  | none => exact wpAny_pure h₁
  | some v =>
    refine wpAny_bind (wpAny_mono h₁ (fun _ s₁' h₁' => ?_) fun _ _ h' => h'.elim)
    refine wpAny_bind (wpAny_mono h₁' (fun _ s₂ h₂ => wpAny_bind (wpAny_mono h₂ (fun ok s₃ h₃ => ?_) fun _ _ h' => h'.elim)) fun _ _ h' => h'.elim)
    cases ok with
    | false => exact wpAny_pure ⟨rfl, h₃⟩
    | true => exact wpAny_bind (wpAny_bind (wpAny_mono h₃ (fun x s₄ h₄ => wpAny_bind (wpAny_mono h₄ (fun _ s₅ h₅ => wpAny_pure (wpAny_pure ⟨rfl, h₅⟩)) fun _ _ h' => h'.elim)) fun _ _ h' => h'.elim))

/-- a target in a comprehension's own frame -/
structure TAsg (W : Wd) (A : Around) (N : List Addr) (env : Env) (t : Expr) (d : D) (xs : List (Str × D)) : Prop where
  run : ∀ s v m, A.handled = none → s.heap.Ns env.locals m → Rep N s.heap v d → wpAny W.M A (assign t env v) (fun _ s' => (∃ h' tk, s' = { s with heap := h', toks := tk }) ∧ (∀ b o, b ≠ env.locals → s.heap.get? b = some o → s'.heap.get? b = some o) ∧
    ∃ m', s'.heap.Ns env.locals m' ∧ (∀ p ∈ xs, env.kindOf p.1 = some .local ∧ ∃ v, m' p.1 = some v ∧ Rep N s'.heap v p.2) ∧ ∀ y, (∀ p ∈ xs, p.1 ≠ y) → m' y = m y) F0 s
theorem TAsg.name {A : Around} {env : Env} {x : Str} {p : Pos} {d : D} (hx : env.kindOf x = some .local) (hf : env.scope.kind = .function) : TAsg W A N env (.Name x p) d [(x, d)] := .mk fun s v m _ hn rv =>
  wpAny_assign_Name (wpAny_storeName_local hx hn (fun h' hn' hs' => ⟨⟨h', _, rfl⟩, fun b o e1 e => hs'.extBut b o e1 e, _, hn', fun q hq => by
    rw [List.mem_singleton.mp hq]
    exact ⟨hx, v, by simp, rv.sk (.but hs' (ns_noSeq hn))⟩, fun y hy => if_neg fun e => hy _ (.head _) e.symm⟩) (by rw [hf]; rfl))
theorem TAsg.tup3 {A : Around} {env : Env} {x y z : Str} {p1 p2 p3 p : Pos} {kk : Nat} {d1 d2 d3 : D} (hx : env.kindOf x = some .local) (hy : env.kindOf y = some .local) (hz : env.kindOf z = some .local) (hf : env.scope.kind = .function)
    (hxy : x ≠ y) (hxz : x ≠ z) (hyz : y ≠ z)
    (he : assignEach [.Name x p1, .Name y p2, .Name z p3] env = [(false, assign (.Name x p1) env), (false, assign (.Name y p2) env), (false, assign (.Name z p3) env)] := by rfl) :
    TAsg W A N env (.Tuple [.Name x p1, .Name y p2, .Name z p3] kk p) (.tup [d1, d2, d3]) [(x, d1), (y, d2), (z, d3)] := .mk fun s v m hh hn rv => by
  cases rv with
  | @tup a vs _ p hN rl =>
    cases rl with
    | cons r1 rl =>
      cases rl with
      | cons r2 rl =>
        cases rl with
        | cons r3 rl =>
          cases rl
          refine wpAny_assign_Tuple hh p.isTuple (by rw [he]; rfl) (by rw [he]; rfl) fun h' hx' => ?_
          rw [he]
          have q : Kp s { s with heap := h' } := ⟨h', s.toks, rfl, fun b o e => hx' b o (Nat.ne_of_lt (Heap.lt_size e)) e⟩
          have hn0 := hn.at' fun o e => q.ext _ _ e
          show wpAny _ _ (do holding _ (assign (.Name x p1) env _); assignInOrder [assign (.Name y p2) env, assign (.Name z p3) env] [_, _]) _ _ _
          refine wpAny_bind (wpAny_holding (wpAny_mono ((TAsg.name hx hf).run _ _ _ hh hn0 (r1.ext q.ext)) (fun _ s₁ ⟨⟨h1, t1, e1⟩, k1, m1, n1, x1, o1⟩ => ?_) fun _ _ x => x))
          have sk1 : SK N h' s₁.heap := fun b o _ e qq => k1 b o (fun e' => ns_noSeq hn0 _ (e' ▸ e) qq) e
          show wpAny _ _ (do holding _ (assign (.Name y p2) env _); assignInOrder [assign (.Name z p3) env] [_]) _ _ _
          refine wpAny_bind (wpAny_holding (wpAny_mono ((TAsg.name hy hf).run _ _ _ hh n1 ((r2.ext q.ext).sk sk1)) (fun _ s₂ ⟨⟨h2, t2, e2⟩, k2, m2, n2, x2, o2⟩ => ?_) fun _ _ x => x))
          have sk2 : SK N s₁.heap s₂.heap := fun b o _ e qq => k2 b o (fun e' => ns_noSeq n1 _ (e' ▸ e) qq) e
          show wpAny _ _ (do holding _ (assign (.Name z p3) env _); assignInOrder [] []) _ _ _
          refine wpAny_bind (wpAny_holding (wpAny_mono ((TAsg.name hz hf).run _ _ _ hh n2 (((r3.ext q.ext).sk sk1).sk sk2)) (fun _ s₃ ⟨⟨h3, t3, e3⟩, k3, m3, n3, x3, o3⟩ => ?_) fun _ _ x => x))
          have sk3 : SK N s₂.heap s₃.heap := fun b o _ e qq => k3 b o (fun e' => ns_noSeq n2 _ (e' ▸ e) qq) e
          subst e1 e2 e3
          obtain ⟨_, u1, a1, b1⟩ := x1 _ (.head _)
          obtain ⟨_, u2, a2, b2⟩ := x2 _ (.head _)
          obtain ⟨_, u3, a3, b3⟩ := x3 _ (.head _)
          refine wpAny_pure ⟨⟨_, _, rfl⟩, fun b o e1 e => k3 b o e1 (k2 b o e1 (k1 b o e1 (q.ext _ _ e))), m3, n3, fun pp hp => ?_, fun w hw => ?_⟩
          · simp only [List.mem_cons, List.not_mem_nil, or_false] at hp
            rcases hp with rfl | rfl | rfl
            · exact ⟨hx, u1, by rw [o3 _ (by simp [Ne.symm hxz]), o2 _ (by simp [Ne.symm hxy])]; exact a1, (b1.sk sk2).sk sk3⟩
            · exact ⟨hy, u2, by rw [o3 _ (by simp [Ne.symm hyz])]; exact a2, b2.sk sk3⟩
            · exact ⟨hz, u3, a3, b3⟩
          · simp only [List.mem_cons, List.not_mem_nil, or_false, forall_eq_or_imp, forall_eq] at hw
            rw [o3 _ (by simp [hw.2.2]), o2 _ (by simp [hw.2.1]), o1 _ (by simp [hw.1])]

/-- what a comprehension sees of the names around it -/
inductive Cel (env : Env) (scope : Scope) (cl : List (Str × Addr)) (δ : List (Str × D)) : List (Str × D) → Prop
  | nil : Cel env scope cl δ []
  | cons {x : Str} {d : D} {r : List (Str × D)} : (x, d) ∈ δ → env.kindOf x = some .cell → env.cells.lookup x = cl.lookup x → (relabel scope env).names.lookup x = some .cell → Cel env scope cl δ r → Cel env scope cl δ ((x, d) :: r)
theorem Cel.mem {env : Env} {scope : Scope} {cl : List (Str × Addr)} {δ δc : List (Str × D)} (h : Cel env scope cl δ δc) : ∀ p ∈ δc, p ∈ δ ∧ env.kindOf p.1 = some .cell ∧ env.cells.lookup p.1 = cl.lookup p.1 ∧ (relabel scope env).names.lookup p.1 = some .cell := by
  induction h with
  | nil => intro p hp; cases hp
  | cons a b c d _ ih =>
    intro p hp
    rcases List.mem_cons.mp hp with rfl | hp
    · exact ⟨a, b, c, d⟩
    · exact ih p hp
def Tests (W : Wd) (k : Nat) (c : Cx) (N : List Addr) (δ : List (Str × D)) : List Expr → Bool → Prop
  | [], t => t = true
  | [e], t => Tr W k c N δ e t
  | _, _ => False
def inner (c : Cx) (scope : Scope) (cl : List (Str × Addr)) (C : Addr) : Cx := ⟨c.A, compEnvC scope cl C c.env⟩

/-- one turn's worth -/
def Turn (W : Wd) (k : Nat) (c' : Cx) (N : List Addr) (δc : List (Str × D)) (target elt : Expr) (ifs : List Expr) (d : D) (r : Option D) : Prop :=
  ∃ xs t, TAsg W c'.A N c'.env target d xs ∧ Tests W k c' N (xs ++ δc) ifs t ∧ (t = false → r = none) ∧ (t = true → ∃ e, r = some e ∧ Ev W k c' N (xs ++ δc) elt e)

theorem Ns.ne {h : Heap} {a b : Addr} {m : Str → Option Value} (n : h.Ns a m) (e : h.get? b = none) : a ≠ b := fun x => by
  obtain ⟨o, _, _, ho, _⟩ := n
  rw [x, e] at ho; cases ho

theorem comp_core {α : Type} {elt target iter : Expr} {ifs : List Expr} {scope : Scope} {cl : List (Str × Addr)} {pos : Pos} {δc : List (Str × D)} (xs : List α) (enc : α → D) (g : α → Option D) {RR : Value → Addr → Result → Shared → Prop} {s : Shared}
    (r : Rd W k c N δ s) (hit : Itr W k c N δ iter (xs.map enc)) (hcell : ∀ y ∈ scope.names, y.2 ≠ .cell) (hkind : scope.kind = .function) (hcel : Cel c.env scope cl δ δc) (hz : xs.length ≤ 16777216)
    (ht : ∀ C M, ∀ a ∈ xs, Turn W k (inner c scope cl C) (M :: N) δc target elt ifs (enc a) (g a))
    (hRR : ∀ D C s', Kp s s' → s.heap.get? D = none → s.heap.get? C = none → D ≠ C → (∃ m, s'.heap.Ns C m) → (∃ vs, PLst s'.heap D vs ∧ RepL (D :: N) s'.heap vs (xs.filterMap g)) → RR (.ref D) C (.ok .next) s') :
    wpAny W.M c.A (eval iter c.env) (fun x s₁ => wpAny W.M c.A (pyIter x) (fun it s₂ => wpAny W.M c.A (newList []) (fun acc s₃ =>
      wpAny W.M c.A (newFunctionEnv scope c.env.globals cl [] c.env.qual none .none (some c.env)) (fun cenv s₄ =>
        codeAny W.M c.A (.compStart (.ListComp elt [⟨target, iter, ifs, 0⟩] scope pos) 0 it acc { cenv with scope := relabel scope c.env }) (RR acc cenv.locals) s₄) F0 s₃) F0 s₂) F0 s₁) F0 s := by
  refine wpAny_mono (hit.run s r) (fun xv s₁ h₁ => wpAny_mono h₁ (fun it s₂ h₂ => ?_) fun _ _ x => x) fun _ _ x => x
  obtain ⟨q, I, rfl, fp, P, St, hW, hst, hP, hns, hI, hfp⟩ := h₂
  refine wpAny_newObj_type (wpAny_newFunctionEnv hcell (by intro y hy; simp at hy) (fun h₁ hns₁ hsb₁ => ?_) hkind)
  dsimp only at hns₁ hsb₁ ⊢
  generalize hH2 : s₂.heap.push { cls := .type "list", dict := none, data := .seq ([] : List Value).toArray } = H2 at hns₁ hsb₁ ⊢
  have hC : H2.objs.size = s₂.heap.objs.size + 1 := by rw [← hH2, Heap.size_push]
  generalize hDd : s₂.heap.objs.size = Dd at *
  generalize hCd : H2.objs.size = C at *
  have hDC : Dd ≠ C := by rw [hC]; exact Nat.ne_of_lt (Nat.lt_succ_self _)
  have hD2 : s₂.heap.get? Dd = none := hDd ▸ none_of_size _
  have hC2 : s₂.heap.get? C = none := Heap.get?_none_of_le (by rw [hC, hDd]; exact Nat.le_succ _)
  have old : ∀ b o, s₂.heap.get? b = some o → h₁.get? b = some o := fun b o e => hsb₁.extBut b o (fun x => by rw [x, hC2] at e; cases e) (Heap.get?_push_of_some _ (hH2 ▸ Heap.get?_push_of_some _ e))
  have sub : ∀ {b}, s₂.heap.get? b = none → s.heap.get? b = none := fun {b} e => by
    cases e' : s.heap.get? b with
    | none => rfl
    | some o => have := q.ext _ _ e'; rw [e] at this; cases this
  have hD0 := sub hD2
  have hC0 := sub hC2
  obtain ⟨oI, hoI, _, _⟩ := hns _ _ hst
  have hDI : Dd ≠ I := fun x => by rw [← x, hD2] at hoI; cases hoI
  have hCI : C ≠ I := fun x => by rw [← x, hC2] at hoI; cases hoI
  have hacc : PLst h₁ Dd [] := ⟨_, hsb₁.extBut _ _ hDC (Heap.get?_push_of_some _ (by rw [← hH2, ← hDd]; exact Heap.get?_push_size _ rfl))⟩
  have hfp1 : ∀ b ∈ fp, ∃ o, s₂.heap.get? b = some o := fun b hb => by
    rcases hfp b hb with rfl | ⟨_, o, e, _⟩
    · exact ⟨_, hoI⟩
    · exact ⟨o, e⟩
  have hst₁ : St 0 h₁ := hW.frame _ _ _ hst fun b hb o e => old b o e
  have loop : ∀ s₃ : Shared, (∃ tk, s₃ = { s₂ with heap := h₁, toks := tk }) →
      codeAny W.M c.A (.compLoop (.ListComp elt [⟨target, iter, ifs, 0⟩] scope pos) 0 (.ref I) (.ref Dd) (compEnvC scope cl C c.env)) (RR (.ref Dd) C) s₃ := by
    rintro s₃ ⟨tk₃, rfl⟩
    refine loop_go (fun n s' => ∃ j h' tk m vs, j ≤ xs.length ∧ n = xs.length - j ∧ s' = { s₂ with heap := h', toks := tk } ∧ (∀ b o, b ≠ I → s₂.heap.get? b = some o → h'.get? b = some o) ∧ h'.Ns C m ∧ PLst h' Dd vs ∧
      RepL (Dd :: N) h' vs ((xs.take j).filterMap g) ∧ St j h') ?_ xs.length ⟨0, h₁, _, _, [], Nat.zero_le _, rfl, rfl, fun b o _ e => old b o e, hns₁, hacc, .nil, hst₁⟩
    rintro n s' ⟨j, h', tk, m, vs, hj, rfl, rfl, hk, hn, hp, hr, st⟩
    have kS : Kp s { s₂ with heap := h', toks := tk } := by
      obtain ⟨a, b, e, kk⟩ := q
      subst e
      exact ⟨h', tk, rfl, fun b o e => hk b o (fun x => by rw [x, hI] at e; cases e) (kk _ _ e)⟩
    rcases Nat.lt_or_ge j xs.length with hlt | hge
    · have hlt' : j < (xs.map enc).length := by simpa using hlt
      have hd : (xs.map enc)[j]? = some (enc xs[j]) := by simp [hlt]
      obtain ⟨oI', hoI', hsI', _⟩ := hns _ _ st
      refine hW.item j _ _ _ hlt' st fun v h₂ tk₂ hv st₂ hk₂ => ?_
      have hk₂' : ∀ b o, b ≠ I → h'.get? b = some o → h₂.get? b = some o := fun b o e1 e => hk₂ b o (by simpa using e1) e
      have sk₂ : ∀ NN, SK NN h' h₂ := fun NN b ob _ e qq => hk₂' b ob (fun x => by subst x; rw [hoI'] at e; cases e; exact hsI' qq) e
      have sk0 : ∀ NN, SK NN s₂.heap h' := fun NN b ob _ e qq => hk b ob (fun x => by
        subst x
        obtain ⟨oI₀, hoI₀, hsI₀, _⟩ := hns _ _ hst
        rw [hoI₀] at e; cases e; exact hsI₀ qq) e
      have rv : Rep (Dd :: N) h₂ v (enc xs[j]) := (Rep.more (fun o e => by rw [hD2] at e; cases e) (hP j v _ hd hv)).sk ((sk0 _).trans (sk₂ _))
      have hn₂ : h₂.Ns C m := hn.at' fun o e => hk₂' _ o hCI e
      have hp₂ : PLst h₂ Dd vs := let ⟨n, e⟩ := hp; ⟨n, hk₂' _ _ hDI e⟩
      have hr₂ := hr.sk (sk₂ (Dd :: N))
      show wpAny _ _ (letOwnedTupleGo target (.ref I) v) _ _ _
      refine go_wp (let ⟨o, a, _, b⟩ := hns _ _ st₂; ⟨o, a, b⟩) ?_
      obtain ⟨ys, t, ta, tt, tf, te⟩ := ht C Dd xs[j] (List.getElem_mem hlt)
      refine wpAny_mono (ta.run _ v m r.ok.hd hn₂ rv) (fun _ s₃ ⟨⟨h₃, tk₃', e₃⟩, k₃, m₃, n₃, x₃, _⟩ => ?_) fun _ _ x => x.elim
      subst e₃
      have k₃' : ∀ b o, b ≠ C → h₂.get? b = some o → h₃.get? b = some o := k₃
      have sk₃ : ∀ NN, SK NN h₂ h₃ := fun NN b ob _ e qq => k₃' b ob (fun x => ns_noSeq hn₂ _ (x ▸ e) qq) e
      have hp₃ : PLst h₃ Dd vs := let ⟨n, e⟩ := hp₂; ⟨n, k₃' _ _ hDC e⟩
      have hr₃ := hr₂.sk (sk₃ (Dd :: N))
      have st₃ : St (j + 1) h₃ := hW.frame _ _ _ st₂ fun b hb o e => k₃' b o (fun x => by obtain ⟨o', e'⟩ := hfp1 b hb; rw [x, hC2] at e'; cases e') e
      have up : ∀ b o, b ≠ I → s₂.heap.get? b = some o → h₃.get? b = some o := fun b o e1 e => k₃' b o (fun x => by rw [x, hC2] at e; cases e) (hk₂' b o e1 (hk b o e1 e))
      have x0 : Ext s.heap h₃ := fun b o e => up b o (fun x => by rw [x, hI] at e; cases e) (q.ext _ _ e)
      -- what the inner frame knows
      have rd : ∀ s₄ : Shared, Ext h₃ s₄.heap → Rd W k (inner c scope cl C) (Dd :: N) (ys ++ δc) s₄ := fun s₄ x4 => by
        refine ⟨⟨by show (relabel scope c.env).kind = _; simp [relabel, hkind], r.ok.gl, r.ok.bl, r.ok.hd, r.ok.dp, r.ok.un⟩, fun b o e => x4 b o (x0 b o (r.bs b o e)), fun a ha => ?_, fun p hp => ?_⟩
        · rcases List.mem_cons.mp ha with rfl | ha
          · obtain ⟨n, e⟩ := hp₃; exact ⟨_, x4 _ _ e⟩
          · obtain ⟨o, e⟩ := r.av a ha; exact ⟨o, x4 _ _ (x0 _ _ e)⟩
        · rcases List.mem_append.mp hp with hp | hp
          · obtain ⟨e1, v, e2, e3⟩ := x₃ p hp
            exact ⟨v, .inl ⟨e1, m₃, n₃.at' fun o e => x4 _ _ e, e2⟩, e3.ext x4⟩
          · obtain ⟨e1, e2, e3, e4⟩ := hcel.mem p hp
            obtain ⟨v, h1, h2⟩ := r.vars p e1
            refine ⟨v, ?_, (Rep.more (fun o e => by rw [hD0] at e; cases e) h2).ext fun b o e => x4 _ _ (x0 _ _ e)⟩
            rcases h1 with ⟨a, _⟩ | ⟨a, cc, l, i⟩
            · rw [e2] at a; cases a
            · exact .inr ⟨.inl e4, cc, e3 ▸ l, let ⟨o, a, b⟩ := i; ⟨o, x4 _ _ (x0 _ _ a), b⟩⟩
      have hts : wpAny W.M c.A (forIn ifs true fun cc r => if r = true then do let ok ← isTrue cc (compEnvC scope cl C c.env) (eval cc (compEnvC scope cl C c.env)); pure (ForInStep.yield ok) else pure (ForInStep.yield r))
          (fun ok s₄ => ok = t ∧ Kp { s₂ with heap := h₃, toks := tk₃' } s₄) F0 { s₂ with heap := h₃, toks := tk₃' } := by
        match ifs, tt with
        | [], tt => exact wpAny_tests_nil ⟨tt.symm, .refl _⟩
        | [e], tt => exact wpAny_tests_one (tt.run _ (rd _ fun _ _ e => e))
      refine wpAny_mono hts (fun ok s₄ ⟨e, q₄⟩ => ?_) fun _ _ x => x.elim
      subst e
      have hm1 : xs.length - (j + 1) < xs.length - j := by omega
      have htk : (xs.take (j + 1)).filterMap g = (xs.take j).filterMap g ++ (g xs[j]).toList := by
        rw [List.take_add_one, List.getElem?_eq_getElem hlt, List.filterMap_append]
        cases hg : g xs[j] <;> simp [hg]
      cases ok with
      | false =>
        rw [if_neg Bool.false_ne_true]
        obtain ⟨h₄, tk₄, e₄, k₄⟩ := q₄
        subst e₄
        refine ⟨_, hm1, j + 1, h₄, tk₄, m₃, vs, hlt, rfl, rfl, fun b o e1 e => k₄ b o (up b o e1 e), n₃.at' fun o e => k₄ _ o e, hp₃.ext k₄, ?_, hW.frame _ _ _ st₃ fun b _ o e => k₄ b o e⟩
        rw [htk, tf rfl]
        simpa using hr₃.ext k₄
      | true =>
        rw [if_pos rfl]
        obtain ⟨e, ge, hel⟩ := te rfl
        refine wpAny_mono (hel.run s₄ (rd s₄ q₄.ext)) (fun x s₅ ⟨q₅, rx⟩ => ?_) fun _ _ x => x.elim
        have x5 := (q₄.trans q₅).ext
        obtain ⟨n₀, e₀⟩ := hp₃.ext x5
        have hvl : vs.length ≤ j := by
          rw [hr.length]
          exact Nat.le_trans (List.length_filterMap_le _ _) (by rw [List.length_take]; omega)
        refine wpAny_list_append_plain ⟨n₀, e₀⟩ (fun h₆ hp₆ hs₆ => ?_) (by rw [List.size_toArray, sizeLine_eq]; omega)
        obtain ⟨h₅, tk₅, e₅, k₅⟩ := q₄.trans q₅
        subst e₅
        have sk6 : SK (Dd :: N) h₅ h₆ := .butN hs₆ (.head _)
        have hp6 : PLst h₆ Dd (vs ++ [x]) := by
          obtain ⟨n', e'⟩ := hp₆
          exact ⟨n', by rw [e']; simp⟩
        have k6 : ∀ b o, b ≠ Dd → h₅.get? b = some o → h₆.get? b = some o := fun b o e1 e => hs₆.extBut b o e1 e
        refine ⟨_, hm1, j + 1, h₆, _, m₃, vs ++ [x], hlt, rfl, rfl, fun b o e1 e => k6 b o (fun x => by rw [x, hD2] at e; cases e) (k₅ b o (up b o e1 e)), n₃.at' fun o e => k6 _ o (Ne.symm hDC) (k₅ _ o e), hp6, ?_,
          hW.frame _ _ _ st₃ fun b hb o e => k6 b o (fun x => by obtain ⟨o', e'⟩ := hfp1 b hb; rw [x, hD2] at e'; cases e') (k₅ b o e)⟩
        rw [htk, ge]
        exact ((hr₃.ext k₅).append (.cons rx .nil)).sk sk6
    · have : j = xs.length := by omega
      subst this
      rw [List.take_length] at hr
      obtain ⟨oI', hoI', hsI', _⟩ := hns _ _ st
      refine hW.done _ _ _ (by simpa using st) fun h₂ tk₂ hk₂ => ?_
      have hk₂' : ∀ b o, b ≠ I → h'.get? b = some o → h₂.get? b = some o := fun b o e1 e => hk₂ b o (by simpa using e1) e
      have sk₂ : ∀ NN, SK NN h' h₂ := fun NN b ob _ e qq => hk₂' b ob (fun x => by subst x; rw [hoI'] at e; cases e; exact hsI' qq) e
      refine hRR Dd C _ ?_ hD0 hC0 hDC ⟨m, hn.at' fun o e => hk₂' _ o hCI e⟩ ⟨vs, let ⟨n, e⟩ := hp; ⟨n, hk₂' _ _ hDI e⟩, hr.sk (sk₂ _)⟩
      obtain ⟨a, b, e, kk⟩ := q
      subst e
      exact ⟨h₂, tk₂, rfl, fun b o e => hk₂' b o (fun x => by rw [x, hI] at e; cases e) (hk b o (fun x => by rw [x, hI] at e; cases e) (kk _ _ e))⟩
  exact codeAny_compStart_list (loop _ ⟨_, rfl⟩) (hW.self 0 _ _ _ hst₁ (loop _ ⟨_, rfl⟩))

theorem EvF.comp {α : Type} {elt target iter : Expr} {ifs : List Expr} {scope : Scope} {pos : Pos} (cl : List (Str × Addr)) (δc : List (Str × D)) (xs : List α) (enc : α → D) (g : α → Option D)
    (hit : Itr W k c N δ iter (xs.map enc)) (hcel : Cel c.env scope cl δ δc) (hz : xs.length ≤ 16777216)
    (ht : ∀ C M, ∀ a ∈ xs, Turn W k (inner c scope cl C) (M :: N) δc target elt ifs (enc a) (g a))
    (hclos : closureFor scope c.env = pure cl := by rfl) (hcell : ∀ y ∈ scope.names, y.2 ≠ .cell := by decide +kernel) (hkind : scope.kind = .function := by rfl)
    (hnames : ∀ y ∈ scope.names, y.2 = .local → scope.names.lookup y.1 = some .local := by decide +kernel)
    (hs : ∀ x, foldedSetIterable iter c.env x = pure x := by intro _; rfl) : EvF W k c N δ (.ListComp elt [⟨target, iter, ifs, 0⟩] scope pos) (xs.filterMap g) := .mk fun s r => by
  rw [eval_ListComp]
  refine wpAny_comprehension_free (use := none) rfl hs hclos hkind hnames (comp_core (RR := fun acc C => compPost W.M c.A F0 none _ acc C) xs enc g r hit hcell hkind hcel hz ht ?_)
  rintro D C s' q hD hC hDC ⟨m, hn⟩ ⟨vs, ⟨n, e⟩, rl⟩
  refine ⟨m, hn, fun h' hs' => ⟨?_, D, vs, rfl, hD, ⟨n, hs'.extBut _ _ hDC e⟩, rl.sk (.but hs' (ns_noSeq hn))⟩⟩
  obtain ⟨a, b, e, kk⟩ := q
  subst e
  exact ⟨h', b, rfl, fun b o e => hs'.extBut b o (fun x => by rw [x, hC] at e; cases e) (kk _ _ e)⟩

theorem Exs.acqUse {α : Type} {z : Str} {p spos : Pos} {elt target iter : Expr} {ifs : List Expr} {scope : Scope} {pos : Pos} {δ' : List (Str × D)} {rest : List Stmt} {o : Out} (cl : List (Str × Addr)) (δc : List (Str × D)) (xs : List α) (enc : α → D) (g : α → Option D)
    (hit : Itr W k c N δ iter (xs.map enc)) (hcel : Cel c.env scope cl δ δc) (hz : xs.length ≤ 16777216)
    (ht : ∀ C M, ∀ a ∈ xs, Turn W k (inner c scope cl C) (M :: N) δc target elt ifs (enc a) (g a))
    (hx : Sto c.env z) (hd : Del z δ δ') (hr : ∀ M, Exs W k s₀ c N (some (z, M, xs.filterMap g)) δ' rest o)
    (hsw : swapsWith (.ListComp elt [⟨target, iter, ifs, 0⟩] scope pos) (some (.Name z p)) spos.line c.env = pure true := by rfl)
    (hclos : closureFor scope c.env = pure cl := by rfl) (hcell : ∀ y ∈ scope.names, y.2 ≠ .cell := by decide +kernel) (hkind : scope.kind = .function := by rfl)
    (hnames : ∀ y ∈ scope.names, y.2 = .local → scope.names.lookup y.1 = some .local := by decide +kernel)
    (hs : ∀ x, foldedSetIterable iter c.env x = pure x := by intro _; rfl) :
    Exs W k s₀ c N none δ (.Assign [.Name z p] (.ListComp elt [⟨target, iter, ifs, 0⟩] scope pos) spos :: rest) o := .mk fun s r => by
  refine wpAny_execs_cons ?_
  rw [exec_Assign_Name_used _ _ _ _ hsw]
  refine wpAny_bind (wpAny_standAt (wpAny_bind ?_))
  show wpAny W.M c.A (do let _ ← comprehension (.ListComp elt [⟨target, iter, ifs, 0⟩] scope pos) scope c.env _ (newList []) false (eval iter c.env) (some (PySem.assign (.Name z p) c.env))) _ _ s
  refine wpAny_bind (wpAny_mono (wpAny_comprehension_free (use := some (PySem.assign (.Name z p) c.env)) (Q := fun _ s' => wpAny W.M c.A (execs rest c.env) (OutOk W k s₀ c N none s o) F0 s') rfl hs hclos hkind hnames
    (comp_core (RR := fun acc C => compPost W.M c.A F0 (some (PySem.assign (.Name z p) c.env)) _ acc C) xs enc g r.rd hit hcell hkind hcel hz ht ?_)) (fun _ s' hq => wpAny_pure (wpAny_pure hq)) fun _ _ e => e)
  rintro D C s' q hD hC hDC ⟨m, hn⟩ ⟨vs, p', rl⟩
  show wpAny _ _ (PySem.assign (.Name z p) c.env (.ref D)) _ _ _
  obtain ⟨m0, cm0, ic0, _, _⟩ := r.ic
  have hLC : C ≠ c.env.locals := Ne.symm (Ns.ne ic0.toInCall.ns hC)
  have hCC : ∀ nn, c.env.cells.lookup nn ≠ some C := fun nn x => by obtain ⟨ob, e, _⟩ := ic0.cell nn C x; rw [hC] at e; cases e
  have hC0 : s₀.heap.get? C = none := by
    cases e : s₀.heap.get? C with
    | none => rfl
    | some ob => have := r.keep.ext _ _ e; rw [hC] at this; cases this
  refine wpAny_assign_Name (wpAny_mono (acq_wp r q hx hD p' rl hd) (fun _ s'' ⟨r₂, kb⟩ => ?_) fun _ _ x => x)
  have hn' : s''.heap.Ns C m := hn.at' fun o e => kb _ o hLC hCC (fun h => nomatch h) e
  refine ⟨m, hn', fun h' hs' => ?_⟩
  have hkeep : ∀ b o, b ≠ C → s''.heap.get? b = some o → h'.get? b = some o := fun b o e1 e => hs'.extBut b o e1 e
  obtain ⟨oC, _, _, eC, dC, _⟩ := hn'
  have r₃ : Sta W k s₀ c N (some (z, D, xs.filterMap g)) δ' { s'' with heap := h', toks := s''.toks } :=
    r₂.step (I := C) ⟨oC, eC, fun ⟨xs, n, q⟩ => by rw [dC] at q; cases q⟩ hC0 hLC hCC hkeep
  refine acq_go hD r₃ (fun b ob e1 e2 e3 e => hkeep b ob (fun x => by rw [x, hC] at e; cases e) (kb b ob e1 e2 e3 (q.ext _ _ e))) hr
end
end Mine
end B9S

section B10S
set_option linter.unusedVariables false
set_option maxRecDepth 100000
namespace Mine
section
variable {W : Wd} {k : Nat} {s₀ : Shared} {c : Cx} {N : List Addr} {own : Own} {δ : List (Str × D)}

theorem bindL_not {kd : Str → Option NameKind} {x : Str} : ∀ {bs : List (Str × Value)} {m : Str → Option Value}, x ∉ bs.map (·.1) → bindL kd bs m x = m x
  | [], m, _ => rfl
  | (n, v) :: r, m, h => by
    have h1 : x ≠ n := fun e => h (by simp [e])
    have h2 : x ∉ r.map (·.1) := fun e => h (by simp at e ⊢; exact .inr e)
    show bindL kd r _ x = _
    rw [bindL_not h2]
    split <;> simp [h1]
theorem bindC_not {kd : Str → Option NameKind} {x : Str} : ∀ {bs : List (Str × Value)} {m : Str → Option Value}, x ∉ bs.map (·.1) → bindC kd bs m x = m x
  | [], m, _ => rfl
  | (n, v) :: r, m, h => by
    have h1 : x ≠ n := fun e => h (by simp [e])
    have h2 : x ∉ r.map (·.1) := fun e => h (by simp at e ⊢; exact .inr e)
    show bindC kd r _ x = _
    rw [bindC_not h2]
    split <;> simp [h1]
theorem bindL_mem {kd : Str → Option NameKind} {x : Str} {v : Value} (hk : kd x = some .local) : ∀ {bs : List (Str × Value)} {m : Str → Option Value}, (bs.map (·.1)).Nodup → (x, v) ∈ bs → bindL kd bs m x = some v
  | (n, u) :: r, m, hn, h => by
    have hn' := List.nodup_cons.mp hn
    rcases List.mem_cons.mp h with e | h
    · cases e
      show bindL kd r _ x = _
      rw [bindL_not hn'.1, if_pos hk]; simp
    · exact bindL_mem (bs := r) hk hn'.2 h
theorem bindC_mem {kd : Str → Option NameKind} {x : Str} {v : Value} (hk : kd x ≠ some .local) : ∀ {bs : List (Str × Value)} {m : Str → Option Value}, (bs.map (·.1)).Nodup → (x, v) ∈ bs → bindC kd bs m x = some v
  | (n, u) :: r, m, hn, h => by
    have hn' := List.nodup_cons.mp hn
    rcases List.mem_cons.mp h with e | h
    · cases e
      show bindC kd r _ x = _
      rw [bindC_not hn'.1, if_neg hk]; simp
    · exact bindC_mem (bs := r) hk hn'.2 h

def BndOk (N : List Addr) (h : Heap) (bs : List (Str × Value)) (δ : List (Str × D)) : Prop := bs.map (·.1) = δ.map (·.1) ∧ RepL N h (bs.map (·.2)) (δ.map (·.2))
theorem BndOk.mem {N : List Addr} {h : Heap} {x : Str} {d : D} : ∀ {bs : List (Str × Value)} {δ : List (Str × D)}, BndOk N h bs δ → (x, d) ∈ δ → ∃ v, (x, v) ∈ bs ∧ Rep N h v d
  | [], [], _, h => nomatch h
  | [], _ :: _, ⟨e, _⟩, _ => by simp at e
  | _ :: _, [], ⟨e, _⟩, _ => by simp at e
  | (y, v) :: bs, (z, d') :: δ, ⟨e, r⟩, hm => by
    simp at e
    cases r with
    | cons r1 r2 =>
      rcases List.mem_cons.mp hm with q | hm
      · cases q; exact ⟨v, by simp [e.1], r1⟩
      · obtain ⟨v, h1, h2⟩ := BndOk.mem (bs := bs) (δ := δ) ⟨e.2, r2⟩ hm
        exact ⟨v, .tail _ h1, h2⟩
def Bnd (W : Wd) (fd : FuncData) (ds : List D) (δ : List (Str × D)) : Prop :=
  ∀ A N s vs, (∀ a ∈ N, ∃ o, s.heap.get? a = some o) → RepL N s.heap vs ds → wpAny W.M A (bindArgs fd ⟨vs, []⟩) (fun bs s' => Kp s s' ∧ BndOk N s'.heap bs δ) F0 s
theorem Bnd.one {fd : FuncData} {d : D} {x : Str} (h : ∀ v, bindArgs fd ⟨[v], []⟩ = pure [(x, v)]) : Bnd W fd [d] [(x, d)]   := fun A N s vs _ r => by
  cases r with | cons r1 r => cases r; exact wpAny_of_eq (h _) ⟨.refl _, rfl, .cons r1 .nil⟩
theorem Bnd.two {fd : FuncData} {d d2 : D} {x x2 : Str} (h : ∀ v v2, bindArgs fd ⟨[v, v2], []⟩ = pure [(x, v), (x2, v2)]) : Bnd W fd [d, d2] [(x, d), (x2, d2)]   := fun A N s vs _ r => by
  cases r with | cons r1 r => cases r with | cons r2 r => cases r; exact wpAny_of_eq (h _ _) ⟨.refl _, rfl, .cons r1 (.cons r2 .nil)⟩
theorem Bnd.three {fd : FuncData} {d d2 d3 : D} {x x2 x3 : Str} (h : ∀ v v2 v3, bindArgs fd ⟨[v, v2, v3], []⟩ = pure [(x, v), (x2, v2), (x3, v3)]) : Bnd W fd [d, d2, d3] [(x, d), (x2, d2), (x3, d3)]   := fun A N s vs _ r => by
  cases r with | cons r1 r => cases r with | cons r2 r => cases r with | cons r3 r => cases r; exact wpAny_of_eq (h _ _ _) ⟨.refl _, rfl, .cons r1 (.cons r2 (.cons r3 .nil))⟩
theorem Bnd.four {fd : FuncData} {d d2 d3 d4 : D} {x x2 x3 x4 : Str} (h : ∀ v v2 v3 v4, bindArgs fd ⟨[v, v2, v3, v4], []⟩ = pure [(x, v), (x2, v2), (x3, v3), (x4, v4)]) : Bnd W fd [d, d2, d3, d4] [(x, d), (x2, d2), (x3, d3), (x4, d4)]   := fun A N s vs _ r => by
  cases r with | cons r1 r => cases r with | cons r2 r => cases r with | cons r3 r => cases r with | cons r4 r => cases r; exact wpAny_of_eq (h _ _ _ _) ⟨.refl _, rfl, .cons r1 (.cons r2 (.cons r3 (.cons r4 .nil)))⟩
theorem Bnd.six {fd : FuncData} {d d2 d3 d4 d5 d6 : D} {x x2 x3 x4 x5 x6 : Str} (h : ∀ v v2 v3 v4 v5 v6, bindArgs fd ⟨[v, v2, v3, v4, v5, v6], []⟩ = pure [(x, v), (x2, v2), (x3, v3), (x4, v4), (x5, v5), (x6, v6)]) : Bnd W fd [d, d2, d3, d4, d5, d6] [(x, d), (x2, d2), (x3, d3), (x4, d4), (x5, d5), (x6, d6)]   := fun A N s vs _ r => by
  cases r with | cons r1 r => cases r with | cons r2 r => cases r with | cons r3 r => cases r with | cons r4 r => cases r with | cons r5 r => cases r with | cons r6 r => cases r; exact wpAny_of_eq (h _ _ _ _ _ _) ⟨.refl _, rfl, .cons r1 (.cons r2 (.cons r3 (.cons r4 (.cons r5 (.cons r6 .nil)))))⟩

theorem CallR.fn {a : Addr} {o : Obj} {fd : FuncData} {body : List Stmt} {ds : List D} {d : D} {δ : List (Str × D)} (ho : W.base.get? a = some o) (hd : o.data = .func fd) (hcd : W.base.CodeRec fd.code fd.qualname)
    (hb : Bnd W fd ds δ) (h : ∀ s₀ A L N, Exs W k s₀ ⟨A, callEnvC fd L a⟩ N none δ body (.ret d))
    (hbody : fd.body = .stmts body) (hclo : fd.closure = []) (hgl : fd.globals = mainGlobals) (hbl : fd.builtins = builtinsNs)
    (hnd : (δ.map (·.1)).Nodup) (hkind : ∀ L, ∀ x ∈ δ.map (·.1), fd.scope.names.lookup x = some .local ∨ (fd.scope.names.lookup x = some .cell ∧ ((cellsFrom L fd.scope.names []).lookup x).isSome = true))
    (hco : fd.scope.isCoroutine = false) (hgen : fd.scope.isGenerator = false) (hk : fd.scope.kind = .function) : CallR W (k + 1) (.ref a) ds d := .mk fun A N s vs r rl => by
  have hdp := r.dp
  have hun := r.un
  refine wpAny_call (codeAny_call_function (by omega) (r.bs _ _ ho) hd hco hgen hbody (hcd.keeps r.bs) ?_)
  refine wpAny_mono (hb _ N s vs r.av rl) (fun bs s₁ ⟨q, hB⟩ => ?_) fun _ _ x => x.elim
  have hfst : ∀ x ∈ bs, x.1 ∈ δ.map (·.1) := fun x hx => hB.1 ▸ List.mem_map_of_mem hx
  rw [hclo]
  refine wpAny_newFunctionEnv_cells hk (fun x hx => hkind _ x.1 (hfst x hx)) fun env he s' x => ?_
  have he' : env = callEnvC fd s₁.heap.objs.size a := he
  subst he'
  have bs1 : Ext W.base s₁.heap := fun b o e => q.ext _ _ (r.bs _ _ e)
  refine ⟨W.nl.keeps fun b o e => x.toInCall.keep b o (bs1 b o e), codeAny_func ?_⟩
  have hkd : ∀ y, (callEnvC fd s₁.heap.objs.size a).kindOf y = fd.scope.names.lookup y := fun _ => rfl
  have sta : Sta W k s₁ ⟨A.deeper (callEnvC fd s₁.heap.objs.size a), callEnvC fd s₁.heap.objs.size a⟩ N none δ s' := by
    refine ⟨⟨hk, hgl, hbl, r.hd, by show A.depth + 1 + k < _; omega, by show A.units + 3 + 8 * k + 100 < _; omega⟩, bs1, fun b hb => let ⟨o, e⟩ := r.av b hb; ⟨o, q.ext _ _ e⟩, _, _, x, fun p hp => ?_, fun _ h => nomatch h⟩
    obtain ⟨v, hv, rv⟩ := hB.mem (x := p.1) (d := p.2) hp
    refine ⟨v, ?_, rv.ext x.toInCall.keep⟩
    have hndb : (bs.map (·.1)).Nodup := hB.1 ▸ hnd
    rcases hkind (s₁.heap.objs.size + 1) p.1 (List.mem_map_of_mem hp) with hl | ⟨hl, hs⟩
    · have hl' : (callEnvC fd s₁.heap.objs.size a).kindOf p.1 = some .local := hl
      unfold valOf
      rw [hl']
      exact bindL_mem hl' hndb hv
    · have hl' : (callEnvC fd s₁.heap.objs.size a).kindOf p.1 = some .cell := hl
      unfold valOf
      rw [hl']
      show (if (List.lookup p.1 (callEnvC fd s₁.heap.objs.size a).cells).isSome = true then _ else _) = _
      have hs' : (List.lookup p.1 (callEnvC fd s₁.heap.objs.size a).cells).isSome = true := hs
      rw [if_pos hs']
      exact bindC_mem (by rw [hl']; nofun) hndb hv
  refine wpAny_mono ((h s₁ _ _ N).run s' sta) (fun f s₂ ⟨v, e, h1, h2⟩ => ?_) fun _ _ x => x.elim
  subst e
  exact ⟨q.trans h1, h2⟩

/-! the program's functions -/
def stm (i : Nat) : Stmt := (PySem.Challenge.pw_il0154_01.main.body)[i]?.getD (.Pass ⟨0,0,0,0⟩)
def bodyOf : Stmt → List Stmt
  | .FunctionDef _ _ b .. => b
  | _ => []
def nameOf : Stmt → Str
  | .FunctionDef n .. => n
  | _ => ""
def scopeOf : Stmt → Scope
  | .FunctionDef _ _ _ _ _ _ s .. => s
  | _ => { kind := .function, names := [], isGenerator := false, isCoroutine := false }
def argsOf : Stmt → Arguments
  | .FunctionDef _ a .. => a
  | _ => ⟨[], [], none, [], [], none, []⟩
def fdOf (i : Nat) (pm code doc : Value) : FuncData := Calls.docDef (nameOf (stm i)) (argsOf (stm i)) (bodyOf (stm i)) (scopeOf (stm i)) pm code doc

/-- the i-th statement's function stands in the heap under its name -/
def FnAt (W : Wd) (i : Nat) (f : Str) : Prop := ∃ a o pm code doc, W.mg f = some (.ref a) ∧ W.base.get? a = some o ∧ o.data = .func (fdOf i pm code doc) ∧ W.base.CodeRec code (nameOf (stm i))
/-- what it answers -/
def FnR (W : Wd) (k : Nat) (f : Str) (ds : List D) (d : D) : Prop := ∃ a o fd, W.mg f = some (.ref a) ∧ W.base.get? a = some o ∧ o.data = .func fd ∧ CallR W k (.ref a) ds d

def fenv (i : Nat) (pm code doc : Value) (L a : Addr) : Env := callEnvC (fdOf i pm code doc) L a

theorem FnAt.meets {i : Nat} {f : Str} {ds : List D} {d : D} {δ : List (Str × D)} (hf : FnAt W i f) (hb : ∀ pm code doc, Bnd W (fdOf i pm code doc) ds δ)
    (h : ∀ s₀ A L N pm code doc a, Exs W k s₀ ⟨A, fenv i pm code doc L a⟩ N none δ (bodyOf (stm i)) (.ret d))
    (hnd : (δ.map (·.1)).Nodup := by simp only [List.map]; decide +kernel)
    (hkind : ∀ L, ∀ x ∈ δ.map (·.1), (scopeOf (stm i)).names.lookup x = some .local ∨ ((scopeOf (stm i)).names.lookup x = some .cell ∧ ((cellsFrom L (scopeOf (stm i)).names []).lookup x).isSome = true) := by
      intro L x hx; simp only [List.map, List.mem_cons, List.not_mem_nil, or_false] at hx; repeat' (first | (subst hx; first | exact .inl rfl | exact .inr ⟨rfl, rfl⟩) | rcases hx with hx | hx))
    (hco : (scopeOf (stm i)).isCoroutine = false := by rfl) (hgen : (scopeOf (stm i)).isGenerator = false := by rfl) (hk : (scopeOf (stm i)).kind = .function := by rfl) : FnR W (k + 1) f ds d := by
  obtain ⟨a, o, pm, code, doc, h1, h2, h3, h4⟩ := hf
  exact ⟨a, o, _, h1, h2, h3, CallR.fn h2 h3 h4 (hb pm code doc) (fun s₀ A L N => h s₀ A L N pm code doc a) rfl rfl rfl rfl hnd hkind hco hgen hk⟩

theorem Ev.fn {f : Str} {p pos : Pos} {e : Expr} {es : List Expr} {ds : List D} {d : D} (hc : FnR W k f ds d) (ha : EvL W k c N δ (e :: es) ds)
    (hx : c.env.kindOf f = some .globalImplicit := by kernel_rfl) (hdb : (f == ("__debug__" : Str)) = false := by decide +kernel)
    (he : starEach (e :: es) c.env = (false, eval e c.env) :: starEach es c.env := by rfl)
    (hp : ∀ pos, (backTo pos (starEach (e :: es) c.env)).any (·.1) = false := by intro _; rfl) : Ev W k c N δ (.Call (.Name f p) (e :: es) [] pos) d := by
  obtain ⟨a, o, fd, h1, h2, h3, h4⟩ := hc
  exact Ev.callDef h1 h2 h3 h4 hx hdb ha he hp

theorem FnR.mono {k k' : Nat} {f : Str} {ds : List D} {d : D} (h : FnR W k f ds d) (hk : k ≤ k') : FnR W k' f ds d := by
  obtain ⟨a, o, fd, h1, h2, h3, h4⟩ := h
  exact ⟨a, o, fd, h1, h2, h3, .mk fun A N s vs r rl => h4.run A N s vs ⟨r.hd, Nat.lt_of_le_of_lt (by omega) r.dp, Nat.lt_of_le_of_lt (by omega) r.un, r.bs, r.av⟩ rl⟩
end
end Mine
end B10S

section B11S
set_option linter.unusedVariables false
set_option maxRecDepth 100000
namespace Mine
section
variable {W : Wd} {k : Nat} {s₀ : Shared} {c : Cx} {N : List Addr} {own : Own} {δ : List (Str × D)}

theorem UnR.neg {i : Int} : UnR W k .USub (.int i) (.int (-i)) := .mk fun A N s v _ r => by
  cases r; exact neg_int ⟨.tok _ _, .int _ _⟩
theorem InR.addInt {a b : Int} : InR W k .Add (.int a) (.int b) (.int (a + b)) := .mk fun A N s v u _ r q => by
  cases r; cases q; exact iadd_int ⟨.tok _ _, .int _ _⟩
theorem InR.divInt {a b : Int} (ha : 0 ≤ a) (hb : 0 < b) (hs : Builtin.divisionGoesByPylong a b = false) : InR W k .FloorDiv (.int a) (.int b) (.int (a.fdiv b)) := .mk fun A N s v u _ r q => by
  cases r; cases q
  refine AutoIntOps.ifloordiv_1 (by simp; omega) (by simp [hs]) ?_
  exact ⟨.tok _ _, .int _ _⟩
theorem abs_R {i : Int} : CallR W k (.builtin "abs") [.int i] (.int (if i < 0 then -i else i)) := .mk fun A N s vs _ rl => by
  cases rl with | cons r rl => cases rl; cases r; exact call_abs_int fun u tk => ⟨.tok _ _, .int _ _⟩
theorem chr_R {n : Nat} (hn : n < 1114112) : CallR W k (.builtin "chr") [.int (n : Nat)] (sT [n]) := .mk fun A N s vs _ rl => by
  cases rl with | cons r rl => cases rl; cases r; exact P.chr_of_int (by simp; omega) ⟨.tok _ _, .str _ _⟩
theorem ord_R {n : Nat} : CallR W k (.builtin "ord") [sT [n]] (.int (n : Nat)) := .mk fun A N s vs _ rl => by
  cases rl with | cons r rl => cases rl; cases r; exact P.ord_of_char ⟨.tok _ _, .int _ _⟩

/-! bytes of a list of numbers -/
theorem ints_of {N : List Addr} {h : Heap} : ∀ {vs : List Value} {l : List Nat}, RepL N h vs (l.map fun n => D.int (n : Nat)) → IntsAre vs (l.map fun n => ((n : Nat) : Int))
  | [], [], _ => by constructor
  | _ :: _, [], r => nomatch r
  | [], _ :: _, r => nomatch r
  | v :: vs, n :: l, r => by
    cases r with
    | cons a r =>
      cases a
      exact .cons _ _ (ints_of r)
theorem bytes_R {l : List Nat} (hb : Bd l) (hz : l.length ≤ 16777216) : CallR W k (.type "bytes") [.lst (l.map fun n => D.int (n : Nat))] (.bytes (bA l)) := .mk fun A N s vs hp rl => by
  cases rl with
  | cons r rl =>
    cases rl
    cases r with
    | lst p hN rl =>
      obtain ⟨n, e⟩ := p
      have hi := ints_of rl
      refine call_bytes_ints ⟨_, e, rfl, n, rfl⟩ hi (fun x hx => ?_) (by rw [rl.length, sizeLine_eq]; simpa using hz) hp.hd fun h' t kk hk => ⟨⟨h', kk, rfl, hk⟩, ?_⟩
      · obtain ⟨m, hm, rfl⟩ := List.mem_map.mp hx
        have := hb m hm
        omega
      · have : byteArr (l.map fun n => ((n : Nat) : Int)) = bA l := by
          unfold byteArr bA
          rw [List.map_map]
          rfl
        rw [this]
        exact .bytes _ _

/-! signs in texts -/
def rix (c : Nat) : List Nat → Int
  | [] => -1
  | x :: l => if 0 ≤ rix c l then rix c l + 1 else if x = c then 0 else -1
theorem rix_spec (c : Nat) : ∀ l : List Nat, (rix c l = -1 ∧ ∀ i : Nat, l[i]? ≠ some c) ∨ ∃ i : Nat, rix c l = (i : Int) ∧ l[i]? = some c ∧ ∀ k : Nat, i < k → l[k]? ≠ some c
  | [] => .inl ⟨rfl, fun i => by simp⟩
  | x :: l => by
    unfold rix
    rcases rix_spec c l with ⟨h1, h2⟩ | ⟨i, h1, h2, h3⟩
    · rw [h1, if_neg (by omega)]
      by_cases hx : x = c
      · rw [if_pos hx]
        refine .inr ⟨0, rfl, by simp [hx], fun k hk => ?_⟩
        cases k with
        | zero => omega
        | succ k => simpa using h2 k
      · rw [if_neg hx]
        refine .inl ⟨rfl, fun i => ?_⟩
        cases i with
        | zero => simpa using hx
        | succ i => simpa using h2 i
    · rw [h1, if_pos (by omega)]
      refine .inr ⟨i + 1, by omega, by simpa using h2, fun k hk => ?_⟩
      cases k with
      | zero => omega
      | succ k => simpa using h3 k (by omega)
theorem rix_eq {c : Nat} {l : List Nat} {r : Int} (h : (r = -1 ∧ ∀ i : Nat, l[i]? ≠ some c) ∨ ∃ i : Nat, r = (i : Int) ∧ l[i]? = some c ∧ ∀ k : Nat, i < k → l[k]? ≠ some c) : r = rix c l := by
  rcases h with ⟨h1, h2⟩ | ⟨i, h1, h2, h3⟩ <;> rcases rix_spec c l with ⟨g1, g2⟩ | ⟨j, g1, g2, g3⟩
  · rw [h1, g1]
  · exact absurd g2 (h2 _)
  · exact absurd h2 (g2 _)
  · rcases Nat.lt_trichotomy i j with h | h | h
    · exact absurd g2 (h3 _ h)
    · rw [h1, g1, h]
    · exact absurd h2 (g3 _ h)
theorem at1 {l : List Nat} {c i : Nat} : StrLaws.At ⟨l.toArray⟩ ⟨#[c]⟩ (⟨l.toArray⟩ : Str).length i ↔ l[i]? = some c := by
  have hl : (⟨l.toArray⟩ : Str).length = l.length := rfl
  have h1 : (⟨#[c]⟩ : Str).length = 1 := rfl
  unfold StrLaws.At Builtin.Str.subAt
  rw [hl, h1]
  have e : (l.toArray.extract i (i + 1) == #[c]) = ((l.drop i).take 1 == [c]) := by
    have : l.toArray.extract i (i + 1) = ((l.drop i).take 1).toArray := by
      rw [List.extract_toArray, List.extract_eq_drop_take]
      congr 2
      omega
    rw [this]
    exact List.beq_toArray ..
  show (i + 1 ≤ l.length ∧ (l.toArray.extract i (i + 1) == #[c]) = true) ↔ _
  rw [e]
  constructor
  · rintro ⟨h2, h3⟩
    have h4 := eq_of_beq h3
    rw [List.take_one, List.head?_drop] at h4
    cases h : l[i]? with
    | none => rw [h] at h4; cases h4
    | some x => rw [h] at h4; simp at h4; rw [h4]
  · intro h
    have := (List.getElem?_eq_some_iff.mp h).1
    refine ⟨by omega, ?_⟩
    rw [List.take_one, List.head?_drop, h]
    simp
theorem rfind_one (l : List Nat) (c : Nat) : Txt.rfind ⟨l.toArray⟩ ⟨#[c]⟩ = rix c l := by
  apply rix_eq
  rcases rfind_whole ⟨l.toArray⟩ ⟨#[c]⟩ with ⟨h1, h2⟩ | ⟨i, h1, h2, h3⟩
  · exact .inl ⟨h1, fun i h => h2 i (at1.mpr h)⟩
  · exact .inr ⟨i, h1, at1.mp h2, fun k hk h => h3 k hk (at1.mpr h)⟩
theorem contains_one (l : List Nat) (c : Nat) : Txt.contains ⟨l.toArray⟩ ⟨#[c]⟩ = decide (c ∈ l) := by
  unfold Txt.contains
  rcases StrLaws.occ_head ⟨l.toArray⟩ ⟨#[c]⟩ 1 (Nat.le_refl _) with ⟨h1, h2⟩ | ⟨i, r, h1, h2, _⟩
  · rw [h1]
    symm
    simp only [List.isEmpty_nil, Bool.not_true, decide_eq_false_iff_not]
    intro h
    obtain ⟨i, hi⟩ := List.getElem?_of_mem h
    exact h2 i (at1.mpr hi)
  · rw [h1]
    simp only [List.isEmpty_cons, Bool.not_false]
    symm
    exact decide_eq_true (List.mem_of_getElem? (at1.mp h2))
theorem starts_one (l : List Nat) (c : Nat) : Txt.startswith ⟨l.toArray⟩ ⟨#[c]⟩ = (l.head? == some c) := by
  have h := at1 (l := l) (c := c) (i := 0)
  unfold StrLaws.At at h
  unfold Txt.startswith
  rw [← List.head?_eq_getElem?] at h
  rw [Bool.eq_iff_iff, Bool.and_eq_true, decide_eq_true_eq, beq_iff_eq]
  exact h
theorem ends_one (l : List Nat) (c : Nat) : Txt.endswith ⟨l.toArray⟩ ⟨#[c]⟩ = (l.getLast? == some c) := by
  have h := at1 (l := l) (c := c) (i := l.length - 1)
  unfold StrLaws.At at h
  unfold Txt.endswith
  rw [← List.getLast?_eq_getElem?] at h
  rw [Bool.eq_iff_iff, Bool.and_eq_true, decide_eq_true_eq, beq_iff_eq, ← h]
  show (0 + 1 ≤ l.length ∧ _) ↔ (l.length - 1 + 1 ≤ l.length ∧ _)
  constructor
  · rintro ⟨h1, h2⟩; exact ⟨by omega, h2⟩
  · rintro ⟨h1, h2⟩
    refine ⟨?_, h2⟩
    cases l with
    | nil => simp at h1
    | cons => simp

theorem rfind_S {l : List Nat} {c : Nat} : CallR W k (.builtin "str.rfind") [sT l, sT [c]] (.int (rix c l)) := .mk fun A N s vs _ rl => by
  cases rl with | cons r rl => cases rl with | cons r2 rl => cases rl; cases r; cases r2; exact SC.rfind ⟨.tok _ _, by rw [show (⟨[c].toArray⟩ : Str) = ⟨#[c]⟩ from rfl, rfind_one]; exact .int _ _⟩
theorem starts_S {l : List Nat} {c : Nat} : CallR W k (.builtin "str.startswith") [sT l, sT [c]] (.bool (l.head? == some c)) := .mk fun A N s vs _ rl => by
  cases rl with | cons r rl => cases rl with | cons r2 rl => cases rl; cases r; cases r2; exact SC.startswith ⟨.refl _, by rw [show (⟨[c].toArray⟩ : Str) = ⟨#[c]⟩ from rfl, starts_one]; exact .bool _⟩
theorem ends_S {l : List Nat} {c : Nat} : CallR W k (.builtin "str.endswith") [sT l, sT [c]] (.bool (l.getLast? == some c)) := .mk fun A N s vs _ rl => by
  cases rl with | cons r rl => cases rl with | cons r2 rl => cases rl; cases r; cases r2; exact SC.endswith ⟨.refl _, by rw [show (⟨[c].toArray⟩ : Str) = ⟨#[c]⟩ from rfl, ends_one]; exact .bool _⟩
theorem CmpR.inS {l : List Nat} {c : Nat} : CmpR W k .In (sT [c]) (sT l) (decide (c ∈ l)) := .mk fun A N s v u _ r q => by
  cases r; cases q; exact SB.contains ⟨.refl _, by rw [show (⟨[c].toArray⟩ : Str) = ⟨#[c]⟩ from rfl, contains_one]⟩
end
end Mine
end B11S

section B12S
set_option linter.unusedVariables false
set_option maxRecDepth 100000
namespace Mine
section
variable {W : Wd} {k : Nat} {s₀ : Shared} {c : Cx} {N : List Addr} {own : Own} {δ : List (Str × D)}

theorem slot_bytes_rfind : Slot "bytes" "rfind" "bytes.rfind" :=
  .of (owner := "bytes") (n := "rfind") (by rw [typeLookup_type, builtinLookup_eq_fast]; kernel_rfl) (by decide +kernel) (by decide +kernel) (by decide +kernel)
    (by first | exact .inl (by decide +kernel) | exact .inr (by decide +kernel)) (by rw [isSubtype_type]; kernel_rfl)
theorem type_bytes_rfind : typeOf (.builtin "bytes.rfind") = pure (.type "method_descriptor") := by show builtinType _ = _; rw [builtinType_eq_fast]; kernel_rfl
theorem entry_bytes_rfind : entryFor table "bytes.rfind" = some Builtin.«bytes.rfind» := entryFor_of_tree (by kernel_rfl)
theorem args_bytes_rfind_2 (a b : Value) : argsOk "bytes.rfind" ⟨[a, b], []⟩ := by
  unfold argsOk; rw [signature?_of (id := "bytes.rfind") (n := ['d', 'n', 'i', 'f', 'r']) (o := ['s', 'e', 't', 'y', 'b']) (by kernel_rfl) FB.owner_bytes]; kernel_rfl

theorem bytes_at {l : List Nat} (hb : Bd l) {c : Nat} (hc : c < 256) {i : Nat} : ((bA l).extract i (i + 1) == bA [c]) = true ↔ l[i]? = some c := by
  have e : (bA l).extract i (i + 1) = bA ((l.drop i).take 1) := by
    unfold bA
    rw [List.extract_toArray, List.extract_eq_take_drop, List.map_take, List.map_drop]
    congr 2
    omega
  rw [e, beq_iff_eq]
  constructor
  · intro h
    have h4 := bA_inj (fun x hx => hb x (List.mem_of_mem_drop (List.mem_of_mem_take hx))) (fun x hx => by rw [List.mem_singleton.mp hx]; exact hc) h
    rw [List.take_one, List.head?_drop] at h4
    cases h : l[i]? with
    | none => rw [h] at h4; cases h4
    | some x => rw [h] at h4; simp at h4; rw [h4]
  · intro h
    rw [List.take_one, List.head?_drop, h]
    rfl
theorem brfind_one {l : List Nat} (hb : Bd l) {c : Nat} (hc : c < 256) : (match Builtin.Bytes.rfind? (bA l) (bA [c]) 0 l.length with | some i => (i : Int) | none => -1) = rix c l := by
  apply rix_eq
  have hz : (bA [c]).size = 1 := rfl
  unfold Builtin.Bytes.rfind?
  rw [hz]
  cases h : (((List.range (l.length + 1 - (0 + 1))).map (· + 0)).reverse.find? fun i => (bA l).extract i (i + 1) == bA [c]) with
  | none =>
    refine .inl ⟨rfl, fun i hi => ?_⟩
    rw [List.find?_eq_none] at h
    exact h i (by have := (List.getElem?_eq_some_iff.mp hi).1; simp; omega) ((bytes_at hb hc).mpr hi)
  | some i =>
    refine .inr ⟨i, rfl, ?_⟩
    rw [List.find?_eq_some_iff_append] at h
    obtain ⟨h1, as, bs, h2, h3⟩ := h
    refine ⟨(bytes_at hb hc).mp h1, fun k hk hkc => ?_⟩
    have hkl := (List.getElem?_eq_some_iff.mp hkc).1
    have hm : k ∈ as := by
      have hs : ((List.range l.length).map (· + 0)).reverse = as ++ i :: bs := by
        rw [← h2]; congr 3
      have hrev : List.range l.length = bs.reverse ++ i :: as.reverse := by
        have := congrArg List.reverse hs
        simpa using this
      have hsort := List.pairwise_lt_range (n := l.length)
      have hkm : k ∈ bs.reverse ++ i :: as.reverse := hrev ▸ List.mem_range.mpr hkl
      rw [hrev] at hsort
      have hp := List.pairwise_append.mp hsort
      rcases List.mem_append.mp hkm with hk' | hk'
      · exact absurd (hp.2.2 k hk' i (.head _)) (by omega)
      · rcases List.mem_cons.mp hk' with rfl | hk'
        · omega
        · exact List.mem_reverse.mp hk'
    have := h3 k hm
    rw [(bytes_at hb hc).mpr hkc] at this
    cases this

theorem rfind_B {l : List Nat} (hb : Bd l) {c : Nat} (hc : c < 256) : CallR W k (.builtin "bytes.rfind") [bT l, bT [c]] (.int (rix c l)) := .mk fun A N s vs _ rl => by
  cases rl with | cons r rl => cases rl with | cons r2 rl =>
  cases rl
  cases r with | bytes _ t =>
  cases r2 with | bytes _ u =>
  refine wpAny_call_entry slot_bytes_rfind (PySem.W.typeIs_bytes _ _ _) entry_bytes_rfind ?_ (args_bytes_rfind_2 _ _)
  show wpAny _ _ (Builtin.Bytes.searchM .bytes "rfind" true false ⟨[.bytes (bA l) t, .bytes (bA [c]) u], []⟩) _ _ s
  unfold Builtin.Bytes.searchM Builtin.Bytes.searchArgs
  refine wpAny_bind (wpAny_bind ?_)
  refine wpAny_of_eq (a := (.bytes (bA l) t, [.bytes (bA [c]) u])) (by rfl) ?_
  dsimp only
  refine wpAny_bind (wpAny_of_eq (a := none) (by rfl) ?_)
  refine wpAny_bind (wpAny_of_eq (a := none) (by rfl) ?_)
  refine wpAny_bind (m := Builtin.Bytes.buffer? _ (.bytes (bA [c]) u)) (wpAny_of_eq (a := some (bA [c])) KBy.buffer_eq ?_)
  dsimp only
  refine wpAny_pure ?_
  have hz : (bA l).size = l.length := by simp [bA]
  have hw : Builtin.Bytes.window (bA l).size none none = (0, (l.length : Int)) := by
    rw [hz]
    unfold Builtin.Bytes.window
    have : ¬ ((l.length : Int) < 0) := by omega
    simp [this]
  rw [hw]
  dsimp only
  have h1 : (bA [c]).size = 1 := rfl
  rw [h1]
  have main := brfind_one hb hc
  by_cases h0 : l = []
  · subst h0
    refine wpAny_bind (wpAny_rule ?_)
    show wpAny _ _ (retInt (-1)) _ _ _
    exact fun _ _ _ => ⟨_, rfl, .tok _ _, .int _ _⟩
  · have hl : 0 < l.length := List.length_pos_iff.mpr h0
    rw [if_neg (by omega)]
    show wpAny _ _ (match Builtin.Bytes.rfind? (bA l) (bA [c]) 0 l.length with | some i => _ | none => _) _ _ _
    cases hr : Builtin.Bytes.rfind? (bA l) (bA [c]) 0 l.length with
    | some i =>
      rw [hr] at main
      rw [← main]
      show wpAny _ _ (retInt (i : Int)) _ _ _
      exact fun _ _ _ => ⟨_, rfl, .tok _ _, .int _ _⟩
    | none =>
      rw [hr] at main
      rw [← main]
      refine wpAny_bind (wpAny_rule ?_)
      show wpAny _ _ (retInt (-1)) _ _ _
      exact fun _ _ _ => ⟨_, rfl, .tok _ _, .int _ _⟩

theorem starts_B {l : List Nat} (hb : Bd l) {c : Nat} (hc : c < 256) : CallR W k (.builtin "bytes.startswith") [bT l, bT [c]] (.bool (l.head? == some c)) := .mk fun A N s vs _ rl => by
  cases rl with | cons r rl => cases rl with | cons r2 rl =>
  cases rl
  cases r with | bytes _ t =>
  cases r2 with | bytes _ u =>
  refine wpAny_call_entry FB.slot_bytes_startswith (PySem.W.typeIs_bytes _ _ _) FB.entry_bytes_startswith ?_ (FB.args_bytes_startswith_2 _ _)
  show wpAny _ _ (Builtin.Bytes.tailMatchM .bytes "startswith" false ⟨[.bytes (bA l) t, .bytes (bA [c]) u], []⟩) _ _ s
  unfold Builtin.Bytes.tailMatchM
  refine wpAny_bind ?_
  refine wpAny_of_eq (a := (.bytes (bA l) t, [.bytes (bA [c]) u])) (by rfl) ?_
  dsimp only
  refine wpAny_bind (wpAny_of_eq (a := none) (by rfl) ?_)
  refine wpAny_bind (wpAny_of_eq (a := none) (by rfl) ?_)
  refine wpAny_bind (m := Builtin.Bytes.payload (.bytes (bA l) t)) (wpAny_of_eq (a := bA l) (by rfl) ?_)
  have hz : (bA l).size = l.length := by simp [bA]
  have hw : Builtin.Bytes.window (bA l).size none none = (0, (l.length : Int)) := by
    rw [hz]
    unfold Builtin.Bytes.window
    have : ¬ ((l.length : Int) < 0) := by omega
    simp [this]
  rw [hw]
  dsimp only
  refine wpAny_bind (m := isInstance (.bytes (bA [c]) u) (.type "tuple")) (wpAny_isInstance (T := "bytes") (b := false) (PySem.W.typeIs_bytes _ _ _) (by rw [isSubtype_type]; kernel_rfl) ?_)
  rw [if_neg Bool.false_ne_true]
  refine wpAny_bind (m := Builtin.Bytes.buffer? _ (.bytes (bA [c]) u)) (wpAny_of_eq (a := some (bA [c])) KBy.buffer_eq ?_)
  dsimp only
  have hfit : (if (l.length : Int) - 0 < (((bA [c]).size : Nat) : Int) then false else if false = true then ((bA l).extract ((l.length : Int).toNat - (bA [c]).size) (l.length : Int).toNat == bA [c]) else ((bA l).extract (0 : Int).toNat ((0 : Int).toNat + (bA [c]).size) == bA [c])) = (l.head? == some c) := by
    have hs : (bA [c]).size = 1 := rfl
    rw [hs, if_neg Bool.false_ne_true]
    have hh := bytes_at hb hc (i := 0)
    rw [← List.head?_eq_getElem?] at hh
    by_cases h0 : l = []
    · subst h0; rfl
    · have hl : 0 < l.length := List.length_pos_iff.mpr h0
      rw [if_neg (by omega), Bool.eq_iff_iff, beq_iff_eq (a := l.head?)]
      exact hh
  refine wpAny_pure ⟨_, rfl, .refl _, ?_⟩
  rw [← hfit]
  exact .bool _
theorem ends_B {l : List Nat} (hb : Bd l) {c : Nat} (hc : c < 256) : CallR W k (.builtin "bytes.endswith") [bT l, bT [c]] (.bool (l.getLast? == some c)) := .mk fun A N s vs _ rl => by
  cases rl with | cons r rl => cases rl with | cons r2 rl =>
  cases rl
  cases r with | bytes _ t =>
  cases r2 with | bytes _ u =>
  refine wpAny_call_entry FB.slot_bytes_endswith (PySem.W.typeIs_bytes _ _ _) FB.entry_bytes_endswith ?_ (FB.args_bytes_endswith_2 _ _)
  show wpAny _ _ (Builtin.Bytes.tailMatchM .bytes "endswith" true ⟨[.bytes (bA l) t, .bytes (bA [c]) u], []⟩) _ _ s
  unfold Builtin.Bytes.tailMatchM
  refine wpAny_bind ?_
  refine wpAny_of_eq (a := (.bytes (bA l) t, [.bytes (bA [c]) u])) (by rfl) ?_
  dsimp only
  refine wpAny_bind (wpAny_of_eq (a := none) (by rfl) ?_)
  refine wpAny_bind (wpAny_of_eq (a := none) (by rfl) ?_)
  refine wpAny_bind (m := Builtin.Bytes.payload (.bytes (bA l) t)) (wpAny_of_eq (a := bA l) (by rfl) ?_)
  have hz : (bA l).size = l.length := by simp [bA]
  have hw : Builtin.Bytes.window (bA l).size none none = (0, (l.length : Int)) := by
    rw [hz]
    unfold Builtin.Bytes.window
    have : ¬ ((l.length : Int) < 0) := by omega
    simp [this]
  rw [hw]
  dsimp only
  refine wpAny_bind (m := isInstance (.bytes (bA [c]) u) (.type "tuple")) (wpAny_isInstance (T := "bytes") (b := false) (PySem.W.typeIs_bytes _ _ _) (by rw [isSubtype_type]; kernel_rfl) ?_)
  rw [if_neg Bool.false_ne_true]
  refine wpAny_bind (m := Builtin.Bytes.buffer? _ (.bytes (bA [c]) u)) (wpAny_of_eq (a := some (bA [c])) KBy.buffer_eq ?_)
  dsimp only
  have hfit : (if (l.length : Int) - 0 < (((bA [c]).size : Nat) : Int) then false else if true = true then ((bA l).extract ((l.length : Int).toNat - (bA [c]).size) (l.length : Int).toNat == bA [c]) else ((bA l).extract (0 : Int).toNat ((0 : Int).toNat + (bA [c]).size) == bA [c])) = (l.getLast? == some c) := by
    have hs : (bA [c]).size = 1 := rfl
    rw [hs, if_pos rfl]
    have hh := bytes_at hb hc (i := l.length - 1)
    rw [← List.getLast?_eq_getElem?] at hh
    by_cases h0 : l = []
    · subst h0; rfl
    · have hl : 0 < l.length := List.length_pos_iff.mpr h0
      rw [if_neg (by omega), Bool.eq_iff_iff, beq_iff_eq (a := l.getLast?), ← hh]
      have e1 : (l.length : Int).toNat - 1 = l.length - 1 := by omega
      have e2 : (l.length : Int).toNat = l.length - 1 + 1 := by omega
      rw [e1, e2]
  refine wpAny_pure ⟨_, rfl, .refl _, ?_⟩
  rw [← hfit]
  exact .bool _
end
end Mine
end B12S

section B13S
set_option linter.unusedVariables false
set_option maxRecDepth 100000
namespace Mine
section
variable {W : Wd} {k : Nat} {s₀ : Shared} {c : Cx} {N : List Addr} {own : Own} {δ : List (Str × D)}

/-! kinds -/
def kindT (o : Bool) : Value := .type (if o then "bytes" else "str")
theorem tx_typeIs {s : Shared} {v : Value} {o : Bool} {l : List Nat} (r : Rep N s.heap v (Tx o l)) : s.TypeIs v (if o then "bytes" else "str") := by
  cases o
  · exact r.typeIs rfl
  · exact r.typeIs rfl
theorem type_R {o : Bool} {l : List Nat} : CallR W k (.type "type") [Tx o l] (.imm (kindT o)) := .mk fun A N s vs _ rl => by
  cases rl with | cons r rl =>
  cases rl
  cases o
  · exact call_type_of (tx_typeIs r) (by decide +kernel) ⟨.refl _, .imm _ (by intro a h; cases h)⟩
  · exact call_type_of (tx_typeIs r) (by decide +kernel) ⟨.refl _, .imm _ (by intro a h; cases h)⟩
theorem isBytes_R {o : Bool} {l : List Nat} : CallR W k (.builtin "isinstance") [Tx o l, .imm (.type "bytes")] (.bool o) := .mk fun A N s vs _ rl => by
  cases rl with | cons r rl => cases rl with | cons r2 rl =>
  cases rl
  cases r2
  cases o
  · cases r
    exact IsiPair.str_bytes ⟨.tok _ _, .bool _⟩
  · cases r
    exact call_isinstance (isinstance_true (Tx := "bytes") F.isi_meta_bytes F.sub_bytes_bytes) ⟨PySem.W.typeIs_bytes _ _ _, .refl _, .bool _⟩

/-! sum -/
theorem intItems_of : ∀ {vs : List Value} {l : List Nat} {N : List Addr} {h : Heap}, RepL N h vs (l.map fun n => D.int (n : Nat)) → ∃ ys : List (Int × Tok), vs = ys.map (fun p => .int p.1 p.2) ∧ ys.map (·.1) = l.map fun n => ((n : Nat) : Int)
  | [], [], _, _, _ => ⟨[], rfl, rfl⟩
  | _ :: _, [], _, _, r => nomatch r
  | [], _ :: _, _, _, r => nomatch r
  | v :: vs, n :: l, _, _, r => by
    cases r with
    | cons a r =>
      cases a with | int _ t =>
      obtain ⟨ys, h1, h2⟩ := intItems_of r
      exact ⟨(_, t) :: ys, by rw [h1]; rfl, by simp [h2]⟩
theorem natSum : ∀ l : List Nat, (l.map fun n => ((n : Nat) : Int)).sum = (l.sum : Nat)
  | [] => rfl
  | n :: l => by simp [natSum l]
theorem sum_R {l : List Nat} : CallR W k (.builtin "sum") [.lst (l.map fun n => D.int (n : Nat))] (.int (l.sum : Nat)) := .mk fun A N s vs hp rl => by
  cases rl with | cons r rl =>
  cases rl
  cases r with | @lst a vs _ p hN rl =>
  obtain ⟨n, e⟩ := p
  obtain ⟨ys, h1, h2⟩ := intItems_of rl
  refine sum_intListG (xs := ys.toArray) hp.hd ⟨_, e, rfl, n, by rw [h1]; simp [intItems]⟩ fun h' tk t' hk => ⟨⟨h', tk, rfl, hk⟩, ?_⟩
  have : preSum (numAt ys.toArray) ys.toArray.size = ((l.sum : Nat) : Int) := by
    rw [preSum_eq, List.take_of_length_le (by simp)]
    show (ys.map (·.1)).sum = _
    rw [h2, natSum]
  rw [this]
  exact .int _ _

/-! texts: join, repetition -/
def jn (sep : List Nat) : List (List Nat) → List Nat
  | [] => []
  | [x] => x
  | x :: r => x ++ sep ++ jn sep r
theorem strs_of : ∀ {vs : List Value} {ls : List (List Nat)} {N : List Addr} {h : Heap}, RepL N h vs (ls.map sT) → ∃ l : List (Str × Tok), vs = strValues l ∧ l.map (·.1) = ls.map fun x => (⟨x.toArray⟩ : Str)
  | [], [], _, _, _ => ⟨[], rfl, rfl⟩
  | _ :: _, [], _, _, r => nomatch r
  | [], _ :: _, _, _, r => nomatch r
  | v :: vs, n :: l, _, _, r => by
    cases r with
    | cons a r =>
      cases a with | str _ t =>
      obtain ⟨ys, h1, h2⟩ := strs_of r
      exact ⟨(_, t) :: ys, by rw [h1]; rfl, by simp [h2]⟩
theorem join_eq (sep : List Nat) : ∀ ls : List (List Nat), Str.join ⟨sep.toArray⟩ (ls.map fun x => (⟨x.toArray⟩ : Str)) = ⟨(jn sep ls).toArray⟩
  | [] => rfl
  | [x] => rfl
  | x :: y :: r => by
    have := join_eq sep (y :: r)
    show (⟨x.toArray⟩ : Str) ++ ⟨sep.toArray⟩ ++ Str.join ⟨sep.toArray⟩ (((y :: r)).map fun x => (⟨x.toArray⟩ : Str)) = ⟨(x ++ sep ++ jn sep (y :: r)).toArray⟩
    rw [this]
    show (⟨x.toArray ++ sep.toArray ++ (jn sep (y :: r)).toArray⟩ : Str) = _
    simp
theorem joinOk (sep : List Nat) (ls : List (List Nat)) (h : (ls.map List.length).sum + ls.length * sep.length ≤ 16777216) : JoinOk ⟨sep.toArray⟩ (ls.map fun x => (⟨x.toArray⟩ : Str)) = true := by
  unfold JoinOk
  have key : ∀ (l : List (List Nat)) (a : Nat), (l.map fun x => (⟨x.toArray⟩ : Str)).foldl (· + ·.length + (⟨sep.toArray⟩ : Str).length) a = a + (l.map List.length).sum + l.length * sep.length := by
    intro l
    induction l with
    | nil => intro a; simp
    | cons x r ih =>
      intro a
      rw [List.map_cons, List.foldl_cons, ih]
      have e1 : (⟨x.toArray⟩ : Str).length = x.length := rfl
      have e2 : (⟨sep.toArray⟩ : Str).length = sep.length := rfl
      rw [e1, e2]
      simp only [List.map_cons, List.sum_cons, List.length_cons, Nat.add_mul]
      omega
  rw [List.foldl_toArray, key]
  have : Builtin.Str.tooLong (0 + (ls.map List.length).sum + ls.length * sep.length) = false := by
    unfold Builtin.Str.tooLong
    rw [sizeLine_eq]
    simp
    omega
  rw [this]
  rfl
theorem join_S {sep : List Nat} {ls : List (List Nat)} (hz : (ls.map List.length).sum + ls.length * sep.length ≤ 16777216) : CallR W k (.builtin "str.join") [sT sep, .lst (ls.map sT)] (sT (jn sep ls)) := .mk fun A N s vs _ rl => by
  cases rl with | cons r rl => cases rl with | cons r2 rl =>
  cases rl
  cases r with | str _ t =>
  cases r2 with | @lst a vs _ p hN rl =>
  obtain ⟨n, e⟩ := p
  obtain ⟨l, h1, h2⟩ := strs_of rl
  refine SC.join (l := l) (texts := ls.map fun x => (⟨x.toArray⟩ : Str)) ⟨_, e, rfl, n, by rw [h1]⟩ h2 (joinOk sep ls hz) fun t' kk => ⟨.tok _ _, ?_⟩
  have : Txt.join ⟨sep.toArray⟩ (ls.map fun x => (⟨x.toArray⟩ : Str)) = ⟨(jn sep ls).toArray⟩ := by
    unfold Txt.join
    rw [StrLaws.glued_eq_join, join_eq]
  rw [this]
  exact .str _ _
theorem BinR.mulS {x n : Nat} (hn : n ≤ 1000000) : BinR W k .Mult (sT [x]) (.int (n : Nat)) (sT (List.replicate n x)) := .mk fun A N s v u _ r q => by
  cases r with | str _ t =>
  cases q with | int _ t' =>
  have hl : (⟨[x].toArray⟩ : Str).length = 1 := rfl
  refine SB.mul ⟨?_, fun h1 h2 => ?_, fun h1 h2 => ?_⟩ fun t' kk => ⟨.tok _ _, ?_⟩
  · rw [Bool.or_eq_false_iff, decide_eq_false_iff_not, decide_eq_false_iff_not]; constructor <;> omega
  · rw [hl]
    have : (1 : Int) ≤ (2 ^ 63 - 1) / n := by
      apply Int.le_ediv_of_mul_le <;> omega
    omega
  · rw [hl]
    unfold Builtin.Str.tooLong
    rw [sizeLine_eq]
    simp
    omega
  · have : Txt.mul ⟨[x].toArray⟩ (n : Int) = ⟨(List.replicate n x).toArray⟩ := by
      have key : ∀ (m : Nat) (a : Array Nat), (List.replicate m (#[x] : Array Nat)).foldl (· ++ ·) a = a ++ (List.replicate m x).toArray := by
        intro m
        induction m with
        | zero => intro a; simp
        | succ m ih =>
          intro a
          rw [List.replicate_succ, List.foldl_cons, ih, List.replicate_succ]
          apply Array.toList_inj.mp
          simp
      unfold Txt.mul
      match n with
      | 0 => rfl
      | 1 => rfl
      | m + 2 =>
        rw [if_neg (by omega), if_neg (by rw [hl]; simp; omega)]
        have e : ((m + 2 : Nat) : Int).toNat = m + 2 := by omega
        rw [e]
        show (⟨_⟩ : Str) = _
        rw [show (⟨[x].toArray⟩ : Str).cps = #[x] from rfl, key]
        simp
    rw [this]
    exact .str _ _

/-! issubclass against a tuple of two kinds -/
theorem sub_yes {M : Model} {A : Around} {E : Value → Shared → Prop} {s : Shared} {Tx T : String} {kk : Value} {dep : Int} {tk : Tok} {b : Bool} {Q : PySem.Fin → Shared → Prop} (hk : kk = .int dep tk) (hty : typeOf (.type T) = pure (.type "type")) (hty2 : typeOf (.type Tx) = pure (.type "type"))
    (hsub : isSubtype (.type Tx) (.type T) = pure b) (hq : Q (.done (.ret (.bool b))) s) : wpAny M A (Builtin.«issubclass.nested» ⟨[.type Tx, .type T, kk], []⟩) Q E s := by
  subst hk
  repeat (any_goals (first | assumption | wp_step))

theorem Ev.constBytes {b : List UInt8} {kk : Nat} {pos : Pos} : Ev W k c N δ (.Constant (.bytes b) kk pos) (.bytes b.toArray) := .mk fun s r => by
  show wpAny _ _ (mkTextBytes b.toArray) _ _ _
  exact wpAny_mkTextBytes ⟨.tok _ _, .bytes _ _⟩
theorem kind_nested : builtinKind "issubclass.nested" = none := by decide +kernel
theorem plain_nested : plainId "issubclass.nested" = true := by decide +kernel
theorem args_nested (a b c : Value) : argsOk "issubclass.nested" ⟨[a, b, c], []⟩ := by unfold argsOk; kernel_rfl
theorem sub_str_str' : isSubtype (.type "str") (.type "str") = pure true := by rw [isSubtype_type]; kernel_rfl
theorem sub_bytes_str' : isSubtype (.type "bytes") (.type "str") = pure false := by rw [isSubtype_type]; kernel_rfl
theorem sub_bytes_bytes' : isSubtype (.type "bytes") (.type "bytes") = pure true := by rw [isSubtype_type]; kernel_rfl
theorem sub_tuple_tuple' : isSubtype (.type "tuple") (.type "tuple") = pure true := by rw [isSubtype_type]; kernel_rfl
theorem ty_str : typeOf (.type "str") = pure (.type "type") := F.isi_meta_str
theorem ty_bytes : typeOf (.type "bytes") = pure (.type "type") := F.isi_meta_bytes
theorem nest_call {A : Around} {E : Value → Shared → Prop} {prog : Program} {w : World} {s : Shared} {Tx T : String} {b : Bool} {dep : Int} {tk : Tok} {Q : Value → Shared → Prop} (hty : typeOf (.type T) = pure (.type "type")) (hty2 : typeOf (.type Tx) = pure (.type "type"))
    (hsub : isSubtype (.type Tx) (.type T) = pure b) (hq : Q (.bool b) s) : wpAny (model prog w) A (call (.builtin "issubclass.nested") [.type Tx, .type T, .int dep tk]) Q E s :=
  Calls.call_function_entry kind_nested plain_nested F.entry_issubclass_nested (args_nested _ _ _) (sub_yes rfl hty hty2 hsub ⟨_, rfl, hq⟩)
theorem issub_nest {A : Around} {E : Value → Shared → Prop} {prog : Program} {w : World} {s : Shared} {o : Bool} {a : Addr} {n : Nat} {tk : Tok} {Q : PySem.Fin → Shared → Prop}
    (e : s.heap.get? a = some { cls := .type "tuple", data := .seq #[.type "str", .type "bytes"] n }) (hq : Q (.done (.ret (.bool true))) s) : wpAny (model prog w) A (Builtin.«issubclass.nested» ⟨[kindT o, .ref a, .int 0 tk], []⟩) Q E s := by
  unfold Builtin.«issubclass.nested»
  have hT : s.TypeIs (.ref a) "tuple" := ⟨_, e, rfl⟩
  dsimp only
  refine wpAny_bind (wpAny_typeOf hT ?_)
  rw [if_neg (by decide +kernel)]
  refine wpAny_bind ?_
  unfold Builtin.Builtins.unionMembers
  refine wpAny_bind (wpAny_typeOf hT ?_)
  rw [if_neg (by decide +kernel)]
  refine wpAny_pure ?_
  refine wpAny_bind (wpAny_isInstance hT sub_tuple_tuple' ?_)
  rw [if_pos rfl, if_neg (by decide +kernel)]
  refine wpAny_bind (wpAny_seqItems e rfl ?_)
  show wpAny _ _ (forIn (#[Value.type "str", Value.type "bytes"] : Array Value) _ _ >>= _) _ _ _
  rw [← Array.forIn_toList]
  cases o
  · refine wpAny_bind ?_
    rw [List.forIn_cons]
    refine wpAny_bind (wpAny_bind (nest_call ty_str ty_str sub_str_str' (wpAny_bind (wpAny_truthy_bool ?_))))
    rw [if_pos rfl]
    exact wpAny_pure (wpAny_pure (wpAny_pure hq))
  · refine wpAny_bind ?_
    rw [List.forIn_cons]
    refine wpAny_bind (wpAny_bind (nest_call ty_str ty_bytes sub_bytes_str' (wpAny_bind (wpAny_truthy_bool ?_))))
    rw [if_neg Bool.false_ne_true]
    refine wpAny_pure ?_
    dsimp only
    rw [List.forIn_cons]
    refine wpAny_bind (wpAny_bind (nest_call ty_bytes ty_bytes sub_bytes_bytes' (wpAny_bind (wpAny_truthy_bool ?_))))
    rw [if_pos rfl]
    exact wpAny_pure (wpAny_pure (wpAny_pure hq))
theorem issub_meets {o : Bool} {a : Addr} {n : Nat} : Meets (Builtin.«issubclass» ⟨[kindT o, .ref a], []⟩) (fun _ R s => s.heap.get? a = some { cls := .type "tuple", data := .seq #[.type "str", .type "bytes"] n } ∧ R (.ok (.ret (.bool true))) s) :=
  fun _ _ _ _ _ hs => issubclass_outer (issub_nest hs.1 hs.2)
theorem issub_R {o : Bool} : CallR W k (.builtin "issubclass") [.imm (kindT o), .tup [.imm (.type "str"), .imm (.type "bytes")]] (.bool true) := .mk fun A N s vs _ rl => by
  cases rl with | cons r rl => cases rl with | cons r2 rl =>
  cases rl
  cases r
  cases r2 with | @tup a vs _ p hN rl =>
  cases rl with | cons q1 rl => cases rl with | cons q2 rl =>
  cases rl
  cases q1; cases q2
  obtain ⟨n, e⟩ := p
  exact call_issubclass issub_meets ⟨e, .refl _, .bool _⟩
end
end Mine
end B13S

section F1S
set_option linter.unusedVariables false
set_option maxRecDepth 100000
namespace Mine
/-- what the program's module holds -/
structure Gl (W : Wd) : Prop where
  fspath : FnAt W 10 "fspath"
  splitext_ : FnAt W 12 "_splitext"
  getsep : FnAt W 15 "_get_sep"
  join : FnAt W 16 "join"
  splitext : FnAt W 17 "splitext"
  as_ : FnAt W 20 "_law_as"
  log : FnAt W 21 "_law_log"
  path : FnAt W 22 "_law_path"
  shifted : FnAt W 23 "_law_shifted"
  aged : FnAt W 24 "_law_aged"
  stored : FnAt W 25 "_law_stored"
  read : FnAt W 26 "_law_read"
  law : FnAt W 27 "law"
  none : ∀ x ∈ (["type", "issubclass", "str", "bytes", "isinstance", "ord", "chr", "range", "len", "abs", "sum", "sorted"] : List Str), W.mg x = Option.none

section
variable {W : Wd} {k : Nat}

theorem noOwn {x : Str} : ∀ q, (none : Own) = some q → q.1 ≠ x := fun q h => by cases h
theorem nt {P : Prop} (h : true = false) : P := by cases h
theorem nf {P : Prop} (h : false = true) : P := by cases h
theorem Exs.asg {W : Wd} {k : Nat} {s₀ : Shared} {c : Cx} {N : List Addr} {δ : List (Str × D)} {x : Str} {p pos : Pos} {e : Expr} {d : D} {δ' : List (Str × D)} {rest : List Stmt} {o : Out} (he : Ev W k c N δ e d) (hx : Sto c.env x) (hd : Del x δ δ')
    (hr : Exs W k s₀ c N none ((x, d) :: δ') rest o) (hs : swapsWith e (some (.Name x p)) pos.line c.env = pure false := by rfl) : Exs W k s₀ c N none δ (.Assign [.Name x p] e pos :: rest) o :=
  Exs.assign (own := none) he hx hd noOwn hr hs
theorem nm {W : Wd} (g : Gl W) (x : Str) (h : (["type", "issubclass", "str", "bytes", "isinstance", "ord", "chr", "range", "len", "abs", "sum", "sorted"] : List Str).elem x = true := by decide +kernel) : W.mg x = Option.none := g.none x (List.elem_iff.mp h)

theorem fspath_R (g : Gl W) {o : Bool} {l : List Nat} : FnR W (k + 1) "fspath" [Tx o l] (Tx o l) := by
  refine g.fspath.meets (δ := [("path", Tx o l)]) (fun _ _ _ => Bnd.one fun _ => rfl) (fun s₀ A L N pm code doc a => ?_)
  refine Exs.assign (d := .imm (kindT o)) (Ev.callT (nm g _) (by decide +kernel) type_R (EvL.cons (Ev.var (.head _)) EvL.nil)) (.inl (by kernel_rfl)) (.skip (by decide +kernel) .nil) noOwn ?_
  refine Exs.ite (t := true) (o₁ := .ret (Tx o l)) (o₂ := .ret (Tx o l)) (Tr.val (Ev.callB (nm g _) (by decide +kernel) issub_R (EvL.cons (Ev.var (.head _)) (EvL.cons (Ev.tuple (EvL.cons (Ev.bname (nm g _) (by decide +kernel) nofun) (EvL.cons (Ev.bname (nm g _) (by decide +kernel) nofun) EvL.nil))) EvL.nil))) TruR.bool)
    (fun _ => Exs.ret (Ev.var (.tail _ (.head _)))) (fun _ => .ret) nt nt

theorem getsep_R (g : Gl W) {o : Bool} {l : List Nat} : FnR W (k + 1) "_get_sep" [Tx o l] (Tx o [47]) := by
  refine g.getsep.meets (δ := [("path", Tx o l)]) (fun _ _ _ => Bnd.one fun _ => rfl) (fun s₀ A L N pm code doc a => ?_)
  refine Exs.ite (t := o) (o₁ := .ret (Tx o [47])) (o₂ := .ret (Tx o [47])) (Tr.val (Ev.callB (nm g _) (by decide +kernel) isBytes_R (EvL.cons (Ev.var (.head _)) (EvL.cons (Ev.bname (nm g _) (by decide +kernel) nofun) EvL.nil))) TruR.bool)
    (fun e => ?_) (fun _ => .ret) (fun e => ?_) (fun _ => .ret)
  · subst e; exact Exs.ret Ev.constBytes
  · subst e; exact Exs.ret Ev.lit
end
end Mine
end F1S

section F2S
set_option linter.unusedVariables false
set_option maxRecDepth 100000
namespace Mine
theorem cut_nn {α : Type} (a b : Nat) (l : List α) : cut (some (a : Int)) (some (b : Int)) l = (l.drop a).take (b - a) := by
  unfold cut
  simp only [Option.elim, clipAt_nat]
  rcases Nat.le_total a l.length with h | h
  · rw [Nat.min_eq_left h]
    rcases Nat.le_total b l.length with h' | h'
    · rw [Nat.min_eq_left h']
    · rw [Nat.min_eq_right h', List.take_of_length_le (by simp), List.take_of_length_le (by simp; omega)]
  · rw [Nat.min_eq_right h]
    simp [List.drop_of_length_le h]
theorem cut_to {α : Type} (b : Nat) (l : List α) : cut none (some (b : Int)) l = l.take b := by
  unfold cut
  simp only [Option.elim, clipAt_nat, List.drop_zero, Nat.sub_zero]
  rcases Nat.le_total b l.length with h | h
  · rw [Nat.min_eq_left h]
  · rw [Nat.min_eq_right h, List.take_of_length_le (by simp), List.take_of_length_le h]
theorem cut_from {α : Type} (a : Nat) (l : List α) : cut (some (a : Int)) none l = l.drop a := by
  unfold cut
  simp only [Option.elim, clipAt_nat]
  rcases Nat.le_total a l.length with h | h
  · rw [Nat.min_eq_left h, List.take_of_length_le (by simp)]
  · rw [Nat.min_eq_right h]
    simp [List.drop_of_length_le h]

/-- texts as they are met here -/
structure Gd (l : List Nat) : Prop where
  bd : Bd l
  sz : l.length ≤ 100000
theorem Gd.le {l : List Nat} (h : Gd l) : l.length ≤ 16777216 := Nat.le_trans h.sz (by decide)

theorem rix_ge (c : Nat) (l : List Nat) : -1 ≤ rix c l := by
  rcases rix_spec c l with ⟨h, _⟩ | ⟨i, h, _⟩ <;> omega
theorem rix_lt (c : Nat) (l : List Nat) : rix c l < l.length := by
  rcases rix_spec c l with ⟨h, _⟩ | ⟨i, h, h2, _⟩
  · omega
  · have := (List.getElem?_eq_some_iff.mp h2).1; omega

open Classical in
noncomputable def spx (l : List Nat) : List Nat × List Nat :=
  if ∃ i : Nat, rix 47 l < i ∧ (i : Int) < rix 46 l ∧ l[i]? ≠ some 46 then (l.take (rix 46 l).toNat, l.drop (rix 46 l).toNat) else (l, [])

section
variable {W : Wd} {k : Nat} {c : Cx} {N : List Addr} {δ : List (Str × D)}
theorem Ev.rfind {recv arg : Expr} {apos pos : Pos} {o : Bool} {l : List Nat} {ch : Nat} (hl : Gd l) (hc : ch < 256) (hr : Ev W k c N δ recv (Tx o l)) (ha : Ev W k c N δ arg (Tx o [ch]))
    (hbase : attributeBase recv "rfind" c.env (eval recv c.env) = eval recv c.env := by rfl)
    (hfew : ∀ pos, ((backTo pos (starEach [arg] c.env)).all (fun x => !x.1) && (backToKw pos (keywordEach [] c.env)).all (fun x => x.1.isSome)
      && decide ([arg].length + ([] : List Keyword).length + (if ([] : List Keyword).isEmpty then 0 else 1) < 30)) = true := by intro _; rfl)
    (hline : (apos.endLine == pos.line) = true := by rfl)
    (he : starEach [arg] c.env = (false, eval arg c.env) :: starEach [] c.env := by rfl)
    (hp : ∀ pos, (backTo pos (starEach [arg] c.env)).any (·.1) = false := by intro _; rfl) :
    Ev W k c N δ (.Call (.Attribute recv "rfind" apos) [arg] [] pos) (.int (rix ch l)) := by
  cases o
  · exact Ev.meth (T := "str") rfl F.plainAttrs_str F.slot_str_rfind F.type_str_rfind hr (EvL.cons ha EvL.nil he) rfind_S hbase hfew hline he hp
  · exact Ev.meth (T := "bytes") rfl FB.plainAttrs_bytes slot_bytes_rfind type_bytes_rfind hr (EvL.cons ha EvL.nil he) (rfind_B hl.bd hc) hbase hfew hline he hp

theorem dot_cut {l : List Nat} {i : Nat} : decide ((l.drop i).take (i + 1 - i) = [46]) = decide (l[i]? = some 46) := by
  congr 1
  have : i + 1 - i = 1 := by omega
  rw [this, List.take_one, List.head?_drop]
  cases l[i]? <;> simp

theorem CmpR.to {op : CmpOp} {x y : D} {t t' : Bool} (h : CmpR W k op x y t) (e : t = t') : CmpR W k op x y t' := e ▸ h
theorem SliR.to {x d d' : D} {i j : Option Int} (h : SliR W k x i j d) (e : d = d') : SliR W k x i j d' := e ▸ h
theorem Tr.to {e : Expr} {t t' : Bool} (h : Tr W k c N δ e t) (q : t = t') : Tr W k c N δ e t' := q ▸ h
theorem Exs.expr {s₀ : Shared} {own : Own} {e : Expr} {d : D} {pos : Pos} {rest : List Stmt} {o : Out} (he : Ev W k c (oa own ++ N) δ e d) (hr : Exs W k s₀ c N own δ rest o)
    (hi : interactive c.env = false := by rfl) (hg : swapsWith e none pos.line c.env = pure false := by rfl) : Exs W k s₀ c N own δ (.Expr e pos :: rest) o :=
  Exs.cons (fun s r => wpAny_Expr_any (wpAny_mono (he.run s r.rd) (fun v s₁ ⟨q, rv⟩ => ⟨rfl, r.kp q, .of_ext q.ext⟩) fun _ _ x => x) hi hg) hr

theorem first_ex (P : Nat → Prop) (m : Nat) (h : ∃ j, j < m ∧ P j) : ∃ n, n < m ∧ P n ∧ ∀ j, j < n → ¬ P j := by
  induction m with
  | zero => obtain ⟨j, hj, _⟩ := h; omega
  | succ m ih =>
    by_cases h' : ∃ j, j < m ∧ P j
    · obtain ⟨n, h1, h2, h3⟩ := ih h'
      exact ⟨n, by omega, h2, h3⟩
    · obtain ⟨j, hj, hp⟩ := h
      have : j = m := by
        rcases Nat.lt_or_ge j m with h | h
        · exact absurd ⟨j, h, hp⟩ h'
        · omega
      subst this
      exact ⟨j, by omega, hp, fun i hi hpi => h' ⟨i, hi, hpi⟩⟩

theorem splitext__R (g : Gl W) {o : Bool} {l : List Nat} (hl : Gd l) : FnR W (k + 1) "_splitext" [Tx o l, Tx o [47], .none, Tx o [46]] (.tup [Tx o (spx l).1, Tx o (spx l).2]) := by
  refine g.splitext_.meets (δ := [("p", Tx o l), ("sep", Tx o [47]), ("altsep", .none), ("extsep", Tx o [46])]) (fun _ _ _ => Bnd.four fun _ _ _ _ => rfl) (fun s₀ A L N pm code doc a => ?_)
  have hd1 : Bd [46] := by intro c hc; rw [List.mem_singleton.mp hc]; decide
  refine Exs.expr (d := _) Ev.lit ?_
  refine Exs.assign (Ev.rfind hl (by decide) (Ev.var (.head _)) (Ev.var (.tail _ (.head _)))) (.inl (by kernel_rfl)) (.skip (by decide +kernel) <| .skip (by decide +kernel) <| .skip (by decide +kernel) <| .skip (by decide +kernel) .nil) noOwn ?_
  refine Exs.ite (t := false) (o₁ := .ret .none) (o₂ := .next _ _) (Tr.val (Ev.var (.tail _ (.tail _ (.tail _ (.head _))))) TruR.none) nf nf (fun _ => Exs.nil') (fun _ => .next ?_)
  refine Exs.assign (Ev.rfind hl (by decide) (Ev.var (.tail _ (.head _))) (Ev.var (.tail _ (.tail _ (.tail _ (.tail _ (.head _))))))) (.inl (by kernel_rfl)) (.skip (by decide +kernel) <| .skip (by decide +kernel) <| .skip (by decide +kernel) <| .skip (by decide +kernel) <| .skip (by decide +kernel) .nil) noOwn ?_
  have hs1 := rix_ge 47 l
  have hd2 := rix_ge 46 l
  have hd3 := rix_lt 46 l
  have tupE : ∀ {c : Cx} {N : List Addr} {δ : List (Str × D)} {e1 e2 : Expr} {kk : Nat} {pos : Pos} {x y : D}, Ev W k c N δ e1 x → Ev W k c N δ e2 y → (he : starEach [e1, e2] c.env = (false, eval e1 c.env) :: starEach [e2] c.env) → (he2 : starEach [e2] c.env = (false, eval e2 c.env) :: starEach [] c.env) →
      Ev W k c N δ (.Tuple [e1, e2] kk pos) (.tup [x, y]) := fun h1 h2 he he2 => Ev.tuple (EvL.cons h1 (EvL.cons h2 EvL.nil he2) he) (by simp)
  by_cases hlt : rix 47 l < rix 46 l
  · generalize hA : (rix 47 l + 1).toNat = na
    generalize hD : (rix 46 l).toNat = nd
    have eA : rix 47 l + 1 = (na : Int) := by omega
    have eD : rix 46 l = (nd : Int) := by omega
    have hnl : nd < l.length := by omega
    -- the names, as the loop meets them
    let δs : Nat → List (Str × D) := fun j => [("filenameIndex", .int ((na + j : Nat) : Int)), ("dotIndex", .int (nd : Int)), ("sepIndex", .int (rix 47 l)), ("p", Tx o l), ("sep", Tx o [47]), ("altsep", .none), ("extsep", Tx o [46])]
    have tst : ∀ {c : Cx} {N : List Addr} {p1 p2 pos : Pos} (j : Nat), Tr W k c N (δs j) (.Compare (.Name "filenameIndex" p1) [.Lt] [.Name "dotIndex" p2] pos) (decide (na + j < nd)) := fun j =>
      Tr.cmp (Ev.var (.head _)) (Ev.var (.tail _ (.head _))) (CmpR.ltInt.to (decide_eq_decide.mpr (by omega)))
    have tstN : ∀ {c : Cx} {N : List Addr} {p1 p2 p3 p4 p5 p6 p7 p8 pos : Pos} {kk : Nat} (j : Nat), Tr W k c N (δs j) (.Compare (.Subscript (.Name "p" p1) (.Slice (some (.Name "filenameIndex" p2)) (some (.BinOp (.Name "filenameIndex" p3) .Add (.Constant (.int 1) kk p4) p5)) none p6) p7) [.NotEq] [.Name "extsep" p8] pos) (!decide (l[na + j]? = some 46)) := fun j =>
      Tr.cmp (Ev.slice (by cases o <;> rfl) (Ev.var (.tail _ (.tail _ (.tail _ (.head _))))) (EvP.some (Ev.var (.head _))) (EvP.some (Ev.bin (y := .int 1) (d := .int ((na + j + 1 : Nat) : Int)) (Ev.var (.head _)) Ev.constInt (BinR.addInt))) (SliR.tx hl.le))
        (Ev.var (.tail _ (.tail _ (.tail _ (.tail _ (.tail _ (.tail _ (.head _)))))))) ((CmpR.neT (by rw [cut_nn]; exact fun c hc => hl.bd c (List.mem_of_mem_drop (List.mem_of_mem_take hc))) hd1).to (by rw [cut_nn, dot_cut]))
    have delS : ∀ j, Del "filenameIndex" (δs j) ((δs j).tail) := fun j => .drop (.skip (by decide +kernel) <| .skip (by decide +kernel) <| .skip (by decide +kernel) <| .skip (by decide +kernel) <| .skip (by decide +kernel) <| .skip (by decide +kernel) .nil)
    by_cases hex : ∃ i : Nat, rix 47 l < i ∧ (i : Int) < rix 46 l ∧ l[i]? ≠ some 46
    · have hsp : spx l = (l.take nd, l.drop nd) := by unfold spx; rw [if_pos hex, hD]
      obtain ⟨n, hn1, hn2, hn3⟩ := first_ex (fun j => l[na + j]? ≠ some 46) (nd - na) (let ⟨i, h1, h2, h3⟩ := hex; ⟨i - na, by omega, by show l[na + (i - na)]? ≠ _; rw [show na + (i - na) = i by omega]; exact h3⟩)
      refine Exs.ite (t := true) (o₁ := .ret (.tup [Tx o (spx l).1, Tx o (spx l).2])) (o₂ := .ret .none) (Tr.cmp (Ev.var (.head _)) (Ev.var (.tail _ (.head _))) (CmpR.gtInt.to (decide_eq_true hlt))) (fun _ => ?_) (fun _ => .ret) nt nt
      refine Exs.assign (d := .int ((na + 0 : Nat) : Int)) (Ev.bin (Ev.var (.tail _ (.head _))) Ev.constInt (eA ▸ BinR.addInt)) (.inl (by kernel_rfl)) (.skip (by decide +kernel) <| .skip (by decide +kernel) <| .skip (by decide +kernel) <| .skip (by decide +kernel) <| .skip (by decide +kernel) <| .skip (by decide +kernel) .nil) noOwn ?_
      refine Exs.whileN δs n (by rw [eD]; exact fun _ h => h) (fun j hj => ?_) (fun j hj => ?_) (.inr ⟨?_, _, rfl, ?_⟩)
      · exact (tst j).to (decide_eq_true (by omega))
      · refine Exs.ite (t := false) (o₁ := .ret .none) (o₂ := .next _ _) ((tstN j).to ?_) nf nf (fun _ => Exs.nil') (fun _ => .next ?_)
        · have : l[na + j]? = some 46 := Classical.not_not.mp (hn3 j hj)
          simp [this]
        · exact Exs.aug (d := .int ((na + (j + 1) : Nat) : Int)) (.head _) Ev.constInt ((show ((na + j : Nat) : Int) + 1 = ((na + (j + 1) : Nat) : Int) by omega) ▸ InR.addInt) (.inl (by kernel_rfl)) (delS j) noOwn .nil'
      · exact (tst n).to (decide_eq_true (by omega))
      · refine Exs.ite (t := true) (o₁ := .ret _) (o₂ := .ret .none) ((tstN n).to ?_) (fun _ => ?_) (fun _ => .ret) nt nt
        · simp [hn2]
        · rw [hsp]
          exact Exs.ret (tupE (Ev.slice (by cases o <;> rfl) (Ev.var (.tail _ (.tail _ (.tail _ (.head _))))) EvP.none (EvP.some (Ev.var (.tail _ (.head _)))) ((SliR.tx hl.le).to (by rw [cut_to])))
            (Ev.slice (by cases o <;> rfl) (Ev.var (.tail _ (.tail _ (.tail _ (.head _))))) (EvP.some (Ev.var (.tail _ (.head _)))) EvP.none ((SliR.tx hl.le).to (by rw [cut_from]))) rfl rfl)
    · have hsp : spx l = (l, []) := by unfold spx; rw [if_neg hex]
      refine Exs.ite (t := true) (o₁ := .next _ (δs (nd - na))) (o₂ := .ret .none) (Tr.cmp (Ev.var (.head _)) (Ev.var (.tail _ (.head _))) (CmpR.gtInt.to (decide_eq_true hlt))) (fun _ => ?_) (fun _ => .next ?_) nt nt
      · refine Exs.assign (d := .int ((na + 0 : Nat) : Int)) (Ev.bin (Ev.var (.tail _ (.head _))) Ev.constInt (eA ▸ BinR.addInt)) (.inl (by kernel_rfl)) (.skip (by decide +kernel) <| .skip (by decide +kernel) <| .skip (by decide +kernel) <| .skip (by decide +kernel) <| .skip (by decide +kernel) <| .skip (by decide +kernel) .nil) noOwn ?_
        refine Exs.whileN δs (nd - na) (by rw [eD]; exact fun _ h => h) (fun j hj => ?_) (fun j hj => ?_) (.inl ⟨?_, Exs.nil'⟩)
        · exact (tst j).to (decide_eq_true (by omega))
        · refine Exs.ite (t := false) (o₁ := .ret .none) (o₂ := .next _ _) ((tstN j).to ?_) nf nf (fun _ => Exs.nil') (fun _ => .next ?_)
          · have : l[na + j]? = some 46 := Classical.not_not.mp fun h => hex ⟨na + j, by omega, by omega, h⟩
            simp [this]
          · exact Exs.aug (d := .int ((na + (j + 1) : Nat) : Int)) (.head _) Ev.constInt ((show ((na + j : Nat) : Int) + 1 = ((na + (j + 1) : Nat) : Int) by omega) ▸ InR.addInt) (.inl (by kernel_rfl)) (delS j) noOwn .nil'
        · exact (tst _).to (decide_eq_false (by omega))
      · rw [hsp]
        exact Exs.ret (tupE (Ev.var (.tail _ (.tail _ (.tail _ (.head _))))) (Ev.slice (by cases o <;> rfl) (Ev.var (.tail _ (.tail _ (.tail _ (.head _))))) EvP.none (EvP.some Ev.constInt) ((SliR.tx hl.le).to (by rw [show (0 : Int) = ((0 : Nat) : Int) from rfl, cut_to]; rfl))) rfl rfl)
  · refine Exs.ite (t := false) (o₁ := .ret .none) (o₂ := .next _ _) (Tr.cmp (Ev.var (.head _)) (Ev.var (.tail _ (.head _))) (CmpR.gtInt.to (decide_eq_false hlt))) nf nf (fun h => Exs.nil') (fun h => .next ?_)
    have hsp : spx l = (l, []) := by unfold spx; rw [if_neg (fun ⟨i, h1, h2, _⟩ => hlt (by omega))]
    rw [hsp]
    exact Exs.ret (tupE (Ev.var (.tail _ (.tail _ (.head _)))) (Ev.slice (by cases o <;> rfl) (Ev.var (.tail _ (.tail _ (.head _)))) EvP.none (EvP.some Ev.constInt) ((SliR.tx hl.le).to (by rw [show (0 : Int) = ((0 : Nat) : Int) from rfl, cut_to]; rfl))) rfl rfl)
end
end Mine
end F2S

section F3S
set_option linter.unusedVariables false
set_option maxRecDepth 100000
namespace Mine
section
variable {W : Wd} {k : Nat} {c : Cx} {N : List Addr} {δ : List (Str × D)}

theorem splitext_R (g : Gl W) {o : Bool} {l : List Nat} (hl : Gd l) : FnR W (k + 2) "splitext" [Tx o l] (.tup [Tx o (spx l).1, Tx o (spx l).2]) := by
  refine g.splitext.meets (k := k + 1) (δ := [("p", Tx o l)]) (fun _ _ _ => Bnd.one fun _ => rfl) (fun s₀ A L N pm code doc a => ?_)
  refine Exs.assign (Ev.fn (fspath_R g) (EvL.cons (Ev.var (.head _)) EvL.nil)) (.inl (by kernel_rfl)) (.drop .nil) noOwn ?_
  refine Exs.ite (t := o) (o₁ := .next _ [("extsep", Tx o [46]), ("sep", Tx o [47]), ("p", Tx o l)]) (o₂ := .next _ [("extsep", Tx o [46]), ("sep", Tx o [47]), ("p", Tx o l)]) (Tr.val (Ev.callB (nm g _) (by decide +kernel) isBytes_R (EvL.cons (Ev.var (.head _)) (EvL.cons (Ev.bname (nm g _) (by decide +kernel) nofun) EvL.nil))) TruR.bool)
    (fun e => ?_) (fun _ => .next ?_) (fun e => ?_) (fun _ => .next ?_)
  · subst e
    exact Exs.assign Ev.constBytes (.inl (by kernel_rfl)) (.skip (by decide +kernel) .nil) noOwn (Exs.assign Ev.constBytes (.inl (by kernel_rfl)) (.skip (by decide +kernel) <| .skip (by decide +kernel) .nil) noOwn .nil')
  · exact Exs.ret (Ev.fn (splitext__R g hl) (EvL.cons (Ev.var (.tail _ (.tail _ (.head _)))) (EvL.cons (Ev.var (.tail _ (.head _))) (EvL.cons Ev.constNone (EvL.cons (Ev.var (.head _)) EvL.nil)))))
  · subst e
    exact Exs.assign Ev.lit (.inl (by kernel_rfl)) (.skip (by decide +kernel) .nil) noOwn (Exs.assign Ev.lit (.inl (by kernel_rfl)) (.skip (by decide +kernel) <| .skip (by decide +kernel) .nil) noOwn .nil')
  · exact Exs.ret (Ev.fn (splitext__R g hl) (EvL.cons (Ev.var (.tail _ (.tail _ (.head _)))) (EvL.cons (Ev.var (.tail _ (.head _))) (EvL.cons Ev.constNone (EvL.cons (Ev.var (.head _)) EvL.nil)))))

theorem Turn.name {c' : Cx} {δc : List (Str × D)} {x : Str} {p : Pos} {elt : Expr} {d e : D} (hx : c'.env.kindOf x = some .local) (hf : c'.env.scope.kind = .function) (he : Ev W k c' N ((x, d) :: δc) elt e) : Turn W k c' N δc (.Name x p) elt [] d (some e) :=
  ⟨[(x, d)], true, TAsg.name hx hf, rfl, nofun, fun _ => ⟨e, rfl, he⟩⟩
theorem Turn.nameIf {c' : Cx} {δc : List (Str × D)} {x : Str} {p : Pos} {elt cond : Expr} {d e : D} {t : Bool} (hx : c'.env.kindOf x = some .local) (hf : c'.env.scope.kind = .function) (ht : Tr W k c' N ((x, d) :: δc) cond t) (he : t = true → Ev W k c' N ((x, d) :: δc) elt e) :
    Turn W k c' N δc (.Name x p) elt [cond] d (if t then some e else none) :=
  ⟨[(x, d)], t, TAsg.name hx hf, ht, fun h => by simp [h], fun h => ⟨e, by simp [h], he h⟩⟩

theorem EvF.compM {α : Type} {elt target iter : Expr} {ifs : List Expr} {scope : Scope} {pos : Pos} (cl : List (Str × Addr)) (δc : List (Str × D)) (xs : List α) (enc h : α → D)
    (hit : Itr W k c N δ iter (xs.map enc)) (hcel : Cel c.env scope cl δ δc) (hz : xs.length ≤ 16777216)
    (ht : ∀ C M, ∀ a ∈ xs, Turn W k (inner c scope cl C) (M :: N) δc target elt ifs (enc a) (some (h a)))
    (hclos : closureFor scope c.env = pure cl := by rfl) (hcell : ∀ y ∈ scope.names, y.2 ≠ .cell := by decide +kernel) (hkind : scope.kind = .function := by rfl)
    (hnames : ∀ y ∈ scope.names, y.2 = .local → scope.names.lookup y.1 = some .local := by decide +kernel)
    (hs : ∀ x, foldedSetIterable iter c.env x = pure x := by intro _; rfl) : EvF W k c N δ (.ListComp elt [⟨target, iter, ifs, 0⟩] scope pos) (xs.map h) := by
  have := EvF.comp (pos := pos) cl δc xs enc (fun a => some (h a)) hit hcel hz ht hclos hcell hkind hnames hs
  rwa [List.filterMap_eq_map'] at this

theorem as_R (g : Gl W) {o : Bool} {l : List Nat} (hl : Gd l) : FnR W (k + 1) "_law_as" [sT l, .bool o] (Tx o l) := by
  refine g.as_.meets (δ := [("text", sT l), ("octets", .bool o)]) (fun _ _ _ => Bnd.two fun _ _ => rfl) (fun s₀ A L N pm code doc a => ?_)
  refine Exs.ret (Ev.ite (u := o) (Tr.val (Ev.var (.tail _ (.head _))) TruR.bool) (fun e => ?_) (fun e => ?_))
  · subst e
    refine Ev.callT (nm g _) (by decide +kernel) (bytes_R hl.bd hl.le) (EvL.cons ?_ EvL.nil)
    refine (EvF.compM [] [] l (fun x => sT [x]) (fun n => .int (n : Nat)) (Itr.str (Ev.var (.head _))) .nil hl.le fun C M x hx => ?_).ev
    exact Turn.name rfl rfl (Ev.callB (nm g _) (by decide +kernel) ord_R (EvL.cons (Ev.var (.head _)) EvL.nil))
  · subst e
    exact Ev.var (.head _)
end
end Mine
end F3S

section F4S
set_option linter.unusedVariables false
set_option maxRecDepth 100000
namespace Mine
theorem cut_m1 {α : Type} (l : List α) : cut none (some (-1)) l = l.dropLast := by
  unfold cut
  have : clipAt l.length (-1) = l.length - 1 := by
    unfold clipAt
    split <;> omega
  simp only [Option.elim, this, List.drop_zero, Nat.sub_zero]
  rw [List.dropLast_eq_take]
theorem cut_to_m2 {α : Type} (l : List α) : cut none (some (-2)) l = l.take (l.length - 2) := by
  unfold cut
  have : clipAt l.length (-2) = l.length - 2 := by
    unfold clipAt
    split <;> omega
  simp only [Option.elim, this, List.drop_zero, Nat.sub_zero]
theorem cut_from_m2 {α : Type} (l : List α) : cut (some (-2)) none l = l.drop (l.length - 2) := by
  unfold cut
  have : clipAt l.length (-2) = l.length - 2 := by
    unfold clipAt
    split <;> omega
  simp only [Option.elim, this]
  rw [List.take_of_length_le (by simp)]

def wrd (ws : List (List Nat)) (a : Nat) : List (List Nat) :=
  if a = 0 then ws else if 1 < ws.length then ws.dropLast ++ [[48 + a], ws.getLastD []] else ws ++ [[48 + a]]
def mid (F : List Nat) : List Nat := if F = [] ∨ F.getLast? = some 47 then [] else [47]
def pth (F : List Nat) (d : Nat) (ws : List (List Nat)) (a : Nat) : List Nat := F ++ mid F ++ List.replicate d 46 ++ jn [46] (wrd ws a)
def wl (ws : List (List Nat)) : Nat := (ws.map List.length).sum + ws.length
theorem jn_len (sep : List Nat) : ∀ ws : List (List Nat), (jn sep ws).length ≤ (ws.map List.length).sum + ws.length * sep.length
  | [] => by simp [jn]
  | [x] => by simp [jn]
  | x :: y :: r => by
    have := jn_len sep (y :: r)
    simp only [jn, List.length_append, List.map_cons, List.sum_cons, List.length_cons, Nat.add_mul] at this ⊢
    omega
theorem sum_dropLast (l : List Nat) : l.dropLast.sum ≤ l.sum := by
  induction l with
  | nil => simp
  | cons a l ih => cases l with
    | nil => simp
    | cons b l => simp only [List.dropLast_cons₂, List.sum_cons] at ih ⊢; omega
theorem getLastD_len (ws : List (List Nat)) : (ws.getLastD []).length ≤ (ws.map List.length).sum := by
  induction ws with
  | nil => simp
  | cons a l ih => cases l with
    | nil => simp
    | cons b l => simp only [List.getLastD_cons, List.map_cons, List.sum_cons] at ih ⊢; omega
theorem wl_wrd (ws : List (List Nat)) (a : Nat) : ((wrd ws a).map List.length).sum + (wrd ws a).length ≤ 2 * wl ws + 4 := by
  unfold wrd wl
  split
  · omega
  · split
    · have h1 := sum_dropLast (ws.map List.length)
      rw [← List.map_dropLast] at h1
      have h2 := getLastD_len ws
      simp only [List.map_append, List.map_cons, List.map_nil, List.sum_append, List.sum_cons, List.sum_nil, List.length_append, List.length_cons, List.length_nil, List.length_dropLast]
      omega
    · simp only [List.map_append, List.map_cons, List.map_nil, List.sum_append, List.sum_cons, List.sum_nil, List.length_append, List.length_cons, List.length_nil]
      omega
section
variable {W : Wd} {k : Nat} {c : Cx} {N : List Addr} {δ : List (Str × D)}
theorem Ev.to {e : Expr} {d d' : D} (h : Ev W k c N δ e d) (q : d = d') : Ev W k c N δ e d' := q ▸ h
theorem BinR.to {op : Operator} {x y d d' : D} (h : BinR W k op x y d) (q : d = d') : BinR W k op x y d' := q ▸ h
theorem Ev.neg1 {i : Int} {kk : Nat} {p pos : Pos} : Ev W k c N δ (.UnaryOp .USub (.Constant (.int i) kk p) pos) (.int (-i)) := Ev.un Ev.constInt UnR.neg
theorem Ev.digit (x : Str) {age : Nat} {kk : Nat} {p pos : Pos} {e : Expr} (he : Ev W k c N δ e (.int (age : Nat))) (hx : Mine.lit x = [48, 49, 50, 51]) (ha : age < 4)
    (hs : ∀ o i, subscripted e false o i = operate [o, i] (getItem o i) := by intro _ _; rfl) : Ev W k c N δ (.Subscript (.Constant (.str x) kk p) e pos) (sT [48 + age]) := by
  refine Ev.sub rfl Ev.lit he (SubR.str (by omega) ?_ ?_ ?_) hs
  · rw [hx]; simp; omega
  · rw [hx, if_neg (by omega)]
    match age, ha with
    | 0, _ => rfl
    | 1, _ => rfl
    | 2, _ => rfl
    | 3, _ => rfl
  · rw [hx]; decide
theorem Ev.strJoin {recv arg : Expr} {apos pos : Pos} {sep : List Nat} {ls : List (List Nat)} (hz : (ls.map List.length).sum + ls.length * sep.length ≤ 16777216) (hr : Ev W k c N δ recv (sT sep)) (ha : Ev W k c N δ arg (.lst (ls.map sT)))
    (hbase : attributeBase recv "join" c.env (eval recv c.env) = eval recv c.env := by rfl)
    (hfew : ∀ pos, ((backTo pos (starEach [arg] c.env)).all (fun x => !x.1) && (backToKw pos (keywordEach [] c.env)).all (fun x => x.1.isSome)
      && decide ([arg].length + ([] : List Keyword).length + (if ([] : List Keyword).isEmpty then 0 else 1) < 30)) = true := by intro _; rfl)
    (hline : (apos.endLine == pos.line) = true := by rfl)
    (he : starEach [arg] c.env = (false, eval arg c.env) :: starEach [] c.env := by rfl)
    (hp : ∀ pos, (backTo pos (starEach [arg] c.env)).any (·.1) = false := by intro _; rfl) :
    Ev W k c N δ (.Call (.Attribute recv "join" apos) [arg] [] pos) (sT (jn sep ls)) :=
  Ev.meth (T := "str") rfl F.plainAttrs_str F.slot_str_join F.type_str_join hr (EvL.cons ha EvL.nil he) (join_S hz) hbase hfew hline he hp

theorem path_R (g : Gl W) {F : List Nat} {d age : Nat} {ws : List (List Nat)} (hF : Gd F) (hF2 : F.length ≤ 1000) (hd : d ≤ 1000) (hw : wl ws ≤ 1000) (ha : age < 4) : FnR W (k + 1) "_law_path" [sT F, .int (d : Nat), .lst (ws.map sT), .int (age : Nat)] (sT (pth F d ws age)) := by
  have hwn : ws.length ≤ 1000 := by unfold wl at hw; omega
  refine g.path.meets (δ := [("folder", sT F), ("dots", .int (d : Nat)), ("words", .lst (ws.map sT)), ("age", .int (age : Nat))]) (fun _ _ _ => Bnd.four fun _ _ _ _ => rfl) (fun s₀ A L N pm code doc a => ?_)
  have hwl := wl_wrd ws age
  have hjl := jn_len [46] (wrd ws age)
  have hmid : (mid F).length ≤ 1 := by unfold mid; split <;> simp
  have last : Exs W k s₀ ⟨A, fenv 22 pm code doc L a⟩ N none [("words", .lst ((wrd ws age).map sT)), ("folder", sT F), ("dots", .int (d : Nat)), ("age", .int (age : Nat))] ((bodyOf (stm 22)).drop 1) (.ret (sT (pth F d ws age))) := by
    refine Exs.assign (d := sT (mid F)) (Ev.ite (u := decide (F = []) || decide (F.getLast? = some 47)) (Tr.bop (TrAll.or (Tr.cmp (Ev.var (.tail _ (.head _))) Ev.lit ((CmpR.eqT (o := false) hF.bd (by decide +kernel)).to (by rfl))) fun h0 => (Bool.or_false (decide (F.getLast? = some 47))) ▸ TrAll.or (Tr.cmp (Ev.sub (d := sT [F.getLastD 0]) rfl (Ev.var (.tail _ (.head _))) Ev.neg1 (SubR.str ?_ ?_ ?_ hF.le)) Ev.lit ((CmpR.eqT (o := false) ?_ (by decide +kernel)).to ?_)) fun _ => .orNil)) (fun h => Ev.lit.to ?_) (fun h => Ev.lit.to ?_))
      (.inl (by kernel_rfl)) (.skip (by decide +kernel) <| .skip (by decide +kernel) <| .skip (by decide +kernel) <| .skip (by decide +kernel) .nil) noOwn ?_
    · have h0' : F ≠ [] := by simpa using h0
      have := List.length_pos_iff.mpr h0'; omega
    · omega
    · have h0' : F ≠ [] := by simpa using h0
      have hp := List.length_pos_iff.mpr h0'
      rw [if_pos (by omega), show (-1 + (F.length : Int)).toNat = F.length - 1 by omega, ← List.getLast?_eq_getElem?, List.getLastD_eq_getLast?]
      cases hl : F.getLast? with
      | none => rw [List.getLast?_eq_none_iff] at hl; exact absurd hl h0'
      | some x => rfl
    · intro x hx
      rw [List.mem_singleton.mp hx]
      have h0' : F ≠ [] := by simpa using h0
      rw [List.getLastD_eq_getLast?]
      cases hl : F.getLast? with
      | none => decide
      | some y => exact hF.bd y (List.mem_of_getLast? hl)
    · have h0' : F ≠ [] := by simpa using h0
      have e1 : Mine.lit (Str.ofString "/") = [47] := by decide +kernel
      rw [e1, List.getLastD_eq_getLast?]
      cases hl : F.getLast? with
      | none => rw [List.getLast?_eq_none_iff] at hl; exact absurd hl h0'
      | some x => simp
    · have e1 : Mine.lit (Str.ofString "") = [] := by decide +kernel
      rw [e1]
      unfold mid
      rw [if_pos (by simpa using h)]
    · have e1 : Mine.lit (Str.ofString "/") = [47] := by decide +kernel
      rw [e1]
      unfold mid
      rw [if_neg (by simpa using h)]
    have e46 : Mine.lit (Str.ofString ".") = [46] := by decide +kernel
    refine Exs.ret (Ev.bin (Ev.bin (Ev.bin (Ev.var (.tail _ (.tail _ (.head _)))) (Ev.var (.head _)) (BinR.addStr (by omega))) (Ev.bin (Ev.lit.to (by rw [e46])) (Ev.var (.tail _ (.tail _ (.tail _ (.head _))))) (BinR.mulS (by omega))) (BinR.addStr (by simp; omega)))
      (Ev.strJoin (sep := [46]) (by simp at hjl ⊢; omega) (Ev.lit.to (by rw [e46])) (Ev.var (.tail _ (.head _)))) (BinR.addStr (by simp at hjl ⊢; omega)))
  refine Exs.ite (t := !decide (age = 0) && decide (1 < ws.length)) (o₁ := .next none [("words", .lst ((wrd ws age).map sT)), ("folder", sT F), ("dots", .int (d : Nat)), ("age", .int (age : Nat))]) (o₂ := .next none [("words", .lst ((wrd ws age).map sT)), ("folder", sT F), ("dots", .int (d : Nat)), ("age", .int (age : Nat))])
    (Tr.bop ?_) (fun e => ?_) (fun _ => .next ?_) (fun e => ?_) (fun _ => .next ?_)
  · refine (TrAll.and (u := decide (1 < ws.length)) ((Tr.val (Ev.var (.tail _ (.tail _ (.tail _ (.head _))))) TruR.int).to (by simp)) fun _ => ?_)
    refine (Bool.and_true (decide (1 < ws.length))) ▸ TrAll.and (Tr.cmp (Ev.callB (nm g _) (by decide +kernel) (CallR.lenL (by simp; omega)) (EvL.cons (Ev.var (.tail _ (.tail _ (.head _)))) EvL.nil)) Ev.constInt (CmpR.gtInt.to ?_)) fun _ => .andNil
    simp
    omega
  · simp only [Bool.and_eq_true, Bool.not_eq_true', decide_eq_false_iff_not, decide_eq_true_eq] at e
    refine Exs.assign (Ev.bin (Ev.slice rfl (Ev.var (.tail _ (.tail _ (.head _)))) EvP.none (EvP.some Ev.neg1) (SliR.lst (by simp; omega))) (Ev.list (EvL.cons (Ev.digit _ (Ev.var (.tail _ (.tail _ (.tail _ (.head _))))) (by decide +kernel) ha) (EvL.cons (Ev.sub (d := sT (ws.getLastD [])) rfl (Ev.var (.tail _ (.tail _ (.head _)))) Ev.neg1 (SubR.lstNeg (by omega) (by simp; omega) ?_ (by simp; omega))) EvL.nil))) ((BinR.addList ?_).to ?_))
      (.inl (by kernel_rfl)) (.skip (by decide +kernel) <| .skip (by decide +kernel) <| .drop <| .skip (by decide +kernel) .nil) noOwn .nil'
    · rw [List.getElem?_map]
      have h1 : ws ≠ [] := by intro h; rw [h] at e; simp at e
      have h2 : (-1 + ((ws.map sT).length : Int)).toNat = ws.length - 1 := by simp; omega
      rw [h2, ← List.getLast?_eq_getElem?, List.getLastD_eq_getLast?]
      cases hl : ws.getLast? with
      | none => rw [List.getLast?_eq_none_iff] at hl; exact absurd hl h1
      | some x => rfl
    · rw [cut_m1]; simp; omega
    · rw [cut_m1]
      unfold wrd
      rw [if_neg e.1, if_pos e.2]
      simp [List.map_dropLast]
  · exact last
  · by_cases h0 : age = 0
    · refine Exs.ite (t := false) (o₁ := .ret .none) (o₂ := .next none _) ((Tr.val (Ev.var (.tail _ (.tail _ (.tail _ (.head _))))) TruR.int).to (by simp [h0])) nf nf (fun _ => Exs.nil (δ' := [("words", .lst ((wrd ws age).map sT)), ("folder", sT F), ("dots", .int (d : Nat)), ("age", .int (age : Nat))]) ?_) (fun _ => .next .nil')
      have : wrd ws age = ws := by unfold wrd; rw [if_pos h0]
      rw [this]
      intro p hp
      simp only [List.mem_cons, List.not_mem_nil, or_false] at hp ⊢
      rcases hp with h | h | h | h <;> simp [h]
    · have hl : ¬ 1 < ws.length := by
        intro h; simp [h0, h] at e
      refine Exs.ite (t := true) (o₁ := .next none _) (o₂ := .ret .none) ((Tr.val (Ev.var (.tail _ (.tail _ (.tail _ (.head _))))) TruR.int).to (by simp; omega)) (fun _ => ?_) (fun _ => .next .nil') nt nt
      refine Exs.assign (Ev.bin (Ev.var (.tail _ (.tail _ (.head _)))) (Ev.list (EvL.cons (Ev.digit _ (Ev.var (.tail _ (.tail _ (.tail _ (.head _))))) (by decide +kernel) ha) EvL.nil)) ((BinR.addList (by simp; omega)).to ?_))
        (.inl (by kernel_rfl)) (.skip (by decide +kernel) <| .skip (by decide +kernel) <| .drop <| .skip (by decide +kernel) .nil) noOwn .nil'
      unfold wrd
      rw [if_neg h0, if_neg hl]
      simp
  · exact last
end
end Mine
end F4S

section F5S
set_option linter.unusedVariables false
set_option maxRecDepth 100000
namespace Mine
def iT (n : Nat) : D := .int (n : Nat)
def shf (rs : List Nat) (act k turn : Nat) : List Nat :=
  if act = 3 then rs.take k ++ [0] ++ rs.drop (k + 1) else if act = 2 then [turn] ++ rs.take 3 else if act = 1 then [0] ++ rs.take 3 else [turn] ++ rs.drop 1
noncomputable def agd (l : List Nat) (age : Nat) : List Nat := if age = 0 then l else (spx l).1 ++ [46, 48 + age] ++ (spx l).2
theorem spx_len (l : List Nat) : (spx l).1.length + (spx l).2.length = l.length := by
  unfold spx
  split
  · simp only [List.length_take, List.length_drop]; omega
  · simp
theorem spx_bd {l : List Nat} (h : Gd l) : Gd (spx l).1 ∧ Gd (spx l).2 := by
  have hl := spx_len l
  have hs := h.sz
  refine ⟨⟨fun c hc => h.bd c ?_, by omega⟩, ⟨fun c hc => h.bd c ?_, by omega⟩⟩
  · unfold spx at hc
    split at hc
    · exact List.mem_of_mem_take hc
    · exact hc
  · unfold spx at hc
    split at hc
    · exact List.mem_of_mem_drop hc
    · cases hc
section
variable {W : Wd} {k : Nat} {c : Cx} {N : List Addr} {δ : List (Str × D)}
theorem map_cut {lo hi : Option Int} {rs : List Nat} : cut lo hi (rs.map iT) = (cut lo hi rs).map iT := by
  unfold cut
  rw [List.length_map, List.map_take, List.map_drop]
theorem shifted_R (g : Gl W) {rs : List Nat} {act kk turn : Nat} (hr : rs.length ≤ 1000) : FnR W (k + 1) "_law_shifted" [.lst (rs.map iT), .int (act : Nat), .int (kk : Nat), .int (turn : Nat)] (.lst ((shf rs act kk turn).map iT)) := by
  have hr' : (rs.map iT).length ≤ 16777216 := by simp; omega
  refine g.shifted.meets (δ := [("register", .lst (rs.map iT)), ("act", .int (act : Nat)), ("k", .int (kk : Nat)), ("turn", .int (turn : Nat))]) (fun _ _ _ => Bnd.four fun _ _ _ _ => rfl) (fun s₀ A L N pm code doc a => ?_)
  have cl : ∀ (lo hi : Option Int), (cut lo hi (rs.map iT)).length ≤ 1000 := fun lo hi => by
    unfold cut; rw [List.length_take, List.length_drop, List.length_map]; omega
  by_cases h3 : act = 3
  · refine Exs.ite (t := true) (o₁ := .ret _) (o₂ := .ret .none) (Tr.cmp (Ev.var (.tail _ (.head _))) Ev.constInt (CmpR.eqInt.to (by simp [h3]))) (fun _ => ?_) (fun _ => .ret) nt nt
    refine Exs.retD (Ev.bin (Ev.bin (Ev.slice rfl (Ev.var (.head _)) EvP.none (EvP.some (Ev.var (.tail _ (.tail _ (.head _))))) (SliR.lst hr')) (Ev.list (EvL.cons Ev.constInt EvL.nil)) (BinR.addList ?_))
      (Ev.slice rfl (Ev.var (.head _)) (EvP.some (Ev.bin (d := .int ((kk + 1 : Nat) : Int)) (Ev.var (.tail _ (.tail _ (.head _)))) Ev.constInt BinR.addInt)) EvP.none (SliR.lst hr')) (BinR.addList ?_)) ?_
    · have := cl none (some (kk : Int)); simp at this ⊢; omega
    · have h1 := cl none (some (kk : Int)); have h2 := cl (some ((kk + 1 : Nat) : Int)) none; simp at h1 h2 ⊢; omega
    · unfold shf
      rw [if_pos h3, map_cut, map_cut, cut_to, cut_from]
      simp [iT]
  · refine Exs.ite (t := false) (o₁ := .ret .none) (o₂ := .next _ _) (Tr.cmp (Ev.var (.tail _ (.head _))) Ev.constInt (CmpR.eqInt.to (by simp; omega))) nf nf (fun _ => Exs.nil') (fun _ => .next ?_)
    have two : ∀ {c : Cx} {N : List Addr} {δ : List (Str × D)} {p1 p2 p3 p4 : Pos} {k1 : Nat}, ((("register" : Str), D.lst (rs.map iT)) : Str × D) ∈ δ → Ev W k c N δ (.Subscript (.Name "register" p1) (.Slice none (some (.Constant (.int 3) k1 p2)) none p3) p4) (.lst ((rs.take 3).map iT)) := fun hm =>
      Ev.slice rfl (Ev.var hm) EvP.none (EvP.some Ev.constInt) ((SliR.lst hr').to (by rw [map_cut, show (3 : Int) = ((3 : Nat) : Int) from rfl, cut_to]))
    by_cases h2 : act = 2
    · refine Exs.ite (t := true) (o₁ := .ret _) (o₂ := .ret .none) (Tr.cmp (Ev.var (.tail _ (.head _))) Ev.constInt (CmpR.eqInt.to (by simp [h2]))) (fun _ => ?_) (fun _ => .ret) nt nt
      refine Exs.retD (Ev.bin (Ev.list (EvL.cons (Ev.var (.tail _ (.tail _ (.tail _ (.head _))))) EvL.nil)) (two (.head _)) (BinR.addList ?_)) ?_
      · simp; omega
      · unfold shf; rw [if_neg h3, if_pos h2]; simp [iT]
    · refine Exs.ite (t := false) (o₁ := .ret .none) (o₂ := .next _ _) (Tr.cmp (Ev.var (.tail _ (.head _))) Ev.constInt (CmpR.eqInt.to (by simp; omega))) nf nf (fun _ => Exs.nil') (fun _ => .next ?_)
      by_cases h1 : act = 1
      · refine Exs.ite (t := true) (o₁ := .ret _) (o₂ := .ret .none) (Tr.cmp (Ev.var (.tail _ (.head _))) Ev.constInt (CmpR.eqInt.to (by simp [h1]))) (fun _ => ?_) (fun _ => .ret) nt nt
        refine Exs.retD (Ev.bin (Ev.list (EvL.cons Ev.constInt EvL.nil)) (two (.head _)) (BinR.addList ?_)) ?_
        · simp; omega
        · unfold shf; rw [if_neg h3, if_neg h2, if_pos h1]; simp [iT]
      · refine Exs.ite (t := false) (o₁ := .ret .none) (o₂ := .next _ _) (Tr.cmp (Ev.var (.tail _ (.head _))) Ev.constInt (CmpR.eqInt.to (by simp; omega))) nf nf (fun _ => Exs.nil') (fun _ => .next ?_)
        refine Exs.retD (Ev.bin (Ev.list (EvL.cons (Ev.var (.tail _ (.tail _ (.tail _ (.head _))))) EvL.nil)) (Ev.slice rfl (Ev.var (.head _)) (EvP.some Ev.constInt) EvP.none (SliR.lst hr')) (BinR.addList ?_)) ?_
        · have h1 := cl (some 1) none; simp at h1 ⊢; omega
        · unfold shf; rw [if_neg h3, if_neg h2, if_neg h1, map_cut, show (1 : Int) = ((1 : Nat) : Int) from rfl, cut_from]; simp [iT]

theorem gd_dot {age : Nat} (ha : age < 4) : Gd ([46] ++ [48 + age]) := ⟨by intro c hc; simp at hc; omega, by simp⟩
theorem Ev.dotAge {e : Expr} {age : Nat} (x y : Str) {k1 k2 : Nat} {p1 p2 p3 p4 : Pos} (he : Ev W k c N δ e (.int (age : Nat))) (ha : age < 4) (hx : Mine.lit x = [46]) (hy : Mine.lit y = [48, 49, 50, 51])
    (hs : ∀ o i, subscripted e false o i = operate [o, i] (getItem o i) := by intro _ _; rfl) :
    Ev W k c N δ (.BinOp (.Constant (.str x) k1 p1) .Add (.Subscript (.Constant (.str y) k2 p2) e p3) p4) (sT ([46] ++ [48 + age])) := by
  refine Ev.bin (Ev.lit.to (by rw [hx])) (Ev.digit _ he hy ha hs) (BinR.addStr (by simp))
theorem aged_R (g : Gl W) {o : Bool} {l : List Nat} {age : Nat} (hl : Gd l) (hl2 : l.length ≤ 90000) (ha : age < 4) : FnR W (k + 3) "_law_aged" [Tx o l, .int (age : Nat), .bool o] (Tx o (agd l age)) := by
  refine g.aged.meets (k := k + 2) (δ := [("log", Tx o l), ("age", .int (age : Nat)), ("octets", .bool o)]) (fun _ _ _ => Bnd.three fun _ _ _ => rfl) (fun s₀ A L N pm code doc a => ?_)
  by_cases h0 : age = 0
  · refine Exs.ite (t := true) (o₁ := .ret _) (o₂ := .ret .none) (Tr.cmp (Ev.var (.tail _ (.head _))) Ev.constInt (CmpR.eqInt.to (by simp [h0]))) (fun _ => Exs.retD (Ev.var (.head _)) (by unfold agd; rw [if_pos h0])) (fun _ => .ret) nt nt
  · refine Exs.ite (t := false) (o₁ := .ret .none) (o₂ := .next _ _) (Tr.cmp (Ev.var (.tail _ (.head _))) Ev.constInt (CmpR.eqInt.to (by simp; omega))) nf nf (fun _ => Exs.nil') (fun _ => .next ?_)
    refine Exs.assignTup (Ev.fn (splitext_R g hl) (EvL.cons (Ev.var (.head _)) EvL.nil)) (Asg.tup2 (Asg.name (.inl (by kernel_rfl)) (.skip (by decide +kernel) <| .skip (by decide +kernel) <| .skip (by decide +kernel) .nil) noOwn) (Asg.name (.inl (by kernel_rfl)) (.skip (by decide +kernel) <| .skip (by decide +kernel) <| .skip (by decide +kernel) <| .skip (by decide +kernel) .nil) noOwn)) ?_
    have h1 := spx_len l
    refine Exs.retD (Ev.bin (Ev.bin (Ev.var (.tail _ (.head _))) (Ev.fn (as_R g (gd_dot ha)) (EvL.cons (Ev.dotAge _ _ (Ev.var (.tail _ (.tail _ (.tail _ (.head _))))) ha (by decide +kernel) (by decide +kernel)) (EvL.cons (Ev.var (.tail _ (.tail _ (.tail _ (.tail _ (.head _)))))) EvL.nil))) (BinR.addT ?_)) (Ev.var (.head _)) (BinR.addT ?_)) ?_
    · simp; omega
    · simp; omega
    · unfold agd; rw [if_neg h0]; simp
end
end Mine
end F5S

section F6S
set_option linter.unusedVariables false
set_option maxRecDepth 100000
namespace Mine
def folders : List (List Nat) := [[], [47], [97, 46, 98], [97, 46, 98, 47], [46, 46, 47], [46, 120], [99, 46, 47, 47], [46]]
def fol (n : Nat) : List Nat := folders.getD (n % 8) []
def picks : List (List Nat) := [[97], [], [98], [97, 49], [97, 98]]
def pickw (m : Nat) : List Nat := if m % 6 = 5 then (if m / 6 % 256 ∈ [46, 47, 49, 50, 51] then [120] else [m / 6 % 256]) else picks.getD (m % 6) []
def drw : Nat → Nat → List (List Nat)
  | 0, _ => []
  | s + 1, m => pickw m :: drw s (m / 6)
def strp : Nat → List (List Nat) → Nat × List (List Nat)
  | d, [] :: w :: r => strp (d + 1) (w :: r)
  | d, ws => (d, ws)
theorem strp_spec : ∀ (ws : List (List Nat)) (d : Nat), ∃ n, strp d ws = (d + n, ws.drop n) ∧ (∀ j, j < n → 1 < (ws.drop j).length ∧ (ws.drop j).head? = some []) ∧ ¬ (1 < (ws.drop n).length ∧ (ws.drop n).head? = some [])
  | [], d => ⟨0, rfl, fun j h => by omega, by simp⟩
  | [w], d => ⟨0, by cases w <;> rfl, fun j h => by omega, by simp⟩
  | (x :: w) :: v :: r, d => ⟨0, rfl, fun j h => by omega, by simp⟩
  | [] :: v :: r, d => by
    obtain ⟨n, h1, h2, h3⟩ := strp_spec (v :: r) (d + 1)
    refine ⟨n + 1, ?_, fun j hj => ?_, by simpa using h3⟩
    · show strp (d + 1) (v :: r) = _
      rw [h1]
      simp only [List.drop_succ_cons, Prod.mk.injEq, and_true]
      omega
    · cases j with
      | zero => simp
      | succ j => simpa using h2 j (by omega)
def lgd (n : Nat) : Nat × List (List Nat) := strp (n / 8 % 3) (drw (1 + n / 24 % 3) (n / 72))
theorem drw_len : ∀ s m, (drw s m).length = s
  | 0, _ => rfl
  | s + 1, m => by simp [drw, drw_len s]
theorem drw_snoc : ∀ s m, drw (s + 1) m = drw s m ++ [pickw (m / 6 ^ s)]
  | 0, m => by simp [drw]
  | s + 1, m => by
    show pickw m :: drw (s + 1) (m / 6) = pickw m :: drw s (m / 6) ++ [_]
    rw [drw_snoc s, Nat.div_div_eq_div_mul, Nat.pow_succ, Nat.mul_comm 6]
    rfl
theorem pickw_gd (m : Nat) : Gd (pickw m) ∧ (pickw m).length ≤ 2 := by
  unfold pickw
  split
  · split
    · exact ⟨⟨by intro c hc; simp at hc; omega, by simp⟩, by simp⟩
    · exact ⟨⟨by intro c hc; simp at hc; omega, by simp⟩, by simp⟩
  · have h5 : m % 6 < 5 := by omega
    generalize m % 6 = r at h5
    match r, h5 with
    | 0, _ => exact ⟨⟨by decide, by decide⟩, by decide⟩
    | 1, _ => exact ⟨⟨by decide, by decide⟩, by decide⟩
    | 2, _ => exact ⟨⟨by decide, by decide⟩, by decide⟩
    | 3, _ => exact ⟨⟨by decide, by decide⟩, by decide⟩
    | 4, _ => exact ⟨⟨by decide, by decide⟩, by decide⟩
theorem drw_gd : ∀ s m, ∀ w ∈ drw s m, Gd w ∧ w.length ≤ 2
  | 0, _, w, h => by cases h
  | s + 1, m, w, h => by
    rcases List.mem_cons.mp h with rfl | h
    · exact pickw_gd m
    · exact drw_gd s _ w h
section
variable {W : Wd} {k : Nat} {c : Cx} {N : List Addr} {δ : List (Str × D)} {s₀ : Shared} {own : Own}
theorem InR.divN {a b : Nat} (hb : b ≠ 0) (h2 : b < 2 ^ 64) : InR W k .FloorDiv (.int (a : Nat)) (.int (b : Nat)) (.int ((a / b : Nat) : Int)) := .mk fun A N s v u _ r q => by
  cases r; cases q
  refine ifloordiv_int (by omega) ⟨.tok _ _, ?_⟩ (.inl (PyProof.noPylong_of_log2 ?_))
  · rw [show (a : Int).fdiv b = ((a / b : Nat) : Int) by rw [Int.fdiv_eq_ediv_of_nonneg _ (by omega)]; rfl]; exact .int _ _
  · have hn : (b : Int).natAbs ≠ 0 := by omega
    have := (Nat.log2_lt (k := 64) hn).mpr (by omega)
    omega
theorem BinR.divN {a b : Nat} (hb : b ≠ 0) (h2 : b < 2 ^ 64) : BinR W k .FloorDiv (.int (a : Nat)) (.int (b : Nat)) (.int ((a / b : Nat) : Int)) :=
  (BinR.divInt (by omega) (by omega)).to (by rw [Int.fdiv_eq_ediv_of_nonneg _ (by omega)]; rfl)
theorem BinR.modN {a b : Nat} (hb : b ≠ 0) : BinR W k .Mod (.int (a : Nat)) (.int (b : Nat)) (.int ((a % b : Nat) : Int)) :=
  (BinR.modInt (by omega)).to (by rw [Int.fmod_eq_emod_of_nonneg _ (by omega)]; rfl)
theorem BinR.addN {a b : Nat} : BinR W k .Add (.int (a : Nat)) (.int (b : Nat)) (.int ((a + b : Nat) : Int)) := BinR.addInt
theorem Ev.litE {x : Str} {l : List Nat} {kk : Nat} {pos : Pos} (h : Mine.lit x = l := by decide +kernel) : Ev W k c N δ (.Constant (.str x) kk pos) (sT l) := h ▸ Ev.lit
theorem Ev.constN {n : Nat} {kk : Nat} {pos : Pos} : Ev W k c N δ (.Constant (.int (n : Nat)) kk pos) (.int (n : Nat)) := Ev.constInt

theorem Exs.iteLast {test : Expr} {body orelse : List Stmt} {pos : Pos} {t : Bool} {o : Out} (ht : Tr W k c (oa own ++ N) δ test t)
    (h1 : t = true → Exs W k s₀ c N own δ body o) (h2 : t = false → Exs W k s₀ c N own δ orelse o) : Exs W k s₀ c N own δ [.If test body orelse pos] o := .mk fun s r => by
  have fin : ∀ (s₁ s₂ : Shared) (f : Flow), Kb c.env (oa own) s.heap s₁.heap → OutOk W k s₀ c N own s₁ o f s₂ → match f with | .next => wpAny W.M c.A (execs [] c.env) (OutOk W k s₀ c N own s o) F0 s₂ | f => OutOk W k s₀ c N own s o f s₂ := fun s₁ s₂ f kb h => by
    have h' := h.from kb rfl
    cases f with
    | next => exact wpAny_execs_nil h'
    | _ => exact h'
  refine wpAny_execs_cons (wpAny_If (wpAny_mono (ht.run s r.rd) (fun b s₁ ⟨e, q⟩ => ?_) fun _ _ x => x))
  subst e
  have kb : Kb c.env (oa own) s.heap s₁.heap := .of_ext q.ext
  cases b with
  | true => exact wpAny_mono ((h1 rfl).run s₁ (r.kp q)) (fun f s₂ h => fin s₁ s₂ f kb h) fun _ _ x => x
  | false => exact wpAny_mono ((h2 rfl).run s₁ (r.kp q)) (fun f s₂ h => fin s₁ s₂ f kb h) fun _ _ x => x

def litsOf : List Expr → Option (List (List Nat))
  | [] => some []
  | .Constant (.str x) _ _ :: es => (litsOf es).map (Mine.lit x :: ·)
  | _ => none
theorem EvL.lits : ∀ {es : List Expr} {ls : List (List Nat)}, litsOf es = some ls → EvL W k c N δ es (ls.map sT)
  | [], ls, h => by cases h; exact EvL.nil
  | e :: es, ls, h => by
    unfold litsOf at h
    split at h
    · rename_i hh; cases hh
    · rename_i x k1 p1 es' hh
      cases hh
      cases h' : litsOf es with
      | none => rw [h'] at h; cases h
      | some ms =>
        rw [h'] at h
        cases h
        exact EvL.cons Ev.lit (EvL.lits h') rfl
    · cases h
def numsOf : List Expr → Option (List Int)
  | [] => some []
  | .Constant (.int x) _ _ :: es => (numsOf es).map (x :: ·)
  | _ => none
theorem EvL.nums : ∀ {es : List Expr} {ls : List Int}, numsOf es = some ls → EvL W k c N δ es (ls.map D.int)
  | [], ls, h => by cases h; exact EvL.nil
  | e :: es, ls, h => by
    unfold numsOf at h
    split at h
    · rename_i hh; cases hh
    · rename_i x k1 p1 es' hh
      cases hh
      cases h' : numsOf es with
      | none => rw [h'] at h; cases h
      | some ms =>
        rw [h'] at h
        cases h
        exact EvL.cons Ev.constInt (EvL.nums h') rfl
    · cases h
def whileTest : List Stmt → Expr
  | .While t _ _ _ :: _ => t
  | _ => .Constant .none 0 ⟨0, 0, 0, 0⟩
theorem log_R (g : Gl W) {n : Nat} : FnR W (k + 1) "_law_log" [.int (n : Nat)] (.tup [sT (fol n), .int ((lgd n).1 : Nat), .lst ((lgd n).2.map sT)]) := by
  refine g.log.meets (δ := [("number", .int (n : Nat))]) (fun _ _ _ => Bnd.one fun _ => rfl) (fun s₀ A L N pm code doc a => ?_)
  -- the folder, the dots, the size
  refine Exs.asg (d := sT (fol n)) (Ev.sub (x := .lst (folders.map sT)) rfl (Ev.list (EvL.lits (ls := folders) (by decide +kernel)) (by simp [folders]))
    (Ev.bin (Ev.var (.head _)) (Ev.constN (n := 8)) (BinR.modN (by decide))) (SubR.lst (by omega) ?_ (by simp [folders]))) (.inl (by kernel_rfl)) (.skip (by decide +kernel) .nil) ?_
  · have h8 : n % 8 < folders.length := Nat.mod_lt _ (by decide)
    rw [Int.toNat_natCast, List.getElem?_map]
    unfold fol
    rw [List.getElem?_eq_getElem h8]
    simp [List.getD, h8]
  refine Exs.asg (d := .int ((n / 8 % 3 : Nat) : Int)) (Ev.bin (Ev.bin (Ev.var (.tail _ (.head _))) (Ev.constN (n := 8)) (BinR.divN (by decide) (by decide))) (Ev.constN (n := 3)) (BinR.modN (by decide))) (.inl (by kernel_rfl)) (.skip (by decide +kernel) <| .skip (by decide +kernel) .nil) ?_
  refine Exs.asg (d := .int ((1 + n / 24 % 3 : Nat) : Int)) (Ev.bin (Ev.constN (n := 1)) (Ev.bin (Ev.bin (Ev.var (.tail _ (.tail _ (.head _)))) (Ev.constN (n := 24)) (BinR.divN (by decide) (by decide))) (Ev.constN (n := 3)) (BinR.modN (by decide))) BinR.addN) (.inl (by kernel_rfl)) (.skip (by decide +kernel) <| .skip (by decide +kernel) <| .skip (by decide +kernel) .nil) ?_
  refine Exs.aug (d := .int ((n / 72 : Nat) : Int)) (.tail _ (.tail _ (.tail _ (.head _)))) (Ev.constN (n := 72)) (InR.divN (by decide) (by decide)) (.inl (by kernel_rfl)) (.skip (by decide +kernel) <| .skip (by decide +kernel) <| .skip (by decide +kernel) <| .drop .nil) noOwn ?_
  refine Exs.acq (δ' := [("number", .int ((n / 72 : Nat) : Int)), ("size", .int ((1 + n / 24 % 3 : Nat) : Int)), ("dots", .int ((n / 8 % 3 : Nat) : Int)), ("folder", sT (fol n))]) (EvF.list EvL.nil) (.inl (by kernel_rfl)) (.skip (by decide +kernel) <| .skip (by decide +kernel) <| .skip (by decide +kernel) <| .skip (by decide +kernel) .nil) fun M => ?_
  refine Exs.forN (upto (1 + n / 24 % 3)) (fun j => [("number", .int ((n / 72 / 6 ^ j : Nat) : Int)), ("dots", .int ((n / 8 % 3 : Nat) : Int)), ("folder", sT (fol n))])
    (fun j => [("turn", .int (j : Nat)), ("number", .int ((n / 72 / 6 ^ j : Nat) : Int)), ("dots", .int ((n / 8 % 3 : Nat) : Int)), ("folder", sT (fol n))])
    (fun j => some ("words", M, (drw j (n / 72)).map sT)) (1 + n / 24 % 3) (by simp [upto]) (Itr.range (nm g _) (EvL.cons (Ev.var (.tail _ (.head _))) EvL.nil) (by omega)) rfl (fun _ => rfl) ?_ (fun j d hj hd => ?_) (fun j hj => ?_) (.inl ⟨by simp [upto], ?_⟩)
  · intro p hp
    simp only [Nat.pow_zero, Nat.div_one] at hp
    simp only [List.mem_cons, List.not_mem_nil, or_false] at hp ⊢
    rcases hp with h | h | h <;> simp [h]
  · have hjl : j < 1 + n / 24 % 3 := by
      have := (List.getElem?_eq_some_iff.mp hd).1
      simpa [upto] using this
    have : d = .int (j : Nat) := by
      simp [upto, List.getElem?_range hjl] at hd
      exact hd.symm
    subst this
    refine Asg.name (.inl (by kernel_rfl)) (.skip (by decide +kernel) <| .skip (by decide +kernel) <| .skip (by decide +kernel) .nil) fun q hq => ?_
    cases hq
    show ("words" : Str) ≠ "turn"
    decide +kernel
  · have own_ne : ∀ {x : Str}, x ≠ "words" → ∀ q : Str × Addr × List D, (some ("words", M, (drw j (n / 72)).map sT) : Own) = some q → q.1 ≠ x := fun hx q hq => by cases hq; exact fun h => hx h.symm
    refine Exs.assign (d := .int ((n / 72 / 6 ^ j % 6 : Nat) : Int)) (Ev.bin (Ev.var (.tail _ (.head _))) (Ev.constN (n := 6)) (BinR.modN (by decide))) (.inl (by kernel_rfl)) (.skip (by decide +kernel) <| .skip (by decide +kernel) <| .skip (by decide +kernel) <| .skip (by decide +kernel) .nil) (own_ne (by decide +kernel)) ?_
    refine Exs.aug (d := .int ((n / 72 / 6 ^ (j + 1) : Nat) : Int)) (.tail _ (.tail _ (.head _))) (Ev.constN (n := 6)) ((show n / 72 / 6 ^ j / 6 = n / 72 / 6 ^ (j + 1) by rw [Nat.div_div_eq_div_mul, Nat.pow_succ]) ▸ InR.divN (by decide) (by decide)) (.inl (by kernel_rfl)) (.skip (by decide +kernel) <| .skip (by decide +kernel) <| .drop <| .skip (by decide +kernel) <| .skip (by decide +kernel) .nil) (own_ne (by decide +kernel)) ?_
    have hsn : (drw (j + 1) (n / 72)).map sT = (drw j (n / 72)).map sT ++ [sT (pickw (n / 72 / 6 ^ j))] := by rw [drw_snoc, List.map_append]; rfl
    have hnx : n / 72 / 6 ^ (j + 1) = n / 72 / 6 ^ j / 6 := (Nat.div_div_eq_div_mul (n / 72) (6 ^ j) 6).symm
    have hln : ((drw j (n / 72)).map sT).length ≤ 16777215 := by rw [List.length_map, drw_len]; omega
    show Exs _ _ _ _ _ _ _ _ (.next (some ("words", M, (drw (j + 1) (n / 72)).map sT)) _)
    rw [hsn]
    generalize hm : n / 72 / 6 ^ j = m at hnx
    rw [hnx]
    have sub : ∀ {e : Str × D} {l : List (Str × D)}, ∀ p ∈ l, p ∈ e :: l := fun p h => .tail _ h
    by_cases h5 : m % 6 = 5
    · have hp : pickw m = if m / 6 % 256 ∈ [46, 47, 49, 50, 51] then [120] else [m / 6 % 256] := by unfold pickw; rw [if_pos h5]
      refine Exs.iteLast (t := true) ((Tr.cmp (Ev.var (.tail _ (.head _))) (Ev.constN (n := 5)) CmpR.eqInt).to (by simp; omega)) (fun _ => ?_) nt
      refine Exs.assign (d := sT [m / 6 % 256]) (Ev.callB (nm g _) (by decide +kernel) (chr_R (by omega)) (EvL.cons (Ev.bin (Ev.var (.head _)) (Ev.constN (n := 256)) (BinR.modN (by decide))) EvL.nil)) (.inl (by kernel_rfl)) (.skip (by decide +kernel) <| .skip (by decide +kernel) <| .skip (by decide +kernel) <| .skip (by decide +kernel) <| .skip (by decide +kernel) .nil) (own_ne (by decide +kernel)) ?_
      refine Exs.append (d := sT (pickw m)) (Ev.ite (u := decide (m / 6 % 256 ∈ [46, 47, 49, 50, 51])) (Tr.cmp (Ev.var (.head _)) (Ev.litE (l := [46, 47, 49, 50, 51])) CmpR.inS) (fun h => (Ev.litE (l := [120])).to ?_) (fun h => (Ev.var (.head _)).to ?_)) hln (Exs.nil ?_)
      · rw [hp, if_pos (of_decide_eq_true h)]
      · rw [hp, if_neg (of_decide_eq_false h)]
      · intro p hp'
        simp only [List.mem_cons, List.not_mem_nil, or_false] at hp' ⊢
        rcases hp' with h | h | h <;> simp [h]
    · have hp : pickw m = picks.getD (m % 6) [] := by unfold pickw; rw [if_neg h5]
      refine Exs.iteLast (t := false) ((Tr.cmp (Ev.var (.tail _ (.head _))) (Ev.constN (n := 5)) CmpR.eqInt).to (by simp; omega)) nf (fun _ => ?_)
      refine Exs.append (d := sT (pickw m)) (Ev.sub (x := .lst (picks.map sT)) rfl (Ev.list (EvL.lits (ls := picks) (by decide +kernel)) (by simp [picks])) (Ev.var (.tail _ (.head _))) (SubR.lst (by omega) ?_ (by simp [picks]))) hln (Exs.nil ?_)
      · have h8 : m % 6 < picks.length := by show m % 6 < 5; omega
        rw [Int.toNat_natCast, List.getElem?_map, hp, List.getElem?_eq_getElem h8]
        simp [List.getD, h8]
      · intro p hp'
        simp only [List.mem_cons, List.not_mem_nil, or_false] at hp' ⊢
        rcases hp' with h | h | h <;> simp [h]
  · refine Exs.rel ?_
    generalize hws : drw (1 + n / 24 % 3) (n / 72) = ws
    have hgd : ∀ w ∈ ws, Gd w := fun w hw => (drw_gd _ _ w (hws ▸ hw)).1
    have hwl : ws.length ≤ 3 := by rw [← hws, drw_len]; omega
    obtain ⟨t, h1, h2, h3⟩ := strp_spec ws (n / 8 % 3)
    have hlg : lgd n = (n / 8 % 3 + t, ws.drop t) := by unfold lgd; rw [hws, h1]
    have hld : ∀ j, (ws.drop j).length ≤ 3 := fun j => by rw [List.length_drop]; omega
    have tst : ∀ (v : List (List Nat)) (x : D) {N : List Addr}, v.length ≤ 3 → (∀ w ∈ v, Gd w) → Tr W k ⟨A, fenv 21 pm code doc L a⟩ N [("words", .lst (v.map sT)), ("dots", x), ("folder", sT (fol n))] (whileTest ((bodyOf (stm 21)).drop 6)) (decide (1 < v.length) && decide (v.head? = some [])) := fun v x N hv hg => by
      show Tr _ _ _ _ _ (.BoolOp .And [_, _] _) _
      refine Tr.bop (TrAll.and (Tr.cmp (Ev.callB (nm g _) (by decide +kernel) (CallR.lenL (by simp; omega)) (EvL.cons (Ev.var (.head _)) EvL.nil)) (Ev.constN (n := 1)) (CmpR.gtInt.to ?_)) fun h1 => (Bool.and_true (decide (v.head? = some []))) ▸ TrAll.and (Tr.cmp (Ev.sub (d := sT (v.headD [])) rfl (Ev.var (.head _)) (Ev.constN (n := 0)) (SubR.lst (by omega) ?_ (by simp; omega))) (Ev.litE (l := [])) ((CmpR.eqT (o := false) ?_ (by intro c hc; cases hc)).to ?_)) fun _ => .andNil)
      · rw [List.length_map]; exact decide_eq_decide.mpr (by omega)
      · have : 1 < v.length := of_decide_eq_true h1
        cases v with
        | nil => simp at this
        | cons y r => rfl
      · have : 1 < v.length := of_decide_eq_true h1
        cases v with
        | nil => simp at this
        | cons y r => exact (hg y (.head _)).bd
      · have : 1 < v.length := of_decide_eq_true h1
        cases v with
        | nil => simp at this
        | cons y r => simp
    refine Exs.whileN (fun j => [("words", .lst ((ws.drop j).map sT)), ("dots", .int ((n / 8 % 3 + j : Nat) : Int)), ("folder", sT (fol n))]) t ?_ (fun j hj => ?_) (fun j hj => ?_) (.inl ⟨?_, ?_⟩)
    · intro p hp
      simp only [List.mem_cons, List.not_mem_nil, or_false, List.drop_zero, Nat.add_zero] at hp ⊢
      rcases hp with h | h | h <;> simp [h]
    · obtain ⟨g1, g2⟩ := h2 j hj
      exact (tst (ws.drop j) _ (hld j) fun w hw => hgd w (List.mem_of_mem_drop hw)).to (by rw [decide_eq_true g1, decide_eq_true g2]; rfl)
    · refine Exs.aug (d := .int ((n / 8 % 3 + (j + 1) : Nat) : Int)) (.tail _ (.head _)) (Ev.constN (n := 1)) InR.addInt (.inl (by kernel_rfl)) (.skip (by decide +kernel) <| .drop <| .skip (by decide +kernel) .nil) noOwn ?_
      refine Exs.assign (d := .lst ((ws.drop (j + 1)).map sT)) (Ev.slice rfl (Ev.var (.tail _ (.head _))) (EvP.some (Ev.constN (n := 1))) EvP.none ((SliR.lst (by have := hld j; simp at this ⊢; omega)).to (by rw [cut_from, ← List.map_drop, List.drop_drop]))) (.inl (by kernel_rfl)) (.skip (by decide +kernel) <| .drop <| .skip (by decide +kernel) .nil) noOwn .nil'
    · exact (tst (ws.drop t) _ (hld t) fun w hw => hgd w (List.mem_of_mem_drop hw)).to (by
        cases hh : (decide (1 < (ws.drop t).length) && decide ((ws.drop t).head? = some [])) with
        | false => rfl
        | true =>
          simp only [Bool.and_eq_true, decide_eq_true_eq] at hh
          exact absurd hh h3)
    · refine Exs.retD (Ev.tuple (EvL.cons (Ev.var (.tail _ (.tail _ (.head _)))) (EvL.cons (Ev.var (.tail _ (.head _))) (EvL.cons (Ev.var (.head _)) EvL.nil))) (by simp)) ?_
      rw [hlg]
end
end Mine
end F6S

section F7S
set_option linter.unusedVariables false
set_option maxRecDepth 100000
namespace Mine
section
variable {W : Wd} {k : Nat} {c : Cx} {N : List Addr} {δ : List (Str × D)} {s₀ : Shared} {own : Own}
theorem Exs.tryOk {body rest : List Stmt} {h₀ : ExceptHandler} {hs : List ExceptHandler} {pos : Pos} {δ' : List (Str × D)} {o : Out} (hb : Exs W k s₀ c N own δ body (.next own δ')) (hr : Exs W k s₀ c N own δ' rest o) :
    Exs W k s₀ c N own δ (.Try body (h₀ :: hs) [] [] pos :: rest) o :=
  Exs.cons (fun s r => wpAny_Try_except (wpAny_mono (hb.run s r) (fun f s₁ ⟨e, r₁, kb⟩ => by subst e; exact wpAny_execs_nil ⟨rfl, r₁, fun b ob e1 e2 e3 e => kb b ob e1 e2 (by simpa using e3) e⟩) fun _ _ x => x.elim)) hr

theorem Exs.asgComp {α : Type} {z : Str} {p spos : Pos} {elt target iter : Expr} {ifs : List Expr} {scope : Scope} {pos : Pos} {δ' : List (Str × D)} {rest : List Stmt} {o : Out} (cl : List (Str × Addr)) (δc : List (Str × D)) (xs : List α) (enc h : α → D)
    (hit : Itr W k c N δ iter (xs.map enc)) (hcel : Cel c.env scope cl δ δc) (hz : xs.length ≤ 16777216)
    (ht : ∀ C M, ∀ a ∈ xs, Turn W k (inner c scope cl C) (M :: N) δc target elt ifs (enc a) (some (h a)))
    (hx : Sto c.env z) (hd : Del z δ δ') (hr : Exs W k s₀ c N none ((z, .lst (xs.map h)) :: δ') rest o)
    (hsw : swapsWith (.ListComp elt [⟨target, iter, ifs, 0⟩] scope pos) (some (.Name z p)) spos.line c.env = pure true := by kernel_rfl)
    (hclos : closureFor scope c.env = pure cl := by kernel_rfl) (hcell : ∀ y ∈ scope.names, y.2 ≠ .cell := by decide +kernel) (hkind : scope.kind = .function := by rfl)
    (hnames : ∀ y ∈ scope.names, y.2 = .local → scope.names.lookup y.1 = some .local := by decide +kernel)
    (hs : ∀ x, foldedSetIterable iter c.env x = pure x := by intro _; rfl) :
    Exs W k s₀ c N none δ (.Assign [.Name z p] (.ListComp elt [⟨target, iter, ifs, 0⟩] scope pos) spos :: rest) o :=
  Exs.acqUse cl δc xs enc (fun a => some (h a)) hit hcel hz ht hx hd (fun M => Exs.rel (by rw [List.filterMap_eq_map']; exact hr)) hsw hclos hcell hkind hnames hs

/-- the endings that are ages -/
def figs : List (List Nat) := [[46, 49], [46, 50], [46, 51]]
def figA (l : List Nat) : Nat := if l = [46, 49] then 1 else if l = [46, 50] then 2 else if l = [46, 51] then 3 else 0
theorem figA_mem (l : List Nat) : decide (l ∈ figs) = !decide (figA l = 0) := by
  unfold figs figA
  by_cases h1 : l = [46, 49]
  · subst h1; decide
  · by_cases h2 : l = [46, 50]
    · subst h2; decide
    · by_cases h3 : l = [46, 51]
      · subst h3; decide
      · simp [h1, h2, h3]
theorem figA_get (l : List Nat) (h : figA l ≠ 0) : ∃ j, figs[j]? = some l ∧ (∀ m, m < j → figs[m]? ≠ some l) ∧ 1 + j = figA l := by
  unfold figA at h
  by_cases h1 : l = [46, 49]
  · subst h1; exact ⟨0, rfl, fun m hm => by omega, rfl⟩
  · by_cases h2 : l = [46, 50]
    · subst h2
      refine ⟨1, rfl, fun m hm => ?_, rfl⟩
      have : m = 0 := by omega
      subst this; decide
    · by_cases h3 : l = [46, 51]
      · subst h3
        refine ⟨2, rfl, fun m hm => ?_, rfl⟩
        match m, hm with
        | 0, _ => decide
        | 1, _ => decide
      · simp [h1, h2, h3] at h
noncomputable def rdx (p : List Nat) : List Nat × Nat :=
  if figA (spx p).2 ≠ 0 then ((spx p).1, figA (spx p).2)
  else if figA (spx (spx p).1).2 ≠ 0 then ((spx (spx p).1).1 ++ (spx p).2, figA (spx (spx p).1).2)
  else if figA (p.drop (p.length - 2)) ≠ 0 then (p.take (p.length - 2), figA (p.drop (p.length - 2))) else (p, 0)
theorem figs_gd : ∀ a ∈ figs, Bd a := by
  intro a ha; simp [figs] at ha
  rcases ha with rfl | rfl | rfl <;> decide

theorem Ev.index {recv arg : Expr} {apos pos : Pos} {o : Bool} {l : List Nat} (hl : Bd l) (h : figA l ≠ 0) (hr : Ev W k c N δ recv (.lst (figs.map (Tx o)))) (ha : Ev W k c N δ arg (Tx o l))
    (hbase : attributeBase recv "index" c.env (eval recv c.env) = eval recv c.env := by rfl)
    (hfew : ∀ pos, ((backTo pos (starEach [arg] c.env)).all (fun x => !x.1) && (backToKw pos (keywordEach [] c.env)).all (fun x => x.1.isSome)
      && decide ([arg].length + ([] : List Keyword).length + (if ([] : List Keyword).isEmpty then 0 else 1) < 30)) = true := by intro _; rfl)
    (hline : (apos.endLine == pos.line) = true := by rfl)
    (he : starEach [arg] c.env = (false, eval arg c.env) :: starEach [] c.env := by rfl)
    (hp : ∀ pos, (backTo pos (starEach [arg] c.env)).any (·.1) = false := by intro _; rfl) {k1 : Nat} {p1 p2 : Pos} :
    Ev W k c N δ (.BinOp (.Constant (.int 1) k1 p1) .Add (.Call (.Attribute recv "index" apos) [arg] [] pos) p2) (iT (figA l)) := by
  obtain ⟨j, h1, h2, h3⟩ := figA_get l h
  have hi := Ev.meth (T := "list") (name := "index") (pos := pos) (apos := apos) rfl PySem.F.plainAttrs_list PySem.F.slot_list_index PySem.F.type_list_index hr (EvL.cons ha EvL.nil he) (CallR.indexT (W := W) (k := k) hl figs_gd h1 h2 (by decide)) hbase hfew hline he hp
  exact (Ev.bin Ev.constInt hi BinR.addInt).to (by unfold iT; rw [← h3]; simp)
end
section
variable {W : Wd} {k : Nat} {c : Cx} {N : List Addr} {δ : List (Str × D)} {s₀ : Shared} {own : Own}
theorem read_R (g : Gl W) {o : Bool} {p : List Nat} (hp : Gd p) : FnR W (k + 3) "_law_read" [Tx o p, .bool o] (.tup [Tx o (rdx p).1, iT (rdx p).2]) := by
  refine g.read.meets (k := k + 2) (δ := [("path", Tx o p), ("octets", .bool o)]) (fun _ _ _ => Bnd.two fun _ _ => rfl) (fun s₀ A L N pm code doc a => ?_)
  refine Exs.asgComp [("octets", L + 1)] [("octets", .bool o)] [49, 50, 51] (fun x => sT [x]) (fun x => Tx o [46, x]) (Itr.str (Ev.litE (l := [49, 50, 51]))) (.cons (.tail _ (.head _)) (by kernel_rfl) (by kernel_rfl) (by kernel_rfl) .nil) (by decide) (fun C M x hx => ?_) (.inl (by kernel_rfl)) (.skip (by decide +kernel) <| .skip (by decide +kernel) .nil) ?_
  · refine Turn.name (by kernel_rfl) (by rfl) (Ev.fn (as_R g (l := [46, x]) ⟨?_, by simp⟩) (EvL.cons (Ev.bin (Ev.litE (l := [46])) (Ev.var (.head _)) (BinR.addStr (by simp))) (EvL.cons (Ev.var (.tail _ (.head _))) EvL.nil)))
    intro y hy; simp at hx hy; omega
  have g1 := spx_bd hp
  have g2 := spx_bd g1.1
  have hl1 := spx_len p
  have hl2 := spx_len (spx p).1
  have hps := hp.sz
  have hfig : (List.map (fun x => Tx o [46, x]) [49, 50, 51]) = figs.map (Tx o) := rfl
  rw [hfig]
  refine Exs.assignTup (Ev.fn (splitext_R g hp) (EvL.cons (Ev.var (.tail _ (.head _))) EvL.nil)) (Asg.tup2 (Asg.name (.inl (by kernel_rfl)) (.skip (by decide +kernel) <| .skip (by decide +kernel) <| .skip (by decide +kernel) .nil) noOwn) (Asg.name (.inl (by kernel_rfl)) (.skip (by decide +kernel) <| .skip (by decide +kernel) <| .skip (by decide +kernel) <| .skip (by decide +kernel) .nil) noOwn)) ?_
  have inF : ∀ {c : Cx} {N : List Addr} {δ : List (Str × D)} {e1 e2 : Expr} {p : Pos} {l : List Nat}, Bd l → Ev W (k + 2) c N δ e1 (Tx o l) → Ev W (k + 2) c N δ e2 (.lst (figs.map (Tx o))) → behindInMarks .In e2 = false → Tr W (k + 2) c N δ (.Compare e1 [.In] [e2] p) (!decide (figA l = 0)) := fun hl h1 h2 hm =>
    Tr.cmp h1 h2 ((CmpR.inT hl figs_gd).to (figA_mem _)) hm
  by_cases h1 : figA (spx p).2 = 0
  · refine Exs.ite (t := false) (o₁ := .ret .none) (o₂ := .next _ _) ((inF g1.2.bd (Ev.var (.head _)) (Ev.var (.tail _ (.tail _ (.head _)))) (by with_unfolding_all rfl)).to (by simp [h1])) nf nf (fun _ => .nil') (fun _ => .next ?_)
    refine Exs.assignTup (Ev.fn (splitext_R g g1.1) (EvL.cons (Ev.var (.tail _ (.head _))) EvL.nil)) (Asg.tup2 (Asg.name (.inl (by kernel_rfl)) (.skip (by decide +kernel) <| .skip (by decide +kernel) <| .skip (by decide +kernel) <| .skip (by decide +kernel) <| .skip (by decide +kernel) .nil) noOwn) (Asg.name (.inl (by kernel_rfl)) (.skip (by decide +kernel) <| .skip (by decide +kernel) <| .skip (by decide +kernel) <| .skip (by decide +kernel) <| .skip (by decide +kernel) <| .skip (by decide +kernel) .nil) noOwn)) ?_
    by_cases h2 : figA (spx (spx p).1).2 = 0
    · refine Exs.ite (t := false) (o₁ := .ret .none) (o₂ := .next _ _) ((inF g2.2.bd (Ev.var (.head _)) (Ev.var (.tail _ (.tail _ (.tail _ (.tail _ (.head _)))))) (by with_unfolding_all rfl)).to (by simp [h2])) nf nf (fun _ => .nil') (fun _ => .next ?_)
      have bd2 : Bd (p.drop (p.length - 2)) := fun c hc => hp.bd c (List.mem_of_mem_drop hc)
      have e2 : ∀ {c : Cx} {N : List Addr} {δ : List (Str × D)} {p1 p2 p3 p4 p5 : Pos} {k1 : Nat}, (((("path" : Str), Tx o p) : Str × D) ∈ δ) → Ev W (k + 2) c N δ (.Subscript (.Name "path" p1) (.Slice (some (.UnaryOp .USub (.Constant (.int 2) k1 p2) p3)) none none p4) p5) (Tx o (p.drop (p.length - 2))) := fun hm =>
        Ev.slice (by cases o <;> rfl) (Ev.var hm) (EvP.some Ev.neg1) EvP.none ((SliR.tx hp.le).to (by rw [cut_from_m2]))
      by_cases h3 : figA (p.drop (p.length - 2)) = 0
      · refine Exs.ite (t := false) (o₁ := .ret .none) (o₂ := .next _ _) ((inF bd2 (e2 (.tail _ (.tail _ (.tail _ (.tail _ (.tail _ (.head _))))))) (Ev.var (.tail _ (.tail _ (.tail _ (.tail _ (.head _)))))) (by with_unfolding_all rfl)).to (by simp [h3])) nf nf (fun _ => .nil') (fun _ => .next ?_)
        refine Exs.retD (Ev.tuple (EvL.cons (Ev.var (.tail _ (.tail _ (.tail _ (.tail _ (.tail _ (.head _))))))) (EvL.cons Ev.constInt EvL.nil)) (by simp)) ?_
        unfold rdx
        rw [if_neg (by simp [h1]), if_neg (by simp [h2]), if_neg (by simp [h3])]
        rfl
      · refine Exs.ite (t := true) (o₁ := .ret _) (o₂ := .ret .none) ((inF bd2 (e2 (.tail _ (.tail _ (.tail _ (.tail _ (.tail _ (.head _))))))) (Ev.var (.tail _ (.tail _ (.tail _ (.tail _ (.head _)))))) (by with_unfolding_all rfl)).to (by simp [h3])) (fun _ => ?_) (fun _ => .ret) nt nt
        refine Exs.retD (Ev.tuple (EvL.cons (Ev.slice (by cases o <;> rfl) (Ev.var (.tail _ (.tail _ (.tail _ (.tail _ (.tail _ (.head _))))))) EvP.none (EvP.some Ev.neg1) ((SliR.tx hp.le).to (by rw [cut_to_m2]))) (EvL.cons (Ev.index bd2 h3 (Ev.var (.tail _ (.tail _ (.tail _ (.tail _ (.head _)))))) (e2 (.tail _ (.tail _ (.tail _ (.tail _ (.tail _ (.head _)))))))) EvL.nil)) (by simp)) ?_
        unfold rdx
        rw [if_neg (by simp [h1]), if_neg (by simp [h2]), if_pos h3]
    · refine Exs.ite (t := true) (o₁ := .ret _) (o₂ := .ret .none) ((inF g2.2.bd (Ev.var (.head _)) (Ev.var (.tail _ (.tail _ (.tail _ (.tail _ (.head _)))))) (by with_unfolding_all rfl)).to (by simp [h2])) (fun _ => ?_) (fun _ => .ret) nt nt
      refine Exs.retD (Ev.tuple (EvL.cons (Ev.bin (Ev.var (.tail _ (.head _))) (Ev.var (.tail _ (.tail _ (.head _)))) (BinR.addT (by omega))) (EvL.cons (Ev.index g2.2.bd h2 (Ev.var (.tail _ (.tail _ (.tail _ (.tail _ (.head _)))))) (Ev.var (.head _))) EvL.nil)) (by simp)) ?_
      unfold rdx
      rw [if_neg (by simp [h1]), if_pos h2]
  · refine Exs.ite (t := true) (o₁ := .ret _) (o₂ := .ret .none) ((inF g1.2.bd (Ev.var (.head _)) (Ev.var (.tail _ (.tail _ (.head _)))) (by with_unfolding_all rfl)).to (by simp [h1])) (fun _ => ?_) (fun _ => .ret) nt nt
    refine Exs.retD (Ev.tuple (EvL.cons (Ev.var (.tail _ (.head _))) (EvL.cons (Ev.index g1.2.bd h1 (Ev.var (.tail _ (.tail _ (.head _)))) (Ev.var (.head _))) EvL.nil)) (by simp)) ?_
    unfold rdx
    rw [if_pos h1]

/-- two parts of a path -/
def jnp (a b : List Nat) : List Nat := if b.head? = some 47 ∨ a = [] then b else if a.getLast? = some 47 then a ++ b else a ++ [47] ++ b
end
end Mine
end F7S

section F8S
set_option linter.unusedVariables false
set_option maxRecDepth 100000
namespace Mine
section
variable {W : Wd} {k : Nat} {c : Cx} {N : List Addr} {δ : List (Str × D)} {s₀ : Shared} {own : Own}
theorem no_bytes_iadd : typeLookup (.type "bytes") (dunderI "add") = pure none := by rw [typeLookup_type, builtinLookup_eq_fast]; kernel_rfl
theorem iadd_bytes {prog : Program} {w : World} {A : Around} {E : Value → Shared → Prop} {s : Shared} {b c : Array UInt8} {t u : Tok} {Q : Value → Shared → Prop}
    (hsz : b.size + c.size ≤ 16777216) (h : ∀ t' k, Q (.bytes (b ++ c) t') { s with toks := k }) : wpAny (model prog w) A (inplaceOp .Add (.bytes b t) (.bytes c u)) Q E s := by
  refine iconcat_gives (PySem.W.typeIs_bytes s b t) (PySem.W.typeIs_bytes s c u) no_bytes_iadd KBy.noFill_bytes_add KBy.seq_bytes_add FB.slot_bytes_add FB.entry_bytes_add (FB.args_bytes_add_2 _ _) (KBy.gives_bytes_add (KBy.tooLong_not hsz)) ?_
  by_cases hb : b.isEmpty = true
  · rw [if_pos hb]
    have e : b = #[] := Array.isEmpty_iff.1 hb
    have h' := h u s.toks
    rw [e, Array.empty_append] at h'
    exact h'
  · rw [if_neg hb]
    by_cases hc : c.isEmpty = true
    · rw [if_pos hc]
      have e : c = #[] := Array.isEmpty_iff.1 hc
      have h' := h t s.toks
      rw [e, Array.append_empty] at h'
      exact h'
    · rw [if_neg hc]
      exact ⟨by rw [Array.size_append, sizeLine_eq]; exact hsz, h s.toks (s.toks + 1)⟩
theorem InR.addT {o : Bool} {a b : List Nat} (hz : a.length + b.length ≤ 16777216) : InR W k .Add (Tx o a) (Tx o b) (Tx o (a ++ b)) := .mk fun A N s v u hp r q => by
  cases o
  · cases r with | str _ t =>
    cases q with | str _ u =>
    refine SB.iadd (fun t' k' => ⟨.tok _ _, ?_⟩) (by show a.toArray.size + b.toArray.size ≤ _; simpa [sizeLine_eq] using hz)
    have e : ((⟨a.toArray⟩ : Str) ++ (⟨b.toArray⟩ : Str)) = ⟨(a ++ b).toArray⟩ := by
      show (⟨a.toArray ++ b.toArray⟩ : Str) = _
      simp
    rw [e]
    exact .str _ _
  · cases r with | bytes _ t =>
    cases q with | bytes _ u =>
    refine iadd_bytes (by simpa [bA] using hz) (fun t' k' => ⟨.tok _ _, ?_⟩)
    have e : bA a ++ bA b = bA (a ++ b) := by simp [bA]
    rw [e]
    exact .bytes _ _
theorem Bnd.joinB {pm code doc : Value} {d d2 : D} : Bnd W (fdOf 16 pm code doc) [d, d2] [("a", d), ("p", .tup [d2])] := fun A N s vs av r => by
  cases r with | cons r1 r =>
  cases r with | cons r2 r =>
  cases r
  rename_i v u
  have e : bindArgs (fdOf 16 pm code doc) ⟨[v, u], []⟩ = (newTuple [u] >>= fun t => pure [(("a" : Str), v), (("p" : Str), t)]) := rfl
  rw [e]
  have hx : Ext s.heap (s.heap.push { cls := .type "tuple", data := .seq ([u] : List Value).toArray }) := fun _ _ e => Heap.get?_push_of_some _ e
  refine wpAny_bind (wpAny_newTuple (wpAny_pure ⟨.push _ _, rfl, .cons (r1.ext hx) (.cons (.tup ⟨0, Heap.get?_push_size _ rfl⟩ (size_not_mem av) (.cons (r2.ext hx) .nil)) .nil)⟩) (by simp [sizeLine_eq]))

theorem Ev.starts {recv arg : Expr} {apos pos : Pos} {o : Bool} {l : List Nat} {ch : Nat} (hl : Gd l) (hc : ch < 256) (hr : Ev W k c N δ recv (Tx o l)) (ha : Ev W k c N δ arg (Tx o [ch]))
    (hbase : attributeBase recv "startswith" c.env (eval recv c.env) = eval recv c.env := by rfl)
    (hfew : ∀ pos, ((backTo pos (starEach [arg] c.env)).all (fun x => !x.1) && (backToKw pos (keywordEach [] c.env)).all (fun x => x.1.isSome)
      && decide ([arg].length + ([] : List Keyword).length + (if ([] : List Keyword).isEmpty then 0 else 1) < 30)) = true := by intro _; rfl)
    (hline : (apos.endLine == pos.line) = true := by rfl)
    (he : starEach [arg] c.env = (false, eval arg c.env) :: starEach [] c.env := by rfl)
    (hp : ∀ pos, (backTo pos (starEach [arg] c.env)).any (·.1) = false := by intro _; rfl) :
    Ev W k c N δ (.Call (.Attribute recv "startswith" apos) [arg] [] pos) (.bool (l.head? == some ch)) := by
  cases o
  · exact Ev.meth (T := "str") rfl F.plainAttrs_str F.slot_str_startswith F.type_str_startswith hr (EvL.cons ha EvL.nil he) starts_S hbase hfew hline he hp
  · exact Ev.meth (T := "bytes") rfl FB.plainAttrs_bytes FB.slot_bytes_startswith FB.type_bytes_startswith hr (EvL.cons ha EvL.nil he) (starts_B hl.bd hc) hbase hfew hline he hp
theorem Ev.ends {recv arg : Expr} {apos pos : Pos} {o : Bool} {l : List Nat} {ch : Nat} (hl : Gd l) (hc : ch < 256) (hr : Ev W k c N δ recv (Tx o l)) (ha : Ev W k c N δ arg (Tx o [ch]))
    (hbase : attributeBase recv "endswith" c.env (eval recv c.env) = eval recv c.env := by rfl)
    (hfew : ∀ pos, ((backTo pos (starEach [arg] c.env)).all (fun x => !x.1) && (backToKw pos (keywordEach [] c.env)).all (fun x => x.1.isSome)
      && decide ([arg].length + ([] : List Keyword).length + (if ([] : List Keyword).isEmpty then 0 else 1) < 30)) = true := by intro _; rfl)
    (hline : (apos.endLine == pos.line) = true := by rfl)
    (he : starEach [arg] c.env = (false, eval arg c.env) :: starEach [] c.env := by rfl)
    (hp : ∀ pos, (backTo pos (starEach [arg] c.env)).any (·.1) = false := by intro _; rfl) :
    Ev W k c N δ (.Call (.Attribute recv "endswith" apos) [arg] [] pos) (.bool (l.getLast? == some ch)) := by
  cases o
  · exact Ev.meth (T := "str") rfl F.plainAttrs_str F.slot_str_endswith F.type_str_endswith hr (EvL.cons ha EvL.nil he) ends_S hbase hfew hline he hp
  · exact Ev.meth (T := "bytes") rfl FB.plainAttrs_bytes FB.slot_bytes_endswith FB.type_bytes_endswith hr (EvL.cons ha EvL.nil he) (ends_B hl.bd hc) hbase hfew hline he hp
end
section
variable {W : Wd} {k : Nat} {c : Cx} {N : List Addr} {δ : List (Str × D)} {s₀ : Shared} {own : Own}
theorem join_R (g : Gl W) {o : Bool} {x y : List Nat} (hx : Gd x) (hy : Gd y) : FnR W (k + 2) "join" [Tx o x, Tx o y] (Tx o (jnp x y)) := by
  refine g.join.meets (k := k + 1) (δ := [("a", Tx o x), ("p", .tup [Tx o y])]) (fun _ _ _ => Bnd.joinB) (fun s₀ A L N pm code doc a => ?_)
  have hxs := hx.sz
  have hys := hy.sz
  refine Exs.expr Ev.lit ?_
  refine Exs.asg (d := Tx o x) (Ev.fn (fspath_R g) (EvL.cons (Ev.var (.head _)) EvL.nil)) (.inl (by kernel_rfl)) (.drop <| .skip (by decide +kernel) .nil) ?_
  refine Exs.asg (d := Tx o [47]) (Ev.fn (getsep_R g) (EvL.cons (Ev.var (.head _)) EvL.nil)) (.inl (by kernel_rfl)) (.skip (by decide +kernel) <| .skip (by decide +kernel) .nil) ?_
  refine Exs.asg (d := Tx o x) (Ev.var (.tail _ (.head _))) (.inl (by kernel_rfl)) (.skip (by decide +kernel) <| .skip (by decide +kernel) <| .skip (by decide +kernel) .nil) ?_
  refine Exs.tryOk (δ' := [("path", Tx o (jnp x y))]) ?_ (Exs.ret (Ev.var (.head _)))
  refine Exs.forN [Tx o y] (fun j => if j = 0 then [("path", Tx o x), ("sep", Tx o [47])] else [("path", Tx o (jnp x y))]) (fun j => [("b", Tx o y), ("path", Tx o x), ("sep", Tx o [47])]) (fun _ => none) 1 (by simp) (Itr.tup (Ev.var (.tail _ (.tail _ (.tail _ (.head _)))))) rfl (fun _ => rfl) ?_ (fun j d hj hd => ?_) (fun j hj => ?_) (.inl ⟨rfl, .nil'⟩)
  · intro p hp
    simp only [if_true, List.mem_cons, List.not_mem_nil, or_false] at hp ⊢
    rcases hp with h | h <;> simp [h]
  · match j, hj with
    | 0, _ =>
      simp at hd
      subst hd
      exact Asg.name (.inl (by kernel_rfl)) (.skip (by decide +kernel) <| .skip (by decide +kernel) .nil) noOwn
    | 1, _ => simp at hd
  · have : j = 0 := by omega
    subst this
    refine Exs.asg (d := Tx o y) (Ev.fn (fspath_R g) (EvL.cons (Ev.var (.head _)) EvL.nil)) (.inl (by kernel_rfl)) (.drop <| .skip (by decide +kernel) <| .skip (by decide +kernel) .nil) ?_
    show Exs _ _ _ _ _ _ _ _ (.next none [("path", Tx o (jnp x y))])
    have ts : ∀ {c : Cx} {N : List Addr} {e1 e2 : Expr} {pos : Pos} {δ : List (Str × D)}, Tr W (k + 1) c N δ e1 (y.head? == some 47) → Tr W (k + 1) c N δ e2 (!!decide (x = [])) → Tr W (k + 1) c N δ (.BoolOp .Or [e1, e2] pos) (decide (y.head? = some 47) || decide (x = [])) := fun h1 h2 =>
      (Tr.bop (TrAll.or h1 fun _ => TrAll.or h2 fun _ => .orNil)).to (by
        by_cases h1 : y.head? = some 47 <;> by_cases h2 : x = [] <;> simp [h1, h2])
    by_cases h : y.head? = some 47 ∨ x = []
    · refine Exs.iteLast (t := true) ((ts (Tr.val (Ev.starts hy (by decide) (Ev.var (.head _)) (Ev.var (.tail _ (.tail _ (.head _))))) TruR.bool) (Tr.not ((Tr.val (Ev.var (.tail _ (.head _))) (TruR.tx hx.le))))).to (by simpa using h)) (fun _ => ?_) nt
      exact Exs.asg (d := Tx o (jnp x y)) ((Ev.var (.head _)).to (by unfold jnp; rw [if_pos h])) (.inl (by kernel_rfl)) (.drop <| .drop <| .drop .nil) .nil'
    · refine Exs.iteLast (t := false) ((ts (Tr.val (Ev.starts hy (by decide) (Ev.var (.head _)) (Ev.var (.tail _ (.tail _ (.head _))))) TruR.bool) (Tr.not ((Tr.val (Ev.var (.tail _ (.head _))) (TruR.tx hx.le))))).to (by simpa using h)) nf (fun _ => ?_)
      by_cases h2 : x.getLast? = some 47
      · refine Exs.iteLast (t := true) ((Tr.val (Ev.ends hx (by decide) (Ev.var (.tail _ (.head _))) (Ev.var (.tail _ (.tail _ (.head _))))) TruR.bool).to (by simp [h2])) (fun _ => ?_) nt
        have e : jnp x y = x ++ y := by unfold jnp; rw [if_neg h, if_pos h2]
        rw [e]
        exact Exs.aug (d := Tx o (x ++ y)) (.tail _ (.head _)) (Ev.var (.head _)) (InR.addT (by omega)) (.inl (by kernel_rfl)) (.drop <| .drop <| .drop .nil) noOwn .nil'
      · refine Exs.iteLast (t := false) ((Tr.val (Ev.ends hx (by decide) (Ev.var (.tail _ (.head _))) (Ev.var (.tail _ (.tail _ (.head _))))) TruR.bool).to (by simp [h2])) nf (fun _ => ?_)
        have e : jnp x y = x ++ ([47] ++ y) := by unfold jnp; rw [if_neg h, if_neg h2]; simp
        rw [e]
        exact Exs.aug (d := Tx o (x ++ ([47] ++ y))) (.tail _ (.head _)) (Ev.bin (Ev.var (.tail _ (.tail _ (.head _)))) (Ev.var (.head _)) (BinR.addT (by simp; omega))) (InR.addT (by simp; omega)) (.inl (by kernel_rfl)) (.drop <| .drop <| .drop .nil) noOwn .nil'
end
end Mine
end F8S

section F9S
set_option linter.unusedVariables false
set_option maxRecDepth 100000
namespace Mine
def rowT (o : Bool) (r : List Nat × Nat) : D := .lst [Tx o r.1, iT r.2]
noncomputable def pths (l : List Nat) : List (List Nat) := (List.range 4).map (agd l)
noncomputable def moved (fs : List (List Nat × Nat)) (l : List Nat) (age : Nat) : List (List Nat × Nat) := (fs.filter fun r => decide (r.1 = agd l age)).map fun r => (agd l (age + 1), r.2)
noncomputable def kept (fs : List (List Nat × Nat)) (l : List Nat) : Nat → List (List Nat × Nat)
  | 0 => fs.filter fun r => !decide (r.1 ∈ pths l)
  | j + 1 => kept fs l j ++ moved fs l j
noncomputable def sto (fs : List (List Nat × Nat)) (l : List Nat) (act k turn : Nat) : List (List Nat × Nat) :=
  if act = 3 then fs.filter fun r => !decide (r.1 = agd l k)
  else (fun fs1 => if act = 1 then fs1 else (fs1.filter fun r => !decide (r.1 = l)) ++ [(l, turn)]) (if act = 0 then fs else kept fs l 3)

theorem filterMap_if {α β : Type} (p : α → Bool) (h : α → β) : ∀ xs : List α, xs.filterMap (fun a => if p a then some (h a) else none) = (xs.filter p).map h
  | [] => rfl
  | a :: xs => by
    rw [List.filterMap_cons, List.filter_cons]
    cases hp : p a <;> simp [filterMap_if p h xs]

theorem agd_gd {l : List Nat} (h : Gd l) (hl : l.length ≤ 90000) {age : Nat} (ha : age < 4) : Gd (agd l age) := by
  unfold agd
  split
  · exact h
  · obtain ⟨h1, h2⟩ := spx_bd h
    have := spx_len l
    refine ⟨fun c hc => ?_, by simp; omega⟩
    rcases List.mem_append.mp hc with hc | hc
    · rcases List.mem_append.mp hc with hc | hc
      · exact h1.bd c hc
      · simp at hc; omega
    · exact h2.bd c hc
section
variable {W : Wd} {k : Nat} {c : Cx} {N : List Addr} {δ : List (Str × D)} {s₀ : Shared} {own : Own}
theorem EvF.compF {α : Type} {elt target iter : Expr} {ifs : List Expr} {scope : Scope} {pos : Pos} (cl : List (Str × Addr)) (δc : List (Str × D)) (xs : List α) (enc h : α → D) (p : α → Bool)
    (hit : Itr W k c N δ iter (xs.map enc)) (hcel : Cel c.env scope cl δ δc) (hz : xs.length ≤ 16777216)
    (ht : ∀ C M, ∀ a ∈ xs, Turn W k (inner c scope cl C) (M :: N) δc target elt ifs (enc a) (if p a then some (h a) else none))
    (hclos : closureFor scope c.env = pure cl := by kernel_rfl) (hcell : ∀ y ∈ scope.names, y.2 ≠ .cell := by decide +kernel) (hkind : scope.kind = .function := by rfl)
    (hnames : ∀ y ∈ scope.names, y.2 = .local → scope.names.lookup y.1 = some .local := by decide +kernel)
    (hs : ∀ x, foldedSetIterable iter c.env x = pure x := by intro _; rfl) : EvF W k c N δ (.ListComp elt [⟨target, iter, ifs, 0⟩] scope pos) ((xs.filter p).map h) := by
  have := EvF.comp (pos := pos) cl δc xs enc (fun a => if p a then some (h a) else none) hit hcel hz ht hclos hcell hkind hnames hs
  rwa [filterMap_if] at this
theorem Exs.acqUseF {α : Type} {z : Str} {p spos : Pos} {elt target iter : Expr} {ifs : List Expr} {scope : Scope} {pos : Pos} {δ' : List (Str × D)} {rest : List Stmt} {o : Out} (cl : List (Str × Addr)) (δc : List (Str × D)) (xs : List α) (enc h : α → D) (pp : α → Bool)
    (hit : Itr W k c N δ iter (xs.map enc)) (hcel : Cel c.env scope cl δ δc) (hz : xs.length ≤ 16777216)
    (ht : ∀ C M, ∀ a ∈ xs, Turn W k (inner c scope cl C) (M :: N) δc target elt ifs (enc a) (if pp a then some (h a) else none))
    (hx : Sto c.env z) (hd : Del z δ δ') (hr : ∀ M, Exs W k s₀ c N (some (z, M, (xs.filter pp).map h)) δ' rest o)
    (hsw : swapsWith (.ListComp elt [⟨target, iter, ifs, 0⟩] scope pos) (some (.Name z p)) spos.line c.env = pure true := by kernel_rfl)
    (hclos : closureFor scope c.env = pure cl := by kernel_rfl) (hcell : ∀ y ∈ scope.names, y.2 ≠ .cell := by decide +kernel) (hkind : scope.kind = .function := by rfl)
    (hnames : ∀ y ∈ scope.names, y.2 = .local → scope.names.lookup y.1 = some .local := by decide +kernel)
    (hs : ∀ x, foldedSetIterable iter c.env x = pure x := by intro _; rfl) :
    Exs W k s₀ c N none δ (.Assign [.Name z p] (.ListComp elt [⟨target, iter, ifs, 0⟩] scope pos) spos :: rest) o :=
  Exs.acqUse cl δc xs enc (fun a => if pp a then some (h a) else none) hit hcel hz ht hx hd (fun M => by rw [filterMap_if]; exact hr M) hsw hclos hcell hkind hnames hs
theorem Ev.row0 {e : Expr} {o : Bool} {r : List Nat × Nat} {k1 : Nat} {p1 p2 : Pos} (he : Ev W k c N δ e (rowT o r)) : Ev W k c N δ (.Subscript e (.Constant (.int 0) k1 p1) p2) (Tx o r.1) :=
  Ev.sub rfl he Ev.constInt (SubR.lst (by decide) rfl (by simp))
theorem Ev.row1 {e : Expr} {o : Bool} {r : List Nat × Nat} {k1 : Nat} {p1 p2 : Pos} (he : Ev W k c N δ e (rowT o r)) : Ev W k c N δ (.Subscript e (.Constant (.int 1) k1 p1) p2) (iT r.2) :=
  Ev.sub rfl he Ev.constInt (SubR.lst (by decide) rfl (by simp))
theorem Ev.pathAt {e ix : Expr} {o : Bool} {l : List Nat} {a : Nat} {p2 : Pos} (ha : a < 4) (he : Ev W k c N δ e (.lst ((pths l).map (Tx o)))) (hi : Ev W k c N δ ix (.int (a : Nat)))
    (hs : ∀ o i, subscripted ix false o i = operate [o, i] (getItem o i) := by intro _ _; rfl) : Ev W k c N δ (.Subscript e ix p2) (Tx o (agd l a)) :=
  Ev.sub rfl he hi (SubR.lst (by omega) (by
    rw [Int.toNat_natCast, List.getElem?_map]
    unfold pths
    rw [List.getElem?_map, List.getElem?_range ha]
    rfl) (by unfold pths; simp)) hs
end
theorem pths_gd {l : List Nat} (h : Gd l) (hl : l.length ≤ 90000) : ∀ a ∈ pths l, Bd a := by
  intro a ha
  obtain ⟨i, hi, rfl⟩ := List.mem_map.mp ha
  exact (agd_gd h hl (List.mem_range.mp hi)).bd
theorem kept_len (fs : List (List Nat × Nat)) (l : List Nat) : ∀ j, (kept fs l j).length ≤ (j + 1) * fs.length
  | 0 => by
    have := List.length_filter_le (fun r : List Nat × Nat => !decide (r.1 ∈ pths l)) fs
    simp [kept]; omega
  | j + 1 => by
    have h1 := kept_len fs l j
    have h2 := List.length_filter_le (fun r : List Nat × Nat => decide (r.1 = agd l j)) fs
    simp only [kept, moved, List.length_append, List.length_map, Nat.add_mul] at *
    omega
theorem kept_gd {fs : List (List Nat × Nat)} {l : List Nat} (hf : ∀ r ∈ fs, Gd r.1) (hl : Gd l) (hl2 : l.length ≤ 90000) : ∀ j, j ≤ 3 → ∀ r ∈ kept fs l j, Gd r.1
  | 0, _, r, hr => hf r (List.mem_filter.mp hr).1
  | j + 1, hj, r, hr => by
    rcases List.mem_append.mp hr with hr | hr
    · exact kept_gd hf hl hl2 j (by omega) r hr
    · obtain ⟨q, _, rfl⟩ := List.mem_map.mp hr
      exact agd_gd hl hl2 (age := j + 1) (by omega)
section
variable {W : Wd} {k : Nat} {c : Cx} {N : List Addr} {δ : List (Str × D)} {s₀ : Shared} {own : Own}
theorem stored_R (g : Gl W) {o : Bool} {fs : List (List Nat × Nat)} {l : List Nat} {act kk turn : Nat} (hl : Gd l) (hl2 : l.length ≤ 90000) (hf : ∀ r ∈ fs, Gd r.1) (hz : fs.length ≤ 1000) (hk : kk < 4) :
    FnR W (k + 4) "_law_stored" [.lst (fs.map (rowT o)), Tx o l, .int (act : Nat), .int (kk : Nat), .int (turn : Nat), .bool o] (.lst ((sto fs l act kk turn).map (rowT o))) := by
  refine g.stored.meets (k := k + 3) (δ := [("files", .lst (fs.map (rowT o))), ("log", Tx o l), ("act", .int (act : Nat)), ("k", .int (kk : Nat)), ("turn", .int (turn : Nat)), ("octets", .bool o)]) (fun _ _ _ => Bnd.six fun _ _ _ _ _ _ => rfl) (fun s₀ A L N pm code doc a => ?_)
  have hpg := pths_gd hl hl2
  -- the four paths
  refine Exs.assign (own := none) (d := .lst ((pths l).map (Tx o))) ?_ (.inr ⟨by kernel_rfl, by kernel_rfl⟩) (.skip (by decide +kernel) <| .skip (by decide +kernel) <| .skip (by decide +kernel) <| .skip (by decide +kernel) <| .skip (by decide +kernel) <| .skip (by decide +kernel) .nil) noOwn ?_ (by kernel_rfl)
  · have e : (pths l).map (Tx o) = (List.range 4).map fun i => Tx o (agd l i) := by unfold pths; rw [List.map_map]; rfl
    rw [e]
    refine (EvF.compM [("octets", L + 1 + 1 + 1), ("log", L + 1)] [("log", Tx o l), ("octets", .bool o)] (List.range 4) (fun i => .int (i : Nat)) (fun i => Tx o (agd l i)) (Itr.range (n := 4) (nm g _) (EvL.cons Ev.constInt EvL.nil) (by decide))
      (.cons (.tail _ (.head _)) (by kernel_rfl) (by kernel_rfl) (by kernel_rfl) <| .cons (.tail _ (.tail _ (.tail _ (.tail _ (.tail _ (.head _)))))) (by kernel_rfl) (by kernel_rfl) (by kernel_rfl) .nil) (by decide) (fun C M x hx => ?_) (by kernel_rfl)).ev
    exact Turn.name (by kernel_rfl) (by rfl) (Ev.fn (aged_R g hl hl2 (List.mem_range.mp hx)) (EvL.cons (Ev.var (.tail _ (.head _))) (EvL.cons (Ev.var (.head _)) (EvL.cons (Ev.var (.tail _ (.tail _ (.head _)))) EvL.nil))))
  by_cases h3 : act = 3
  · refine Exs.ite (t := true) (o₁ := .ret _) (o₂ := .ret .none) (Tr.cmp (Ev.var (.tail _ (.tail _ (.tail _ (.head _))))) (Ev.constN (n := 3)) (CmpR.eqInt.to (by simp [h3]))) (fun _ => ?_) (fun _ => .ret) nt nt
    have e : sto fs l act kk turn = fs.filter fun r => !decide (r.1 = agd l kk) := by unfold sto; rw [if_pos h3]
    rw [e]
    refine Exs.ret (EvF.compF [("paths", L + 1 + 1 + 1 + 1 + 1), ("k", L + 1 + 1)] [("k", .int (kk : Nat)), ("paths", .lst ((pths l).map (Tx o)))] fs (rowT o) (rowT o) (fun r => !decide (r.1 = agd l kk)) (Itr.list (Ev.var (.tail _ (.head _))))
      (.cons (.tail _ (.tail _ (.tail _ (.tail _ (.head _))))) (by kernel_rfl) (by kernel_rfl) (by kernel_rfl) <| .cons (.head _) (by kernel_rfl) (by kernel_rfl) (by kernel_rfl) .nil) (by omega) (fun C M r hr => ?_)).ev
    exact Turn.nameIf (by kernel_rfl) (by rfl) (Tr.cmp (Ev.row0 (Ev.var (.head _))) (Ev.pathAt hk (Ev.var (.tail _ (.tail _ (.head _)))) (Ev.var (.tail _ (.head _)))) (CmpR.neT (hf r hr).bd (agd_gd hl hl2 hk).bd)) fun _ => Ev.var (.head _)
  · refine Exs.ite (t := false) (o₁ := .ret .none) (o₂ := .next _ _) (Tr.cmp (Ev.var (.tail _ (.tail _ (.tail _ (.head _))))) (Ev.constN (n := 3)) (CmpR.eqInt.to (by simp; omega))) nf nf (fun _ => .nil') (fun _ => .next ?_)
    generalize hfs1 : (if act = 0 then fs else kept fs l 3) = fs1
    have hf1 : ∀ r ∈ fs1, Gd r.1 := by
      intro r hr
      rw [← hfs1] at hr
      split at hr
      · exact hf r hr
      · exact kept_gd hf hl hl2 3 (by omega) r hr
    have hz1 : fs1.length ≤ 4000 := by
      rw [← hfs1]
      split
      · omega
      · have := kept_len fs l 3; omega
    have e : sto fs l act kk turn = if act = 1 then fs1 else (fs1.filter fun r => !decide (r.1 = l)) ++ [(l, turn)] := by unfold sto; rw [if_neg h3, hfs1]
    rw [e]
    -- the end
    have last : Exs W (k + 3) s₀ ⟨A, fenv 25 pm code doc L a⟩ N none [("files", .lst (fs1.map (rowT o))), ("log", Tx o l), ("act", .int (act : Nat)), ("turn", .int (turn : Nat))] ((bodyOf (stm 25)).drop 3) (.ret (.lst ((if act = 1 then fs1 else (fs1.filter fun r => !decide (r.1 = l)) ++ [(l, turn)]).map (rowT o)))) := by
      by_cases h1 : act = 1
      · refine Exs.ite (t := false) (o₁ := .ret .none) (o₂ := .next _ _) (Tr.cmp (Ev.var (.tail _ (.tail _ (.head _)))) (Ev.constN (n := 1)) (CmpR.neInt.to (by simp [h1]))) nf nf (fun _ => .nil') (fun _ => .next ?_)
        rw [if_pos h1]
        exact Exs.ret (Ev.var (.head _))
      · refine Exs.ite (t := true) (o₁ := .next none [("files", .lst ((if act = 1 then fs1 else (fs1.filter fun r => !decide (r.1 = l)) ++ [(l, turn)]).map (rowT o)))]) (o₂ := .ret .none) (Tr.cmp (Ev.var (.tail _ (.tail _ (.head _)))) (Ev.constN (n := 1)) (CmpR.neInt.to (by simp; omega))) (fun _ => ?_) (fun _ => .next (Exs.ret (Ev.var (.head _)))) nt nt
        rw [if_neg h1]
        refine Exs.asg ((Ev.bin (EvF.compF [("log", L + 1)] [("log", Tx o l)] fs1 (rowT o) (rowT o) (fun r => !decide (r.1 = l)) (Itr.list (Ev.var (.head _))) (.cons (.tail _ (.head _)) (by kernel_rfl) (by kernel_rfl) (by kernel_rfl) .nil) (by omega) (fun C M r hr => ?_)).ev
          (Ev.list (ds := [rowT o (l, turn)]) (EvL.cons (Ev.list (EvL.cons (Ev.var (.tail _ (.head _))) (EvL.cons (Ev.var (.tail _ (.tail _ (.tail _ (.head _))))) EvL.nil)) (by simp)) EvL.nil) (by simp)) (BinR.addList ?_)).to ?_) (.inl (by kernel_rfl)) (.drop <| .drop <| .drop <| .drop .nil) .nil'
        · exact Turn.nameIf (by kernel_rfl) (by rfl) (Tr.cmp (Ev.row0 (Ev.var (.head _))) (Ev.var (.tail _ (.head _))) (CmpR.neT (hf1 r hr).bd hl.bd)) fun _ => Ev.var (.head _)
        · have := List.length_filter_le (fun r : List Nat × Nat => !decide (r.1 = l)) fs1
          simp at this ⊢; omega
        · rw [List.map_append]; rfl
    by_cases h0 : act = 0
    · refine Exs.ite (t := false) (o₁ := .ret .none) (o₂ := .next _ _) (Tr.cmp (Ev.var (.tail _ (.tail _ (.tail _ (.head _))))) (Ev.constN (n := 0)) (CmpR.neInt.to (by simp [h0]))) nf nf (fun _ => .nil') (fun _ => .next (Exs.weak last ?_))
      rw [if_pos h0] at hfs1
      subst hfs1
      intro p hp
      simp only [List.mem_cons, List.not_mem_nil, or_false] at hp ⊢
      rcases hp with h | h | h | h <;> simp [h]
    · refine Exs.ite (t := true) (o₁ := .next _ _) (o₂ := .ret .none) (Tr.cmp (Ev.var (.tail _ (.tail _ (.tail _ (.head _))))) (Ev.constN (n := 0)) (CmpR.neInt.to (by simp; omega))) (fun _ => ?_) (fun _ => .next last) nt nt
      rw [if_neg h0] at hfs1
      subst hfs1
      let δ0 : List (Str × D) := [("paths", .lst ((pths l).map (Tx o))), ("files", .lst (fs.map (rowT o))), ("log", Tx o l), ("act", .int (act : Nat)), ("turn", .int (turn : Nat))]
      refine Exs.acqUseF (δ' := δ0) [("paths", L + 1 + 1 + 1 + 1 + 1)] [("paths", .lst ((pths l).map (Tx o)))] fs (rowT o) (rowT o) (fun r => !decide (r.1 ∈ pths l)) (Itr.list (Ev.var (.tail _ (.head _)))) (.cons (.head _) (by kernel_rfl) (by kernel_rfl) (by kernel_rfl) .nil) (by omega) (fun C M r hr => ?_) (.inl (by kernel_rfl))
        (.skip (by decide +kernel) <| .skip (by decide +kernel) <| .skip (by decide +kernel) <| .skip (by decide +kernel) <| .drop <| .skip (by decide +kernel) <| .drop .nil) fun M => ?_
      · exact Turn.nameIf (by kernel_rfl) (by rfl) (Tr.cmp (Ev.row0 (Ev.var (.head _))) (Ev.var (.tail _ (.head _))) (CmpR.notInT (hf r hr).bd hpg)) fun _ => Ev.var (.head _)
      refine Exs.forN (upto 3) (fun _ => δ0) (fun j => ("age", .int (j : Nat)) :: δ0) (fun j => some ("kept", M, (kept fs l j).map (rowT o))) 3 (by simp [upto]) (Itr.range (n := 3) (nm g _) (EvL.cons Ev.constInt EvL.nil) (by decide)) rfl (fun _ => rfl) (fun _ h => h) (fun j d hj hd => ?_) (fun j hj => ?_) (.inl ⟨by simp [upto], ?_⟩)
      · have hjl : j < 3 := by
          have := (List.getElem?_eq_some_iff.mp hd).1
          simpa [upto] using this
        have : d = .int (j : Nat) := by
          simp [upto, List.getElem?_range hjl] at hd
          exact hd.symm
        subst this
        refine Asg.name (.inr ⟨by kernel_rfl, by kernel_rfl⟩) (.skip (by decide +kernel) <| .skip (by decide +kernel) <| .skip (by decide +kernel) <| .skip (by decide +kernel) <| .skip (by decide +kernel) .nil) fun q hq => ?_
        cases hq
        show ("kept" : Str) ≠ "age"
        decide +kernel
      · have hkl := kept_len fs l j
        have hml : (moved fs l j).length ≤ fs.length := by unfold moved; rw [List.length_map]; exact List.length_filter_le _ _
        have hk4 : (j + 1) * fs.length ≤ 4 * 1000 := Nat.mul_le_mul (by omega) hz
        have em : (kept fs l (j + 1)).map (rowT o) = (kept fs l j).map (rowT o) ++ (moved fs l j).map (rowT o) := by
          show (kept fs l j ++ moved fs l j).map (rowT o) = _
          rw [List.map_append]
        show Exs _ _ _ _ _ _ _ _ (.next (some ("kept", M, (kept fs l (j + 1)).map (rowT o))) δ0)
        rw [em]
        refine Exs.augList (es := (moved fs l j).map (rowT o)) ?_ (by rw [List.length_map, List.length_map]; omega) (.inl (by kernel_rfl)) ?_ (Exs.nil fun p hp => .tail _ hp)
        · have e2 : (moved fs l j).map (rowT o) = (fs.filter fun r => decide (r.1 = agd l j)).map fun r => rowT o (agd l (j + 1), r.2) := by unfold moved; rw [List.map_map]; rfl
          rw [e2]
          refine (EvF.compF [("paths", L + 1 + 1 + 1 + 1 + 1), ("age", L + 1 + 1 + 1 + 1)] [("age", .int (j : Nat)), ("paths", .lst ((pths l).map (Tx o)))] fs (rowT o) (fun r => rowT o (agd l (j + 1), r.2)) (fun r => decide (r.1 = agd l j)) (Itr.list (Ev.var (.tail _ (.tail _ (.head _)))))
            (.cons (.head _) (by kernel_rfl) (by kernel_rfl) (by kernel_rfl) <| .cons (.tail _ (.head _)) (by kernel_rfl) (by kernel_rfl) (by kernel_rfl) .nil) (by omega) (fun C M r hr => ?_)).ev
          exact Turn.nameIf (by kernel_rfl) (by rfl) (Tr.cmp (Ev.row0 (Ev.var (.head _))) (Ev.pathAt (by omega) (Ev.var (.tail _ (.tail _ (.head _)))) (Ev.var (.tail _ (.head _)))) (CmpR.eqT (hf r hr).bd (agd_gd hl hl2 (age := j) (by omega)).bd)) fun _ =>
            Ev.list (EvL.cons (Ev.pathAt (a := j + 1) (by omega) (Ev.var (.tail _ (.tail _ (.head _)))) (Ev.bin (Ev.var (.tail _ (.head _))) (Ev.constN (n := 1)) BinR.addN)) (EvL.cons (Ev.row1 (o := o) (r := r) (Ev.var (.head _))) EvL.nil)) (by simp)
        · intro p hp
          simp only [δ0, List.mem_cons, List.not_mem_nil, or_false] at hp
          rcases hp with rfl | rfl | rfl | rfl | rfl | rfl
          · show ("age" : Str) ≠ "kept"; decide +kernel
          · show ("paths" : Str) ≠ "kept"; decide +kernel
          · show ("files" : Str) ≠ "kept"; decide +kernel
          · show ("log" : Str) ≠ "kept"; decide +kernel
          · show ("act" : Str) ≠ "kept"; decide +kernel
          · show ("turn" : Str) ≠ "kept"; decide +kernel
      · refine Exs.rel ?_
        exact Exs.asg (Ev.var (.head _)) (.inl (by kernel_rfl)) (.drop <| .drop <| .drop <| .skip (by decide +kernel) <| .skip (by decide +kernel) <| .skip (by decide +kernel) .nil) .nil'
end
end Mine
end F9S

section G1S
set_option linter.unusedVariables false
set_option linter.unusedSectionVars false
namespace Mine
/-! the sorting, as a tree of questions -/
def Hold (lt : Nat → Nat → Bool) (n : Nat) {α : Type} (P : α → Prop) : KasT α → Prop
  | .ret a => P a
  | .ask i j k => i < n ∧ j < n ∧ i ≠ j ∧ Hold lt n P (k (lt i j))
theorem Hold.bind {lt : Nat → Nat → Bool} {n : Nat} {α β : Type} {P : α → Prop} {Q : β → Prop} {f : α → KasT β} : ∀ {t : KasT α}, Hold lt n P t → (∀ a, P a → Hold lt n Q (f a)) → Hold lt n Q (t.bind f)
  | .ret a, h, hf => hf a h
  | .ask i j k, h, hf => ⟨h.1, h.2.1, h.2.2.1, Hold.bind h.2.2.2 hf⟩
theorem Hold.mono {lt : Nat → Nat → Bool} {n : Nat} {α : Type} {P Q : α → Prop} (hq : ∀ a, P a → Q a) : ∀ {t : KasT α}, Hold lt n P t → Hold lt n Q t
  | .ret a, h => hq a h
  | .ask i j k, h => ⟨h.1, h.2.1, h.2.2.1, Hold.mono hq h.2.2.2⟩

def at' (p : Array Nat) (i : Nat) : Nat := p.getD i 0
structure V (n : Nat) (p : Array Nat) : Prop where
  sz : p.size = n
  pm : p.toList.Perm (List.range n)
theorem V.lt {n : Nat} {p : Array Nat} (v : V n p) {i : Nat} (hi : i < n) : at' p i < n := by
  have h : i < p.size := v.sz ▸ hi
  have e : at' p i = p[i] := by unfold at'; simp [Array.getD, h]
  rw [e]
  have : p[i] ∈ p.toList := by simp
  exact List.mem_range.mp (v.pm.mem_iff.mp this)
theorem V.inj {n : Nat} {p : Array Nat} (v : V n p) {i j : Nat} (hi : i < n) (hj : j < n) (hij : i ≠ j) : at' p i ≠ at' p j := by
  have h1 : i < p.size := v.sz ▸ hi
  have h2 : j < p.size := v.sz ▸ hj
  have e1 : at' p i = p.toList[i] := by unfold at'; simp [Array.getD, h1]
  have e2 : at' p j = p.toList[j] := by unfold at'; simp [Array.getD, h2]
  rw [e1, e2]
  have nd : p.toList.Nodup := v.pm.nodup_iff.mpr List.nodup_range
  intro h
  have key := List.pairwise_iff_getElem.mp nd
  rcases Nat.lt_or_gt_of_ne hij with h' | h'
  · exact key i j (by simpa using h1) (by simpa using h2) h' h
  · exact key j i (by simpa using h2) (by simpa using h1) h' h.symm
theorem at_eq {p q : Array Nat} {i j : Nat} (h : p[i]? = q[j]?) : at' p i = at' q j := by
  unfold at'
  rw [Array.getD_eq_getD_getElem?, Array.getD_eq_getD_getElem?, h]
theorem V.of_perm {n : Nat} {p q : Array Nat} (v : V n p) (h : q.Perm p) (hs : q.size = p.size) : V n q := ⟨hs.trans v.sz, (Array.perm_iff_toList_perm.mp h).trans v.pm⟩

section
variable {lt : Nat → Nat → Bool} {n : Nat}
def SP (lt : Nat → Nat → Bool) (p : Array Nat) (m : Nat) : Prop := ∀ i j, i < j → j < m → lt (at' p i) (at' p j) = true
def DP (lt : Nat → Nat → Bool) (p : Array Nat) (m : Nat) : Prop := ∀ i j, i < j → j < m → lt (at' p j) (at' p i) = true
variable (tot : ∀ i j, i < n → j < n → i ≠ j → lt i j = true ∨ lt j i = true) (tr : ∀ i j k, i < n → j < n → k < n → lt i j = true → lt j k = true → lt i k = true)
include tot tr
theorem SP.snoc {p : Array Nat} {m : Nat} (v : V n p) (h : SP lt p m) (hm : m < n) (h1 : 1 ≤ m) (hl : lt (at' p (m - 1)) (at' p m) = true) : SP lt p (m + 1) := by
  intro i j hij hj
  rcases Nat.lt_or_ge j m with hjm | hjm
  · exact h i j hij hjm
  · have : j = m := by omega
    subst this
    rcases Nat.lt_or_ge i (j - 1) with h2 | h2
    · exact tr _ (at' p (j - 1)) _ (v.lt (by omega)) (v.lt (by omega)) (v.lt hm) (h i (j - 1) h2 (by omega)) hl
    · have : i = j - 1 := by omega
      rw [this]; exact hl
theorem DP.snoc {p : Array Nat} {m : Nat} (v : V n p) (h : DP lt p m) (hm : m < n) (h1 : 1 ≤ m) (hl : lt (at' p m) (at' p (m - 1)) = true) : DP lt p (m + 1) := by
  intro i j hij hj
  rcases Nat.lt_or_ge j m with hjm | hjm
  · exact h i j hij hjm
  · have : j = m := by omega
    subst this
    rcases Nat.lt_or_ge i (j - 1) with h2 | h2
    · exact tr _ (at' p (j - 1)) _ (v.lt hm) (v.lt (by omega)) (v.lt (by omega)) hl (h i (j - 1) h2 (by omega))
    · have : i = j - 1 := by omega
      rw [this]; exact hl
theorem asc_H {p : Array Nat} (v : V n p) : ∀ f m, 1 ≤ m → m + f ≤ n → SP lt p m → Hold lt n (fun r => m ≤ r ∧ r ≤ m + f ∧ SP lt p r) (kas_asc p f m)
  | 0, m, h1, h2, h => ⟨Nat.le_refl _, by omega, h⟩
  | f + 1, m, h1, h2, h => by
    refine ⟨v.lt (by omega), v.lt (by omega), v.inj (by omega) (by omega) (by omega), ?_⟩
    cases hc : lt (at' p m) (at' p (m - 1)) with
    | true =>
      show Hold lt n _ (if lt (at' p m) (at' p (m - 1)) = true then KasT.ret m else _)
      rw [hc]
      exact ⟨Nat.le_refl _, by omega, h⟩
    | false =>
      show Hold lt n _ (if lt (at' p m) (at' p (m - 1)) = true then KasT.ret m else kas_asc p f (m + 1))
      rw [hc, if_neg Bool.false_ne_true]
      have hl : lt (at' p (m - 1)) (at' p m) = true := by
        rcases tot _ _ (v.lt (show m < n by omega)) (v.lt (show m - 1 < n by omega)) (v.inj (by omega) (by omega) (by omega)) with h | h
        · rw [hc] at h; cases h
        · exact h
      exact Hold.mono (fun r ⟨a, b, c⟩ => ⟨by omega, by omega, c⟩) (asc_H v f (m + 1) (by omega) (by omega) (SP.snoc tot tr v h (by omega) h1 hl))
theorem desc_H {p : Array Nat} (v : V n p) : ∀ f m, 1 ≤ m → m + f ≤ n → DP lt p m → Hold lt n (fun r => r.1 = p ∧ r.2.2 = 0 ∧ m ≤ r.2.1 ∧ r.2.1 ≤ m + f ∧ DP lt p r.2.1) (kas_desc f p m 0)
  | 0, m, h1, h2, h => ⟨rfl, rfl, Nat.le_refl _, by show m ≤ m + 0; omega, h⟩
  | f + 1, m, h1, h2, h => by
    refine ⟨v.lt (by omega), v.lt (by omega), v.inj (by omega) (by omega) (by omega), ?_⟩
    cases hc : lt (at' p m) (at' p (m - 1)) with
    | true =>
      show Hold lt n _ (if lt (at' p m) (at' p (m - 1)) = true then (if 0 > 0 then _ else kas_desc f p (m + 1) 0) else _)
      rw [hc, if_pos rfl, if_neg (by omega)]
      exact Hold.mono (fun r ⟨a, b, c, d, e⟩ => ⟨a, b, by omega, by omega, e⟩) (desc_H v f (m + 1) (by omega) (by omega) (DP.snoc tot tr v h (by omega) h1 hc))
    | false =>
      show Hold lt n _ (if lt (at' p m) (at' p (m - 1)) = true then _ else KasT.ask (at' p (m - 1)) (at' p m) fun d => if d = true then .ret (p, m, 0) else kas_desc f p (m + 1) (0 + 1))
      rw [hc, if_neg Bool.false_ne_true]
      have hl : lt (at' p (m - 1)) (at' p m) = true := by
        rcases tot _ _ (v.lt (show m < n by omega)) (v.lt (show m - 1 < n by omega)) (v.inj (by omega) (by omega) (by omega)) with h | h
        · rw [hc] at h; cases h
        · exact h
      refine ⟨v.lt (by omega), v.lt (by omega), v.inj (by omega) (by omega) (by omega), ?_⟩
      show Hold lt n _ (if lt (at' p (m - 1)) (at' p m) = true then _ else _)
      rw [hl]
      exact ⟨rfl, rfl, Nat.le_refl _, by show m ≤ m + (f + 1); omega, h⟩
omit tot tr in
theorem rev_at {p : Array Nat} (m : Nat) (hm : m ≤ p.size) (k : Nat) (hk : k < m) : at' (kas_rev p 0 m) k = at' p (m - 1 - k) := by
  unfold kas_rev
  apply at_eq
  rw [getElem?_mirror hm _ (by omega)]
  split
  · congr 1; omega
  · have : k = m - 1 - k := by omega
    rw [← this]
omit tot tr in
theorem rev_V {p : Array Nat} (v : V n p) (m : Nat) : V n (kas_rev p 0 m) := v.of_perm (mirror_perm ..) (mirror_size ..)
theorem rev_SP {p : Array Nat} {m : Nat} (v : V n p) (hm : m ≤ n) (h : DP lt p m) : SP lt (kas_rev p 0 m) m := by
  intro i j hij hj
  rw [rev_at m (v.sz ▸ hm) i (by omega), rev_at m (v.sz ▸ hm) j hj]
  exact h _ _ (by omega) (by omega)

theorem tail_H {p : Array Nat} (v : V n p) {m : Nat} (h1 : 1 ≤ m) (hm : m ≤ n) (h : DP lt p m) : Hold lt n (fun r => V n r.2 ∧ 1 ≤ r.1 ∧ r.1 ≤ n ∧ SP lt r.2 r.1) (kas_tail3 m n p) := by
  unfold kas_tail3
  have v' := rev_V v m
  exact Hold.bind (asc_H tot tr v' (n - m) m h1 (by omega) (rev_SP tot tr v hm h)) fun r ⟨a, b, c⟩ => ⟨v', by show 1 ≤ r; omega, by show r ≤ n; omega, c⟩
theorem one_DP {p : Array Nat} (v : V n p) (h2 : 2 ≤ n) (hl : lt (at' p 1) (at' p 0) = true) : DP lt p 2 := by
  intro i j hij hj
  have : i = 0 := by omega
  have : j = 1 := by omega
  subst i; subst j
  exact hl
/-- the first run -/
theorem count_H {p : Array Nat} (v : V n p) (h2 : 2 ≤ n) : Hold lt n (fun r => V n r.2 ∧ 1 ≤ r.1 ∧ r.1 ≤ n ∧ SP lt r.2 r.1) (kas_count n p) := by
  unfold kas_count
  have s1 : SP lt p 1 := fun i j h1 h2 => by omega
  -- what is known of the first question is needed again
  have asc1 : Hold lt n (fun m => 1 ≤ m ∧ m ≤ n ∧ SP lt p m ∧ (m = 1 → lt (at' p 1) (at' p 0) = true)) (kas_asc p (n - 1) 1) := by
    obtain ⟨f, hf⟩ : ∃ f, n - 1 = f + 1 := ⟨n - 2, by omega⟩
    rw [hf]
    refine ⟨v.lt (by omega), v.lt (by omega), v.inj (by omega) (by omega) (by omega), ?_⟩
    cases hc : lt (at' p 1) (at' p 0) with
    | true =>
      show Hold lt n _ (if lt (at' p 1) (at' p 0) = true then KasT.ret 1 else _)
      rw [hc]
      exact ⟨by omega, by omega, s1, fun _ => rfl⟩
    | false =>
      show Hold lt n _ (if lt (at' p 1) (at' p 0) = true then KasT.ret 1 else kas_asc p f 2)
      rw [hc, if_neg Bool.false_ne_true]
      have hl : lt (at' p 0) (at' p 1) = true := by
        rcases tot _ _ (v.lt (show 1 < n by omega)) (v.lt (show 0 < n by omega)) (v.inj (by omega) (by omega) (by omega)) with h | h
        · rw [hc] at h; cases h
        · exact h
      exact Hold.mono (fun r ⟨a, b, c⟩ => ⟨by omega, by omega, c, fun e => by omega⟩) (asc_H tot tr v f 2 (by omega) (by omega) (SP.snoc tot tr v s1 (by omega) (by omega) hl))
  refine Hold.bind asc1 fun m ⟨a, b, c, d⟩ => ?_
  by_cases hm : m = n
  · rw [if_pos (by simp [hm])]
    exact ⟨v, a, by show m ≤ n; omega, c⟩
  · rw [if_neg (by simpa using hm)]
    by_cases h1 : m > 1
    · rw [if_pos h1]
      refine ⟨v.lt (by omega), v.lt (by omega), v.inj (by omega) (by omega) (by omega), ?_⟩
      have hl := c 0 (m - 1) (by omega) (by omega)
      show Hold lt n _ (if lt (at' p 0) (at' p (m - 1)) = true then _ else _)
      rw [hl]
      exact ⟨v, a, b, c⟩
    · rw [if_neg h1]
      have : m = 1 := by omega
      subst this
      unfold kas_descPart
      refine Hold.bind (desc_H tot tr v (n - 2) 2 (by omega) (by omega) (one_DP tot tr v h2 (d rfl))) fun r ⟨e1, e2, e3, e4, e5⟩ => ?_
      rw [e2, if_neg (by omega), e1]
      exact tail_H tot tr v (by omega) (by omega) e5
theorem place_H {p : Array Nat} (v : V n p) {k : Nat} (hk : k < n) (hs : SP lt p k) : ∀ f l r, l ≤ r → r ≤ k → r - l ≤ f → (∀ i, i < l → lt (at' p i) (at' p k) = true) → (∀ i, r ≤ i → i < k → lt (at' p k) (at' p i) = true) →
    Hold lt n (fun x => x ≤ k ∧ (∀ i, i < x → lt (at' p i) (at' p k) = true) ∧ ∀ i, x ≤ i → i < k → lt (at' p k) (at' p i) = true) (kas_place p k f l r)
  | 0, l, r, h1, h2, h3, a, b => ⟨by omega, a, fun i hi => b i (by omega)⟩
  | f + 1, l, r, h1, h2, h3, a, b => by
    unfold kas_place
    by_cases hlr : l ≥ r
    · rw [if_pos hlr]
      exact ⟨by omega, a, fun i hi => b i (by omega)⟩
    · rw [if_neg hlr]
      refine ⟨v.lt hk, v.lt (by omega), v.inj hk (by omega) (by omega), ?_⟩
      have hmk : (l + r) / 2 < k := by omega
      cases hc : lt (at' p k) (at' p ((l + r) / 2)) with
      | true =>
        show Hold lt n _ (if lt (at' p k) (at' p ((l + r) / 2)) = true then _ else _)
        rw [hc, if_pos rfl]
        refine place_H v hk hs f l ((l + r) / 2) (by omega) (by omega) (by omega) a fun i hi hik => ?_
        rcases Nat.lt_or_ge ((l + r) / 2) i with h | h
        · exact tr _ (at' p ((l + r) / 2)) _ (v.lt hk) (v.lt (by omega)) (v.lt (by omega)) hc (hs _ _ h hik)
        · have : i = (l + r) / 2 := by omega
          rw [this]; exact hc
      | false =>
        show Hold lt n _ (if lt (at' p k) (at' p ((l + r) / 2)) = true then _ else _)
        rw [hc, if_neg Bool.false_ne_true]
        have hl : lt (at' p ((l + r) / 2)) (at' p k) = true := by
          rcases tot _ _ (v.lt hk) (v.lt (show (l + r) / 2 < n by omega)) (v.inj (by omega) (by omega) (by omega)) with h | h
          · rw [hc] at h; cases h
          · exact h
        refine place_H v hk hs f ((l + r) / 2 + 1) r (by omega) (by omega) (by omega) (fun i hi => ?_) b
        rcases Nat.lt_or_ge i ((l + r) / 2) with h | h
        · exact tr _ (at' p ((l + r) / 2)) _ (v.lt (by omega)) (v.lt (by omega)) (v.lt hk) (hs _ _ h hmk) hl
        · have : i = (l + r) / 2 := by omega
          rw [this]; exact hl
omit tot tr in
theorem bub_at {p : Array Nat} {k l : Nat} (hk : k < p.size) (hl : l ≤ k) (i : Nat) (hi : i ≤ k) : at' (bubble p k (k - l)) i = if i = l then at' p k else if l < i then at' p (i - 1) else at' p i := by
  have h := getElem?_bubble hk (k - l) (by omega) i
  rw [show k - (k - l) = l by omega] at h
  split
  · rename_i e; rw [if_pos e] at h; exact at_eq h
  · rename_i e
    rw [if_neg e] at h
    split
    · rename_i e2; rw [if_pos ⟨e2, hi⟩] at h; exact at_eq h
    · rename_i e2; rw [if_neg (fun x => e2 x.1)] at h; exact at_eq h
theorem bub_SP {p : Array Nat} (v : V n p) {k l : Nat} (hk : k < n) (hl : l ≤ k) (hs : SP lt p k) (a : ∀ i, i < l → lt (at' p i) (at' p k) = true) (b : ∀ i, l ≤ i → i < k → lt (at' p k) (at' p i) = true) : SP lt (bubble p k (k - l)) (k + 1) := by
  intro i j hij hj
  have hk' : k < p.size := v.sz ▸ hk
  rw [bub_at hk' hl i (by omega), bub_at hk' hl j (by omega)]
  by_cases h1 : i = l
  · rw [if_pos h1, if_neg (by omega), if_pos (by omega)]
    exact b _ (by omega) (by omega)
  · rw [if_neg h1]
    by_cases h2 : j = l
    · rw [if_pos h2, if_neg (by omega)]
      exact a _ (by omega)
    · rw [if_neg h2]
      by_cases h3 : l < i
      · rw [if_pos h3, if_pos (by omega)]
        exact hs _ _ (by omega) (by omega)
      · rw [if_neg h3]
        by_cases h4 : l < j
        · rw [if_pos h4]
          rcases Nat.lt_or_ge i (j - 1) with h | h
          · exact hs _ _ h (by omega)
          · omega
        · rw [if_neg h4]
          exact hs _ _ hij (by omega)
theorem bin_H : ∀ f (p : Array Nat) k, V n p → k + f = n → 1 ≤ k → SP lt p k → Hold lt n (fun r => V n r ∧ SP lt r n) (kas_bin f p k)
  | 0, p, k, v, h1, h2, hs => ⟨v, (show k = n by omega) ▸ hs⟩
  | f + 1, p, k, v, h1, h2, hs => by
    show Hold lt n _ ((kas_place p k k 0 k).bind fun l => kas_bin f (bubble p k (k - l)) (k + 1))
    refine Hold.bind (place_H tot tr v (show k < n by omega) hs k 0 k (by omega) (Nat.le_refl _) (by omega) (fun i hi => by omega) fun i hi hik => by omega) fun l ⟨a, b, c⟩ => ?_
    exact bin_H f _ (k + 1) (v.of_perm (bubble_perm ..) (bubble_size ..)) (by omega) (by omega) (bub_SP tot tr v (by omega) a hs b c)
theorem sort_H (h2 : 2 ≤ n) : Hold lt n (fun r => V n r ∧ SP lt r n) (kas_sort n) := by
  unfold kas_sort
  refine Hold.bind (count_H tot tr (p := List.toArray (List.range n)) ⟨by simp, by simp⟩ h2) fun r ⟨a, b, c, d⟩ => ?_
  by_cases h : r.1 < n
  · rw [if_pos h, show max r.1 1 = r.1 by omega]
    exact bin_H tot tr _ _ _ a (by omega) b d
  · rw [if_neg h]
    refine ⟨a, ?_⟩
    have : r.1 = n := by omega
    rw [this] at d
    exact d
end
/-- questions answered -/
theorem Hold.wp {lt : Nat → Nat → Bool} {n : Nat} {cmp : Nat → Nat → (Bool → Shared → Prop) → Shared → Prop} {I : Shared → Prop} (hc : ∀ i j s C, i < n → j < n → i ≠ j → I s → (∀ s', I s' → C (lt i j) s') → cmp i j C s) {α : Type} {P : α → Prop} {Q : α → Shared → Prop} :
    ∀ {t : KasT α} {s : Shared}, Hold lt n P t → I s → (∀ a s', P a → I s' → Q a s') → t.kasWp cmp Q s
  | .ret a, s, h, hi, hq => hq a s h hi
  | .ask i j k, s, h, hi, hq => hc i j s _ h.1 h.2.1 h.2.2.1 hi fun s' hs' => Hold.wp hc h.2.2.2 hs' hq
end Mine
end G1S

section G2S
set_option linter.unusedVariables false
set_option maxRecDepth 100000
namespace Mine
def ltl : List Nat → List Nat → Bool
  | [], [] => false
  | [], _ :: _ => true
  | _ :: _, [] => false
  | x :: a, y :: b => if x < y then true else if y < x then false else ltl a b
theorem ltl_cons (x y : Nat) (a b : List Nat) : ltl (x :: a) (y :: b) = if x < y then true else if y < x then false else ltl a b := rfl
theorem ltl_tot : ∀ a b : List Nat, a ≠ b → ltl a b = true ∨ ltl b a = true
  | [], [], h => absurd rfl h
  | [], _ :: _, _ => .inl rfl
  | _ :: _, [], _ => .inr rfl
  | x :: a, y :: b, h => by
    rw [ltl_cons, ltl_cons]
    by_cases h1 : x < y
    · left; rw [if_pos h1]
    · by_cases h2 : y < x
      · right; rw [if_pos h2]
      · rw [if_neg h1, if_neg h2, if_neg h2, if_neg h1]
        have : x = y := by omega
        subst this
        exact ltl_tot a b fun e => h (by rw [e])
theorem ltl_tr : ∀ a b c : List Nat, ltl a b = true → ltl b c = true → ltl a c = true
  | [], [], c, h, _ => by cases h
  | [], _ :: _, [], _, h => by cases h
  | [], _ :: _, _ :: _, _, _ => rfl
  | _ :: _, [], _, h, _ => by cases h
  | _ :: _, _ :: _, [], _, h => by cases h
  | x :: a, y :: b, z :: c, h1, h2 => by
    unfold ltl at h1 h2 ⊢
    split at h1
    · split at h2
      · rw [if_pos (by omega)]
      · split at h2
        · cases h2
        · rw [if_pos (by omega)]
    · split at h1
      · cases h1
      · split at h2
        · rw [if_pos (by omega)]
        · split at h2
          · cases h2
          · rw [if_neg (by omega), if_neg (by omega)]
            exact ltl_tr a b c h1 h2
theorem ltl_irr : ∀ a : List Nat, ltl a a = false
  | [] => rfl
  | x :: a => by unfold ltl; rw [if_neg (Nat.lt_irrefl _), if_neg (Nat.lt_irrefl _)]; exact ltl_irr a
theorem ltl_str : ∀ a b : List Nat, decide (a < b) = ltl a b
  | [], [] => by simp [ltl]
  | [], _ :: _ => by simp [ltl]
  | _ :: _, [] => by simp [ltl]
  | x :: a, y :: b => by
    have ih := ltl_str a b
    rw [ltl_cons, Bool.eq_iff_iff, decide_eq_true_eq, List.cons_lt_cons_iff]
    by_cases h1 : x < y
    · rw [if_pos h1]; exact ⟨fun _ => rfl, fun _ => .inl h1⟩
    · by_cases h2 : y < x
      · rw [if_neg h1, if_pos h2]
        exact ⟨fun h => h.elim (fun h => absurd h h1) fun h => by omega, fun h => by cases h⟩
      · rw [if_neg h1, if_neg h2, ← ih, decide_eq_true_eq]
        exact ⟨fun h => h.elim (fun h => absurd h h1) fun h => h.2, fun h => .inr ⟨by omega, h⟩⟩
theorem ltl_bytes : ∀ a b : List Nat, Bd a → Bd b → (Builtin.Bytes.order (bA a).toList (bA b).toList == .lt) = ltl a b
  | [], [], _, _ => rfl
  | [], _ :: _, _, _ => rfl
  | _ :: _, [], _, _ => rfl
  | x :: a, y :: b, ha, hb => by
    have ih := ltl_bytes a b (fun c hc => ha c (.tail _ hc)) (fun c hc => hb c (.tail _ hc))
    have hx := ha x (.head _)
    have hy := hb y (.head _)
    have e1 : (bA (x :: a)).toList = x.toUInt8 :: (bA a).toList := rfl
    have e2 : (bA (y :: b)).toList = y.toUInt8 :: (bA b).toList := rfl
    have lt8 : ∀ u v : Nat, u < 256 → v < 256 → (u.toUInt8 < v.toUInt8 ↔ u < v) := fun u v hu hv => by
      rw [UInt8.lt_iff_toNat_lt]
      have e1 : u.toUInt8.toNat = u := by show (UInt8.ofNat u).toNat = u; rw [UInt8.toNat_ofNat']; omega
      have e2 : v.toUInt8.toNat = v := by show (UInt8.ofNat v).toNat = v; rw [UInt8.toNat_ofNat']; omega
      rw [e1, e2]
    rw [e1, e2]
    unfold Builtin.Bytes.order ltl
    by_cases h1 : x < y
    · rw [if_pos ((lt8 _ _ hx hy).mpr h1), if_pos h1]; rfl
    · rw [if_neg (fun h => h1 ((lt8 _ _ hx hy).mp h)), if_neg h1]
      by_cases h2 : y < x
      · rw [if_pos (show x.toUInt8 > y.toUInt8 from (lt8 _ _ hy hx).mpr h2), if_pos h2]; rfl
      · rw [if_neg (fun h => h2 ((lt8 _ _ hy hx).mp h)), if_neg h2]
        exact ih

theorem slot_bytes_lt : Slot "bytes" (cmpInfo .Lt).2.1 "bytes.__lt__" :=
  .of (owner := "bytes") (n := "__lt__") (by rw [typeLookup_type, builtinLookup_eq_fast]; kernel_rfl) (by decide +kernel) (by decide +kernel) (by decide +kernel)
    (by first | exact .inl (by decide +kernel) | exact .inr (by decide +kernel)) (by rw [isSubtype_type]; kernel_rfl)
theorem entry_bytes_lt : entryFor table "bytes.__lt__" = some Builtin.«bytes.__lt__» := entryFor_of_tree (by kernel_rfl)
theorem args_bytes_lt_2 (a b : Value) : argsOk "bytes.__lt__" ⟨[a, b], []⟩ := by
  unfold argsOk; rw [signature?_of (id := "bytes.__lt__") (n := ['_', '_', 't', 'l', '_', '_']) (o := ['s', 'e', 't', 'y', 'b']) (by kernel_rfl) FB.owner_bytes]; kernel_rfl
theorem gives_bytes_lt (b c : Array UInt8) (t u : Tok) : Gives (Builtin.«bytes.__lt__» ⟨[.bytes b t, .bytes c u], []⟩) (.val (.bool (Builtin.Bytes.order b.toList c.toList == .lt))) := by
  refine .of_wp fun M A E s Q hq => ?_
  show wpAny M A (isInstance (.bytes c u) (.type "bytes") >>= fun r => _) _ E s
  refine wpAny_bind (wpAny_isInstance (PySem.W.typeIs_bytes s c u) F.sub_bytes_bytes ?_)
  exact wpAny_pure ⟨_, rfl, hq⟩
theorem rc_lt_tx {prog : Program} {w : World} {A : Around} {E : Value → Shared → Prop} {s : Shared} {N N' : List Addr} {v u : Value} {o : Bool} {a b : List Nat} {Q : Value → Shared → Prop} (ha : Bd a) (hb : Bd b) (r : Rep N s.heap v (Tx o a)) (q : Rep N' s.heap u (Tx o b))
    (h : Q (.bool (ltl a b)) s) : wpAny (model prog w) A (richCompare .Lt v u) Q E s := by
  cases o
  · cases r with | str _ t =>
    cases q with | str _ u =>
    show wpAny _ _ (compareOp .Lt _ _) Q E s
    refine PyProof.Rows.lt_str ?_
    have : decide ((⟨a.toArray⟩ : Str).cps.toList < (⟨b.toArray⟩ : Str).cps.toList) = ltl a b := ltl_str a b
    rw [this]; exact h
  · cases r with | bytes _ t =>
    cases q with | bytes _ u =>
    refine wpAny_richCompare_same (op := .Lt) (T := "bytes") (PySem.W.typeIs_bytes _ _ _) (PySem.W.typeIs_bytes _ _ _) slot_bytes_lt ?_
    refine call_gives slot_bytes_lt (PySem.W.typeIs_bytes _ _ _) entry_bytes_lt (args_bytes_lt_2 _ _) (gives_bytes_lt _ _ _ _) ?_
    rw [ltl_bytes a b ha hb]
    exact ⟨by simp, h⟩

theorem lt_loop {o : Bool} {x y : List Nat} {N N' : List Addr} (a b : Addr) (v1 v2 u1 u2 : Value) (n n2 : Nat) (hx : Bd x) (hy : Bd y) (hne : x ≠ y) :
    Meets (Builtin.«list.__eq__.loop» ⟨[.ref a, .ref b, rawInt 0, rawInt 0], []⟩)
      (fun _ R s => s.heap.get? a = some { cls := .type "list", dict := none, data := .seq #[v1, v2] n, slots := #[] } ∧ s.heap.get? b = some { cls := .type "list", dict := none, data := .seq #[u1, u2] n2, slots := #[] } ∧
        Rep N s.heap v1 (Tx o x) ∧ Rep N' s.heap u1 (Tx o y) ∧ R (.ok (.ret (.bool (ltl x y)))) s) := by
  intro prog w A R s h
  obtain ⟨hp, g, d, tk, os⟩ := s; obtain ⟨hl, hb, r1, r2, h⟩ := h
  generalize hi : (#[v1, v2] : Array Value) = xs at hl
  generalize hj : (#[u1, u2] : Array Value) = ys at hb
  wp_walk using AutoSeq1.wpAny_loadPart' hl, AutoSeq1.wpAny_loadPart' hb
  have g1 : xs[Int.toNat 0]? = some v1 := by rw [← hi]; rfl
  have g2 : ys[Int.toNat 0]? = some u1 := by rw [← hj]; rfl
  rw [g1, g2]
  have hq := EqAt.tx (A := A.in1) hx hy r1 r2
  rw [isT_of hx hy r1, decide_eq_false hne] at hq
  refine wpAny_bind (hq prog w _ _ ?_)
  rw [if_neg Bool.false_ne_true]
  refine wpAny_bind (listItems_at hl rfl ?_)
  refine wpAny_bind (listItems_at hb rfl ?_)
  rw [g1, g2]
  show wpAny _ _ (richCompare .Lt v1 u1 >>= fun r => ret r) _ _ _
  refine wpAny_bind (rc_lt_tx hx hy r1 r2 ?_)
  exact wpAny_pure h
theorem list_lt {o : Bool} {x y : List Nat} {N N' : List Addr} (a b : Addr) (v1 v2 u1 u2 : Value) (n n2 : Nat) (hx : Bd x) (hy : Bd y) (hne : x ≠ y) :
    Meets (Builtin.«list.__lt__» ⟨[.ref a, .ref b], []⟩)
      (fun _ R s => s.heap.get? a = some { cls := .type "list", dict := none, data := .seq #[v1, v2] n, slots := #[] } ∧ s.heap.get? b = some { cls := .type "list", dict := none, data := .seq #[u1, u2] n2, slots := #[] } ∧
        Rep N s.heap v1 (Tx o x) ∧ Rep N' s.heap u1 (Tx o y) ∧ R (.ok (.ret (.bool (ltl x y)))) s) := by
  intro prog w A R s h
  obtain ⟨hp, g, d, tk, os⟩ := s; obtain ⟨hl, hb, r1, r2, h⟩ := h
  have f3 := AutoSeq1.sub_list_list
  wp_walk using AutoSeq1.wpAny_loadPart' hl, AutoSeq1.wpAny_loadPart' hb
  exact ⟨plainId_quiet MeetsSeq3.plain_eq_loop _, codeAny_builtin MeetsSeq3.entry_eq_loop (by
    rw [Around.under_plainId MeetsSeq3.plain_eq_loop _]
    exact lt_loop a b v1 v2 u1 u2 n n2 hx hy hne prog w A R _ ⟨hl, hb, r1, r2, h⟩)⟩
/-- one row against another -/
theorem row_lt {prog : Program} {w : World} {A : Around} {s : Shared} {N : List Addr} {o : Bool} {v u : Value} {p q : List Nat × Nat} {Q : Bool → Shared → Prop} (hu : A.units < cLine) (hx : Bd p.1) (hy : Bd q.1) (hne : p.1 ≠ q.1)
    (r : Rep N s.heap v (rowT o p)) (r' : Rep N s.heap u (rowT o q)) (h : Q (ltl p.1 q.1) s) : wpAny (model prog w) A (keyLt' oneType' v u) Q (fun _ _ => False) s := by
  cases r with | @lst a vs _ pp hN rl =>
  cases r' with | @lst b us _ pq hN' rl' =>
  cases rl with | cons r1 rl => cases rl with | cons r2 rl =>
  cases rl
  cases rl' with | cons q1 rl' => cases rl' with | cons q2 rl' =>
  cases rl'
  obtain ⟨n, e⟩ := pp
  obtain ⟨n2, e2⟩ := pq
  rw [keyLt'_oneType, oneLt'_eq]
  simp only [if_true]
  refine wpAny_bind (wpAny_cRoomFor hu ?_)
  refine wpAny_bind (wpAny_callSpecialIfBound?_slot ⟨_, e, rfl⟩ PySem.F.slot_list_lt (call_meets PySem.F.slot_list_lt ⟨_, e, rfl⟩ PySem.F.entry_list_lt (PySem.F.args_list_lt_2 _ _) (list_lt a b _ _ _ _ n n2 hx hy hne) ⟨e, e2, r1, q1, ?_⟩))
  exact wpAny_truthy_bool h
end Mine
end G2S

section G3S
set_option linter.unusedVariables false
set_option maxRecDepth 100000
namespace Mine
abbrev Row := List Nat × Nat
noncomputable def srt (rows : List Row) : List Row := Classical.epsilon fun out => out.Perm rows ∧ out.Pairwise fun a b => ltl a.1 b.1 = true
theorem srt_perm {a b : List Row} (h : a.Perm b) : srt a = srt b := by
  unfold srt
  congr 1
  funext out
  exact propext ⟨fun ⟨x, y⟩ => ⟨x.trans h, y⟩, fun ⟨x, y⟩ => ⟨x.trans h.symm, y⟩⟩
theorem srt_eq {rows out : List Row} (h1 : out.Perm rows) (h2 : out.Pairwise fun a b => ltl a.1 b.1 = true) : out = srt rows := by
  have h : (srt rows).Perm rows ∧ (srt rows).Pairwise fun a b => ltl a.1 b.1 = true := Classical.epsilon_spec (p := fun out => out.Perm rows ∧ out.Pairwise fun a b : Row => ltl a.1 b.1 = true) ⟨out, h1, h2⟩
  refine List.Perm.eq_of_pairwise (le := fun a b : Row => ltl a.1 b.1 = true) (fun a b _ _ x y => ?_) h2 h.2 (h1.trans h.1.symm)
  have := ltl_tr _ _ _ x y
  rw [ltl_irr] at this; cases this

theorem V.toList_map {α : Type} {n : Nat} {p : Array Nat} (v : V n p) (xs : List α) (d : α) (hx : xs.length = n) : (p.toList.map fun i => xs.getD i d).Perm xs := by
  have h1 := v.pm.map fun i => xs.getD i d
  have h2 : (List.range n).map (fun i => xs.getD i d) = xs := by
    apply List.ext_getElem
    · simp [hx]
    · intro i h1 h2
      simp [h2]
  rw [h2] at h1
  exact h1
theorem rows_sorted {n : Nat} {p : Array Nat} {rows : List Row} (hn : rows.length = n) (v : V n p) (h : SP (fun i j => ltl (rows.getD i ([], 0)).1 (rows.getD j ([], 0)).1) p n) : p.toList.map (fun i => rows.getD i ([], 0)) = srt rows := by
  refine srt_eq (v.toList_map rows _ hn) ?_
  rw [List.pairwise_map, List.pairwise_iff_getElem]
  intro i j hi hj hij
  have hi' : i < p.size := by simpa using hi
  have hj' : j < p.size := by simpa using hj
  have := h i j hij (v.sz ▸ hj')
  have e1 : at' p i = p.toList[i] := by unfold at'; simp [Array.getD, hi']
  have e2 : at' p j = p.toList[j] := by unfold at'; simp [Array.getD, hj']
  rw [e1, e2] at this
  exact this

section
variable {W : Wd} {k : Nat}
theorem RepL.getD {N : List Addr} {h : Heap} {o : Bool} {vs : List Value} {rows : List Row} (r : RepL N h vs (rows.map (rowT o))) {i : Nat} (hi : i < rows.length) : Rep N h (vs.getD i .none) (rowT o (rows.getD i ([], 0))) := by
  obtain ⟨v, h1, h2⟩ := r.get (i := i) (d := rowT o (rows.getD i ([], 0))) (by rw [List.getElem?_map, List.getElem?_eq_getElem hi]; simp [hi])
  have : vs.getD i .none = v := by rw [List.getD_eq_getElem?_getD, h1]; rfl
  rw [this]; exact h2
theorem RepL.permuted {N : List Addr} {h : Heap} {o : Bool} {vs : List Value} {rows : List Row} (r : RepL N h vs (rows.map (rowT o))) : ∀ (l : List Nat), (∀ i ∈ l, i < rows.length) → RepL N h (l.map fun i => vs.getD i .none) ((l.map fun i => rows.getD i ([], 0)).map (rowT o))
  | [], _ => .nil
  | i :: l, hl => .cons (r.getD (hl i (.head _))) (RepL.permuted r l fun j hj => hl j (.tail _ hj))

def Kpt (a : Addr) (h h' : Heap) : Prop := ∀ b o, b ≠ a → h.get? b = some o → h'.get? b = some o
/-- list.sort on a list of rows with different paths -/
theorem sort_rows {A : Around} {E : Value → Shared → Prop} {s : Shared} {a : Addr} {n : Nat} {N : List Addr} {o : Bool} {vs : List Value} {rows : List Row} {P : PySem.Fin → Shared → Prop} (hu : A.units < cLine) (ho : s.heap.get? a = some (seqObj "list" vs.toArray n)) (haN : a ∈ N) (r : RepL N s.heap vs (rows.map (rowT o)))
    (hg : ∀ x ∈ rows, Gd x.1) (hne : rows.Pairwise fun x y => x.1 ≠ y.1) (h64 : rows.length < 64)
    (h : ∀ h' (out : List Value), Kpt a s.heap h' → (∃ n', h'.get? a = some (seqObj "list" out.toArray n')) → RepL N h' out ((srt rows).map (rowT o)) → P (.done (.ret .none)) { s with heap := h' }) :
    wpAny W.M A (Builtin.«list.sort» ⟨[.ref a], []⟩) P E s := by
  have hlen : vs.length = rows.length := by have := r.length; simpa using this
  have s1 := Heap.SameBut.update s.heap a (Obj.mapSeq fun _ => (#[] : Array Value))
  obtain ⟨e1, ho1⟩ : ∃ e1, (s.heap.update a (Obj.mapSeq fun _ => (#[] : Array Value))).get? a = some (seqObj "list" #[] e1) := ⟨_, get?_update_seq ho fun _ => #[]⟩
  let h3 : Heap := ((s.heap.update a (Obj.mapSeq fun _ => (#[] : Array Value))).push (seqObj "tuple" vs.toArray 0)).push (seqObj "list" #[] 0)
  have k3 : Kpt a s.heap h3 := fun b x hb e => Heap.get?_push_of_some _ (Heap.get?_push_of_some _ (s1.extBut b x hb e))
  have ha3 : h3.get? a = some (seqObj "list" #[] e1) := Heap.get?_push_of_some _ (Heap.get?_push_of_some _ ho1)
  have sk3 : SK N s.heap h3 := fun b x hb e _ => k3 b x (fun q => hb (q ▸ haN)) e
  have r3 := r.sk sk3
  -- the last steps
  have fin : ∀ (p : Array Nat) (st' : SortSt), V rows.length p → SP (fun i j => ltl (rows.getD i ([], 0)).1 (rows.getD j ([], 0)).1) p rows.length → ((arrOf st').map (·.2)).toList = p.toList.map (fun i => vs.getD i .none) → failedOf st' = none →
      wpAny W.M A (do
        let touched := (← seqEpoch a) != e1
        Builtin.List.listUpdate (.ref a) fun _ => (arrOf st').map (·.2)
        if let some e := failedOf st' then rule "list.sort.comparison-raised"; throw e
        if touched then rule "list.sort.modified"; raiseError "ValueError" "list modified during sort"
        ret .none) P E { s with heap := h3 } := fun p st' v hsp har hf => by
    have hout : (arrOf st').map (·.2) = List.toArray (p.toList.map fun i => vs.getD i Value.none) := by
      apply Array.toList_inj.mp
      rw [har]
    have hsz : (List.toArray (p.toList.map fun i => vs.getD i Value.none)).size = rows.length := by rw [List.size_toArray, List.length_map, Array.length_toList, v.sz]
    rw [hout]
    have s2 := Heap.SameBut.update h3 a (Obj.mapSeq fun _ => List.toArray (p.toList.map fun i => vs.getD i Value.none))
    obtain ⟨c2, hc2⟩ : ∃ c2, (h3.update a (Obj.mapSeq fun _ => List.toArray (p.toList.map fun i => vs.getD i Value.none))).get? a = some (seqObj "list" (List.toArray (p.toList.map fun i => vs.getD i Value.none)) c2) := ⟨_, get?_update_seq ha3 fun _ => List.toArray (p.toList.map fun i => vs.getD i Value.none)⟩
    refine wpAny_bind (seqEpoch_at ha3 rfl ?_)
    refine wpAny_bind (listUpdate_at ha3 rfl ?_ (Nat.zero_le _) (Nat.le_trans (Nat.le_of_eq hsz) (by rw [sizeLine_eq]; omega)))
    rw [hf]
    simp only [bne_self_eq_false, Bool.false_eq_true, if_false]
    have sk4 : SK N h3 (h3.update a (Obj.mapSeq fun _ => List.toArray (p.toList.map fun i => vs.getD i Value.none))) := .butN s2 haN
    have pr := RepL.permuted (r3.sk sk4) p.toList fun i hi => by
      have := v.pm.mem_iff.mp hi
      exact List.mem_range.mp this
    rw [rows_sorted rfl v hsp] at pr
    exact wpAny_pure (h _ _ (fun b x hb e => s2.extBut b x hb (k3 b x hb e)) ⟨c2, hc2⟩ pr)
  rw [list_sort_plain]
  refine wpAny_bind (listItems_at ho rfl ?_)
  refine wpAny_bind (listUpdate_at ho rfl ?_ (by rw [List.size_toArray, sizeLine_eq]; omega) (Nat.zero_le _))
  refine wpAny_bind (seqEpoch_at ho1 rfl ?_)
  refine wpAny_bind (wpAny_newTuple ?_ (by show vs.length ≤ _; rw [sizeLine_eq]; omega))
  refine wpAny_bind (wpAny_newList ?_ (Nat.zero_le _))
  refine wpAny_holding ?_
  show wpAny W.M A _ P E { s with heap := h3 }
  dsimp only
  have hid : (List.range rows.length).map (fun i => vs.getD i .none) = vs := by
    apply List.ext_getElem
    · simp [hlen]
    · intro i h1 h2
      simp [h2]
  by_cases h2 : vs.toArray.size < 2
  · rw [if_pos h2, if_pos h2]
    rw [List.size_toArray] at h2
    refine wpAny_bind (wpAny_pure ?_)
    refine wpAny_bind (wpAny_of_eq (a := ((), SortSt.mk' general' (vs.toArray.zip vs.toArray) #[] 7 none)) rfl ?_)
    refine fin (List.toArray (List.range rows.length)) _ ⟨by simp, by simp⟩ (fun i j hij hj => by omega) ?_ rfl
    show ((vs.toArray.zip vs.toArray).map (·.2)).toList = (List.range rows.length).map (fun i => vs.getD i .none)
    rw [hid, Array.toList_map, Array.toList_zip]
    exact List.map_snd_zip (Nat.le_refl _)
  · rw [if_neg h2, if_neg h2]
    have hT : ∀ v ∈ vs, Looks W.M h3 (typeOf v) (.type "list") := fun v hv => by
      obtain ⟨i, hi⟩ := List.getElem?_of_mem hv
      obtain ⟨d, hd, rd⟩ := r3.get' hi
      rw [List.getElem?_map] at hd
      cases hr : rows[i]? with
      | none => rw [hr] at hd; cases hd
      | some x =>
        rw [hr] at hd
        cases hd
        cases rd with | @lst b us _ pp hN rl =>
        obtain ⟨n', e'⟩ := pp
        exact fun A Q E s' kk q => wpAny_typeOf (T := "list") ⟨_, kk _ _ e', rfl⟩ q
    have h2' : 2 ≤ rows.length := by rw [List.size_toArray] at h2; omega
    refine wpAny_bind (kas_kind (by omega) hT (by decide +kernel) (by decide +kernel) ?_)
    have est : SortSt.mk' oneType' (vs.toArray.zip vs.toArray) #[] 7 none = kas_st oneType' (pairsOf vs) (List.toArray (List.range vs.length)) := by
      have e := kas_range (pairsOf vs)
      rw [pairsOf_size] at e
      show SortSt.mk' oneType' (pairsOf vs) #[] 7 none = SortSt.mk' oneType' ((List.toArray (List.range vs.length)).map (kas_item (pairsOf vs))) #[] 7 none
      rw [e]
    let lt : Nat → Nat → Bool := fun i j => ltl (rows.getD i ([], 0)).1 (rows.getD j ([], 0)).1
    have hdist : ∀ i j, i < rows.length → j < rows.length → i ≠ j → (rows.getD i ([], 0)).1 ≠ (rows.getD j ([], 0)).1 := fun i j hi hj hij => by
      have key := List.pairwise_iff_getElem.mp hne
      have e1 : rows.getD i ([], 0) = rows[i] := by simp [hi]
      have e2 : rows.getD j ([], 0) = rows[j] := by simp [hj]
      rw [e1, e2]
      rcases Nat.lt_or_gt_of_ne hij with h' | h'
      · exact key i j hi hj h'
      · exact (key j i hj hi h').symm
    have hold := sort_H (lt := lt) (n := rows.length) (fun i j hi hj hij => ltl_tot _ _ (hdist i j hi hj hij)) (fun i j k _ _ _ h1 h2 => ltl_tr _ _ _ h1 h2) h2'
    have ask : (kas_sort vs.length).kasWp (kas_ask W.prog W.w A oneType' vs) (fun p s' => s' = { s with heap := h3 } ∧ V rows.length p ∧ SP lt p rows.length) { s with heap := h3 } := by
      rw [hlen]
      refine Hold.wp (I := fun s' => s' = { s with heap := h3 }) (fun i j s' C hi hj hij hI hC => ?_) hold rfl fun p s' ⟨a, b⟩ hI => ⟨hI, a, b⟩
      subst hI
      have gd : ∀ i, i < rows.length → Bd (rows.getD i ([], 0)).1 := fun i hi => by
        have e1 : rows.getD i ([], 0) = rows[i] := by simp [hi]
        rw [e1]
        exact (hg _ (List.getElem_mem hi)).bd
      exact row_lt hu (gd i hi) (gd j hj) (hdist i j hi hj hij) (r3.getD hi) (r3.getD hj) (hC _ rfl)
    rw [kas_ask_eq] at ask
    have run := kas_runs (E := E) (Q := fun _ st' s' => ∃ p : Array Nat, arrOf st' = p.map (kas_item (pairsOf vs)) ∧ failedOf st' = none ∧ s' = { s with heap := h3 } ∧ V rows.length p ∧ SP lt p rows.length)
      (by omega) (by omega) (fun p' st' s' a1 a2 a3 a4 => ⟨p', a2, a3, a4⟩) ask
    rw [← est] at run
    refine wpAny_bind (wpAny_mono run ?_ fun _ _ e => e)
    rintro ⟨⟨⟩, st'⟩ s' ⟨p, har, hf, rfl, v, hsp⟩
    refine fin p st' v hsp ?_ hf
    rw [har, Array.map_map, Array.toList_map]
    exact List.map_congr_left fun i _ => by show (kas_item (pairsOf vs) i).2 = _; rw [kas_item_eq]

theorem sorted_R {o : Bool} {rows : List Row} (hg : ∀ x ∈ rows, Gd x.1) (hne : rows.Pairwise fun x y => x.1 ≠ y.1) (h64 : rows.length < 64) : CallR W k (.builtin "sorted") [.lst (rows.map (rowT o))] (.lst ((srt rows).map (rowT o))) := .mk fun A N s vs hp rl => by
  cases rl with | cons r rl =>
  cases rl
  cases r with | @lst l vs _ p hN rl =>
  obtain ⟨n, e⟩ := p
  have hlen : vs.length = rows.length := by have := rl.length; simpa using this
  have hun := hp.un
  refine Calls.call_function_entry kind_sorted plain_sorted entry_sorted (args_sorted1 _) ?_
  unfold Builtin.«sorted»
  refine wpAny_bind (m := checkCount "sorted" 1 1 _) (wpAny_pure ?_)
  refine wpAny_bind (collect_list ⟨_, e, rfl, n, rfl⟩ ?_ (by rw [sizeLine_eq]; omega))
  refine wpAny_bind (wpAny_newList ?_ (by rw [sizeLine_eq]; omega))
  have hsz : ((s.heap.push (seqObj "list" #[] 0)).update s.heap.objs.size (Obj.mapSeq (· ++ vs.toArray))).objs.size = s.heap.objs.size + 1 := by
    rw [Heap.size_update, size_push']
  let h1 : Heap := ((s.heap.push (seqObj "list" #[] 0)).update s.heap.objs.size (Obj.mapSeq (· ++ vs.toArray))).push (seqObj "list" vs.toArray 0)
  have hoL : h1.get? (s.heap.objs.size + 1) = some (seqObj "list" vs.toArray 0) := by
    rw [← hsz]; exact Heap.get?_push_size _ rfl
  have keep : Ext s.heap h1 := fun b o q => by
    have hlt : b < s.heap.objs.size := Heap.lt_size q
    show (((s.heap.push (seqObj "list" #[] 0)).update s.heap.objs.size (Obj.mapSeq (· ++ vs.toArray))).push (seqObj "list" vs.toArray 0)).get? b = _
    rw [Heap.get?_push_ne _ _ _ (by rw [hsz]; exact Nat.ne_of_lt (Nat.lt_succ_of_lt hlt)), Heap.get?_update_ne _ _ _ _ (Nat.ne_of_lt hlt), Heap.get?_push_ne _ _ _ (Nat.ne_of_lt hlt)]
    exact q
  have hD : s.heap.get? (s.heap.objs.size + 1) = none := Heap.get?_none_of_le (Nat.le_succ _)
  have hDN : s.heap.objs.size + 1 ∉ N := fun h => by obtain ⟨ob, e'⟩ := hp.av _ h; rw [hD] at e'; cases e'
  show wpAny _ _ _ _ _ { s with heap := h1 }
  rw [hsz]
  refine wpAny_bind (wpAny_holding (wpAny_call_entry slot_list_sort ⟨_, hoL, rfl⟩ entry_list_sort ?body (args_list_sort _)))
  case body =>
    refine sort_rows (s := { s with heap := h1 }) (N := (s.heap.objs.size + 1) :: N) (by show A.units + 1 + 1 < _; omega) hoL (.head _) ((RepL.more (fun ob e' => by rw [hD] at e'; cases e') rl).ext keep) hg hne h64 fun h' out hk hn' hr => ?_
    obtain ⟨n', hn'⟩ := hn'
    refine ⟨_, rfl, wpAny_pure ⟨_, rfl, ⟨h', s.toks, rfl, fun b o e' => hk b o (fun q => by rw [q, hD] at e'; cases e') (keep b o e')⟩, .lst ⟨n', hn'⟩ hDN (hr.less fun a ha => .tail _ ha)⟩⟩
end
end Mine
end G3S

section H1S
set_option linter.unusedVariables false
set_option maxRecDepth 100000
namespace Mine
theorem Eqv.to {n : Nat} {a b : D} {t t' : Bool} (h : Eqv n a b t) (e : t = t') : Eqv n a b t' := e ▸ h
theorem Eqv.txSame {n : Nat} {o : Bool} {l : List Nat} : Eqv n (Tx o l) (Tx o l) true := by
  cases o
  · exact (Eqv.str n _ _).to (by simp)
  · exact (Eqv.bytes n _ _).to (by simp)
theorem Eqv.intSame {n : Nat} {i : Int} : Eqv n (.int i) (.int i) true := (Eqv.int n i i).to (by simp)
theorem Eqv.lstSame {n : Nat} {ds : List D} (h : ∀ d ∈ ds, Eqv n d d true) : Eqv (n + 1) (.lst ds) (.lst ds) true :=
  (Eqv.lst (e := fun _ => true) rfl fun j a b h1 h2 => by
    have : a = b := Option.some.inj (h1.symm.trans h2)
    subst this
    exact h a (List.mem_of_getElem? h1)).to (by simp)
theorem Eqv.tupSame {n : Nat} {ds : List D} (h : ∀ d ∈ ds, Eqv n d d true) : Eqv (n + 1) (.tup ds) (.tup ds) true :=
  (Eqv.tup (e := fun _ => true) fun j a b h1 h2 => by
    have : a = b := Option.some.inj (h1.symm.trans h2)
    subst this
    exact h a (List.mem_of_getElem? h1)).to (by simp)
section
variable {W : Wd} {k : Nat} {c : Cx} {N : List Addr} {δ : List (Str × D)} {s₀ : Shared} {own : Own}
theorem RepL.ints {N N' : List Addr} {h : Heap} : ∀ {vs : List Value} {ds : List D}, RepL N h vs ds → (∀ d ∈ ds, ∃ i, d = .int i) → RepL N' h vs ds
  | _, _, .nil, _ => .nil
  | _, _, .cons a r, hi => by
    obtain ⟨i, e⟩ := hi _ (.head _)
    subst e
    cases a
    exact .cons (.int _ _) (RepL.ints r fun d hd => hi d (.tail _ hd))
/-- a list of one's own, grown by numbers; the numbers may look at the list -/
theorem Exs.augInts {z : Str} {M : Addr} {ds es : List D} {e : Expr} {p pos : Pos} {rest : List Stmt} {o : Out} (he : Ev W k c N ((z, .lst ds) :: δ) e (.lst es)) (hes : ∀ d ∈ es, ∃ i, d = .int i) (hz : ds.length + es.length ≤ 16777215) (hx : Sto c.env z)
    (hd : ∀ p ∈ δ, p.1 ≠ z) (hr : Exs W k s₀ c N (some (z, M, ds ++ es)) δ rest o) : Exs W k s₀ c N (some (z, M, ds)) δ (.AugAssign (.Name z p) .Add e pos :: rest) o := .mk fun s r => by
  refine wpAny_execs_cons (wpAny_AugAssign_Name (wpAny_mono (own_name r) (fun v s₁ ⟨e1, e2⟩ => ?_) fun _ _ x => x))
  subst e1 e2
  have r' : Sta W k s₀ c N none ((z, .lst ds) :: δ) s₁ := by
    obtain ⟨m, cm, ic, hvs, ho⟩ := r.ic
    obtain ⟨g1, g2, vs, g3, g4⟩ := ho _ rfl
    refine ⟨r.ok, r.b0, r.av0, m, cm, ic, fun p hp => ?_, fun q hq => nomatch hq⟩
    rcases List.mem_cons.mp hp with rfl | hp
    · refine ⟨_, g1, .lst g3 (fun hm => ?_) (g4.less fun a ha => .tail _ ha)⟩
      obtain ⟨o, e⟩ := r.av0 _ hm
      rw [g2] at e; cases e
    · obtain ⟨v, h1, h2⟩ := hvs p hp
      exact ⟨v, h1, h2.less fun a ha => List.mem_append_right _ ha⟩
  refine wpAny_mono (he.run s₁ r'.rd) (fun u s₂ ⟨q, ru⟩ => ?_) fun _ _ x => x
  have r₂ := r.kp q
  have hM : ∃ vs, PLst s₂.heap M vs ∧ RepL (M :: N) s₂.heap vs ds := by
    obtain ⟨m, cm, ic, hvs, ho⟩ := r₂.ic
    obtain ⟨g1, g2, g3⟩ := ho _ rfl
    exact g3
  obtain ⟨vs, ⟨n, eM⟩, g4⟩ := hM
  cases ru with
  | lst p' hN' rl =>
    rename_i l vs'
    obtain ⟨n', el⟩ := p'
    refine inplace_lists eM el (by rw [g4.length, rl.length]; exact hz) fun h' hp hs => ?_
    obtain ⟨r₃, kb⟩ := r₂.grow hs hp (g4.append (RepL.ints rl hes))
    refine wpAny_mono (restore_wp r₃ hx hd) (fun _ s₄ ⟨r₄, kb₄⟩ => ?_) fun _ _ x => x
    have kb' : Kb c.env (oa (some (z, M, ds))) s₁.heap s₄.heap := Kb.trans (Kb.of_ext q.ext) (Kb.trans kb kb₄)
    exact wpAny_mono (hr.run _ r₄) (fun f s₅ h => OutOk.from' (own := some (z, M, ds)) kb' h) fun _ _ x => x
end

/-! what law works on -/
def consts : List Nat := [888, 10, 89, 5886, 0, 8, 1, 9, 9, 2, 6, 3, 11, 45, 4, 8]
def nums (xs : List Int) : List Nat := (xs.take 16).map (fun x => x.natAbs % 1048576) ++ consts.drop (min xs.length 16)
def lgp (n : Nat) : List Nat := jnp (fol n) (List.replicate (lgd n).1 46 ++ jn [46] (lgd n).2)
def tol (n a : Nat) : List Nat := pth (fol n) (lgd n).1 (lgd n).2 a
def drT (n : Nat) : D := .tup [sT (fol n), .int ((lgd n).1 : Nat), .lst ((lgd n).2.map sT)]
def regT (rs : List Nat) : D := .lst (rs.map iT)
/-- the first log with the same path -/
def wh (ns : List Nat) (m : Nat) : Nat := ((ns.take 4).map (tol · 0)).findIdx (· = tol (ns.getD m 0) 0)
noncomputable def stp (ns : List Nat) (t : Nat) (st : List Row × List (List Nat)) : List Row × List (List Nat) :=
  let m := ns.getD (4 + t) 0
  (sto st.1 (lgp (ns.getD (m % 4) 0)) (m / 4 % 4) (m / 16 % 4) (t + 1),
   (List.range 4).map fun j => if j = wh ns (m % 4) then shf (st.2.getD (wh ns (m % 4)) []) (m / 4 % 4) (m / 16 % 4) (t + 1) else st.2.getD j [])
noncomputable def sta (ns : List Nat) : Nat → List Row × List (List Nat)
  | 0 => ([], List.replicate 4 [0, 0, 0, 0])
  | t + 1 => stp ns t (sta ns t)
def vat (regs : List (List Nat)) (j a : Nat) : Nat := (regs.getD j []).getD a 0
def dA (ns : List Nat) (regs : List (List Nat)) (j : Nat) : Nat → List Row
  | 0 => []
  | a + 1 => dA ns regs j a ++ (if vat regs j a ≠ 0 then [(tol (ns.getD j 0) a, vat regs j a)] else [])
def dJ (ns : List Nat) (regs : List (List Nat)) : Nat → List Row
  | 0 => []
  | j + 1 => dJ ns regs j ++ dA ns regs j 4
/-- what the walk asks of the plain law -/
structure PL (ns : List Nat) : Prop where
  logs : ∀ j, j < 4 → lgp (ns.getD j 0) = tol (ns.getD j 0) 0
  regs : ∀ t, t ≤ 12 → (sta ns t).2.length = 4 ∧ ∀ r ∈ (sta ns t).2, r.length = 4
  files : ∀ t, t ≤ 12 → (∀ r ∈ (sta ns t).1, Gd r.1) ∧ (sta ns t).1.length < 64 ∧ (sta ns t).1.Pairwise fun x y => x.1 ≠ y.1
  due : ∀ t, t ≤ 12 → (dJ ns (sta ns t).2 4).Perm (sta ns t).1
  reads : ∀ t, t ≤ 12 → ∀ j a, j < 4 → a < 4 → vat (sta ns t).2 j a ≠ 0 → rdx (tol (ns.getD j 0) a) = (lgp (ns.getD j 0), a)
end Mine
end H1S

section H2S
set_option linter.unusedVariables false
set_option maxRecDepth 100000
namespace Mine
theorem jn_mem (sep : List Nat) : ∀ (ws : List (List Nat)) (c : Nat), c ∈ jn sep ws → c ∈ sep ∨ ∃ w ∈ ws, c ∈ w
  | [], c, h => by cases h
  | [x], c, h => .inr ⟨x, .head _, h⟩
  | x :: y :: r, c, h => by
    simp only [jn, List.mem_append] at h
    rcases h with (h | h) | h
    · exact .inr ⟨x, .head _, h⟩
    · exact .inl h
    · rcases jn_mem sep (y :: r) c h with h | ⟨w, h1, h2⟩
      · exact .inl h
      · exact .inr ⟨w, .tail _ h1, h2⟩
theorem strp_ok (ws : List (List Nat)) (d : Nat) : (strp d ws).1 ≤ d + ws.length ∧ (strp d ws).2.length ≤ ws.length ∧ ∀ w ∈ (strp d ws).2, w ∈ ws := by
  obtain ⟨n, h1, h2, _⟩ := strp_spec ws d
  rw [h1]
  refine ⟨?_, by simp, fun w hw => List.mem_of_mem_drop hw⟩
  rcases Nat.lt_or_ge ws.length n with h | h
  · have := (h2 (n - 1) (by omega)).1
    rw [List.length_drop] at this; omega
  · show d + n ≤ _; omega
theorem sum_le (ws : List (List Nat)) (m : Nat) (h : ∀ w ∈ ws, w.length ≤ m) : (ws.map List.length).sum ≤ ws.length * m := by
  induction ws with
  | nil => simp
  | cons w r ih =>
    have h1 := h w (.head _)
    have h2 := ih fun w hw => h w (.tail _ hw)
    simp only [List.map_cons, List.sum_cons, List.length_cons, Nat.add_mul]
    omega
structure LgOk (n : Nat) : Prop where
  d : (lgd n).1 ≤ 10
  l : (lgd n).2.length ≤ 3
  w : ∀ w ∈ (lgd n).2, Gd w ∧ w.length ≤ 2
  s : wl (lgd n).2 ≤ 20
theorem lg_ok (n : Nat) : LgOk n := by
  obtain ⟨h1, h2, h3⟩ := strp_ok (drw (1 + n / 24 % 3) (n / 72)) (n / 8 % 3)
  rw [drw_len] at h1 h2
  have hl : (lgd n).2.length ≤ 3 := by show (strp _ _).2.length ≤ 3; omega
  have hw : ∀ w ∈ (lgd n).2, Gd w ∧ w.length ≤ 2 := fun w hw => drw_gd _ _ w (h3 w hw)
  have := sum_le (lgd n).2 2 fun w h => (hw w h).2
  exact ⟨by show (strp _ _).1 ≤ 10; omega, hl, hw, by unfold wl; omega⟩
theorem fol_ok (n : Nat) : Gd (fol n) ∧ (fol n).length ≤ 4 := by
  unfold fol
  have h : n % 8 < 8 := Nat.mod_lt _ (by decide)
  generalize n % 8 = r at h
  match r, h with
  | 0, _ => exact ⟨⟨by decide, by decide⟩, by decide⟩
  | 1, _ => exact ⟨⟨by decide, by decide⟩, by decide⟩
  | 2, _ => exact ⟨⟨by decide, by decide⟩, by decide⟩
  | 3, _ => exact ⟨⟨by decide, by decide⟩, by decide⟩
  | 4, _ => exact ⟨⟨by decide, by decide⟩, by decide⟩
  | 5, _ => exact ⟨⟨by decide, by decide⟩, by decide⟩
  | 6, _ => exact ⟨⟨by decide, by decide⟩, by decide⟩
  | 7, _ => exact ⟨⟨by decide, by decide⟩, by decide⟩
theorem wrd_mem {ws : List (List Nat)} {a : Nat} (ha : a < 4) (h : ∀ w ∈ ws, Gd w) : ∀ w ∈ wrd ws a, Gd w := by
  intro w hw
  have hd : Gd [48 + a] := ⟨by intro c hc; simp at hc; omega, by simp⟩
  unfold wrd at hw
  split at hw
  · exact h w hw
  · split at hw
    · rcases List.mem_append.mp hw with hw | hw
      · rw [List.dropLast_eq_take] at hw; exact h w (List.mem_of_mem_take hw)
      · simp only [List.mem_cons, List.not_mem_nil, or_false] at hw
        rcases hw with rfl | rfl
        · exact hd
        · rename_i h1
          refine h _ ?_
          cases ws with
          | nil => simp at h1
          | cons x r =>
            rw [List.getLastD_cons, List.getLastD_eq_getLast?]
            cases hl : r.getLast? with
            | none => rw [List.getLast?_eq_none_iff] at hl; subst hl; exact .head _
            | some y => exact .tail _ (List.mem_of_getLast? hl)
    · rcases List.mem_append.mp hw with hw | hw
      · exact h w hw
      · rw [List.mem_singleton.mp hw]; exact hd
theorem tol_gd (n : Nat) {a : Nat} (ha : a < 4) : Gd (tol n a) ∧ (tol n a).length ≤ 1000 := by
  have h := lg_ok n
  have hf := fol_ok n
  have h1 := wl_wrd (lgd n).2 a
  have h2 := jn_len [46] (wrd (lgd n).2 a)
  have hm : (mid (fol n)).length ≤ 1 := by unfold mid; split <;> simp
  have hs := h.s
  have hd := h.d
  have hlen : (tol n a).length ≤ 1000 := by
    unfold tol pth
    simp only [List.length_append, List.length_replicate]
    simp at h2
    omega
  refine ⟨⟨fun c hc => ?_, by omega⟩, hlen⟩
  unfold tol pth at hc
  simp only [List.mem_append] at hc
  rcases hc with ((hc | hc) | hc) | hc
  · exact hf.1.bd c hc
  · unfold mid at hc
    split at hc
    · cases hc
    · rw [List.mem_singleton.mp hc]; decide
  · rw [(List.mem_replicate.mp hc).2]; decide
  · rcases jn_mem _ _ _ hc with hc | ⟨w, hw, hc⟩
    · rw [List.mem_singleton.mp hc]; decide
    · exact (wrd_mem ha (fun w hw => (h.w w hw).1) w hw).bd c hc
theorem nam_gd (n : Nat) : Gd (List.replicate (lgd n).1 46 ++ jn [46] (lgd n).2) := by
  have h := lg_ok n
  have h2 := jn_len [46] (lgd n).2
  have hs := h.s
  have hd := h.d
  unfold wl at hs
  refine ⟨fun c hc => ?_, by simp at h2 ⊢; omega⟩
  rcases List.mem_append.mp hc with hc | hc
  · rw [(List.mem_replicate.mp hc).2]; decide
  · rcases jn_mem _ _ _ hc with hc | ⟨w, hw, hc⟩
    · rw [List.mem_singleton.mp hc]; decide
    · exact (h.w w hw).1.bd c hc
theorem nums_len (xs : List Int) : (nums xs).length = 16 := by
  unfold nums consts
  simp only [List.length_append, List.length_map, List.length_take, List.length_drop, List.length_cons, List.length_nil]
  omega
end Mine
end H2S

section H3S
set_option linter.unusedVariables false
set_option maxRecDepth 100000
namespace Mine
theorem wh_spec {ns : List Nat} (hn : ns.length = 16) {m : Nat} (hm : m < 4) : wh ns m < 4 ∧ tol (ns.getD (wh ns m) 0) 0 = tol (ns.getD m 0) 0 ∧ ∀ j, j < wh ns m → tol (ns.getD j 0) 0 ≠ tol (ns.getD m 0) 0 := by
  have hl : ((ns.take 4).map (tol · 0)).length = 4 := by simp; omega
  have get : ∀ j (h : j < ((ns.take 4).map (tol · 0)).length), ((ns.take 4).map (tol · 0))[j] = tol (ns.getD j 0) 0 := fun j h => by
    have h' : j < ns.length := by omega
    simp [h']
  have hlt : wh ns m < ((ns.take 4).map (tol · 0)).length := by
    apply List.findIdx_lt_length_of_exists
    refine ⟨tol (ns.getD m 0) 0, ?_, by simp⟩
    rw [← get m (by omega)]
    exact List.getElem_mem _
  refine ⟨by omega, ?_, fun j hj => ?_⟩
  · have := List.findIdx_getElem (w := hlt)
    simp only [decide_eq_true_eq] at this
    rw [← get _ hlt]; exact this
  · have := List.not_of_lt_findIdx hj
    simp only [decide_eq_false_iff_not] at this
    rw [get] at this
    exact this
section
variable {W : Wd} {k : Nat} {c : Cx} {N : List Addr} {δ : List (Str × D)} {s₀ : Shared} {own : Own}
theorem Turn.tup3 {c' : Cx} {δc : List (Str × D)} {x y z : Str} {p1 p2 p3 p : Pos} {kk : Nat} {elt : Expr} {d1 d2 d3 e : D} (hx : c'.env.kindOf x = some .local) (hy : c'.env.kindOf y = some .local) (hz : c'.env.kindOf z = some .local) (hf : c'.env.scope.kind = .function)
    (hxy : x ≠ y) (hxz : x ≠ z) (hyz : y ≠ z) (he : Ev W k c' N ([(x, d1), (y, d2), (z, d3)] ++ δc) elt e)
    (ha : assignEach [.Name x p1, .Name y p2, .Name z p3] c'.env = [(false, assign (.Name x p1) c'.env), (false, assign (.Name y p2) c'.env), (false, assign (.Name z p3) c'.env)] := by rfl) : Turn W k c' N δc (.Tuple [.Name x p1, .Name y p2, .Name z p3] kk p) elt [] (.tup [d1, d2, d3]) (some e) :=
  ⟨[(x, d1), (y, d2), (z, d3)], true, TAsg.tup3 hx hy hz hf hxy hxz hyz ha, rfl, nofun, fun _ => ⟨e, rfl, he⟩⟩

set_option maxHeartbeats 40000000 in
theorem law_R (g : Gl W) {xs : List Int} (hx : xs.length ≤ 63) (pl : PL (nums xs)) : FnR W (k + 5) "law" [.lst (xs.map D.int)] (.bool true) := by
  refine g.law.meets (k := k + 4) (δ := [("script", .lst (xs.map D.int))]) (fun _ _ _ => Bnd.one fun _ => rfl) (fun s₀ A L N pm code doc a => ?_)
  have hn16 := nums_len xs
  -- numbers
  refine Exs.acqUse (δ' := []) [] [] (xs.take 16) D.int (fun x => some (iT (x.natAbs % 1048576))) (Itr.list (Ev.slice (j := some ((16 : Nat) : Int)) rfl (Ev.var (.head _)) EvP.none (EvP.some Ev.constInt) ((SliR.lst (by simp; omega)).to (by rw [cut_to, List.map_take])))) .nil (by simp; omega) (fun C M x hx => ?_) (.inl (by kernel_rfl)) (.drop .nil) (fun M => ?_) (by kernel_rfl)
  · refine Turn.name (by kernel_rfl) (by rfl) ((Ev.bin (Ev.callB (nm g _) (by decide +kernel) abs_R (EvL.cons (Ev.var (.head _)) EvL.nil)) Ev.constInt (BinR.modInt (by decide))).to ?_)
    unfold iT
    congr 1
    have e : (if x < 0 then -x else x) = ((x.natAbs : Nat) : Int) := by split <;> omega
    rw [e, Int.fmod_eq_emod_of_nonneg _ (by omega)]
    rfl
  rw [List.filterMap_eq_map']
  have hnum : ((xs.take 16).map fun x => iT (x.natAbs % 1048576)) ++ (consts.drop (min xs.length 16)).map iT = (nums xs).map iT := by
    unfold nums
    rw [List.map_append, List.map_map]
    rfl
  refine Exs.augInts (es := (consts.drop (min xs.length 16)).map iT) ?_ (fun d hd => let ⟨n, _, e⟩ := List.mem_map.mp hd; ⟨_, e.symm⟩) (by simp [consts]; omega) (.inl (by kernel_rfl)) (fun _ h => nomatch h) ?_
  · refine Ev.slice (i := some ((min xs.length 16 : Nat) : Int)) rfl (Ev.list (EvL.nums (ls := consts.map fun n : Nat => (n : Int)) (by decide +kernel)) (by simp [consts])) (EvP.some ((Ev.callB (nm g _) (by decide +kernel) (CallR.lenL (by simp; omega)) (EvL.cons (Ev.var (.head _)) EvL.nil)).to (by simp [Nat.min_comm]))) EvP.none ((SliR.lst (by simp [consts])).to ?_)
    rw [cut_from, List.map_map, ← List.map_drop]
    rfl
  rw [hnum]
  refine Exs.rel ?_
  generalize nums xs = ns at pl hn16 ⊢
  generalize ho : decide (ns.sum % 2 = 1) = o
  have get4 : ∀ j, j < 4 → ns[j]? = some (ns.getD j 0) := fun j hj => by
    have h : j < ns.length := by omega
    rw [List.getElem?_eq_getElem h]; simp [h]
  have tk4 : (ns.take 4).length = 4 := by rw [List.length_take]; omega
  -- octets
  refine Exs.assign (own := none) (δ' := [("numbers", .lst (ns.map iT))]) (d := .bool o) ((Ev.cmp (Ev.bin (Ev.callB (nm g _) (by decide +kernel) (sum_R (l := ns)) (EvL.cons (Ev.var (.head _)) EvL.nil)) (Ev.constN (n := 2)) (BinR.modN (by decide))) (Ev.constN (n := 1)) CmpR.eqInt).to ?_) (.inr ⟨by kernel_rfl, by kernel_rfl⟩) (.skip (by decide +kernel) .nil) noOwn ?_
  · rw [← ho]; congr 1; exact decide_eq_decide.mpr (by omega)
  -- drawn
  refine Exs.asgComp (δ' := [("octets", .bool o), ("numbers", .lst (ns.map iT))]) [] [] (ns.take 4) iT drT (Itr.list (Ev.slice (j := some ((4 : Nat) : Int)) rfl (Ev.var (.tail _ (.head _))) EvP.none (EvP.some Ev.constInt) ((SliR.lst (by simp; omega)).to (by rw [cut_to, List.map_take])))) .nil (by omega) (fun C M n hn => ?_) (.inl (by kernel_rfl)) (.skip (by decide +kernel) <| .skip (by decide +kernel) .nil) ?_
  · exact Turn.name (by kernel_rfl) (by rfl) (Ev.fn (log_R g) (EvL.cons (Ev.var (.head _)) EvL.nil))
  -- logs
  let base : List (Str × D) := [("drawn", .lst ((ns.take 4).map drT)), ("octets", .bool o), ("numbers", .lst (ns.map iT))]
  refine Exs.acq (δ' := base) (EvF.list EvL.nil) (.inl (by kernel_rfl)) (.skip (by decide +kernel) <| .skip (by decide +kernel) <| .skip (by decide +kernel) .nil) fun M => ?_
  refine Exs.forN ((ns.take 4).map drT) (fun _ => base) (fun j => ("words", .lst ((lgd (ns.getD j 0)).2.map sT)) :: ("dots", .int ((lgd (ns.getD j 0)).1 : Nat)) :: ("folder", sT (fol (ns.getD j 0))) :: base)
    (fun j => some ("logs", M, (ns.take j).map fun n => Tx o (lgp n))) 4 (by simp; omega) (Itr.list (Ev.var (.head _))) rfl (fun _ => rfl) (fun _ h => h) (fun j d hj hd => ?_) (fun j hj => ?_) (.inl ⟨by simp; omega, ?_⟩)
  · have hj4 : j < 4 := by have := (List.getElem?_eq_some_iff.mp hd).1; simp at this; omega
    have hd' : d = drT (ns.getD j 0) := by
      rw [List.getElem?_map, List.getElem?_take, if_pos hj4, get4 j hj4] at hd
      exact (Option.some.inj hd).symm
    subst hd'
    have own_ne : ∀ {x : Str}, x ≠ "logs" → ∀ q : Str × Addr × List D, (some ("logs", M, (ns.take j).map fun n => Tx o (lgp n)) : Own) = some q → q.1 ≠ x := fun hx q hq => by cases hq; exact fun h => hx h.symm
    exact Asg.tup3 (Asg.name (.inl (by kernel_rfl)) (.skip (by decide +kernel) <| .skip (by decide +kernel) <| .skip (by decide +kernel) .nil) (own_ne (by decide +kernel))) (Asg.name (.inl (by kernel_rfl)) (.skip (by decide +kernel) <| .skip (by decide +kernel) <| .skip (by decide +kernel) <| .skip (by decide +kernel) .nil) (own_ne (by decide +kernel)))
      (Asg.name (.inl (by kernel_rfl)) (.skip (by decide +kernel) <| .skip (by decide +kernel) <| .skip (by decide +kernel) <| .skip (by decide +kernel) <| .skip (by decide +kernel) .nil) (own_ne (by decide +kernel)))
  · have hsn : ((ns.take (j + 1)).map fun n => Tx o (lgp n)) = ((ns.take j).map fun n => Tx o (lgp n)) ++ [Tx o (lgp (ns.getD j 0))] := by
      rw [List.take_add_one, get4 j hj, List.map_append]; rfl
    show Exs _ _ _ _ _ _ _ _ (.next (some ("logs", M, (ns.take (j + 1)).map fun n => Tx o (lgp n))) base)
    rw [hsn]
    have hcur : (ns.take j).length ≤ 16 := by rw [List.length_take]; omega
    generalize ns.getD j 0 = nj
    have hlg := lg_ok nj
    have hs := hlg.s
    have hdd := hlg.d
    unfold wl at hs
    have h2 := jn_len [46] (lgd nj).2
    refine Exs.append (d := Tx o (lgp nj)) (Ev.fn (join_R g (fol_ok _).1 (nam_gd _)) (EvL.cons (Ev.fn (as_R g (fol_ok _).1) (EvL.cons (Ev.var (.tail _ (.tail _ (.head _)))) (EvL.cons (Ev.var (.tail _ (.tail _ (.tail _ (.tail _ (.head _)))))) EvL.nil)))
      (EvL.cons (Ev.fn (as_R g (nam_gd _)) (EvL.cons (Ev.bin (Ev.bin (Ev.litE (l := [46])) (Ev.var (.tail _ (.head _))) (BinR.mulS (by omega))) (Ev.strJoin (sep := [46]) (by simp; omega) (Ev.litE (l := [46])) (Ev.var (.head _))) (BinR.addStr (by simp at h2 ⊢; omega))) (EvL.cons (Ev.var (.tail _ (.tail _ (.tail _ (.tail _ (.head _)))))) EvL.nil))) EvL.nil)))
      (by rw [List.length_map]; omega) (Exs.nil ?_)
    intro p hp
    exact .tail _ (.tail _ (.tail _ hp))
  refine Exs.rel ?_
  -- told
  refine Exs.asgComp (δ' := ("logs", .lst ((ns.take 4).map fun n => Tx o (lgp n))) :: base) [] [] (ns.take 4) drT (fun n => sT (tol n 0)) (Itr.list (Ev.var (.tail _ (.head _)))) .nil (by omega) (fun C M n hn => ?_) (.inl (by kernel_rfl)) (.skip (by decide +kernel) <| .skip (by decide +kernel) <| .skip (by decide +kernel) <| .skip (by decide +kernel) .nil) ?_
  · have hlg := lg_ok n
    have hs := hlg.s
    have hdd := hlg.d
    exact Turn.tup3 (by kernel_rfl) (by kernel_rfl) (by kernel_rfl) (by rfl) (by decide +kernel) (by decide +kernel) (by decide +kernel)
      (Ev.fn (path_R g (fol_ok n).1 (by have := (fol_ok n).2; omega) (by omega) (by omega) (by decide)) (EvL.cons (Ev.var (.head _)) (EvL.cons (Ev.var (.tail _ (.head _))) (EvL.cons (Ev.var (.tail _ (.tail _ (.head _)))) (EvL.cons (Ev.constN (n := 0)) EvL.nil)))))
  have hlogs : ((ns.take 4).map fun n => Tx o (lgp n)) = (ns.take 4).map fun n => Tx o (tol n 0) := by
    apply List.map_congr_left
    intro n hn
    obtain ⟨j, hj⟩ := List.getElem?_of_mem hn
    have hj4 : j < 4 := by have := (List.getElem?_eq_some_iff.mp hj).1; omega
    rw [List.getElem?_take, if_pos hj4, get4 j hj4] at hj
    rw [← Option.some.inj hj, pl.logs j hj4]
  rw [hlogs]
  refine Exs.ite (t := false) (o₁ := .ret .none) (o₂ := .next _ _) (Tr.cmp (Ev.var (.tail _ (.head _))) (EvF.compM [("octets", L + 1)] [("octets", .bool o)] (ns.take 4) (fun n => sT (tol n 0)) (fun n => Tx o (tol n 0)) (Itr.list (Ev.var (.head _))) (.cons (.tail _ (.tail _ (.tail _ (.head _)))) (by kernel_rfl) (by kernel_rfl) (by kernel_rfl) .nil) (by omega) (fun C M n hn => ?_) (by kernel_rfl)).ev
    (CmpR.neL (n := 3) (Eqv.lstSame fun d hd => ?_) (by decide))) nf nf (fun _ => .nil') (fun _ => .next ?_)
  · exact Turn.name (by kernel_rfl) (by rfl) (Ev.fn (as_R g (tol_gd n (by decide)).1) (EvL.cons (Ev.var (.head _)) (EvL.cons (Ev.var (.tail _ (.head _))) EvL.nil)))
  · obtain ⟨n, _, rfl⟩ := List.mem_map.mp hd
    exact Eqv.txSame
  -- files, registers, turn
  let told : D := .lst ((ns.take 4).map fun n => sT (tol n 0))
  let logs : D := .lst ((ns.take 4).map fun n => Tx o (tol n 0))
  let drawn : D := .lst ((ns.take 4).map drT)
  refine Exs.asg (δ' := [("told", told), ("logs", logs), ("drawn", drawn), ("octets", .bool o), ("numbers", .lst (ns.map iT))]) (d := .lst ((sta ns 0).1.map (rowT o))) (Ev.list EvL.nil (by simp [sta])) (.inl (by kernel_rfl)) (.skip (by decide +kernel) <| .skip (by decide +kernel) <| .skip (by decide +kernel) <| .skip (by decide +kernel) <| .skip (by decide +kernel) .nil) ?_
  refine Exs.assign (own := none) (δ' := [("files", .lst ((sta ns 0).1.map (rowT o))), ("told", told), ("logs", logs), ("drawn", drawn), ("octets", .bool o), ("numbers", .lst (ns.map iT))]) (d := .lst ((sta ns 0).2.map regT)) ?_ (.inr ⟨by kernel_rfl, by kernel_rfl⟩) (.skip (by decide +kernel) <| .skip (by decide +kernel) <| .skip (by decide +kernel) <| .skip (by decide +kernel) <| .skip (by decide +kernel) <| .skip (by decide +kernel) .nil) noOwn ?_ (by kernel_rfl)
  · have e : (sta ns 0).2.map regT = (ns.take 4).map fun _ => regT [0, 0, 0, 0] := by
      show (List.replicate 4 [0, 0, 0, 0]).map regT = _
      match ns.take 4, tk4 with
      | [_, _, _, _], _ => rfl
    rw [e]
    refine (EvF.compM [] [] (ns.take 4) (fun n => Tx o (tol n 0)) (fun _ => regT [0, 0, 0, 0]) (Itr.list (Ev.var (.tail _ (.tail _ (.head _))))) .nil (by omega) (fun C M n hn => ?_) (by kernel_rfl)).ev
    exact Turn.name (by kernel_rfl) (by rfl) (Ev.list (EvL.nums (ls := [0, 0, 0, 0]) (by decide +kernel)) (by simp))
  refine Exs.asg (δ' := [("registers", .lst ((sta ns 0).2.map regT)), ("files", .lst ((sta ns 0).1.map (rowT o))), ("told", told), ("logs", logs), ("drawn", drawn), ("octets", .bool o), ("numbers", .lst (ns.map iT))]) (d := iT 0) Ev.constInt (.inl (by kernel_rfl)) (.skip (by decide +kernel) <| .skip (by decide +kernel) <| .skip (by decide +kernel) <| .skip (by decide +kernel) <| .skip (by decide +kernel) <| .skip (by decide +kernel) <| .skip (by decide +kernel) .nil) ?_
  let δt : Nat → List (Str × D) := fun t => [("turn", iT t), ("registers", .lst ((sta ns t).2.map regT)), ("files", .lst ((sta ns t).1.map (rowT o))), ("told", told), ("logs", logs), ("drawn", drawn), ("octets", .bool o)]
  refine Exs.forN ((ns.drop 4).map iT) δt (fun t => ("number", iT (ns.getD (4 + t) 0)) :: δt t) (fun _ => none) 12 (by simp; omega) (Itr.list (Ev.slice (i := some ((4 : Nat) : Int)) rfl (Ev.var (.tail _ (.tail _ (.tail _ (.tail _ (.tail _ (.tail _ (.tail _ (.head _)))))))) ) (EvP.some Ev.constInt) EvP.none ((SliR.lst (by simp; omega)).to (by rw [cut_from, List.map_drop])))) rfl (fun _ => rfl) ?_ (fun t d ht hd => ?_) (fun t ht => ?_) (.inl ⟨by simp; omega, Exs.ret Ev.constBool⟩)
  · intro p hp
    simp only [δt, List.mem_cons, List.not_mem_nil, or_false] at hp ⊢
    rcases hp with h | h | h | h | h | h | h <;> simp [h]
  · have h16 : 4 + t < 16 := by
      have := (List.getElem?_eq_some_iff.mp hd).1
      simp at this; omega
    have hd' : d = iT (ns.getD (4 + t) 0) := by
      rw [List.getElem?_map, List.getElem?_drop] at hd
      have h : 4 + t < ns.length := by omega
      rw [List.getElem?_eq_getElem h] at hd
      have e : ns.getD (4 + t) 0 = ns[4 + t] := by simp [h]
      rw [e]
      exact (Option.some.inj hd).symm
    subst hd'
    exact Asg.name (.inl (by kernel_rfl)) (.skip (by decide +kernel) <| .skip (by decide +kernel) <| .skip (by decide +kernel) <| .skip (by decide +kernel) <| .skip (by decide +kernel) <| .skip (by decide +kernel) <| .skip (by decide +kernel) .nil) noOwn
  · generalize hm : ns.getD (4 + t) 0 = m
    have hm4 : m % 4 < 4 := Nat.mod_lt _ (by decide)
    obtain ⟨hw1, hw2, hw3⟩ := wh_spec hn16 hm4
    have hst : sta ns (t + 1) = (sto (sta ns t).1 (tol (ns.getD (m % 4) 0) 0) (m / 4 % 4) (m / 16 % 4) (t + 1),
        (List.range 4).map fun j => if j = wh ns (m % 4) then shf ((sta ns t).2.getD (wh ns (m % 4)) []) (m / 4 % 4) (m / 16 % 4) (t + 1) else (sta ns t).2.getD j []) := by
      show stp ns t (sta ns t) = _
      unfold stp
      dsimp only
      rw [hm, pl.logs _ hm4]
    obtain ⟨pf1, pf2, pf3⟩ := pl.files t (by omega)
    obtain ⟨pr1, pr2⟩ := pl.regs t (by omega)
    have tg := tol_gd (ns.getD (m % 4) 0) (a := 0) (by decide)
    have gl : ∀ {f : Nat → D} (j : Nat), j < 4 → ((ns.take 4).map f)[((j : Nat) : Int).toNat]? = some (f (ns.getD j 0)) := fun {f} j hj => by
      rw [Int.toNat_natCast, List.getElem?_map, List.getElem?_take, if_pos hj, get4 j hj]; rfl
    have gr : ∀ (j : Nat), j < 4 → ((sta ns t).2.map regT)[((j : Nat) : Int).toNat]? = some (regT ((sta ns t).2.getD j [])) := fun j hj => by
      have h : j < (sta ns t).2.length := by omega
      rw [Int.toNat_natCast, List.getElem?_map, List.getElem?_eq_getElem h]; simp [h]
    show Exs _ _ _ _ _ _ (("number", iT m) :: δt t) _ _
    refine Exs.aug (d := iT (t + 1)) (.tail _ (.head _)) (Ev.constN (n := 1)) InR.addInt (.inl (by kernel_rfl)) (.skip (by decide +kernel) <| .drop <| .skip (by decide +kernel) <| .skip (by decide +kernel) <| .skip (by decide +kernel) <| .skip (by decide +kernel) <| .skip (by decide +kernel) <| .skip (by decide +kernel) .nil) noOwn ?_
    refine Exs.asg (d := .int ((m / 4 % 4 : Nat) : Int)) (Ev.bin (Ev.bin (Ev.var (.tail _ (.head _))) (Ev.constN (n := 4)) (BinR.divN (by decide) (by decide))) (Ev.constN (n := 4)) (BinR.modN (by decide))) (.inl (by kernel_rfl)) (.skip (by decide +kernel) <| .skip (by decide +kernel) <| .skip (by decide +kernel) <| .skip (by decide +kernel) <| .skip (by decide +kernel) <| .skip (by decide +kernel) <| .skip (by decide +kernel) <| .skip (by decide +kernel) .nil) ?_
    refine Exs.asg (d := .int ((m / 16 % 4 : Nat) : Int)) (Ev.bin (Ev.bin (Ev.var (.tail _ (.tail _ (.head _)))) (Ev.constN (n := 16)) (BinR.divN (by decide) (by decide))) (Ev.constN (n := 4)) (BinR.modN (by decide))) (.inl (by kernel_rfl)) (.skip (by decide +kernel) <| .skip (by decide +kernel) <| .skip (by decide +kernel) <| .skip (by decide +kernel) <| .skip (by decide +kernel) <| .skip (by decide +kernel) <| .skip (by decide +kernel) <| .skip (by decide +kernel) <| .skip (by decide +kernel) .nil) ?_
    -- now: k, act, turn, number, registers, files, told, logs, drawn, octets
    have idx : ∀ {δ : List (Str × D)} {N : List Addr} {p1 p2 p3 : Pos} {k1 : Nat}, ((("number" : Str), iT m) : Str × D) ∈ δ → Ev W (k + 4) ⟨A, fenv 27 pm code doc L a⟩ N δ (.BinOp (.Name "number" p1) .Mod (.Constant (.int 4) k1 p2) p3) (.int ((m % 4 : Nat) : Int)) := fun hm => Ev.bin (Ev.var hm) (Ev.constN (n := 4)) (BinR.modN (by decide))
    refine Exs.asg (d := .lst ((sta ns (t + 1)).1.map (rowT o))) ((Ev.fn (stored_R g (k := k) (turn := t + 1) tg.1 (by omega) pf1 (by omega) (Nat.mod_lt _ (by decide))) (EvL.cons (Ev.var (.tail _ (.tail _ (.tail _ (.tail _ (.tail _ (.head _))))))) (EvL.cons (Ev.sub rfl (Ev.var (.tail _ (.tail _ (.tail _ (.tail _ (.tail _ (.tail _ (.tail _ (.head _))))))))) (idx (.tail _ (.tail _ (.tail _ (.head _))))) (SubR.lst (by omega) (gl _ hm4) (by simp; omega)))
      (EvL.cons (Ev.var (.tail _ (.head _))) (EvL.cons (Ev.var (.head _)) (EvL.cons (Ev.var (.tail _ (.tail _ (.head _)))) (EvL.cons (Ev.var (.tail _ (.tail _ (.tail _ (.tail _ (.tail _ (.tail _ (.tail _ (.tail _ (.tail _ (.head _))))))))))) EvL.nil))))))).to (by rw [hst])) (.inl (by kernel_rfl))
      (.skip (by decide +kernel) <| .skip (by decide +kernel) <| .skip (by decide +kernel) <| .skip (by decide +kernel) <| .skip (by decide +kernel) <| .drop <| .skip (by decide +kernel) <| .skip (by decide +kernel) <| .skip (by decide +kernel) <| .skip (by decide +kernel) .nil) ?_
    -- now: files, k, act, turn, number, registers, told, logs, drawn, octets
    have htold : told = .lst (((ns.take 4).map (tol · 0)).map (Tx false)) := by
      show D.lst _ = _
      rw [List.map_map]; rfl
    have hls : ∀ x ∈ (ns.take 4).map (tol · 0), Bd x := fun x hx => by
      obtain ⟨n, _, rfl⟩ := List.mem_map.mp hx
      exact (tol_gd n (by decide)).1.bd
    refine Exs.assign (own := none) (d := .int ((wh ns (m % 4) : Nat) : Int)) (Ev.meth (T := "list") rfl PySem.F.plainAttrs_list PySem.F.slot_list_index PySem.F.type_list_index ((Ev.var (.tail _ (.tail _ (.tail _ (.tail _ (.tail _ (.tail _ (.head _)))))))).to htold)
      (EvL.cons (Ev.sub (d := Tx false (tol (ns.getD (m % 4) 0) 0)) rfl (Ev.var (.tail _ (.tail _ (.tail _ (.tail _ (.tail _ (.tail _ (.head _)))))))) (idx (.tail _ (.tail _ (.tail _ (.tail _ (.head _)))))) (SubR.lst (by omega) (gl _ hm4) (by simp; omega))) EvL.nil) (CallR.indexT (o := false) tg.1.bd hls ?_ (fun j hj => ?_) (by simp; omega))) (.inr ⟨by kernel_rfl, by kernel_rfl⟩)
      (.skip (by decide +kernel) <| .skip (by decide +kernel) <| .skip (by decide +kernel) <| .skip (by decide +kernel) <| .skip (by decide +kernel) <| .skip (by decide +kernel) <| .skip (by decide +kernel) <| .skip (by decide +kernel) <| .skip (by decide +kernel) <| .skip (by decide +kernel) .nil) noOwn ?_ (by kernel_rfl)
    · rw [List.getElem?_map, List.getElem?_take, if_pos hw1, get4 _ hw1]
      exact congrArg some hw2
    · rw [List.getElem?_map, List.getElem?_take, if_pos (by omega), get4 j (by omega)]
      intro h
      exact hw3 j hj (Option.some.inj h)
    -- which, files, k, act, turn, number, registers, told, logs, drawn, octets
    refine Exs.assign (own := none) (d := regT (shf ((sta ns t).2.getD (wh ns (m % 4)) []) (m / 4 % 4) (m / 16 % 4) (t + 1))) (Ev.fn (shifted_R g (turn := t + 1) ?_) (EvL.cons (Ev.sub rfl (Ev.var (.tail _ (.tail _ (.tail _ (.tail _ (.tail _ (.tail _ (.head _)))))))) (Ev.var (.head _)) (SubR.lst (by omega) (gr _ hw1) (by simp; omega))) (EvL.cons (Ev.var (.tail _ (.tail _ (.tail _ (.head _))))) (EvL.cons (Ev.var (.tail _ (.tail _ (.head _)))) (EvL.cons (Ev.var (.tail _ (.tail _ (.tail _ (.tail _ (.head _)))))) EvL.nil)))))
      (.inr ⟨by kernel_rfl, by kernel_rfl⟩) (.skip (by decide +kernel) <| .skip (by decide +kernel) <| .skip (by decide +kernel) <| .skip (by decide +kernel) <| .skip (by decide +kernel) <| .skip (by decide +kernel) <| .skip (by decide +kernel) <| .skip (by decide +kernel) <| .skip (by decide +kernel) <| .skip (by decide +kernel) <| .skip (by decide +kernel) .nil) noOwn ?_ (by kernel_rfl)
    · have h : wh ns (m % 4) < (sta ns t).2.length := by omega
      have e : (sta ns t).2.getD (wh ns (m % 4)) [] = (sta ns t).2[wh ns (m % 4)] := by simp [h]
      rw [e, pr2 _ (List.getElem_mem h)]; decide
    -- shifted, which, files, k, act, turn, number, registers, told, logs, drawn, octets
    refine Exs.assign (own := none) (d := .lst ((sta ns (t + 1)).2.map regT)) ?_ (.inr ⟨by kernel_rfl, by kernel_rfl⟩) (.skip (by decide +kernel) <| .skip (by decide +kernel) <| .skip (by decide +kernel) <| .skip (by decide +kernel) <| .skip (by decide +kernel) <| .skip (by decide +kernel) <| .skip (by decide +kernel) <| .drop <| .skip (by decide +kernel) <| .skip (by decide +kernel) <| .skip (by decide +kernel) <| .skip (by decide +kernel) .nil) noOwn ?_ (by kernel_rfl)
    · have e : (sta ns (t + 1)).2.map regT = (List.range 4).map fun j => regT (if j = wh ns (m % 4) then shf ((sta ns t).2.getD (wh ns (m % 4)) []) (m / 4 % 4) (m / 16 % 4) (t + 1) else (sta ns t).2.getD j []) := by
        rw [hst, List.map_map]; rfl
      rw [e]
      refine (EvF.compM [("which", L + 1 + 1 + 1), ("shifted", L + 1 + 1 + 1 + 1), ("registers", L + 1 + 1)] [("registers", .lst ((sta ns t).2.map regT)), ("shifted", regT (shf ((sta ns t).2.getD (wh ns (m % 4)) []) (m / 4 % 4) (m / 16 % 4) (t + 1))), ("which", .int ((wh ns (m % 4) : Nat) : Int))] (List.range 4) (fun i => .int (i : Nat)) (fun j => regT (if j = wh ns (m % 4) then shf ((sta ns t).2.getD (wh ns (m % 4)) []) (m / 4 % 4) (m / 16 % 4) (t + 1) else (sta ns t).2.getD j [])) (Itr.range (n := 4) (nm g _) (EvL.cons Ev.constInt EvL.nil) (by decide))
        (.cons (.tail _ (.tail _ (.tail _ (.tail _ (.tail _ (.tail _ (.tail _ (.head _)))))))) (by kernel_rfl) (by kernel_rfl) (by kernel_rfl) <| .cons (.head _) (by kernel_rfl) (by kernel_rfl) (by kernel_rfl) <| .cons (.tail _ (.head _)) (by kernel_rfl) (by kernel_rfl) (by kernel_rfl) .nil) (by decide) (fun C M j hj => ?_) (by kernel_rfl)).ev
      have hj4 := List.mem_range.mp hj
      refine Turn.name (by kernel_rfl) (by rfl) (Ev.ite (u := decide (j = wh ns (m % 4))) (Tr.cmp (Ev.var (.head _)) (Ev.var (.tail _ (.tail _ (.tail _ (.head _))))) (CmpR.eqInt.to (decide_eq_decide.mpr (by omega)))) (fun h => (Ev.var (.tail _ (.tail _ (.head _)))).to (by rw [if_pos (of_decide_eq_true h)])) (fun h => ?_))
      rw [if_neg (of_decide_eq_false h)]
      exact Ev.sub rfl (Ev.var (.tail _ (.head _))) (Ev.var (.head _)) (SubR.lst (by omega) (gr _ hj4) (by simp; omega))
    -- registers, shifted, which, files, k, act, turn, number, told, logs, drawn, octets
    generalize hR : (sta ns (t + 1)).2 = R
    generalize hF : (sta ns (t + 1)).1 = F
    let δd : List (Str × D) := [("registers", .lst (R.map regT)), ("files", .lst (F.map (rowT o))), ("turn", iT (t + 1)), ("told", told), ("logs", logs), ("drawn", drawn), ("octets", .bool o)]
    refine Exs.acq (δ' := δd) (EvF.list EvL.nil) (.inl (by kernel_rfl)) (.skip (by decide +kernel) <| .drop <| .drop <| .skip (by decide +kernel) <| .drop <| .drop <| .skip (by decide +kernel) <| .drop <| .skip (by decide +kernel) <| .skip (by decide +kernel) <| .skip (by decide +kernel) <| .skip (by decide +kernel) .nil) fun M => ?_
    obtain ⟨qr1, qr2⟩ := pl.regs (t + 1) (by omega)
    obtain ⟨qf1, qf2, qf3⟩ := pl.files (t + 1) (by omega)
    have qd := pl.due (t + 1) (by omega)
    have qq := pl.reads (t + 1) (by omega)
    rw [hR] at qr1 qr2 qd qq
    rw [hF] at qf1 qf2 qf3 qd
    have own_ne : ∀ {x : Str} {M : Addr} {l : List D}, x ≠ "due" → ∀ q : Str × Addr × List D, (some ("due", M, l) : Own) = some q → q.1 ≠ x := fun hx q hq => by cases hq; exact fun h => hx h.symm
    have gR : ∀ (j : Nat), j < 4 → (R.map regT)[((j : Nat) : Int).toNat]? = some (regT (R.getD j [])) := fun j hj => by
      have h : j < R.length := by omega
      rw [Int.toNat_natCast, List.getElem?_map, List.getElem?_eq_getElem h]; simp [h]
    have lR : ∀ j, j < 4 → (R.getD j []).length = 4 := fun j hj => by
      have h : j < R.length := by omega
      have e : R.getD j [] = R[j] := by simp [h]
      rw [e]; exact qr2 _ (List.getElem_mem h)
    have cell : ∀ {δ : List (Str × D)} {N : List Addr} {p1 p2 p3 p4 p5 : Pos} {j a' : Nat}, j < 4 → a' < 4 → ((("registers" : Str), D.lst (R.map regT)) : Str × D) ∈ δ → ((("j" : Str), D.int (j : Nat)) : Str × D) ∈ δ → ((("age" : Str), D.int (a' : Nat)) : Str × D) ∈ δ →
        Ev W (k + 4) ⟨A, fenv 27 pm code doc L a⟩ N δ (.Subscript (.Subscript (.Name "registers" p1) (.Name "j" p2) p3) (.Name "age" p4) p5) (iT (vat R j a')) := fun {δ N p1 p2 p3 p4 p5 j a'} hj ha h1 h2 h3 =>
      Ev.sub rfl (Ev.sub (d := regT (R.getD j [])) rfl (Ev.var h1) (Ev.var h2) (SubR.lst (by omega) (gR _ hj) (by simp; omega))) (Ev.var h3) (SubR.lst (by omega) (by
        have hl := lR j hj
        have h : a' < (R.getD j []).length := by omega
        rw [Int.toNat_natCast, List.getElem?_map, List.getElem?_eq_getElem h]
        unfold vat
        generalize R.getD j [] = row at h
        simp [h]) (by have := lR j hj; simp at this ⊢; omega))
    have iota : ∀ {n j : Nat} {d : D}, (upto n)[j]? = some d → j < n ∧ d = .int (j : Nat) := fun {n j d} hd => by
      have h : j < n := by
        have := (List.getElem?_eq_some_iff.mp hd).1
        simpa [upto] using this
      refine ⟨h, ?_⟩
      simp [upto, List.getElem?_range h] at hd
      exact hd.symm
    refine Exs.forN (upto 4) (fun _ => δd) (fun j => ("j", .int (j : Nat)) :: δd) (fun j => some ("due", M, (dJ ns R j).map (rowT o))) 4 (by simp [upto]) (Itr.range (n := 4) (nm g _) (EvL.cons Ev.constInt EvL.nil) (by decide)) rfl (fun _ => rfl) (fun _ h => h) (fun j d hj hd => ?_) (fun j hj => ?_) (.inl ⟨by simp [upto], ?_⟩)
    · obtain ⟨_, rfl⟩ := iota hd
      exact Asg.name (.inl (by kernel_rfl)) (.skip (by decide +kernel) <| .skip (by decide +kernel) <| .skip (by decide +kernel) <| .skip (by decide +kernel) <| .skip (by decide +kernel) <| .skip (by decide +kernel) <| .skip (by decide +kernel) .nil) (own_ne (by decide +kernel))
    · let nj := ns.getD j 0
      let δe : List (Str × D) := ("words", .lst ((lgd nj).2.map sT)) :: ("dots", .int ((lgd nj).1 : Nat)) :: ("folder", sT (fol nj)) :: ("j", .int (j : Nat)) :: δd
      refine Exs.assignTup (d := drT nj) (Ev.sub rfl (Ev.var (.tail _ (.tail _ (.tail _ (.tail _ (.tail _ (.tail _ (.head _)))))))) (Ev.var (.head _)) (SubR.lst (by omega) (gl _ hj) (by simp; omega)))
        (Asg.tup3 (Asg.name (.inl (by kernel_rfl)) (.skip (by decide +kernel) <| .skip (by decide +kernel) <| .skip (by decide +kernel) <| .skip (by decide +kernel) <| .skip (by decide +kernel) <| .skip (by decide +kernel) <| .skip (by decide +kernel) <| .skip (by decide +kernel) .nil) (own_ne (by decide +kernel)))
          (Asg.name (.inl (by kernel_rfl)) (.skip (by decide +kernel) <| .skip (by decide +kernel) <| .skip (by decide +kernel) <| .skip (by decide +kernel) <| .skip (by decide +kernel) <| .skip (by decide +kernel) <| .skip (by decide +kernel) <| .skip (by decide +kernel) <| .skip (by decide +kernel) .nil) (own_ne (by decide +kernel)))
          (Asg.name (.inl (by kernel_rfl)) (.skip (by decide +kernel) <| .skip (by decide +kernel) <| .skip (by decide +kernel) <| .skip (by decide +kernel) <| .skip (by decide +kernel) <| .skip (by decide +kernel) <| .skip (by decide +kernel) <| .skip (by decide +kernel) <| .skip (by decide +kernel) <| .skip (by decide +kernel) .nil) (own_ne (by decide +kernel)))) ?_
      show Exs _ _ _ _ _ _ δe _ (.next (some ("due", M, (dJ ns R (j + 1)).map (rowT o))) δd)
      refine Exs.forN (upto 4) (fun _ => δe) (fun a' => ("age", .int (a' : Nat)) :: δe) (fun a' => some ("due", M, (dJ ns R j ++ dA ns R j a').map (rowT o))) 4 (by simp [upto]) (Itr.range (n := 4) (nm g _) (EvL.cons Ev.constInt EvL.nil) (by decide)) (by simp [dA]) (fun _ => rfl) (fun _ h => h) (fun a' d ha hd => ?_) (fun a' ha => ?_) (.inl ⟨by simp [upto], ?_⟩)
      · obtain ⟨_, rfl⟩ := iota hd
        exact Asg.name (.inl (by kernel_rfl)) (.skip (by decide +kernel) <| .skip (by decide +kernel) <| .skip (by decide +kernel) <| .skip (by decide +kernel) <| .skip (by decide +kernel) <| .skip (by decide +kernel) <| .skip (by decide +kernel) <| .skip (by decide +kernel) <| .skip (by decide +kernel) <| .skip (by decide +kernel) <| .skip (by decide +kernel) .nil) (own_ne (by decide +kernel))
      · show Exs _ _ _ _ _ _ (("age", .int (a' : Nat)) :: δe) _ (.next (some ("due", M, (dJ ns R j ++ dA ns R j (a' + 1)).map (rowT o))) δe)
        have hadd : dJ ns R j ++ dA ns R j (a' + 1) = (dJ ns R j ++ dA ns R j a') ++ (if vat R j a' ≠ 0 then [(tol nj a', vat R j a')] else []) := by
          show dJ ns R j ++ (dA ns R j a' ++ _) = _
          rw [List.append_assoc]
        rw [hadd]
        have hdl : (dJ ns R j ++ dA ns R j a').length ≤ 100 := by
          have h1 : ∀ j x, (dA ns R j x).length ≤ x := fun j x => by
            induction x with
            | zero => exact Nat.le_refl _
            | succ x ih =>
              show (dA ns R j x ++ _).length ≤ _
              rw [List.length_append]
              split <;> simp <;> omega
          have h2 : ∀ x, (dJ ns R x).length ≤ 4 * x := fun x => by
            induction x with
            | zero => exact Nat.le_refl _
            | succ x ih =>
              show (dJ ns R x ++ dA ns R x 4).length ≤ _
              rw [List.length_append]
              have := h1 x 4; omega
          rw [List.length_append]
          have := h1 j a'
          have := h2 j
          omega
        by_cases hv : vat R j a' = 0
        · rw [if_neg (by simp [hv]), List.append_nil]
          refine Exs.iteLast (t := false) ((Tr.val (cell hj ha (.tail _ (.tail _ (.tail _ (.tail _ (.tail _ (.head _)))))) (.tail _ (.tail _ (.tail _ (.tail _ (.head _))))) (.head _)) TruR.int).to (by simp [hv])) nf (fun _ => Exs.nil fun p hp => .tail _ hp)
        · rw [if_pos hv, show ((dJ ns R j ++ dA ns R j a') ++ [(tol nj a', vat R j a')]).map (rowT o) = (dJ ns R j ++ dA ns R j a').map (rowT o) ++ [rowT o (tol nj a', vat R j a')] from List.map_append]
          have hrd : rdx (tol nj a') = (tol nj 0, a') := by rw [qq j a' hj ha hv, pl.logs j hj]
          have hlg := lg_ok nj
          have hs := hlg.s
          have hdd := hlg.d
          refine Exs.iteLast (t := true) ((Tr.val (cell hj ha (.tail _ (.tail _ (.tail _ (.tail _ (.tail _ (.head _)))))) (.tail _ (.tail _ (.tail _ (.tail _ (.head _))))) (.head _)) TruR.int).to (by simp; omega)) (fun _ => ?_) nt
          refine Exs.assign (d := Tx o (tol nj a')) (Ev.fn (as_R g (tol_gd nj ha).1) (EvL.cons (Ev.fn (path_R g (fol_ok nj).1 (by have := (fol_ok nj).2; omega) (by omega) (by omega) ha) (EvL.cons (Ev.var (.tail _ (.tail _ (.tail _ (.head _))))) (EvL.cons (Ev.var (.tail _ (.tail _ (.head _)))) (EvL.cons (Ev.var (.tail _ (.head _))) (EvL.cons (Ev.var (.head _)) EvL.nil))))) (EvL.cons (Ev.var (.tail _ (.tail _ (.tail _ (.tail _ (.tail _ (.tail _ (.tail _ (.tail _ (.tail _ (.tail _ (.tail _ (.head _))))))))))))) EvL.nil)))
            (.inl (by kernel_rfl)) (.skip (by decide +kernel) <| .skip (by decide +kernel) <| .skip (by decide +kernel) <| .skip (by decide +kernel) <| .skip (by decide +kernel) <| .skip (by decide +kernel) <| .skip (by decide +kernel) <| .skip (by decide +kernel) <| .skip (by decide +kernel) <| .skip (by decide +kernel) <| .skip (by decide +kernel) <| .skip (by decide +kernel) .nil) (own_ne (by decide +kernel)) ?_
          refine Exs.ite (t := false) (o₁ := .ret .none) (o₂ := .next _ _) (Tr.cmp ((Ev.fn (read_R g (tol_gd nj ha).1) (EvL.cons (Ev.var (.head _)) (EvL.cons (Ev.var (.tail _ (.tail _ (.tail _ (.tail _ (.tail _ (.tail _ (.tail _ (.tail _ (.tail _ (.tail _ (.tail _ (.tail _ (.head _)))))))))))))) EvL.nil))).to (d' := .tup [Tx o (tol nj 0), iT a']) (by rw [hrd]))
            (Ev.tuple (ds := [Tx o (tol nj 0), iT a']) (EvL.cons (Ev.sub rfl (Ev.var (.tail _ (.tail _ (.tail _ (.tail _ (.tail _ (.tail _ (.tail _ (.tail _ (.tail _ (.tail _ (.head _)))))))))))) (Ev.var (.tail _ (.tail _ (.tail _ (.tail _ (.tail _ (.head _))))))) (SubR.lst (by omega) (gl _ hj) (by simp; omega))) (EvL.cons (Ev.var (.tail _ (.head _))) EvL.nil)) (by simp))
            (CmpR.neTup (n := 3) (Eqv.tupSame fun d hd => ?_) (by decide))) nf nf (fun _ => .nil') (fun _ => .next ?_)
          · simp only [List.mem_cons, List.not_mem_nil, or_false] at hd
            rcases hd with rfl | rfl
            · exact Eqv.txSame
            · exact Eqv.intSame
          · refine Exs.append (d := rowT o (tol nj a', vat R j a')) (Ev.list (EvL.cons (Ev.var (.head _)) (EvL.cons (cell hj ha (.tail _ (.tail _ (.tail _ (.tail _ (.tail _ (.tail _ (.head _))))))) (.tail _ (.tail _ (.tail _ (.tail _ (.tail _ (.head _)))))) (.tail _ (.head _))) EvL.nil)) (by simp)) (by rw [List.length_map]; omega) (Exs.nil fun p hp => .tail _ (.tail _ hp))
      · exact Exs.nil fun p hp => .tail _ (.tail _ (.tail _ (.tail _ hp)))
    · refine Exs.rel ?_
      have dg : ∀ r ∈ dJ ns R 4, Gd r.1 := fun r hr => qf1 r (qd.mem_iff.mp hr)
      have dn : (dJ ns R 4).Pairwise fun x y => x.1 ≠ y.1 := (qd.pairwise_iff (R := fun x y : Row => x.1 ≠ y.1) (fun h => h.symm)).mpr qf3
      have dl : (dJ ns R 4).length < 64 := by rw [qd.length_eq]; exact qf2
      refine Exs.iteLast (t := false) (Tr.cmp (Ev.callB (nm g _) (by decide +kernel) (sorted_R qf1 qf3 qf2) (EvL.cons (Ev.var (.tail _ (.tail _ (.head _)))) EvL.nil)) ((Ev.callB (nm g _) (by decide +kernel) (sorted_R dg dn dl) (EvL.cons (Ev.var (.head _)) EvL.nil)).to (d' := .lst ((srt F).map (rowT o))) (by rw [srt_perm qd]))
        (CmpR.neL (n := 5) (Eqv.lstSame fun d hd => ?_) (by decide))) nf (fun _ => Exs.nil fun p hp => ?_)
      · obtain ⟨r, _, rfl⟩ := List.mem_map.mp hd
        refine Eqv.lstSame fun d hd => ?_
        simp only [List.mem_cons, List.not_mem_nil, or_false] at hd
        rcases hd with rfl | rfl
        · exact Eqv.txSame
        · exact Eqv.intSame
      · simp only [δt, δd, hR, hF, List.mem_cons, List.not_mem_nil, or_false] at hp ⊢
        rcases hp with h | h | h | h | h | h | h <;> simp [h]
end
end Mine
end H3S

section P1S
set_option linter.unusedVariables false
namespace Mine
/-! the plain law -/
theorem rix_none {c : Nat} {l : List Nat} (h : c ∉ l) : rix c l = -1 := by
  rcases rix_spec c l with ⟨h1, _⟩ | ⟨i, _, h2, _⟩
  · exact h1
  · exact absurd (List.mem_of_getElem? h2) h
theorem rix_app_no {c : Nat} {a b : List Nat} (h : c ∉ b) : rix c (a ++ b) = rix c a := by
  symm
  apply rix_eq
  rcases rix_spec c a with ⟨h1, h2⟩ | ⟨i, h1, h2, h3⟩
  · refine .inl ⟨h1, fun i hi => ?_⟩
    rcases List.mem_append.mp (List.mem_of_getElem? hi) with hm | hm
    · obtain ⟨j, hj⟩ := List.getElem?_of_mem hm
      exact h2 j hj
    · exact h hm
  · refine .inr ⟨i, h1, ?_, fun k hk hkc => ?_⟩
    · have := (List.getElem?_eq_some_iff.mp h2).1
      rw [List.getElem?_append_left this]; exact h2
    · rcases Nat.lt_or_ge k a.length with hl | hl
      · rw [List.getElem?_append_left hl] at hkc; exact h3 k hk hkc
      · rw [List.getElem?_append_right hl] at hkc
        exact h (List.mem_of_getElem? hkc)
theorem rix_last {c : Nat} {a b : List Nat} (h : c ∉ b) : rix c (a ++ c :: b) = a.length := by
  symm
  apply rix_eq
  refine .inr ⟨a.length, rfl, by simp, fun k hk hkc => ?_⟩
  rw [List.getElem?_append_right (by omega)] at hkc
  obtain ⟨m, hm⟩ : ∃ m, k - a.length = m + 1 := ⟨k - a.length - 1, by omega⟩
  rw [hm] at hkc
  exact h (List.mem_of_getElem? (by simpa using hkc))

/-- a folder with its slash -/
def FmOk (F : List Nat) : Prop := F = [] ∨ ∃ G, F = G ++ [47]
theorem fm_rix {F : List Nat} (h : FmOk F) : rix 47 F = (F.length : Int) - 1 := by
  rcases h with rfl | ⟨G, rfl⟩
  · rfl
  · rw [rix_last (by simp)]; simp
theorem fm_dot {F : List Nat} (h : FmOk F) : rix 46 F < F.length := by
  have := rix_lt 46 F; exact this
theorem fm_dot2 {F : List Nat} (h : FmOk F) : rix 46 F ≤ rix 47 F := by
  rw [fm_rix h]
  have := rix_lt 46 F; omega

/-- no ending: all dots lead -/
theorem spx_none {F w : List Nat} (d : Nat) (hF : FmOk F) (h6 : 46 ∉ w) (h7 : 47 ∉ w) : spx (F ++ List.replicate d 46 ++ w) = (F ++ List.replicate d 46 ++ w, []) := by
  unfold spx
  rw [if_neg]
  rintro ⟨i, h1, h2, h3⟩
  have r7 : rix 47 (F ++ List.replicate d 46 ++ w) = (F.length : Int) - 1 := by
    rw [List.append_assoc, rix_app_no (by simp [h7]), fm_rix hF]
  rw [r7] at h1
  rw [rix_app_no h6] at h2
  have hd : rix 46 (F ++ List.replicate d 46) < (F.length + d : Nat) := by
    have := rix_lt 46 (F ++ List.replicate d 46)
    simpa using this
  apply h3
  rw [List.append_assoc, List.getElem?_append_right (by omega), List.getElem?_append_left (by rw [List.length_replicate]; omega), List.getElem?_replicate, if_pos (by omega)]
/-- an ending: after a first sign that is no dot -/
theorem spx_some {F m w : List Nat} {x : Nat} (d : Nat) (hF : FmOk F) (hx : x ≠ 46) (hm : 47 ∉ x :: m) (h6 : 46 ∉ w) (h7 : 47 ∉ w) :
    spx (F ++ List.replicate d 46 ++ (x :: m) ++ 46 :: w) = (F ++ List.replicate d 46 ++ (x :: m), 46 :: w) := by
  have r6 : rix 46 (F ++ List.replicate d 46 ++ (x :: m) ++ 46 :: w) = ((F ++ List.replicate d 46 ++ (x :: m)).length : Nat) := rix_last h6
  have r7 : rix 47 (F ++ List.replicate d 46 ++ (x :: m) ++ 46 :: w) = (F.length : Int) - 1 := by
    rw [List.append_assoc, List.append_assoc, rix_app_no, fm_rix hF]
    intro h
    rcases List.mem_append.mp h with h | h
    · exact absurd (List.eq_of_mem_replicate h) (by decide)
    · rcases List.mem_append.mp h with h | h
      · exact hm h
      · rcases List.mem_cons.mp h with h | h
        · exact absurd h (by decide)
        · exact h7 h
  unfold spx
  rw [if_pos]
  · rw [r6, Int.toNat_natCast, List.take_left' rfl, List.drop_left' rfl]
  · refine ⟨F.length + d, by rw [r7]; omega, by rw [r6]; simp; omega, ?_⟩
    rw [List.append_assoc, List.append_assoc, List.getElem?_append_right (by omega), List.getElem?_append_right (by simp)]
    simp [hx]

/-! words -/
structure Wk (w : List Nat) : Prop where
  d : 46 ∉ w
  s : 47 ∉ w
  f : figA (46 :: w) = 0
theorem pick_wk (m : Nat) : Wk (pickw m) := by
  unfold pickw
  split
  · split
    · exact ⟨by decide, by decide, by decide⟩
    · rename_i h
      simp only [List.mem_cons, List.not_mem_nil, or_false, not_or] at h
      obtain ⟨h1, h2, h3, h4, h5⟩ := h
      refine ⟨fun h => h1 (List.mem_singleton.mp h).symm, fun h => h2 (List.mem_singleton.mp h).symm, ?_⟩
      unfold figA
      rw [if_neg (by simpa using h3), if_neg (by simpa using h4), if_neg (by simpa using h5)]
  · have h5 : m % 6 < 6 := Nat.mod_lt _ (by decide)
    have h6 : m % 6 ≠ 5 := by assumption
    have h7 : m % 6 < 5 := by omega
    generalize m % 6 = r at h7
    match r, h7 with
    | 0, _ => exact ⟨by decide, by decide, by decide⟩
    | 1, _ => exact ⟨by decide, by decide, by decide⟩
    | 2, _ => exact ⟨by decide, by decide, by decide⟩
    | 3, _ => exact ⟨by decide, by decide, by decide⟩
    | 4, _ => exact ⟨by decide, by decide, by decide⟩
theorem drw_wk : ∀ s m, ∀ w ∈ drw s m, Wk w
  | 0, m, w, h => by cases h
  | s + 1, m, w, h => by
    rcases List.mem_cons.mp h with rfl | h
    · exact pick_wk m
    · exact drw_wk s _ w h
/-- the words of a log: one, or a first one that is not empty, some, a last one -/
inductive Ws : List (List Nat) → Prop
  | one {w : List Nat} : Wk w → Ws [w]
  | more {x : Nat} {m : List Nat} {mid : List (List Nat)} {w : List Nat} : Wk (x :: m) → (∀ u ∈ mid, Wk u) → Wk w → Ws ((x :: m) :: mid ++ [w])
theorem lgd_ws (n : Nat) : Ws (lgd n).2 := by
  obtain ⟨t, h1, h2, h3⟩ := strp_spec (drw (1 + n / 24 % 3) (n / 72)) (n / 8 % 3)
  have hw := drw_wk (1 + n / 24 % 3) (n / 72)
  have hl := drw_len (1 + n / 24 % 3) (n / 72)
  unfold lgd
  rw [h1]
  generalize drw (1 + n / 24 % 3) (n / 72) = ws at *
  have hne : ws.drop t ≠ [] := by
    intro h
    have ht := List.drop_eq_nil_iff.mp h
    have := (h2 (ws.length - 1) (by omega)).1
    rw [List.length_drop] at this; omega
  have hw' : ∀ w ∈ ws.drop t, Wk w := fun w h => hw w (List.mem_of_mem_drop h)
  show Ws (ws.drop t)
  generalize ws.drop t = vs at *
  match vs, hne, hw', h3 with
  | [w], _, hw', _ => exact .one (hw' w (.head _))
  | [] :: v :: r, _, _, h3 => exact absurd ⟨by simp, rfl⟩ h3
  | (x :: m) :: v :: r, _, hw', _ =>
    have e : v :: r = (v :: r).dropLast ++ [(v :: r).getLast (by simp)] := (List.dropLast_concat_getLast (by simp)).symm
    rw [e]
    exact .more (hw' _ (.head _)) (fun u hu => hw' u (.tail _ (by rw [List.dropLast_eq_take] at hu; exact List.mem_of_mem_take hu))) (hw' _ (.tail _ (List.getLast_mem _)))
theorem jn_snoc (sep : List Nat) : ∀ (ws : List (List Nat)) (w : List Nat), ws ≠ [] → jn sep (ws ++ [w]) = jn sep ws ++ sep ++ w
  | [], w, h => absurd rfl h
  | [x], w, _ => rfl
  | x :: y :: r, w, _ => by
    show x ++ sep ++ jn sep ((y :: r) ++ [w]) = x ++ sep ++ jn sep (y :: r) ++ sep ++ w
    rw [jn_snoc sep (y :: r) w (by simp)]
    simp
theorem jn_head (sep : List Nat) (x : Nat) (m : List Nat) : ∀ mid : List (List Nat), ∃ r, jn sep ((x :: m) :: mid) = x :: (m ++ r)
  | [] => ⟨[], by simp [jn]⟩
  | y :: r => ⟨sep ++ jn sep (y :: r), by simp [jn]⟩
theorem jn_no47 {ws : List (List Nat)} (h : ∀ w ∈ ws, 47 ∉ w) : 47 ∉ jn [46] ws := fun hc => by
  rcases jn_mem _ _ _ hc with h1 | ⟨w, h1, h2⟩
  · simp at h1
  · exact h w h1 h2

theorem fm_ok (n : Nat) : FmOk (fol n ++ mid (fol n)) := by
  unfold mid
  split
  · rename_i h
    rw [List.append_nil]
    rcases h with h | h
    · exact .inl h
    · obtain ⟨ys, hy⟩ := List.getLast?_eq_some_iff.mp h
      exact .inr ⟨ys, hy⟩
  · exact .inr ⟨fol n, rfl⟩
theorem logs_eq (n : Nat) : lgp n = tol n 0 := by
  have hws := lgd_ws n
  have h47 : 47 ∉ List.replicate (lgd n).1 46 ++ jn [46] (lgd n).2 := by
    intro h
    rcases List.mem_append.mp h with h | h
    · exact absurd (List.eq_of_mem_replicate h) (by decide)
    · refine jn_no47 (fun w hw => ?_) h
      obtain ⟨_, _, h3⟩ := strp_ok (drw (1 + n / 24 % 3) (n / 72)) (n / 8 % 3)
      exact (drw_wk _ _ w (h3 w hw)).s
  have hw0 : wrd (lgd n).2 0 = (lgd n).2 := by unfold wrd; rw [if_pos rfl]
  unfold lgp tol pth jnp
  rw [hw0]
  by_cases hf : fol n = []
  · rw [if_pos (.inr hf)]
    simp [mid, hf]
  · rw [if_neg]
    · unfold mid
      by_cases h : (fol n).getLast? = some 47
      · rw [if_pos h, if_pos (.inr h)]; simp
      · rw [if_neg h, if_neg (by simp [hf, h])]; simp
    · rintro (h | h)
      · exact h47 (List.mem_of_head? h)
      · exact hf h
end Mine
end P1S

section P2S
set_option linter.unusedVariables false
namespace Mine
inductive Form (n : Nat) : Prop
  | one (F w : List Nat) (d : Nat) : FmOk F → Wk w → tol n 0 = F ++ List.replicate d 46 ++ w → (∀ a, a ≠ 0 → tol n a = F ++ List.replicate d 46 ++ w ++ [46] ++ [48 + a]) → Form n
  | more (F q w : List Nat) (x d : Nat) : FmOk F → x ≠ 46 → 47 ∉ x :: q → Wk w → tol n 0 = F ++ List.replicate d 46 ++ (x :: q) ++ 46 :: w → (∀ a, a ≠ 0 → tol n a = F ++ List.replicate d 46 ++ (x :: q) ++ [46, 48 + a] ++ 46 :: w) →
      figA (spx (F ++ List.replicate d 46 ++ (x :: q))).2 = 0 → Form n
theorem form (n : Nat) : Form n := by
  have hF := fm_ok n
  have hws := lgd_ws n
  generalize hd : (lgd n).1 = d
  generalize hw : (lgd n).2 = ws at hws
  have t0 : tol n 0 = (fol n ++ mid (fol n)) ++ List.replicate d 46 ++ jn [46] ws := by
    unfold tol pth wrd; rw [hd, hw, if_pos rfl]
  cases hws with
  | one hk =>
    rename_i w
    refine .one (fol n ++ mid (fol n)) w d hF hk (by rw [t0]; rfl) fun a ha => ?_
    unfold tol pth wrd
    rw [hd, hw, if_neg ha, if_neg (by simp)]
    simp [jn]
  | more hk hm hwk =>
    rename_i x m mm w
    obtain ⟨r, hr⟩ := jn_head [46] x m mm
    have hne : (x :: m) :: mm ≠ [] := by simp
    have h47 : 47 ∉ x :: (m ++ r) := by
      rw [← hr]
      exact jn_no47 fun u hu => by
        rcases List.mem_cons.mp hu with rfl | hu
        · exact hk.s
        · exact (hm u hu).s
    have hx : x ≠ 46 := fun h => hk.d (by rw [h]; exact .head _)
    refine .more (fol n ++ mid (fol n)) (m ++ r) w x d hF hx h47 hwk ?_ (fun a ha => ?_) ?_
    · rw [t0, jn_snoc _ _ _ hne, hr]; simp
    · unfold tol pth wrd
      rw [hd, hw, if_neg ha, if_pos (by simp)]
      have e1 : ((x :: m) :: mm ++ [w]).dropLast = (x :: m) :: mm := List.dropLast_concat
      have e2 : ((x :: m) :: mm ++ [w]).getLastD [] = w := by rw [List.getLastD_eq_getLast?, List.getLast?_concat]; rfl
      rw [e1, e2]
      have e3 : (x :: m) :: mm ++ [[48 + a], w] = ((x :: m) :: mm ++ [[48 + a]]) ++ [w] := by simp
      rw [e3, jn_snoc _ _ _ (by simp), jn_snoc _ _ _ hne, hr]
      simp
    · rw [← hr]
      rcases List.eq_nil_or_concat mm with rfl | ⟨mm', u, rfl⟩
      · show figA (spx (_ ++ _ ++ (x :: m))).2 = 0
        rw [spx_none d hF hk.d hk.s]
        rfl
      · have hu := hm u (by simp)
        have hne' : (x :: m) :: mm' ≠ [] := by simp
        have e : (x :: m) :: mm'.concat u = ((x :: m) :: mm') ++ [u] := by simp
        obtain ⟨r', hr'⟩ := jn_head [46] x m mm'
        have h47' : 47 ∉ x :: (m ++ r') := by
          rw [← hr']
          exact jn_no47 fun v hv => by
            rcases List.mem_cons.mp hv with rfl | hv
            · exact hk.s
            · exact (hm v (by simp [hv])).s
        rw [e, jn_snoc _ _ _ hne', hr']
        have e2 : (fol n ++ mid (fol n)) ++ List.replicate d 46 ++ (x :: (m ++ r') ++ [46] ++ u) = (fol n ++ mid (fol n)) ++ List.replicate d 46 ++ (x :: (m ++ r')) ++ 46 :: u := by simp
        rw [e2, spx_some d hF hx h47' hu.d hu.s]
        exact hu.f
theorem agd_tol (n : Nat) {a : Nat} (ha : a < 4) : agd (tol n 0) a = tol n a := by
  by_cases h0 : a = 0
  · subst h0; unfold agd; rw [if_pos rfl]
  · unfold agd
    rw [if_neg h0]
    cases form n with
    | one F w d hF hk e0 ea =>
      rw [ea a h0, e0, spx_none d hF hk.d hk.s]
      simp
    | more F q w x d hF hx h47 hk e0 ea hf =>
      rw [ea a h0, e0, spx_some d hF hx h47 hk.d hk.s]
theorem last2 {p : List Nat} {a b : Nat} : (p ++ [a, b]).drop ((p ++ [a, b]).length - 2) = [a, b] := by
  have : (p ++ [a, b]).length - 2 = p.length := by simp
  rw [this, List.drop_left' rfl]
theorem figA_dig {a : Nat} (h : a < 4) (h0 : a ≠ 0) : figA [46, 48 + a] = a := by
  match a, h, h0 with
  | 1, _, _ => rfl
  | 2, _, _ => rfl
  | 3, _, _ => rfl
theorem figA_two {a b : Nat} (h : figA [a, b] ≠ 0) : a = 46 ∧ figA [46, b] ≠ 0 := by
  have : a = 46 := by
    unfold figA at h
    by_cases h1 : [a, b] = [46, 49]
    · simp at h1; exact h1.1
    · by_cases h2 : [a, b] = [46, 50]
      · simp at h2; exact h2.1
      · by_cases h3 : [a, b] = [46, 51]
        · simp at h3; exact h3.1
        · rw [if_neg h1, if_neg h2, if_neg h3] at h; exact absurd rfl h
  subst this
  exact ⟨rfl, h⟩
/-- the last two signs are no age, when the last word is none -/
theorem last_no {P w : List Nat} (hk : Wk w) (hP : P = [] ∨ ∃ G c, P = G ++ [c] ∧ (c = 46 ∨ c = 47)) : figA ((P ++ w).drop ((P ++ w).length - 2)) = 0 := by
  have key : ∀ (G : List Nat) (u v : Nat), P ++ w = G ++ [u, v] → (u ≠ 46 ∨ figA [46, v] = 0) → figA ((P ++ w).drop ((P ++ w).length - 2)) = 0 := fun G u v e h => by
    rw [e, last2]
    cases hz : figA [u, v] with
    | zero => rfl
    | succ k =>
      obtain ⟨h1, h2⟩ := figA_two (a := u) (b := v) (by rw [hz]; omega)
      rcases h with h | h
      · exact absurd h1 h
      · exact absurd h h2
  have short : ∀ l : List Nat, l.length ≤ 1 → figA (l.drop (l.length - 2)) = 0 := fun l hl => by
    match l, hl with
    | [], _ => rfl
    | [x], _ => 
      show figA [x] = 0
      unfold figA
      simp
  rcases List.eq_nil_or_concat w with rfl | ⟨w', c, rfl⟩
  · rw [List.append_nil]
    rcases hP with rfl | ⟨G, c, rfl, hc⟩
    · exact short [] (by simp)
    · rcases List.eq_nil_or_concat G with rfl | ⟨G', b, rfl⟩
      · exact short [c] (by simp)
      · have := key G' b c (by simp) (.inr (by rcases hc with rfl | rfl <;> rfl))
        simpa using this
  · rcases List.eq_nil_or_concat w' with rfl | ⟨w'', b, rfl⟩
    · have hc : figA [46, c] = 0 := hk.f
      rcases hP with rfl | ⟨G, e, rfl, he⟩
      · exact short [c] (by simp)
      · exact key G e c (by simp) (.inr hc)
    · have hb : b ≠ 46 := fun h => hk.d (by simp [h])
      exact key (P ++ w'') b c (by simp) (.inl hb)

theorem dots_end {F : List Nat} (d : Nat) (hF : FmOk F) : F ++ List.replicate d 46 = [] ∨ ∃ G c, F ++ List.replicate d 46 = G ++ [c] ∧ (c = 46 ∨ c = 47) := by
  cases d with
  | zero =>
    rcases hF with rfl | ⟨G, rfl⟩
    · exact .inl rfl
    · exact .inr ⟨G, 47, by simp, .inr rfl⟩
  | succ d => exact .inr ⟨F ++ List.replicate d 46, 46, by rw [List.replicate_succ', List.append_assoc], .inl rfl⟩
theorem rdx_tol (n : Nat) {a : Nat} (ha : a < 4) : rdx (tol n a) = (tol n 0, a) := by
  cases form n with
  | one F w d hF hk e0 ea =>
    by_cases h0 : a = 0
    · subst h0
      have hs : spx (tol n 0) = (tol n 0, []) := by rw [e0]; exact spx_none d hF hk.d hk.s
      have hl := last_no hk (dots_end d hF)
      rw [← e0] at hl
      unfold rdx
      rw [hs]
      dsimp only
      rw [hs, if_neg (fun h => h rfl), if_neg (fun h => h rfl), if_neg (by rw [hl]; decide)]
    · by_cases hw : w = []
      · subst hw
        have et : tol n a = F ++ List.replicate (d + 1) 46 ++ [48 + a] := by
          rw [ea a h0, List.replicate_succ']; simp
        have hs : spx (tol n a) = (tol n a, []) := by
          rw [et]
          exact spx_none (d + 1) hF (by simp; omega) (by simp; omega)
        have et2 : tol n a = tol n 0 ++ [46, 48 + a] := by rw [ea a h0, e0]; simp
        have hdr : (tol n a).drop ((tol n a).length - 2) = [46, 48 + a] := by rw [et2]; exact last2
        have htk : (tol n a).take ((tol n a).length - 2) = tol n 0 := by
          rw [et2, show (tol n 0 ++ [46, 48 + a]).length - 2 = (tol n 0).length by simp, List.take_left' rfl]
        unfold rdx
        rw [hs]
        dsimp only
        rw [hs, if_neg (fun h => h rfl), if_neg (fun h => h rfl), hdr, figA_dig ha h0, if_pos h0, htk]
      · obtain ⟨x, q, rfl⟩ := List.exists_cons_of_ne_nil hw
        have hx : x ≠ 46 := fun h => hk.d (by rw [h]; exact .head _)
        have hs : spx (tol n a) = (tol n 0, [46, 48 + a]) := by
          have et : tol n a = F ++ List.replicate d 46 ++ (x :: q) ++ 46 :: [48 + a] := by rw [ea a h0]; simp
          rw [et, spx_some d hF hx hk.s (by simp; omega) (by simp; omega), e0]
        unfold rdx
        rw [hs]
        dsimp only
        rw [figA_dig ha h0, if_pos h0]
  | more F q w x d hF hx h47 hk e0 ea hf =>
    by_cases h0 : a = 0
    · subst h0
      have hs : spx (tol n 0) = (F ++ List.replicate d 46 ++ (x :: q), 46 :: w) := by rw [e0]; exact spx_some d hF hx h47 hk.d hk.s
      have hl : figA ((tol n 0).drop ((tol n 0).length - 2)) = 0 := by
        have := last_no (P := F ++ List.replicate d 46 ++ (x :: q) ++ [46]) hk (.inr ⟨_, 46, rfl, .inl rfl⟩)
        have e : tol n 0 = F ++ List.replicate d 46 ++ (x :: q) ++ [46] ++ w := by rw [e0]; simp
        rw [e]; exact this
      unfold rdx
      rw [hs]
      dsimp only
      rw [if_neg (by rw [hk.f]; decide), if_neg (by rw [hf]; decide), if_neg (by rw [hl]; decide)]
    · have hs : spx (tol n a) = (F ++ List.replicate d 46 ++ (x :: q) ++ [46, 48 + a], 46 :: w) := by
        have e : tol n a = F ++ List.replicate d 46 ++ (x :: (q ++ [46, 48 + a])) ++ 46 :: w := by rw [ea a h0]; simp
        have e2 : F ++ List.replicate d 46 ++ (x :: q) ++ [46, 48 + a] = F ++ List.replicate d 46 ++ (x :: (q ++ [46, 48 + a])) := by simp
        rw [e, e2]
        refine spx_some d hF hx ?_ hk.d hk.s
        intro h
        have : 47 ∈ x :: q ∨ 47 ∈ [46, 48 + a] := by simpa [or_assoc] using h
        rcases this with h | h
        · exact h47 h
        · simp at h; omega
      have hs2 : spx (F ++ List.replicate d 46 ++ (x :: q) ++ [46, 48 + a]) = (F ++ List.replicate d 46 ++ (x :: q), [46, 48 + a]) := spx_some d hF hx h47 (by simp; omega) (by simp; omega)
      unfold rdx
      rw [hs]
      dsimp only
      rw [hs2, if_neg (by rw [hk.f]; decide), figA_dig ha h0, if_pos h0, e0]
end Mine
end P2S

section P3S
set_option linter.unusedVariables false
namespace Mine
section
variable {ns : List Nat} (hn : ns.length = 16)
include hn
theorem wh_wh {m : Nat} (hm : m < 4) : wh ns (wh ns m) = wh ns m := by
  obtain ⟨a1, a2, a3⟩ := wh_spec hn hm
  obtain ⟨b1, b2, b3⟩ := wh_spec hn a1
  rcases Nat.lt_trichotomy (wh ns (wh ns m)) (wh ns m) with h | h | h
  · exact absurd (b2.trans a2) (a3 _ h)
  · exact h
  · exact absurd rfl (b3 _ h)
theorem rep_inj {i j : Nat} (hi : i < 4) (hj : j < 4) (ri : wh ns i = i) (rj : wh ns j = j) {a b : Nat} (ha : a < 4) (hb : b < 4) (h : tol (ns.getD i 0) a = tol (ns.getD j 0) b) : i = j ∧ a = b := by
  have e : (tol (ns.getD i 0) 0, a) = (tol (ns.getD j 0) 0, b) := by rw [← rdx_tol _ ha, ← rdx_tol _ hb, h]
  have e1 := congrArg Prod.fst e
  have e2 := congrArg Prod.snd e
  refine ⟨?_, e2⟩
  obtain ⟨_, _, a3⟩ := wh_spec hn hi
  obtain ⟨_, _, b3⟩ := wh_spec hn hj
  rw [ri] at a3
  rw [rj] at b3
  rcases Nat.lt_trichotomy i j with h | h | h
  · exact absurd e1 (b3 _ h)
  · exact h
  · exact absurd e1.symm (a3 _ h)

structure Inv (ns : List Nat) (regs : List (List Nat)) (fs : List Row) : Prop where
  len : regs.length = 4
  row : ∀ r ∈ regs, r.length = 4
  rep : ∀ j a, j < 4 → a < 4 → vat regs j a ≠ 0 → wh ns j = j
  mem : ∀ r, r ∈ fs ↔ ∃ j a, j < 4 ∧ a < 4 ∧ vat regs j a ≠ 0 ∧ r = (tol (ns.getD j 0) a, vat regs j a)
  pw : fs.Pairwise fun x y => x.1 ≠ y.1

theorem shf_at {r0 r1 r2 r3 act k turn a : Nat} (hk : k < 4) (ha : a < 4) : (shf [r0, r1, r2, r3] act k turn).getD a 0 =
    if act = 3 then (if a = k then 0 else [r0, r1, r2, r3].getD a 0) else if a = 0 then (if act = 1 then 0 else turn) else if act = 0 then [r0, r1, r2, r3].getD a 0 else if act = 1 ∨ act = 2 then [r0, r1, r2, r3].getD (a - 1) 0 else [r0, r1, r2, r3].getD a 0 := by
  unfold shf
  by_cases h3 : act = 3
  · rw [if_pos h3, if_pos h3]
    match k, hk, a, ha with
    | 0, _, 0, _ | 0, _, 1, _ | 0, _, 2, _ | 0, _, 3, _ | 1, _, 0, _ | 1, _, 1, _ | 1, _, 2, _ | 1, _, 3, _ | 2, _, 0, _ | 2, _, 1, _ | 2, _, 2, _ | 2, _, 3, _ | 3, _, 0, _ | 3, _, 1, _ | 3, _, 2, _ | 3, _, 3, _ => rfl
  · rw [if_neg h3, if_neg h3]
    by_cases h2 : act = 2
    · subst h2
      match a, ha with
      | 0, _ | 1, _ | 2, _ | 3, _ => rfl
    · rw [if_neg h2]
      by_cases h1 : act = 1
      · subst h1
        match a, ha with
        | 0, _ | 1, _ | 2, _ | 3, _ => rfl
      · rw [if_neg h1]
        have h12 : ¬ (act = 1 ∨ act = 2) := by omega
        rw [if_neg h1, if_neg h12]
        match a, ha with
        | 0, _ | 1, _ | 2, _ | 3, _ => simp
theorem shf_len {r0 r1 r2 r3 act k turn : Nat} (hk : k < 4) : (shf [r0, r1, r2, r3] act k turn).length = 4 := by
  unfold shf
  split
  · match k, hk with
    | 0, _ | 1, _ | 2, _ | 3, _ => rfl
  · split
    · rfl
    · split <;> rfl
theorem kept_mem {fs : List Row} {l : List Nat} {r : Row} : ∀ J, r ∈ kept fs l J ↔ (r ∈ fs ∧ r.1 ∉ pths l) ∨ ∃ a, a < J ∧ ∃ q ∈ fs, q.1 = agd l a ∧ r = (agd l (a + 1), q.2)
  | 0 => by
    unfold kept
    rw [List.mem_filter]
    constructor
    · rintro ⟨h1, h2⟩; exact .inl ⟨h1, by simpa using h2⟩
    · rintro (⟨h1, h2⟩ | ⟨a, h, _⟩)
      · exact ⟨h1, by simpa using h2⟩
      · omega
  | J + 1 => by
    unfold kept moved
    rw [List.mem_append, kept_mem J, List.mem_map]
    constructor
    · rintro ((h | ⟨a, h1, h2⟩) | ⟨q, h1, h2⟩)
      · exact .inl h
      · exact .inr ⟨a, by omega, h2⟩
      · rw [List.mem_filter] at h1
        exact .inr ⟨J, by omega, q, h1.1, by simpa using h1.2, h2.symm⟩
    · rintro (h | ⟨a, h1, q, h2, h3, h4⟩)
      · exact .inl (.inl h)
      · rcases Nat.lt_or_ge a J with h | h
        · exact .inl (.inr ⟨a, h, q, h2, h3, h4⟩)
        · have : a = J := by omega
          subst this
          exact .inr ⟨q, List.mem_filter.mpr ⟨h2, by simpa using h3⟩, h4.symm⟩
theorem one_path {p p' : List Nat} : ∀ {l : List Row}, (l.Pairwise fun x y => x.1 ≠ y.1) → (∀ x ∈ l, x.1 = p) → (l.map fun r => (p', r.2)).Pairwise fun x y : Row => x.1 ≠ y.1
  | [], _, _ => .nil
  | [x], _, _ => List.pairwise_singleton _ _
  | x :: y :: l, h, hp => by
    have := (List.pairwise_cons.mp h).1 y (.head _)
    rw [hp x (.head _), hp y (.tail _ (.head _))] at this
    exact absurd rfl this
theorem kept_pw {fs : List Row} {n : Nat} (h : fs.Pairwise fun x y => x.1 ≠ y.1) : ∀ J, J ≤ 3 → (kept fs (tol n 0) J).Pairwise fun x y => x.1 ≠ y.1
  | 0, _ => h.filter _
  | J + 1, hJ => by
    show (kept fs (tol n 0) J ++ moved fs (tol n 0) J).Pairwise _
    rw [List.pairwise_append]
    refine ⟨kept_pw h J (by omega), one_path hn (p := agd (tol n 0) J) (h.filter _) (fun x hx => by simpa using (List.mem_filter.mp hx).2), fun x hx y hy => ?_⟩
    obtain ⟨q, _, rfl⟩ := List.mem_map.mp hy
    show x.1 ≠ agd (tol n 0) (J + 1)
    rcases (kept_mem hn J).mp hx with ⟨_, h2⟩ | ⟨a, h1, q', _, _, rfl⟩
    · intro e
      exact h2 (e ▸ List.mem_map.mpr ⟨J + 1, List.mem_range.mpr (by omega), rfl⟩)
    · show agd (tol n 0) (a + 1) ≠ _
      rw [agd_tol n (by omega), agd_tol n (by omega)]
      intro e
      have : (tol n 0, a + 1) = (tol n 0, J + 1) := by rw [← rdx_tol n (a := a + 1) (by omega), ← rdx_tol n (a := J + 1) (by omega), e]
      have := congrArg Prod.snd this
      simp at this; omega
end
end Mine
end P3S

section P4S
set_option linter.unusedVariables false
namespace Mine
theorem four {l : List Nat} (h : l.length = 4) : ∃ a b c d, l = [a, b, c, d] := by
  match l, h with
  | [a, b, c, d], _ => exact ⟨a, b, c, d, rfl⟩
theorem Inv.step {ns : List Nat} (hn : ns.length = 16) {regs : List (List Nat)} {fs : List Row} (I : Inv ns regs fs) {i0 act k turn : Nat} (h0 : i0 < 4) (ha : act < 4) (hk : k < 4) (ht : turn ≠ 0) :
    Inv ns ((List.range 4).map fun j => if j = wh ns i0 then shf (regs.getD (wh ns i0) []) act k turn else regs.getD j []) (sto fs (tol (ns.getD i0 0) 0) act k turn) := by
  obtain ⟨hi, he, _⟩ := wh_spec hn h0
  have ri := wh_wh hn h0
  rw [← he]
  generalize wh ns i0 = i at *
  have hlen : ∀ j, j < 4 → (regs.getD j []).length = 4 := fun j hj => by
    have h : j < regs.length := by rw [I.len]; exact hj
    have e : regs.getD j [] = regs[j] := by simp [h]
    rw [e]; exact I.row _ (List.getElem_mem h)
  obtain ⟨r0, r1, r2, r3, hr⟩ := four (hlen i hi)
  have hget : ∀ j, j < 4 → ((List.range 4).map fun j => if j = i then shf (regs.getD i []) act k turn else regs.getD j []).getD j [] = if j = i then shf (regs.getD i []) act k turn else regs.getD j [] := fun j hj => by
    rw [List.getD_eq_getElem?_getD, List.getElem?_map, List.getElem?_range hj]; rfl
  have hV : ∀ j a, j < 4 → a < 4 → vat ((List.range 4).map fun j => if j = i then shf (regs.getD i []) act k turn else regs.getD j []) j a =
      if j = i then (if act = 3 then (if a = k then 0 else vat regs i a) else if a = 0 then (if act = 1 then 0 else turn) else if act = 0 then vat regs i a else if act = 1 ∨ act = 2 then vat regs i (a - 1) else vat regs i a) else vat regs j a := fun j a hj ha' => by
    unfold vat
    rw [hget j hj]
    by_cases h : j = i
    · rw [if_pos h, if_pos h, hr]; exact shf_at hn hk ha'
    · rw [if_neg h, if_neg h]
  have ag : ∀ a, a < 4 → agd (tol (ns.getD i 0) 0) a = tol (ns.getD i 0) a := fun a h => agd_tol _ h
  have pt : ∀ p, p ∈ pths (tol (ns.getD i 0) 0) ↔ ∃ b, b < 4 ∧ p = tol (ns.getD i 0) b := fun p => by
    unfold pths
    rw [List.mem_map]
    constructor
    · rintro ⟨b, hb, rfl⟩; exact ⟨b, List.mem_range.mp hb, ag b (List.mem_range.mp hb)⟩
    · rintro ⟨b, hb, rfl⟩; exact ⟨b, List.mem_range.mpr hb, ag b hb⟩
  have sep : ∀ {j a b}, j < 4 → a < 4 → b < 4 → vat regs j a ≠ 0 → tol (ns.getD j 0) a = tol (ns.getD i 0) b → j = i ∧ a = b := fun hj ha hb hv e => rep_inj hn hj hi (I.rep _ _ hj ha hv) ri ha hb e
  -- what is kept, told by log and age
  have K : ∀ r, r ∈ kept fs (tol (ns.getD i 0) 0) 3 ↔ (∃ j a, j < 4 ∧ a < 4 ∧ j ≠ i ∧ vat regs j a ≠ 0 ∧ r = (tol (ns.getD j 0) a, vat regs j a)) ∨ ∃ a, a < 3 ∧ vat regs i a ≠ 0 ∧ r = (tol (ns.getD i 0) (a + 1), vat regs i a) := fun r => by
    rw [kept_mem hn]
    constructor
    · rintro (⟨h1, h2⟩ | ⟨a, h1, q, h2, h3, h4⟩)
      · obtain ⟨j, a, hj, ha', hv, rfl⟩ := (I.mem r).mp h1
        refine .inl ⟨j, a, hj, ha', fun e => ?_, hv, rfl⟩
        subst e
        exact h2 ((pt _).mpr ⟨a, ha', rfl⟩)
      · obtain ⟨j, b, hj, hb, hv, rfl⟩ := (I.mem q).mp h2
        rw [ag a (by omega)] at h3
        obtain ⟨e1, e2⟩ := sep hj hb (show a < 4 by omega) hv h3
        subst e1 e2
        rw [ag (b + 1) (by omega)] at h4
        exact .inr ⟨b, h1, hv, h4⟩
    · rintro (⟨j, a, hj, ha', hji, hv, rfl⟩ | ⟨a, h1, hv, rfl⟩)
      · refine .inl ⟨(I.mem _).mpr ⟨j, a, hj, ha', hv, rfl⟩, fun h => ?_⟩
        obtain ⟨b, hb, e⟩ := (pt _).mp h
        exact hji (sep hj ha' hb hv e).1
      · exact .inr ⟨a, h1, (tol (ns.getD i 0) a, vat regs i a), (I.mem _).mpr ⟨i, a, hi, by omega, hv, rfl⟩, (ag a (by omega)).symm, by rw [ag (a + 1) (by omega)]⟩
  have t0 : ∀ {j a}, j < 4 → a < 4 → vat regs j a ≠ 0 → (tol (ns.getD j 0) a = tol (ns.getD i 0) 0 ↔ j = i ∧ a = 0) := fun hj ha' hv => ⟨fun e => sep hj ha' (by omega) hv e, fun ⟨e1, e2⟩ => by rw [e1, e2]⟩
  refine ⟨by simp, fun r hr' => ?_, fun j a hj ha' hv => ?_, fun r => ?_, ?_⟩
  · obtain ⟨j, hj, rfl⟩ := List.mem_map.mp hr'
    split
    · rw [hr]; exact shf_len hn hk
    · exact hlen j (List.mem_range.mp hj)
  · by_cases h : j = i
    · rw [h]; exact ri
    · rw [hV j a hj ha', if_neg h] at hv
      exact I.rep j a hj ha' hv
  · constructor
    · intro h
      have other : ∀ {j a}, j < 4 → a < 4 → j ≠ i → vat regs j a ≠ 0 → r = (tol (ns.getD j 0) a, vat regs j a) → ∃ j a, j < 4 ∧ a < 4 ∧ vat ((List.range 4).map fun j => if j = i then shf (regs.getD i []) act k turn else regs.getD j []) j a ≠ 0 ∧ r = (tol (ns.getD j 0) a, vat ((List.range 4).map fun j => if j = i then shf (regs.getD i []) act k turn else regs.getD j []) j a) := fun {j a} hj ha' hji hv e => by
        refine ⟨j, a, hj, ha', ?_⟩
        rw [hV j a hj ha', if_neg hji]
        exact ⟨hv, e⟩
      have mine : ∀ {a v}, a < 4 → v ≠ 0 → (if act = 3 then (if a = k then 0 else vat regs i a) else if a = 0 then (if act = 1 then 0 else turn) else if act = 0 then vat regs i a else if act = 1 ∨ act = 2 then vat regs i (a - 1) else vat regs i a) = v → r = (tol (ns.getD i 0) a, v) → ∃ j a, j < 4 ∧ a < 4 ∧ vat ((List.range 4).map fun j => if j = i then shf (regs.getD i []) act k turn else regs.getD j []) j a ≠ 0 ∧ r = (tol (ns.getD j 0) a, vat ((List.range 4).map fun j => if j = i then shf (regs.getD i []) act k turn else regs.getD j []) j a) := fun {a v} ha' hv e e2 => by
        refine ⟨i, a, hi, ha', ?_⟩
        rw [hV i a hi ha', if_pos rfl, e]
        exact ⟨hv, e2⟩
      unfold sto at h
      by_cases h3 : act = 3
      · rw [if_pos h3, List.mem_filter] at h
        obtain ⟨h1, h2⟩ := h
        obtain ⟨j, a, hj, ha', hv, rfl⟩ := (I.mem r).mp h1
        by_cases hji : j = i
        · subst hji
          refine mine ha' hv ?_ rfl
          rw [if_pos h3, if_neg]
          intro e
          subst e
          rw [ag a ha'] at h2
          simp at h2
        · exact other hj ha' hji hv rfl
      · rw [if_neg h3] at h
        dsimp only at h
        have base : ∀ r', r' = r → r' ∈ (if act = 0 then fs else kept fs (tol (ns.getD i 0) 0) 3) → (act ≠ 1 → r'.1 ≠ tol (ns.getD i 0) 0) → ∃ j a, j < 4 ∧ a < 4 ∧ vat ((List.range 4).map fun j => if j = i then shf (regs.getD i []) act k turn else regs.getD j []) j a ≠ 0 ∧ r = (tol (ns.getD j 0) a, vat ((List.range 4).map fun j => if j = i then shf (regs.getD i []) act k turn else regs.getD j []) j a) := fun r' e hm hl => by
          subst e
          by_cases hz : act = 0
          · rw [if_pos hz] at hm
            obtain ⟨j, a, hj, ha', hv, rfl⟩ := (I.mem r').mp hm
            by_cases hji : j = i
            · subst hji
              have ha0 : a ≠ 0 := fun e => hl (by omega) (by rw [e])
              refine mine ha' hv ?_ rfl
              rw [if_neg h3, if_neg ha0, if_pos hz]
            · exact other hj ha' hji hv rfl
          · rw [if_neg hz] at hm
            rcases (K r').mp hm with ⟨j, a, hj, ha', hji, hv, rfl⟩ | ⟨a, h1, hv, rfl⟩
            · exact other hj ha' hji hv rfl
            · refine mine (a := a + 1) (by omega) hv ?_ rfl
              rw [if_neg h3, if_neg (by omega), if_neg hz, if_pos (by omega)]; rfl
        by_cases h1 : act = 1
        · rw [if_pos h1] at h
          exact base r rfl h (fun hne => absurd h1 hne)
        · rw [if_neg h1, List.mem_append, List.mem_filter] at h
          rcases h with ⟨h, h2⟩ | h
          · exact base r rfl h (fun _ => by simpa using h2)
          · rw [List.mem_singleton] at h
            refine mine (a := 0) (by omega) ht ?_ h
            rw [if_neg h3, if_pos rfl, if_neg h1]
    · rintro ⟨j, a, hj, ha', hv, rfl⟩
      rw [hV j a hj ha'] at hv ⊢
      unfold sto
      by_cases hji : j = i
      · subst hji
        rw [if_pos rfl] at hv ⊢
        by_cases h3 : act = 3
        · rw [if_pos h3] at hv ⊢
          by_cases hak : a = k
          · rw [if_pos hak] at hv; exact absurd rfl hv
          · rw [if_neg hak] at hv ⊢
            rw [if_pos h3, List.mem_filter]
            refine ⟨(I.mem _).mpr ⟨j, a, hj, ha', hv, rfl⟩, ?_⟩
            rw [ag k hk]
            have : tol (ns.getD j 0) a ≠ tol (ns.getD j 0) k := fun e => hak (sep hj ha' hk hv e).2
            simpa using this
        · rw [if_neg h3] at hv ⊢
          rw [if_neg h3]
          dsimp only
          by_cases h00 : a = 0
          · rw [if_pos h00] at hv ⊢
            by_cases h1 : act = 1
            · rw [if_pos h1] at hv; exact absurd rfl hv
            · rw [if_neg h1] at hv ⊢
              rw [if_neg h1, h00]
              exact List.mem_append_right _ (.head _)
          · rw [if_neg h00] at hv ⊢
            -- an older one
            have old : ∀ v, v ≠ 0 → (tol (ns.getD j 0) a, v) ∈ (if act = 0 then fs else kept fs (tol (ns.getD j 0) 0) 3) → (tol (ns.getD j 0) a, v) ∈ (if act = 1 then (if act = 0 then fs else kept fs (tol (ns.getD j 0) 0) 3) else ((if act = 0 then fs else kept fs (tol (ns.getD j 0) 0) 3).filter fun r => !decide (r.1 = tol (ns.getD j 0) 0)) ++ [(tol (ns.getD j 0) 0, turn)]) := fun v hv' hm => by
              by_cases h1 : act = 1
              · rw [if_pos h1]; exact hm
              · rw [if_neg h1]
                refine List.mem_append_left _ (List.mem_filter.mpr ⟨hm, ?_⟩)
                have : tol (ns.getD j 0) a ≠ tol (ns.getD j 0) 0 := fun e => h00 (rep_inj hn hj hj ri ri ha' (by omega) e).2
                simpa using this
            by_cases hz : act = 0
            · have e : (if act = 0 then vat regs j a else if act = 1 ∨ act = 2 then vat regs j (a - 1) else vat regs j a) = vat regs j a := if_pos hz
              rw [e] at hv ⊢
              refine old _ hv ?_
              rw [if_pos hz]
              exact (I.mem _).mpr ⟨j, a, hj, ha', hv, rfl⟩
            · have e : (if act = 0 then vat regs j a else if act = 1 ∨ act = 2 then vat regs j (a - 1) else vat regs j a) = vat regs j (a - 1) := by rw [if_neg hz, if_pos (show act = 1 ∨ act = 2 by omega)]
              rw [e] at hv ⊢
              refine old _ hv ?_
              rw [if_neg hz]
              exact (K _).mpr (.inr ⟨a - 1, by omega, hv, by rw [show a - 1 + 1 = a by omega]⟩)
      · rw [if_neg hji] at hv ⊢
        have hne : ∀ b, b < 4 → tol (ns.getD j 0) a ≠ tol (ns.getD i 0) b := fun b hb e => hji (sep hj ha' hb hv e).1
        by_cases h3 : act = 3
        · rw [if_pos h3, List.mem_filter]
          refine ⟨(I.mem _).mpr ⟨j, a, hj, ha', hv, rfl⟩, ?_⟩
          rw [ag k hk]
          simpa using hne k hk
        · rw [if_neg h3]
          dsimp only
          have hm : (tol (ns.getD j 0) a, vat regs j a) ∈ (if act = 0 then fs else kept fs (tol (ns.getD i 0) 0) 3) := by
            by_cases hz : act = 0
            · rw [if_pos hz]; exact (I.mem _).mpr ⟨j, a, hj, ha', hv, rfl⟩
            · rw [if_neg hz]; exact (K _).mpr (.inl ⟨j, a, hj, ha', hji, hv, rfl⟩)
          by_cases h1 : act = 1
          · rw [if_pos h1]; exact hm
          · rw [if_neg h1]
            exact List.mem_append_left _ (List.mem_filter.mpr ⟨hm, by simpa using hne 0 (by omega)⟩)
  · unfold sto
    by_cases h3 : act = 3
    · rw [if_pos h3]; exact I.pw.filter _
    · rw [if_neg h3]
      dsimp only
      have hb : (if act = 0 then fs else kept fs (tol (ns.getD i 0) 0) 3).Pairwise fun x y => x.1 ≠ y.1 := by
        split
        · exact I.pw
        · exact kept_pw hn I.pw 3 (by omega)
      by_cases h1 : act = 1
      · rw [if_pos h1]; exact hb
      · rw [if_neg h1, List.pairwise_append]
        refine ⟨hb.filter _, List.pairwise_singleton _ _, fun x hx y hy => ?_⟩
        rw [List.mem_singleton] at hy
        subst hy
        simpa using (List.mem_filter.mp hx).2
end Mine
end P4S

section P5S
set_option linter.unusedVariables false
namespace Mine
section
variable {ns : List Nat} (hn : ns.length = 16) {regs : List (List Nat)} {fs : List Row} (I : Inv ns regs fs)
theorem dA_mem {j : Nat} {r : Row} : ∀ a, r ∈ dA ns regs j a ↔ ∃ b, b < a ∧ vat regs j b ≠ 0 ∧ r = (tol (ns.getD j 0) b, vat regs j b)
  | 0 => by simp [dA]
  | a + 1 => by
    unfold dA
    rw [List.mem_append, dA_mem a]
    constructor
    · rintro (⟨b, h1, h2⟩ | h)
      · exact ⟨b, by omega, h2⟩
      · by_cases hv : vat regs j a ≠ 0
        · rw [if_pos hv, List.mem_singleton] at h
          exact ⟨a, by omega, hv, h⟩
        · rw [if_neg hv] at h; cases h
    · rintro ⟨b, h1, h2, h3⟩
      rcases Nat.lt_or_ge b a with h | h
      · exact .inl ⟨b, h, h2, h3⟩
      · have : b = a := by omega
        subst this
        right
        rw [if_pos h2, h3]
        exact .head _
theorem dJ_mem {r : Row} : ∀ j, r ∈ dJ ns regs j ↔ ∃ i b, i < j ∧ b < 4 ∧ vat regs i b ≠ 0 ∧ r = (tol (ns.getD i 0) b, vat regs i b)
  | 0 => by simp [dJ]
  | j + 1 => by
    unfold dJ
    rw [List.mem_append, dJ_mem j, dA_mem]
    constructor
    · rintro (⟨i, b, h1, h2⟩ | ⟨b, h1, h2⟩)
      · exact ⟨i, b, by omega, h2⟩
      · exact ⟨j, b, by omega, h1, h2⟩
    · rintro ⟨i, b, h1, h2⟩
      rcases Nat.lt_or_ge i j with h | h
      · exact .inl ⟨i, b, h, h2⟩
      · have : i = j := by omega
        subst this
        exact .inr ⟨b, h2⟩
include hn I
theorem dA_pw {j : Nat} (hj : j < 4) : ∀ a, a ≤ 4 → (dA ns regs j a).Pairwise fun x y => x.1 ≠ y.1
  | 0, _ => .nil
  | a + 1, ha => by
    unfold dA
    rw [List.pairwise_append]
    refine ⟨dA_pw hj a (by omega), by split <;> simp, fun x hx y hy => ?_⟩
    obtain ⟨b, h1, h2, rfl⟩ := (dA_mem a).mp hx
    by_cases hv : vat regs j a ≠ 0
    · rw [if_pos hv, List.mem_singleton] at hy
      subst hy
      intro e
      have := (rep_inj hn hj hj (I.rep j b hj (by omega) h2) (I.rep j b hj (by omega) h2) (by omega) (by omega) e).2
      omega
    · rw [if_neg hv] at hy; cases hy
theorem dJ_pw : ∀ j, j ≤ 4 → (dJ ns regs j).Pairwise fun x y => x.1 ≠ y.1
  | 0, _ => .nil
  | j + 1, hj => by
    unfold dJ
    rw [List.pairwise_append]
    refine ⟨dJ_pw j (by omega), dA_pw hn I (by omega) 4 (by omega), fun x hx y hy => ?_⟩
    obtain ⟨i, b, h1, h2, h3, rfl⟩ := (dJ_mem j).mp hx
    obtain ⟨a, h4, h5, rfl⟩ := (dA_mem 4).mp hy
    intro e
    have := (rep_inj hn (by omega) (by omega) (I.rep i b (by omega) h2 h3) (I.rep j a (by omega) h4 h5) h2 h4 e).1
    omega
omit hn I in
theorem dA_len (j : Nat) : ∀ a, (dA ns regs j a).length ≤ a
  | 0 => Nat.le_refl _
  | a + 1 => by
    unfold dA
    have := dA_len j a
    rw [List.length_append]
    split <;> simp <;> omega
omit hn I in
theorem dJ_len : ∀ j, (dJ ns regs j).length ≤ 4 * j
  | 0 => Nat.le_refl _
  | j + 1 => by
    unfold dJ
    have := dJ_len j
    have := dA_len (ns := ns) (regs := regs) j 4
    rw [List.length_append]; omega
theorem due_perm : (dJ ns regs 4).Perm fs := by
  have nd : ∀ {l : List Row}, (l.Pairwise fun x y => x.1 ≠ y.1) → l.Nodup := fun h => h.imp fun h e => h (by rw [e])
  rw [List.perm_ext_iff_of_nodup (nd (dJ_pw hn I 4 (by omega))) (nd I.pw)]
  intro r
  rw [dJ_mem, I.mem]
end
theorem inv_all {ns : List Nat} (hn : ns.length = 16) : ∀ t, Inv ns (sta ns t).2 (sta ns t).1
  | 0 => by
    have hz : ∀ j a, vat (List.replicate 4 [0, 0, 0, 0]) j a = 0 := fun j a => by
      unfold vat
      match j, a with
      | 0, 0 | 0, 1 | 0, 2 | 0, 3 | 1, 0 | 1, 1 | 1, 2 | 1, 3 | 2, 0 | 2, 1 | 2, 2 | 2, 3 | 3, 0 | 3, 1 | 3, 2 | 3, 3 => rfl
      | 0, a + 4 | 1, a + 4 | 2, a + 4 | 3, a + 4 => rfl
      | j + 4, a => rfl
    exact ⟨rfl, fun r hr => by rw [List.eq_of_mem_replicate hr]; rfl, fun j a _ _ h => absurd (hz j a) h, fun r => ⟨(fun h => by cases h), fun ⟨j, a, _, _, h, _⟩ => absurd (hz j a) h⟩, .nil⟩
  | t + 1 => by
    have I := inv_all hn t
    show Inv ns (stp ns t (sta ns t)).2 (stp ns t (sta ns t)).1
    unfold stp
    dsimp only
    rw [logs_eq]
    exact I.step hn (Nat.mod_lt _ (by decide)) (Nat.mod_lt _ (by decide)) (Nat.mod_lt _ (by decide)) (Nat.succ_ne_zero t)
theorem pl_all (ns : List Nat) (h : ns.length = 16) : PL ns := by
  refine ⟨fun j _ => logs_eq _, fun t _ => ⟨(inv_all h t).len, (inv_all h t).row⟩, fun t _ => ⟨fun r hr => ?_, ?_, (inv_all h t).pw⟩, fun t _ => due_perm h (inv_all h t), fun t _ j a _ ha _ => ?_⟩
  · obtain ⟨j, a, _, ha, _, rfl⟩ := ((inv_all h t).mem r).mp hr
    exact (tol_gd _ ha).1
  · rw [← (due_perm h (inv_all h t)).length_eq]
    exact Nat.lt_of_le_of_lt (dJ_len 4) (by decide)
  · rw [rdx_tol _ ha, logs_eq]
end Mine
end P5S

section Z2S
set_option linter.unusedVariables false
set_option maxRecDepth 100000
namespace Mine

theorem script_rep {P : Params} {h : Heap} : ∀ {vs : List Value} {xs : List Int}, WellAll P h vs (ofPys (xs.map PyData.int)) → RepL [] h vs (xs.map D.int)
  | [], [], _ => .nil
  | _, _ :: _, w => by
    cases w with | cons a r =>
    cases a
    exact .cons (.int _ _) (script_rep r)
  | _ :: _, [], w => by cases w

def posOf : Stmt → Pos
  | .FunctionDef _ _ _ _ _ _ _ _ _ p => p
  | _ => ⟨0, 0, 0, 0⟩
theorem fnAt {W : Wd} {p : Program} {loose : List Str} {mean : ExcName → Option Value} {mb : Str → Option Value} (T : Top p loose mean W.mg mb W.base) (i : Nat) (h : (recsOf p).find? (fun d => d.name == nameOf (stm i)) = some ⟨nameOf (stm i), argsOf (stm i), bodyOf (stm i), scopeOf (stm i), posOf (stm i)⟩) : FnAt W i (nameOf (stm i)) := by
  obtain ⟨a, o, pm, code, doc, h1, h2, h3, h4⟩ := T.fn _ (List.mem_of_find?_eq_some h)
  exact ⟨a, o, pm, code, doc, h1, h2, h3, h4⟩

theorem run_law {w : World} {s₁ : Shared} {mg mb : Str → Option Value} {mean : ExcName → Option Value} {fa l : Addr} {xs : List Int} {Q : Value → Shared → Prop} {E : Value → Shared → Prop} {P : Params}
    (T : Top vw (looseW vw []) mean mg mb s₁.heap) (hmg : mg "law" = some (.ref fa)) (wl : Well P s₁.heap (.ref l) (ofPy (.list (xs.map PyData.int)))) (hx : xs.length ≤ 63)
    (hQ : ∀ s', Kp s₁ s' → Q (.bool true) s') : wpAny (model PySem.Challenge.pw_il0154_01 w) callerA (call (.ref fa) [.ref l]) Q E s₁ := by
  let W : Wd := ⟨PySem.Challenge.pw_il0154_01, w, s₁.heap, mg, mb, T.g, T.b, T.nolimit, T.builtins⟩
  have g : Gl W := by
    refine ⟨fnAt (W := W) T 10 (by kernel_rfl), fnAt (W := W) T 12 (by kernel_rfl), fnAt (W := W) T 15 (by kernel_rfl), fnAt (W := W) T 16 (by kernel_rfl), fnAt (W := W) T 17 (by kernel_rfl), fnAt (W := W) T 20 (by kernel_rfl), fnAt (W := W) T 21 (by kernel_rfl), fnAt (W := W) T 22 (by kernel_rfl),
      fnAt (W := W) T 23 (by kernel_rfl), fnAt (W := W) T 24 (by kernel_rfl), fnAt (W := W) T 25 (by kernel_rfl), fnAt (W := W) T 26 (by kernel_rfl), fnAt (W := W) T 27 (by kernel_rfl), fun x hx => ?_⟩
    have no : ∀ {l : List Str}, l.elem x = false → x ∉ l := fun h hm => by rw [List.elem_iff.mpr hm] at h; cases h
    have key : (["type", "issubclass", "str", "bytes", "isinstance", "ord", "chr", "range", "len", "abs", "sum", "sorted"] : List Str).all (fun x => !startupNames.elem x && !(looseW vw []).elem x && !((recsOf vw).map (·.name)).elem x && !((PyProof.Rows.litsOf vw).map (·.1)).elem x && !((clssOf vw (looseW vw [])).map (·.name)).elem x) = true := by kernel_rfl
    have k := List.all_eq_true.mp key x hx
    simp only [Bool.and_eq_true, Bool.not_eq_true'] at k
    obtain ⟨⟨⟨⟨k1, k2⟩, k3⟩, k4⟩, k5⟩ := k
    exact T.free x (no k1) (no k2) (no k3) (no k4) (no k5)
  obtain ⟨a, o, fd, h1, h2, h3, h4⟩ := law_R (k := 0) g hx (pl_all _ (nums_len xs))
  have : a = fa := by
    have e : mg "law" = some (.ref a) := h1
    rw [hmg] at e
    cases e; rfl
  subst this
  have hp : Hp W 5 callerA [] s₁ := ⟨rfl, by decide +kernel, by rw [cLine_is]; decide +kernel, fun _ _ e => e, fun _ h => nomatch h⟩
  have hr : RepL [] s₁.heap [.ref l] [.lst (xs.map D.int)] := by
    have wl' : Well P s₁.heap (.ref l) (.list (ofPys (xs.map PyData.int))) := wl
    cases wl' with
    | list e wa => exact .cons (.lst ⟨_, e⟩ (fun h => nomatch h) (script_rep wa)) .nil
  refine wpAny_mono (h4.run callerA [] s₁ [.ref l] hp hr) (fun v s' ⟨q, r⟩ => ?_) fun _ _ x => x.elim
  cases r
  exact hQ _ q

set_option maxHeartbeats 8000000 in
theorem holds : PySem.Challenge.rw_il0154_01.Holds := by
  refine head (d := ⟨nameOf (stm 27), argsOf (stm 27), bodyOf (stm 27), scopeOf (stm 27), posOf (stm 27)⟩) (kwd := []) (by kernel_rfl) (by kernel_rfl) (by kernel_rfl) ?_
  show WalkO vw [] (XL vw []) (Hook.says Hook.none) PySem.Challenge.rw_il0154_01.row.toRowW _ _ _
  intro w s₀ s₁ mg mb G Y fa o pm cd doc dV kV ho hd hcd hD hmg hg args vals as hpre hlay hrd hwl hlo
  refine Ground.open G ?_
  intro T B D TE TW
  have hmg' : mg "law" = some (.ref fa) := hmg
  clear hcd hD hd hmg Y ho D TE TW B
  wrow_args hpre hlay hrd hwl hlo
  refine run_law T hmg' (by assumption) (by omega) fun s' q => ?_
  obtain ⟨h', tk, rfl, kk⟩ := q
  refine GoodW.toG ⟨.inl ⟨_, .bool true, [], rfl, fun _ => rfl, .bool true, (by kernel_rfl), fun _ => ⟨List.nodup_nil, fun _ h => nomatch h⟩⟩, kk, rfl, hg⟩
end Mine
end Z2S

theorem PySem.Challenge.cw_il0154_01_holds : PySem.Challenge.rw_il0154_01.Holds :=
  Mine.holds

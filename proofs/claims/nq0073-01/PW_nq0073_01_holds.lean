import PyProof.Rows.All
import Wide.All
import OpenK.AllK
import Wide.FinOn
import PyProof.ExcStrCall
import PyProof.ExcStrAll.TypeError
import PyProof.RulesAs
import PyProof.AttrMissHeap
import PyProof.AttrMiss
import PyProof.AutoIntOps
import PyProof.IsiHeapPairs
import PyProof.DictTable
import PyProof.IsiPairs
import PyProof.Rows.TupSub
import PyProof.Rows.DictDisp
import PyProof.Rows.TupAssign
import PyProof.Rows.TupIter
import PyProof.Rows.RuleB_or
import PyProof.Rows.IntRules
import PyProof.LetGo
import PyProof.CompFree
import PyProof.CompUse
import PyProof.SetRoads
import PyProof.Rows.SetFrom
import KE.LcTurns
import PyProof.WalksPairs
import PyProof.ForAny
import PyProof.ForAppend
import PyProof.ListIndexNeg
import PyProof.Rows.ListAppend
import PyProof.RangeFor
import KE.KLam
import PyProof.CodeObjX
import PyProof.SliceMore
import PyProof.Rows.SeqMore
import Lean
import PySem.Challenge.RW_nq0073_01
set_option Elab.async false
set_option linter.unusedVariables false
section
open PySem PySem.W PySem.W.X PyProof.Rows
namespace Mine
/-- the top's run over the library's fast twins -/
noncomputable def topFromT (p : Program) (w : World) (N : Nat) (s₀ : Shared) : Option Shared :=
  match s₀.heap.isNs mainGlobals && s₀.gens.size == 0 with
  | true => (PySem.W.Fast.tw14082659384304107361 PySem.W.Fast.tw14364793385576792824 p w s₀.heap.objs.size (s₀.heap.nsMap mainGlobals "__annotations__") N s₀ (topStub p)).bind fun s₁ => match staticsOk (importedModules p.main.body) s₀.heap s₁.heap && namesBound p s₁.heap && gensDone s₁ && laidKept s₀.heap s₁.heap with
      | true => some s₁
      | false => none
  | false => none
theorem topFromT_eq (p : Program) (w : World) (N : Nat) (s₀ : Shared) : topFrom treeTable p w N s₀ = topFromT p w N s₀ := by
  unfold topFrom topFromT
  rw [PySem.W.Fast.te14082659384304107361, PySem.W.Fast.te14364793385576792824]
  rfl
/-- the top's run from where the kit's boot ends: one equation, for the world and for what the system holds -/
theorem left_boot {p q : Program} {loose : List Str} {Xt : Shared → Bool} {α : Type} {Yf : Shared → α} {Ya : World → α} {N : Nat} (e : opening p = plainProg p.main.scope.names) (hN : Nat.ble 600 N = true) (f : ∀ s, fenceModules? p s = some s)
    (h : ∀ w : World, (fun os => (topFromT p w N ⟨boot_heap w.params, Array.mk [], boot_drawn, boot_toks, os⟩).map (fun s => (PySem.W.Fast.tw4187177175401517315 q loose (importedModules p.main.body) Xt true s, Yf s))) = fun _ => some (openGood q loose, Ya w)) : LeftO p q loose Xt Yf Ya N true := fun w => by
  obtain ⟨s, hs, hv⟩ := Option.map_eq_some_iff.mp (boot_open e hN f w)
  obtain ⟨hh, g, d, t, os⟩ := s
  simp only [Prod.mk.injEq] at hv
  obtain ⟨rfl, rfl, rfl, rfl⟩ := hv
  unfold openEnds
  rw [hs]
  show (topFrom treeTable p w N _).map _ = _
  rw [topFromT_eq, PySem.W.Fast.te4187177175401517315]
  exact congrFun (h w) os
section
local macro_rules | `(tactic| k_head) => `(tactic| z_head)
local macro_rules | `(tactic| refine $e:term) => `(tactic| (refine' $e; any_goals (refine' left_boot (by kernel_rfl) (by rfl) (fun _ => by kernel_rfl) ?_)))
set_option maxRecDepth 100000 in
set_option maxHeartbeats 8000000 in
open_top hd for PySem.Challenge.rw_nq0073_01
end
def r2 : OpenRow := { PySem.Challenge.rw_nq0073_01.row with name := Str.ofString "cmp_to_key" }
end Mine
end
section
open PySem PySem.W PySem.W.X PyProof.Rows PySem.Calls PySem.Spec
namespace Mine
abbrev P0 : Program := PySem.Challenge.rw_nq0073_01.prog
abbrev M0 (w : World) : Model := model P0 w
/-- the written heap, without the three code tables that the preamble turns -/
noncomputable def KK (P : Params) : Frag := (hd.heap_251 P).filter fun p => !(p.1 == 218 || p.1 == 100 || p.1 == 185)

structure Room (A : Around) (l : List Env) (n : Nat) : Prop where
  handled : A.handled = none
  frames : A.frames = some l
  depth : A.depth ≤ n
  units : A.units ≤ 10 * n
theorem Room.deeper {A : Around} {l : List Env} {n : Nat} (R : Room A l n) (env : Env) : Room (A.deeper env) (env :: l) (n + 1) :=
  ⟨R.handled, Around.frames_deeper R.frames, by show A.depth + 1 ≤ n + 1; have := R.depth; omega, by show A.units + 3 ≤ 10 * (n + 1); have := R.units; omega⟩
theorem Room.in1 {A : Around} {l : List Env} {n : Nat} (R : Room A l n) : Room A.in1 l (n + 1) :=
  ⟨R.handled, R.frames, by show A.depth ≤ n + 1; have := R.depth; omega, by show A.units + 1 ≤ 10 * (n + 1); have := R.units; omega⟩
theorem Room.mono {A : Around} {l : List Env} {n m : Nat} (R : Room A l n) (h : n ≤ m) : Room A l m :=
  ⟨R.handled, R.frames, by have := R.depth; omega, by have := R.units; omega⟩
abbrev AX (l : List Env) : Around := { handled := none, depth := 600, frames := some l, guards := none, units := 6000 }
theorem room_of {α : Type} {M : Model} {A : Around} {l : List Env} {n : Nat} {t : Sem α} {Q : α → Shared → Prop} {E : Value → Shared → Prop} {s : Shared} (R : Room A l n) (hn : n ≤ 600)
    (h : wpAny M (AX l) t Q E s) : wpAny M A t Q E s := fun Γ p hΓ =>
  h Γ p ⟨by rw [hΓ.1, R.handled], by have := hΓ.2.1; have := R.depth; show _ ≤ 600; omega, fun l' hl' => hΓ.2.2.1 l' (by rw [R.frames]; exact hl'), fun g hg => (nomatch hg), by have := hΓ.2.2.2.2; have := R.units; show _ ≤ 6000; omega⟩

/-- the heap holds the base; the frames of the stack are there -/
structure Sit (B : Heap) (l : List Env) (s : Shared) : Prop where
  stays : B.StaysIn s.heap
  frames : s.heap.FunFrames B l
  gens : s.gens = #[]
structure Went (B : Heap) (l : List Env) (s s' : Shared) : Prop where
  sit : Sit B l s'
  slots : s.heap.UpToSlots s'.heap
  os : s'.os = s.os
theorem Went.refl {B : Heap} {l : List Env} {s : Shared} (S : Sit B l s) : Went B l s s := ⟨S, .refl _, rfl⟩
theorem Went.trans {B : Heap} {l : List Env} {s₁ s₂ s₃ : Shared} (x : Went B l s₁ s₂) (y : Went B l s₂ s₃) : Went B l s₁ s₃ := ⟨y.sit, x.slots.trans y.slots, y.os.trans x.os⟩
theorem Sit.keeps {B : Heap} {l : List Env} {s s' : Shared} (S : Sit B l s) (k : ∀ b o, s.heap.get? b = some o → s'.heap.get? b = some o) (hg : s'.gens = s.gens) : Sit B l s' :=
  ⟨fun b o e => k b o (S.stays b o e), S.frames.of_keeps fun b o e _ => ⟨o, k b o e, rfl⟩, hg.trans S.gens⟩
theorem Went.of_keeps {B : Heap} {l : List Env} {s s' : Shared} (S : Sit B l s) (k : ∀ b o, s.heap.get? b = some o → s'.heap.get? b = some o) (hg : s'.gens = s.gens) (ho : s'.os = s.os) : Went B l s s' :=
  ⟨S.keeps k hg, .of_keeps k, ho⟩
/-- what x_run's contracts say -/
structure Kept (s : Shared) (P : Value → Heap → Prop) (v : Value) (s' : Shared) : Prop where
  keep : ∀ b o, s.heap.get? b = some o → s'.heap.get? b = some o
  gens : s'.gens = s.gens
  os : s'.os = s.os
  val : P v s'.heap
theorem kept_of {h₀ h : Heap} {g : Array GenState} {d d' : Drawn} {t t' : Nat} {os : OsState} {P : Value → Heap → Prop} {v : Value} {news : List (Addr × Obj)} (D : Mem h₀ h [] news) (hv : P v h) : Kept ⟨h₀, g, d, t, os⟩ P v ⟨h, g, d', t', os⟩ :=
  ⟨fun b o e => D.keep b o e (by simp [away]), rfl, rfl, hv⟩
theorem kept_start {h₀ : Heap} {g : Array GenState} {d d' : Drawn} {t t' : Nat} {os : OsState} {P : Value → Heap → Prop} {v : Value} (hv : P v h₀) : Kept ⟨h₀, g, d, t, os⟩ P v ⟨h₀, g, d', t', os⟩ :=
  ⟨fun _ _ e => e, rfl, rfl, hv⟩

/-- an exception that leaves the top frame's expression: made here, or come from a callee -/
def Exc (B : Heap) (cls : String) (msg : Option Str) (e : Value) (h : Heap) : Prop :=
  ∃ a a0, e = .ref a ∧ B.get? a = none ∧ (∀ m, msg = some m → ∃ t tk, a0 = .ref t ∧ h.TupAt t [.str m tk]) ∧
    ((∃ oe vs, h.get? a = some oe ∧ oe.cls = .type cls ∧ oe.data = .fields vs ∧ vs[1]? = some .none ∧ vs[0]? = some a0) ∨ h.TracedW B a (.type cls) a0)

/-- out of a frame -/
theorem leave_exc {M : Model} {A : Around} {E : Value → Shared → Prop} {Q : Unit → Shared → Prop} {B : Heap} {env : Env} {l : List Env} {s : Shared} {L : Addr} {cls : String} {msg : Option Str} {e : Value}
    (hfr : A.frames = some (env :: l)) (hf : env.frame = some L) (S : Sit B (env :: l) s) (x : Exc B cls msg e s.heap)
    (h : ∀ h', Exc B cls msg e h' → Sit B (env :: l) { s with heap := h' } → s.heap.UpToSlots h' → Q () { s with heap := h' }) : wpAny M A (leaving env e) Q E s := by
  obtain ⟨a, a0, rfl, hBa, hm, x⟩ := x
  have fin : ∀ h', Heap.LeftW B (env :: l) a (.type cls) a0 s.heap h' → Q () { s with heap := h' } := fun h' hL => by
    obtain ⟨k1, k2, k3, k4⟩ := hL
    exact h h' ⟨a, a0, rfl, hBa, fun m e => let ⟨t, tk, ha, ht⟩ := hm m e; ⟨t, tk, ha, ht.of_slots k4⟩, .inr k3⟩ ⟨k1, k2, S.gens⟩ k4
  rcases x with ⟨oe, vs, he, hc, hd, h1, h0⟩ | x
  · rw [← hc] at fin
    exact wpAny_leaving_firstW hfr S.frames hf he S.stays hBa hd h1 h0 fin
  · exact wpAny_leaving_nextW hfr S.frames hf x S.stays hBa fin

inductive Res where
  | bool (b : Bool)
  | ni
  | ty (m : Str)
  | at_
def OkR (r : Res) (v : Value) : Prop := match r with
  | .bool b => v = .bool b
  | .ni => v = .notImplemented
  | _ => False
def ErR (B : Heap) (r : Res) (e : Value) (h : Heap) : Prop := match r with
  | .ty m => Exc B "TypeError" (some m) e h
  | .at_ => Exc B "AttributeError" none e h
  | _ => False
/-- the tree gives what r says, from s, in the situation -/
def Does (w : World) (A : Around) (B : Heap) (l : List Env) (s : Shared) (t : Sem Value) (r : Res) : Prop :=
  wpAny (M0 w) A t (fun v s' => Went B l s s' ∧ OkR r v) (fun e s' => Went B l s s' ∧ ErR B r e s'.heap) s

/-- all but the frame's own object -/
def UpBut (L : Addr) (h h' : Heap) : Prop := ∀ b o, b ≠ L → h.get? b = some o → (∀ vs, o.data ≠ .fields vs) → ∃ sl, h'.get? b = some { o with slots := sl }
theorem UpBut.of {L : Addr} {h h' : Heap} (x : h.UpToSlots h') : UpBut L h h' := fun b o _ e n => x b o e n
theorem UpBut.trans {L : Addr} {h₁ h₂ h₃ : Heap} (x : UpBut L h₁ h₂) (y : UpBut L h₂ h₃) : UpBut L h₁ h₃ := fun b o ne e hn =>
  let ⟨_, e₁⟩ := x b o ne e hn; let ⟨sl, e₂⟩ := y b _ ne e₁ hn; ⟨sl, e₂⟩
structure Wf (B : Heap) (l : List Env) (L : Addr) (s s' : Shared) : Prop where
  sit : Sit B l s'
  up : UpBut L s.heap s'.heap
  os : s'.os = s.os
theorem Wf.refl {B : Heap} {l : List Env} {L : Addr} {s : Shared} (S : Sit B l s) : Wf B l L s s := ⟨S, .of (.refl _), rfl⟩
theorem Wf.trans {B : Heap} {l : List Env} {L : Addr} {s₁ s₂ s₃ : Shared} (x : Wf B l L s₁ s₂) (y : Wf B l L s₂ s₃) : Wf B l L s₁ s₃ := ⟨y.sit, x.up.trans y.up, y.os.trans x.os⟩
theorem Went.wf {B : Heap} {l : List Env} {L : Addr} {s s' : Shared} (x : Went B l s s') : Wf B l L s s' := ⟨x.sit, .of x.slots, x.os⟩
theorem Wf.toks {B : Heap} {l : List Env} {L : Addr} {s s' : Shared} (x : Wf B l L s s') (tk : Nat) : Wf B l L s { s' with toks := tk } := ⟨⟨x.sit.stays, x.sit.frames, x.sit.gens⟩, x.up, x.os⟩
theorem Sit.toks {B : Heap} {l : List Env} {s : Shared} (x : Sit B l s) (tk : Nat) : Sit B l { s with toks := tk } := ⟨x.stays, x.frames, x.gens⟩
theorem frames_but {h h' B : Heap} {L : Addr} (hs : ∀ b, b ≠ L → h'.get? b = h.get? b) (hL : ∃ o, h'.get? L = some o ∧ ∀ vs, o.data ≠ .fields vs) : ∀ {l : List Env}, h.FunFrames B l → h'.FunFrames B l
  | [], _ => trivial
  | env :: rest, ⟨hk, ⟨L', o, hf, hn, ho, hd⟩, hr⟩ => by
    refine ⟨hk, ?_, frames_but hs hL hr⟩
    by_cases e : L' = L
    · obtain ⟨o', ho', hd'⟩ := hL
      exact ⟨L', o', hf, hn, e ▸ ho', hd'⟩
    · exact ⟨L', o, hf, hn, (hs _ e).trans ho, hd⟩
theorem store_loc {M : Model} {A : Around} {E : Value → Shared → Prop} {Q : Unit → Shared → Prop} {B : Heap} {l : List Env} {env : Env} {s : Shared} {m : Str → Option Value} {x : Str} {v : Value}
    (hk : env.scope.kind = .function) (hl : env.kindOf x = some .local) (hf : env.frame = some env.locals) (S : Sit B (env :: l) s) (hn : s.heap.Ns env.locals m)
    (h : ∀ s', Wf B (env :: l) env.locals s s' → s'.heap.Ns env.locals (fun y => if y = x then some v else m y) → Q () s') : wpAny M A (storeName env x v) Q E s := by
  refine wpAny_storeName_local hl hn (fun h' hn' hs => ?_) (by rw [hk]; rfl)
  have hB : B.get? env.locals = none := (S.frames.mem (b := env.locals) (by rw [List.filterMap_cons, hf]; exact List.mem_cons_self)).1
  refine h _ ⟨⟨fun b o e => ?_, frames_but hs.2 ?_ S.frames, S.gens⟩, fun b o ne e _ => ⟨o.slots, (hs.2 b ne).trans e⟩, rfl⟩ hn'
  · exact (hs.2 b (fun q => by rw [q, hB] at e; cases e)).trans (S.stays b o e)
  · obtain ⟨o', es, ep, ho', hd', _⟩ := hn'
    exact ⟨o', ho', fun vs q => by rw [hd'] at q; cases q⟩

/-- a function of the text's own, no cells of its own: its body in its frame -/
theorem fn_call {w : World} {A : Around} {l : List Env} {n : Nat} {s : Shared} {a : Addr} {o : Obj} {fd : FuncData} {body : List Stmt} {args : List Value} {binds : List (Str × Value)} {Q E : Value → Shared → Prop} {B : Heap}
    (R : Room A l n) (hn : n < 600) (S : Sit B l s) (hlim : B.NoLimit) (ho : B.get? a = some o) (hd : o.data = .func fd) (hbody : fd.body = .stmts body) (hcd : B.CodeRec fd.code fd.qualname)
    (hbind : bindArgs fd ⟨args, []⟩ = pure binds) (hco : fd.scope.isCoroutine = false) (hgen : fd.scope.isGenerator = false) (hk : fd.scope.kind = .function)
    (hcell : ∀ x ∈ fd.scope.names, x.2 ≠ .cell) (hloc : ∀ x ∈ binds, fd.scope.names.lookup x.1 = some .local)
    (h : ∀ (L : Addr) (env : Env) (s₁ : Shared), env = { scope := fd.scope, locals := L, globals := fd.globals, cells := fd.closure, qual := fd.qualname ++ ".<locals>.", func := some a, code := fd.code, frame := some L, builtins := fd.builtins } →
      Sit B (env :: l) s₁ → s₁.heap.Ns L (fun x => binds.reverse.lookup x) → s.heap.UpToSlots s₁.heap → s₁.os = s.os → (∀ b o, s.heap.get? b = some o → b ≠ L) →
      wpAny (M0 w) (A.deeper env) (execs body env)
        (fun fl s' => Wf B (env :: l) L s₁ s' ∧ (Went B l s s' → Q (match fl with | .ret v => v | _ => .none) s'))
        (fun e s' => Wf B (env :: l) L s₁ s' ∧ ∃ cls msg, Exc B cls msg e s'.heap ∧ (∀ s'', Went B l s s'' → Exc B cls msg e s''.heap → E e s'')) s₁) :
    wpAny (M0 w) A (call (.ref a) args) Q E s := by
  refine wpAny_call (codeAny_call_function (fd := fd) (by have := R.depth; show _ < 1000; omega) (S.stays _ _ ho) hd hco hgen hbody (hcd.keeps S.stays) ?_)
  rw [hbind]
  refine wpAny_pure (wpAny_newFunctionEnv hcell hloc (fun h₁ hns hsb => ⟨(hlim.keeps S.stays).fresh _ hsb, ?_⟩) hk)
  have hkeep : ∀ b o, s.heap.get? b = some o → h₁.get? b = some o := fun b o e => (hsb.extBut b o (Nat.ne_of_lt (Heap.lt_size e)) (Heap.get?_push_of_some _ e))
  have hnew : B.get? s.heap.objs.size = none := S.stays.fresh
  have S1 : Sit B (newEnv fd.scope s.heap.objs.size fd.globals fd.closure (fd.qualname ++ ".<locals>.") (some a) fd.code none fd.builtins :: l) { s with heap := h₁, toks := s.toks + binds.length } :=
    ⟨fun b o e => hkeep b o (S.stays b o e), .cons (by show fd.scope.kind ≠ .module; rw [hk]; decide) rfl hns hnew (S.frames.of_keeps fun b o e _ => ⟨o, hkeep b o e, rfl⟩), S.gens⟩
  have hA : (A.deeper (newEnv fd.scope s.heap.objs.size fd.globals fd.closure (fd.qualname ++ ".<locals>.") (some a) fd.code none fd.builtins)).frames = some (_ :: l) := Around.frames_deeper R.frames
  have up : ∀ {h₂ : Heap}, UpBut s.heap.objs.size h₁ h₂ → s.heap.UpToSlots h₂ := fun u b o e hn => u b o (Nat.ne_of_lt (Heap.lt_size e)) (hkeep b o e) hn
  refine codeAny_func (wpAny_mono (h s.heap.objs.size _ _ rfl S1 hns (.of_keeps hkeep) rfl fun b o e => Nat.ne_of_lt (Heap.lt_size e)) ?_ ?_)
  · rintro fl s' ⟨⟨S', u, ho'⟩, hq⟩
    exact hq ⟨⟨S'.stays, S'.frames.2.2, S'.gens⟩, up u, ho'⟩
  · rintro e s' ⟨⟨S', u, ho'⟩, cls, msg, hx, he⟩
    refine leave_exc hA rfl S' hx fun h' x' S'' u' => ?_
    exact he _ ⟨⟨S''.stays, S''.frames.2.2, S''.gens⟩, (up u).trans u', ho'⟩ x'
end Mine
end
section
open PySem PySem.W PySem.W.X PyProof.Rows PySem.Calls PySem.Spec
namespace Mine
set_option maxRecDepth 100000
structure Facts (w : World) (B : Heap) : Prop where
  K : (KK w.params).In B
  g : ∃ mg, B.Ns mainGlobals mg
  b : ∃ mb, B.Ns builtinsNs mb
  lim : B.NoLimit

theorem ns_val {K : Frag} {h : Heap} {a : Addr} {mg : Str → Option Value} {n : Str} {v : Option Value} (X : K.In h) (G : h.Ns a mg) (e : nsIn K a n = some v) : mg n = v := by
  obtain ⟨o, es, ep, ho, hd, _, hf⟩ := G
  unfold nsIn at e
  split at e
  · rename_i c d es' n' sl q
    have q' := X _ _ q
    rw [ho] at q'
    cases q'
    cases hd
    rw [← hf]
    unfold nsFind findBy
    rw [← Array.find?_toList]
    split at e
    · rename_i en he
      cases e
      rw [he]; rfl
    · rename_i he
      split at e
      · cases e
      · cases e; rw [he]; rfl
  · cases e

section
variable {w : World} {A : Around} {B : Heap} {l : List Env} {s : Shared} {env : Env} {m : Str → Option Value} {E : Value → Shared → Prop} {Q : Value → Shared → Prop}
theorem ev_loc {M : Model} {x : Str} {pos : Pos} {v : Value} (hk : env.scope.kind = .function) (hl : env.kindOf x = some .local) (hn : s.heap.Ns env.locals m) (hv : m x = some v) (h : Q v s)
    (hd : (x == ("__debug__" : Str)) = false := by decide) : wpAny M A (eval (.Name x pos) env) Q E s := wpAny_Name (wpAny_loadName_local hk hl hn hv h) hd
theorem ev_glob {x : Str} {pos : Pos} {v : Value} (F : Facts w B) (S : B.StaysIn s.heap) (hk : env.scope.kind = .function) (hg : env.globals = mainGlobals) (hl : env.kindOf x = some .globalImplicit)
    (e : nsIn (KK w.params) mainGlobals x = some (some v)) (h : Q v s) (hd : (x == ("__debug__" : Str)) = false := by decide) : wpAny (M0 w) A (eval (.Name x pos) env) Q E s := by
  obtain ⟨mg, G⟩ := F.g
  exact Name_function_global hk hl (loadGlobal_global (by rw [hg]; exact G.keeps S) (ns_val F.K G e) h) hd
theorem ev_bltn {x : Str} {pos : Pos} {v : Value} (F : Facts w B) (S : B.StaysIn s.heap) (hk : env.scope.kind = .function) (hg : env.globals = mainGlobals) (hb : env.builtins = builtinsNs) (hl : env.kindOf x = some .globalImplicit)
    (e : nsIn (KK w.params) mainGlobals x = some none) (e' : nsIn (KK w.params) builtinsNs x = some (some v)) (h : Q v s) (hd : (x == ("__debug__" : Str)) = false := by decide) : wpAny (M0 w) A (eval (.Name x pos) env) Q E s := by
  obtain ⟨mg, G⟩ := F.g
  obtain ⟨mb, Gb⟩ := F.b
  exact Name_function_global hk hl (loadGlobal_builtin (by rw [hg]; exact G.keeps S) (ns_val F.K G e) (by rw [hb]; exact Gb.keeps S) (ns_val F.K Gb e') h) hd

theorem callWith_any {M : Model} {f : Value} {first : List Value} {pos : Pos} {x : Sem Value} {rest : List (Bool × Sem Value)} {P : Heap → Prop}
    (hk : ∀ h, P h → ∃ k, (k = Keeper.frame ∨ k = Keeper.machine ∨ k = Keeper.boundFrame) ∧ Looks M h (keeperOf f) k) (hp : (rest.any (·.1)) = false)
    (h : wpAny M A (spliced ((false, x) :: rest)) (fun vs s₁ => P s₁.heap ∧ wpAny M A (call f (first ++ vs)) Q E s₁) E s) : wpAny M A (callWith pos f first ((false, x) :: rest) []) Q E s :=
  callWith_of (by show ((false || rest.any (·.1)) || false) = false; rw [hp]; rfl) hk (evalArgs_plain h)
theorem keep_plain {M : Model} {f : Value} (hf : ∀ a, f ≠ .ref a) (h : Heap) : ∃ k, (k = Keeper.frame ∨ k = Keeper.machine ∨ k = Keeper.boundFrame) ∧ Looks M h (keeperOf f) k := by
  refine ⟨.machine, .inr (.inl rfl), Looks.of_pure ?_⟩
  unfold keeperOf
  cases f <;> first | rfl | exact absurd rfl (hf _)
theorem keep_fn {M : Model} {a : Addr} {o : Obj} {fd : FuncData} {h : Heap} (ho : h.get? a = some o) (hd : o.data = .func fd) : ∃ k, (k = Keeper.frame ∨ k = Keeper.machine ∨ k = Keeper.boundFrame) ∧ Looks M h (keeperOf (.ref a)) k := by
  refine ⟨.frame, .inl rfl, (Looks.ld (part := none) ho).andThen ?_⟩
  rw [hd]; exact .now

/-- type(self).attr(self, other) -/
theorem rstep {v u tv mv : Value} {attr : Str} {p1 p2 p3 p4 p5 p6 p7 : Pos} (F : Facts w B) (S : B.StaysIn s.heap) (hk : env.scope.kind = .function) (hg : env.globals = mainGlobals) (hb : env.builtins = builtinsNs)
    (ks : env.kindOf "self" = some .local) (ko : env.kindOf "other" = some .local) (kt : env.kindOf "type" = some .globalImplicit)
    (hn : s.heap.Ns env.locals m) (hv : m "self" = some v) (hu : m "other" = some u)
    (ht : ∀ (Q E : Value → Shared → Prop), Q tv s → wpAny (M0 w) A (call (.type "type") [v]) Q E s)
    (hm : ∀ pl (Q : Value × List Value → Shared → Prop) (E : Value → Shared → Prop), (∀ tk, Q (mv, []) { s with toks := tk }) → wpAny (M0 w) A (getMethod tv attr pl) Q E s)
    (hkp : ∃ k, (k = Keeper.frame ∨ k = Keeper.machine ∨ k = Keeper.boundFrame) ∧ Looks (M0 w) s.heap (keeperOf mv) k)
    (hc : ∀ tk, wpAny (M0 w) A (call mv [v, u]) Q E { s with toks := tk }) (hline : (p4.endLine == p7.line) = true) :
    wpAny (M0 w) A (eval (.Call (.Attribute (.Call (.Name "type" p1) [.Name "self" p2] [] p3) attr p4) [.Name "self" p5, .Name "other" p6] [] p7) env) Q E s := by
  rw [arm_eval_Call]
  show wpAny _ _ (do let ov ← eval (.Call (.Name "type" p1) [.Name "self" p2] [] p3) env; standAt p4.atName; methodCall _ _ _ _ _ ov _ _ _) _ _ _
  refine wpAny_bind (wpAny_Call_ofName (ev_bltn F S hk hg hb kt (v := .type "type") (by kernel_rfl) (by kernel_rfl) ?_))
  refine callWith_any (P := fun _ => True) (fun h _ => keep_plain (by intro a e; cases e) h) rfl ?_
  refine spliced_cons (ev_loc hk ks hn hv (spliced_nil ⟨trivial, ht _ _ ?_⟩))
  refine wpAny_bind (wpAny_standAt ?_)
  unfold methodCall calleeOf
  rw [if_pos (show methodCallForm _ _ _ = true from rfl)]
  refine wpAny_bind (wpAny_holding (hm _ _ _ fun tk => ?_))
  dsimp only
  refine wpAny_bind (wpAny_of_eq (a := p7) (by unfold methodCallPos; rw [hline]; rfl) ?_)
  refine callWith_any (P := fun h => h = s.heap) (fun h e => e ▸ hkp) rfl ?_
  refine spliced_cons (ev_loc hk ks (by exact hn) hv ?_)
  exact spliced_cons (ev_loc hk ko (by exact hn) hu (spliced_nil ⟨rfl, hc tk⟩))
end
end Mine
end
section
open PySem PySem.W PySem.W.X PyProof.Rows PySem.Calls PySem.Spec
namespace Mine
set_option maxRecDepth 100000
section
variable {w : World} {A : Around} {B : Heap} {l : List Env} {n : Nat} {s : Shared}
theorem fn_does {r : Res} {a : Addr} {o : Obj} {fd : FuncData} {body : List Stmt} {args : List Value} {binds : List (Str × Value)}
    (R : Room A l n) (hn : n < 600) (S : Sit B l s) (F : Facts w B) (ho : B.get? a = some o) (hd : o.data = .func fd) (hbody : fd.body = .stmts body) (hcd : B.CodeRec fd.code fd.qualname)
    (hbind : bindArgs fd ⟨args, []⟩ = pure binds) (hco : fd.scope.isCoroutine = false) (hgen : fd.scope.isGenerator = false) (hk : fd.scope.kind = .function)
    (hcell : ∀ x ∈ fd.scope.names, x.2 ≠ .cell) (hloc : ∀ x ∈ binds, fd.scope.names.lookup x.1 = some .local)
    (h : ∀ (L : Addr) (env : Env) (s₁ : Shared), env = { scope := fd.scope, locals := L, globals := fd.globals, cells := fd.closure, qual := fd.qualname ++ ".<locals>.", func := some a, code := fd.code, frame := some L, builtins := fd.builtins } →
      Sit B (env :: l) s₁ → s₁.heap.Ns L (fun x => binds.reverse.lookup x) → Room (A.deeper env) (env :: l) (n + 1) →
      wpAny (M0 w) (A.deeper env) (execs body env)
        (fun fl s' => Wf B (env :: l) L s₁ s' ∧ OkR r (match fl with | .ret v => v | _ => .none))
        (fun e s' => Wf B (env :: l) L s₁ s' ∧ ErR B r e s'.heap) s₁) : Does w A B l s (call (.ref a) args) r := by
  refine fn_call R hn S F.lim ho hd hbody hcd hbind hco hgen hk hcell hloc fun L env s₁ henv S₁ hns _ _ _ => ?_
  refine wpAny_mono (h L env s₁ henv S₁ hns (R.deeper env)) (fun fl s' ⟨wf, ok⟩ => ⟨wf, fun we => ⟨we, ok⟩⟩) fun e s' ⟨wf, er⟩ => ⟨wf, ?_⟩
  cases r with
  | bool b => exact er.elim
  | ni => exact er.elim
  | ty m => exact ⟨_, _, er, fun s'' we x => ⟨we, x⟩⟩
  | at_ => exact ⟨_, _, er, fun s'' we x => ⟨we, x⟩⟩

variable {env : Env} {m : Str → Option Value}
/-- what an expression gives inside a frame -/
def EvB (w : World) (A : Around) (B : Heap) (l : List Env) (L : Addr) (s : Shared) (t : Sem Value) (b : Bool) : Prop :=
  wpAny (M0 w) A t (fun v s' => Wf B l L s s' ∧ v = .bool b) (fun _ _ => False) s
theorem EvB.of {t : Sem Value} {b : Bool} {L : Addr} (h : Does w A B l s t (.bool b)) : EvB w A B l L s t b :=
  wpAny_mono h (fun v s' ⟨x, y⟩ => ⟨x.wf, y⟩) fun _ _ ⟨_, y⟩ => y
structure InF (env : Env) (B : Heap) (l : List Env) (m : Str → Option Value) (s : Shared) : Prop where
  kind : env.scope.kind = .function
  fr : env.frame = some env.locals
  g : env.globals = mainGlobals
  b : env.builtins = builtinsNs
  sit : Sit B (env :: l) s
  ns : s.heap.Ns env.locals m
theorem InF.went {s s' : Shared} (I : InF env B l m s) (x : Went B (env :: l) s s') : InF env B l m s' := ⟨I.kind, I.fr, I.g, I.b, x.sit, x.slots.ns I.ns⟩
theorem InF.toks {s : Shared} (I : InF env B l m s) (tk : Nat) : InF env B l m { s with toks := tk } := ⟨I.kind, I.fr, I.g, I.b, I.sit.toks tk, I.ns⟩

theorem not_op {o : Bool} {p q : Pos} (I : InF env B l m s) (ko : env.kindOf "op_result" = some .local) (ho : m "op_result" = some (.bool o)) :
    EvB w A B (env :: l) env.locals s (eval (.UnaryOp .Not (.Name "op_result" p) q) env) (!o) :=
  wpAny_UnaryOp (ev_loc I.kind ko I.ns ho (not_of (wpAny_truthy_bool ⟨.refl I.sit, rfl⟩)))
theorem nm_op {o : Bool} {p : Pos} (I : InF env B l m s) (ko : env.kindOf "op_result" = some .local) (ho : m "op_result" = some (.bool o)) :
    EvB w A B (env :: l) env.locals s (eval (.Name "op_result" p) env) o :=
  ev_loc I.kind ko I.ns ho ⟨.refl I.sit, rfl⟩
theorem cmp_so {v u : Value} {e : Bool} {op : CmpOp} {p q r : Pos} (hop : op = .Eq ∨ op = .NotEq) (I : InF env B l m s) (ks : env.kindOf "self" = some .local) (ko : env.kindOf "other" = some .local) (hv : m "self" = some v) (hu : m "other" = some u)
    (h : Does w A B (env :: l) s (compareOp op v u) (.bool e)) : EvB w A B (env :: l) env.locals s (eval (.Compare (.Name "self" p) [op] [.Name "other" q] r) env) e :=
  wpAny_Compare1 (ev_loc I.kind ks I.ns hv (ev_loc I.kind ko I.ns hu (EvB.of h))) (by rcases hop with rfl | rfl <;> with_unfolding_all rfl)
theorem EvB.and {x y : Expr} {p : Pos} {a b : Bool} {L : Addr} (hx : EvB w A B l L s (eval x env) a) (hy : a = true → ∀ s', Wf B l L s s' → EvB w A B l L s' (eval y env) b) : EvB w A B l L s (eval (.BoolOp .And [x, y] p) env) (a && b) := by
  refine wpAny_And2 (wpAny_mono hx (fun v s' ⟨wf, e⟩ => ?_) fun _ _ x => x)
  subst e
  refine wpAny_truthy_bool ?_
  cases a with
  | false => exact ⟨wf, rfl⟩
  | true => exact wpAny_mono (hy rfl s' wf) (fun v s'' ⟨wf', e⟩ => ⟨wf.trans wf', by rw [e]; rfl⟩) fun _ _ x => x
theorem EvB.or {x y : Expr} {p : Pos} {a b : Bool} {L : Addr} (hx : EvB w A B l L s (eval x env) a) (hy : a = false → ∀ s', Wf B l L s s' → EvB w A B l L s' (eval y env) b) : EvB w A B l L s (eval (.BoolOp .Or [x, y] p) env) (a || b) := by
  refine wpAny_Or2 (wpAny_mono hx (fun v s' ⟨wf, e⟩ => ?_) fun _ _ x => x)
  subst e
  refine wpAny_truthy_bool ?_
  cases a with
  | true => exact ⟨wf, rfl⟩
  | false => exact wpAny_mono (hy rfl s' wf) (fun v s'' ⟨wf', e⟩ => ⟨wf.trans wf', by rw [e]; rfl⟩) fun _ _ x => x

/-- the body of one of the twelve, whatever stands in its last return -/
theorem f_body {r0 r : Res} {v u tv mv : Value} {attr : Str} {ret : Expr} {p0 p1 p2 p3 p4 p5 p6 p7 p8 p9 p10 p11 p12 p13 p14 p15 : Pos} (F : Facts w B) (R : Room A (env :: l) n) (I : InF env B l m s)
    (ks : env.kindOf "self" = some .local) (ko : env.kindOf "other" = some .local) (kt : env.kindOf "type" = some .globalImplicit) (kn : env.kindOf "NotImplemented" = some .globalImplicit) (kp : env.kindOf "op_result" = some .local)
    (hv : m "self" = some v) (hu : m "other" = some u)
    (ht : ∀ (Q E : Value → Shared → Prop), Q tv s → wpAny (M0 w) A (call (.type "type") [v]) Q E s)
    (hm : ∀ pl (Q : Value × List Value → Shared → Prop) (E : Value → Shared → Prop), (∀ tk, Q (mv, []) { s with toks := tk }) → wpAny (M0 w) A (getMethod tv attr pl) Q E s)
    (hkp : ∃ k, (k = Keeper.frame ∨ k = Keeper.machine ∨ k = Keeper.boundFrame) ∧ Looks (M0 w) s.heap (keeperOf mv) k)
    (hc : ∀ tk, Does w A B (env :: l) { s with toks := tk } (call mv [v, u]) r0)
    (hbad : ∀ e h, ErR B r0 e h → ErR B r e h) (hni : r0 = .ni → r = .ni)
    (hb : ∀ o, r0 = .bool o → ∃ b, r = .bool b ∧ ∀ (s' : Shared) (m' : Str → Option Value), InF env B l m' s' → m' "self" = some v → m' "other" = some u → m' "op_result" = some (.bool o) → EvB w A B (env :: l) env.locals s' (eval ret env) b)
    (hline : (p4.endLine == p7.line) = true)
    (hs : swapsWith (.Call (.Attribute (.Call (.Name "type" p1) [.Name "self" p2] [] p3) attr p4) [.Name "self" p5, .Name "other" p6] [] p7) (some (.Name "op_result" p0)) p8.line env = pure false) :
    wpAny (M0 w) A (execs [.Assign [.Name "op_result" p0] (.Call (.Attribute (.Call (.Name "type" p1) [.Name "self" p2] [] p3) attr p4) [.Name "self" p5, .Name "other" p6] [] p7) p8,
        .If (.Compare (.Name "op_result" p9) [.Is] [.Name "NotImplemented" p10] p11) [.Return (some (.Name "op_result" p12)) p13] [] p14, .Return (some ret) p15] env)
      (fun fl s' => Wf B (env :: l) env.locals s s' ∧ OkR r (match fl with | .ret v => v | _ => .none))
      (fun e s' => Wf B (env :: l) env.locals s s' ∧ ErR B r e s'.heap) s := by
  refine wpAny_execs_cons (wpAny_Assign_Name (rstep F I.sit.stays I.kind I.g I.b ks ko kt I.ns hv hu ht hm hkp (fun tk => wpAny_mono (hc tk) ?_ ?_) hline) hs)
  · rintro x s₂ ⟨we, ok⟩
    have I₂ : InF env B l m s₂ := (I.toks tk).went we
    refine store_loc I.kind kp I.fr I₂.sit I₂.ns fun s₃ wf ns₃ => ?_
    have wf₃ : Wf B (env :: l) env.locals s s₃ := (show Wf B (env :: l) env.locals s s₂ from ⟨we.sit, .of we.slots, we.os⟩).trans wf
    have I₃ : InF env B l _ s₃ := ⟨I.kind, I.fr, I.g, I.b, wf.sit, ns₃⟩
    refine wpAny_execs_cons (wpAny_If (wpAny_isTrue_Compare1 (ev_loc I.kind kp ns₃ (v := x) rfl (ev_bltn F wf.sit.stays I.kind I.g I.b kn (v := .notImplemented) (by kernel_rfl) (by kernel_rfl) ?_))))
    cases r0 with
    | ni =>
      obtain rfl : x = .notImplemented := ok
      refine wpAny_is_self rfl (wpAny_truthy_bool ?_)
      rw [hni rfl]
      exact wpAny_execs_cons (wpAny_Return_some (ev_loc I.kind kp ns₃ rfl ⟨wf₃, rfl⟩))
    | bool o =>
      obtain rfl : x = .bool o := ok
      obtain ⟨b, rfl, hret⟩ := hb o rfl
      refine wpAny_is_other rfl (by intro e; cases e) (wpAny_truthy_bool ?_)
      refine wpAny_execs_nil ?_
      refine wpAny_execs_cons (wpAny_Return_some (wpAny_mono (hret s₃ _ I₃ ?_ ?_ rfl) (fun y s₄ ⟨wf', e⟩ => ⟨wf₃.trans wf', e⟩) fun _ _ x => x.elim))
      · rw [if_neg (by decide)]; exact hv
      · rw [if_neg (by decide)]; exact hu
    | ty m => exact ok.elim
    | at_ => exact ok.elim
  · rintro e s₂ ⟨we, er⟩
    exact ⟨⟨we.sit, .of we.slots, we.os⟩, hbad e _ er⟩
end
end Mine
end
section
open PySem PySem.W PySem.W.X PyProof.Rows PySem.Calls PySem.Spec
namespace Mine
set_option maxRecDepth 100000
def outR (form : Bool → Bool → Bool) (r : Res) (e : Bool) : Res := match r with
  | .bool o => .bool (form o e)
  | r => r
structure StepR (w : World) (A : Around) (B : Heap) (l : List Env) (s : Shared) (v u tv mv : Value) (attr : Str) (r0 : Res) (e : Bool) : Prop where
  ht : ∀ (Q E : Value → Shared → Prop), Q tv s → wpAny (M0 w) A (call (.type "type") [v]) Q E s
  hm : ∀ pl (Q : Value × List Value → Shared → Prop) (E : Value → Shared → Prop), (∀ tk, Q (mv, []) { s with toks := tk }) → wpAny (M0 w) A (getMethod tv attr pl) Q E s
  hkp : ∃ k, (k = Keeper.frame ∨ k = Keeper.machine ∨ k = Keeper.boundFrame) ∧ Looks (M0 w) s.heap (keeperOf mv) k
  hc : Does w A B l s (call mv [v, u]) r0
  heq : (∃ o, r0 = .bool o) → Does w A B l s (compareOp .Eq v u) (.bool e)
  hne : (∃ o, r0 = .bool o) → Does w A B l s (compareOp .NotEq v u) (.bool (!e))
def Twelve (a : Addr) (attr : Str) (form : Bool → Bool → Bool) : Prop :=
  ∀ {w : World} {A : Around} {B : Heap} {l : List Env} {n : Nat} {s : Shared} {v u tv mv : Value} {r0 : Res} {e : Bool}, Facts w B → Room A l n → n < 600 → Sit B l s →
    (∀ A' l' s', Room A' l' (n + 1) → Sit B l' s' → StepR w A' B l' s' v u tv mv attr r0 e) → Does w A B l s (call (.ref a) [v, u]) (outR form r0 e)
def fscope : Scope := { kind := .function, names := [("self", .local), ("other", .local), ("op_result", .local), ("type", .globalImplicit), ("NotImplemented", .globalImplicit)], isGenerator := false, isCoroutine := false, more := [] }
theorem f_gen {a : Addr} {attr : Str} {form : Bool → Bool → Bool} {o : Obj} {fd : FuncData} {ret : Expr} {p0 p1 p2 p3 p4 p5 p6 p7 p8 p9 p10 p11 p12 p13 p14 p15 : Pos}
    (hl : ∀ P, (KK P).lookup a = some o) (hd : o.data = .func fd)
    (hb : fd.body = .stmts [.Assign [.Name "op_result" p0] (.Call (.Attribute (.Call (.Name "type" p1) [.Name "self" p2] [] p3) attr p4) [.Name "self" p5, .Name "other" p6] [] p7) p8,
        .If (.Compare (.Name "op_result" p9) [.Is] [.Name "NotImplemented" p10] p11) [.Return (some (.Name "op_result" p12)) p13] [] p14, .Return (some ret) p15])
    (hsc : fd.scope = fscope) (hg : fd.globals = mainGlobals) (hbl : fd.builtins = builtinsNs)
    (hbind : ∀ v u, bindArgs fd ⟨[v, u], []⟩ = pure [(("self" : Str), v), (("other" : Str), u)]) (hcd : ∀ P, codeIn (KK P) fd.code fd.qualname = true) (hline : (p4.endLine == p7.line) = true)
    (hs : ∀ env, swapsWith (.Call (.Attribute (.Call (.Name "type" p1) [.Name "self" p2] [] p3) attr p4) [.Name "self" p5, .Name "other" p6] [] p7) (some (.Name "op_result" p0)) p8.line env = pure false)
    (hret : ∀ {w : World} {A : Around} {B : Heap} {l : List Env} {s : Shared} {env : Env} {m : Str → Option Value} {v u : Value} {o e : Bool}, InF env B l m s → env.kindOf "self" = some .local → env.kindOf "other" = some .local → env.kindOf "op_result" = some .local →
      m "self" = some v → m "other" = some u → m "op_result" = some (.bool o) → (∀ s', Sit B (env :: l) s' → Does w A B (env :: l) s' (compareOp .Eq v u) (.bool e)) → (∀ s', Sit B (env :: l) s' → Does w A B (env :: l) s' (compareOp .NotEq v u) (.bool (!e))) →
      EvB w A B (env :: l) env.locals s (eval ret env) (form o e)) : Twelve a attr form := by
  intro w A B l n s v u tv mv r0 e F R hn S H
  have hsn : fd.scope.names = fscope.names := by rw [hsc]
  refine fn_does R hn S F (F.K _ _ (hl _)) hd hb (codeRec_of F.K (hcd _)) (hbind v u) (by rw [hsc]; rfl) (by rw [hsc]; rfl) (by rw [hsc]; rfl) (by rw [hsn]; decide) (by rw [hsn]; exact locs (scope := fscope) rfl) fun L env s₁ henv S₁ ns₁ R₁ => ?_
  have hk : ∀ x, env.kindOf x = fscope.names.lookup x := fun x => by rw [henv]; show fd.scope.names.lookup x = _; rw [hsn]
  have I : InF env B l (fun x => [(("self" : Str), v), (("other" : Str), u)].reverse.lookup x) s₁ := ⟨by rw [henv]; show fd.scope.kind = _; rw [hsc]; rfl, by rw [henv], by rw [henv]; exact hg, by rw [henv]; exact hbl, S₁, by rw [henv]; exact ns₁⟩
  have hloc : env.locals = L := by rw [henv]
  have H₁ := H _ _ s₁ R₁ S₁
  rw [← hloc]
  refine f_body F R₁ I (by rw [hk]; decide) (by rw [hk]; decide) (by rw [hk]; decide) (by rw [hk]; decide) (by rw [hk]; decide) (v := v) (u := u) rfl rfl H₁.ht H₁.hm H₁.hkp (fun tk => (H _ _ _ R₁ (S₁.toks tk)).hc) ?_ ?_ ?_ hline (hs env)
  · intro e' h x; cases r0 <;> exact x
  · rintro rfl; rfl
  · rintro o' rfl
    exact ⟨_, rfl, fun s' m' I' h1 h2 h3 => hret I' (by rw [hk]; decide) (by rw [hk]; decide) (by rw [hk]; decide) h1 h2 h3 (fun s'' S'' => (H _ _ s'' R₁ S'').heq ⟨_, rfl⟩) (fun s'' S'' => (H _ _ s'' R₁ S'').hne ⟨_, rfl⟩)⟩
section
variable {w : World} {A : Around} {B : Heap} {l : List Env} {s : Shared} {env : Env} {m : Str → Option Value} {v u : Value} {o e : Bool} {p q q' r r' t : Pos}
theorem ret1 (I : InF env B l m s) (k1 : env.kindOf "self" = some .local) (k2 : env.kindOf "other" = some .local) (k3 : env.kindOf "op_result" = some .local) (h1 : m "self" = some v) (h2 : m "other" = some u) (h3 : m "op_result" = some (.bool o))
    (heq : ∀ s', Sit B (env :: l) s' → Does w A B (env :: l) s' (compareOp .Eq v u) (.bool e)) (hne : ∀ s', Sit B (env :: l) s' → Does w A B (env :: l) s' (compareOp .NotEq v u) (.bool (!e))) :
    EvB w A B (env :: l) env.locals s (eval (.BoolOp .And [.UnaryOp .Not (.Name "op_result" p) q, .Compare (.Name "self" q') [.NotEq] [.Name "other" r] r'] t) env) (!o && !e) := by
  have C := cmp_so (p := q') (q := r) (r := r') (.inr rfl) I k1 k2 h1 h2 (hne s I.sit)
  refine wpAny_And2 (wpAny_UnaryOp (ev_loc I.kind k3 I.ns h3 (not_of (wpAny_truthy_bool (wpAny_truthy_bool ?_)))))
  cases o with
  | false => first | exact C | exact ⟨.refl I.sit, rfl⟩
  | true => first | exact C | exact ⟨.refl I.sit, rfl⟩
theorem ret2 (I : InF env B l m s) (k1 : env.kindOf "self" = some .local) (k2 : env.kindOf "other" = some .local) (k3 : env.kindOf "op_result" = some .local) (h1 : m "self" = some v) (h2 : m "other" = some u) (h3 : m "op_result" = some (.bool o))
    (heq : ∀ s', Sit B (env :: l) s' → Does w A B (env :: l) s' (compareOp .Eq v u) (.bool e)) (hne : ∀ s', Sit B (env :: l) s' → Does w A B (env :: l) s' (compareOp .NotEq v u) (.bool (!e))) :
    EvB w A B (env :: l) env.locals s (eval (.BoolOp .Or [.Name "op_result" p, .Compare (.Name "self" q') [.Eq] [.Name "other" r] r'] t) env) (o || e) := by
  have C := cmp_so (p := q') (q := r) (r := r') (.inl rfl) I k1 k2 h1 h2 (heq s I.sit)
  refine wpAny_Or2 (ev_loc I.kind k3 I.ns h3 (wpAny_truthy_bool ?_))
  cases o with
  | false => first | exact C | exact ⟨.refl I.sit, rfl⟩
  | true => first | exact C | exact ⟨.refl I.sit, rfl⟩
theorem ret4 (I : InF env B l m s) (k1 : env.kindOf "self" = some .local) (k2 : env.kindOf "other" = some .local) (k3 : env.kindOf "op_result" = some .local) (h1 : m "self" = some v) (h2 : m "other" = some u) (h3 : m "op_result" = some (.bool o))
    (heq : ∀ s', Sit B (env :: l) s' → Does w A B (env :: l) s' (compareOp .Eq v u) (.bool e)) (hne : ∀ s', Sit B (env :: l) s' → Does w A B (env :: l) s' (compareOp .NotEq v u) (.bool (!e))) :
    EvB w A B (env :: l) env.locals s (eval (.BoolOp .Or [.UnaryOp .Not (.Name "op_result" p) q, .Compare (.Name "self" q') [.Eq] [.Name "other" r] r'] t) env) (!o || e) := by
  have C := cmp_so (p := q') (q := r) (r := r') (.inl rfl) I k1 k2 h1 h2 (heq s I.sit)
  refine wpAny_Or2 (wpAny_UnaryOp (ev_loc I.kind k3 I.ns h3 (not_of (wpAny_truthy_bool (wpAny_truthy_bool ?_)))))
  cases o with
  | false => first | exact C | exact ⟨.refl I.sit, rfl⟩
  | true => first | exact C | exact ⟨.refl I.sit, rfl⟩
theorem ret5 (I : InF env B l m s) (k1 : env.kindOf "self" = some .local) (k2 : env.kindOf "other" = some .local) (k3 : env.kindOf "op_result" = some .local) (h1 : m "self" = some v) (h2 : m "other" = some u) (h3 : m "op_result" = some (.bool o))
    (heq : ∀ s', Sit B (env :: l) s' → Does w A B (env :: l) s' (compareOp .Eq v u) (.bool e)) (hne : ∀ s', Sit B (env :: l) s' → Does w A B (env :: l) s' (compareOp .NotEq v u) (.bool (!e))) :
    EvB w A B (env :: l) env.locals s (eval (.BoolOp .And [.Name "op_result" p, .Compare (.Name "self" q') [.NotEq] [.Name "other" r] r'] t) env) (o && !e) := by
  have C := cmp_so (p := q') (q := r) (r := r') (.inr rfl) I k1 k2 h1 h2 (hne s I.sit)
  refine wpAny_And2 (ev_loc I.kind k3 I.ns h3 (wpAny_truthy_bool ?_))
  cases o with
  | false => first | exact C | exact ⟨.refl I.sit, rfl⟩
  | true => first | exact C | exact ⟨.refl I.sit, rfl⟩
theorem ret3 (I : InF env B l m s) (k1 : env.kindOf "self" = some .local) (k2 : env.kindOf "other" = some .local) (k3 : env.kindOf "op_result" = some .local) (h1 : m "self" = some v) (h2 : m "other" = some u) (h3 : m "op_result" = some (.bool o))
    (heq : ∀ s', Sit B (env :: l) s' → Does w A B (env :: l) s' (compareOp .Eq v u) (.bool e)) (hne : ∀ s', Sit B (env :: l) s' → Does w A B (env :: l) s' (compareOp .NotEq v u) (.bool (!e))) :
    EvB w A B (env :: l) env.locals s (eval (.UnaryOp .Not (.Name "op_result" p) q) env) (!o) := not_op I k3 h3
end
theorem f_21 : Twelve 21 "__lt__" (fun o e => !o && !e) := f_gen (fun _ => rfl) rfl rfl rfl rfl rfl (fun _ _ => rfl) (fun _ => by kernel_rfl) rfl (fun _ => rfl) (fun I a b c d e f g h => ret1 I a b c d e f g h)
theorem f_28 : Twelve 28 "__lt__" (fun o e => o || e) := f_gen (fun _ => rfl) rfl rfl rfl rfl rfl (fun _ _ => rfl) (fun _ => by kernel_rfl) rfl (fun _ => rfl) (fun I a b c d e f g h => ret2 I a b c d e f g h)
theorem f_35 : Twelve 35 "__lt__" (fun o _ => !o) := f_gen (fun _ => rfl) rfl rfl rfl rfl rfl (fun _ _ => rfl) (fun _ => by kernel_rfl) rfl (fun _ => rfl) (fun I a b c d e f g h => ret3 I a b c d e f g h)
theorem f_42 : Twelve 42 "__le__" (fun o e => !o || e) := f_gen (fun _ => rfl) rfl rfl rfl rfl rfl (fun _ _ => rfl) (fun _ => by kernel_rfl) rfl (fun _ => rfl) (fun I a b c d e f g h => ret4 I a b c d e f g h)
theorem f_49 : Twelve 49 "__le__" (fun o e => o && !e) := f_gen (fun _ => rfl) rfl rfl rfl rfl rfl (fun _ _ => rfl) (fun _ => by kernel_rfl) rfl (fun _ => rfl) (fun I a b c d e f g h => ret5 I a b c d e f g h)
theorem f_56 : Twelve 56 "__le__" (fun o _ => !o) := f_gen (fun _ => rfl) rfl rfl rfl rfl rfl (fun _ _ => rfl) (fun _ => by kernel_rfl) rfl (fun _ => rfl) (fun I a b c d e f g h => ret3 I a b c d e f g h)
theorem f_63 : Twelve 63 "__gt__" (fun o e => !o && !e) := f_gen (fun _ => rfl) rfl rfl rfl rfl rfl (fun _ _ => rfl) (fun _ => by kernel_rfl) rfl (fun _ => rfl) (fun I a b c d e f g h => ret1 I a b c d e f g h)
theorem f_70 : Twelve 70 "__gt__" (fun o e => o || e) := f_gen (fun _ => rfl) rfl rfl rfl rfl rfl (fun _ _ => rfl) (fun _ => by kernel_rfl) rfl (fun _ => rfl) (fun I a b c d e f g h => ret2 I a b c d e f g h)
theorem f_77 : Twelve 77 "__gt__" (fun o _ => !o) := f_gen (fun _ => rfl) rfl rfl rfl rfl rfl (fun _ _ => rfl) (fun _ => by kernel_rfl) rfl (fun _ => rfl) (fun I a b c d e f g h => ret3 I a b c d e f g h)
theorem f_84 : Twelve 84 "__ge__" (fun o e => !o || e) := f_gen (fun _ => rfl) rfl rfl rfl rfl rfl (fun _ _ => rfl) (fun _ => by kernel_rfl) rfl (fun _ => rfl) (fun I a b c d e f g h => ret4 I a b c d e f g h)
theorem f_91 : Twelve 91 "__ge__" (fun o e => o && !e) := f_gen (fun _ => rfl) rfl rfl rfl rfl rfl (fun _ _ => rfl) (fun _ => by kernel_rfl) rfl (fun _ => rfl) (fun I a b c d e f g h => ret5 I a b c d e f g h)
theorem f_98 : Twelve 98 "__ge__" (fun o _ => !o) := f_gen (fun _ => rfl) rfl rfl rfl rfl rfl (fun _ _ => rfl) (fun _ => by kernel_rfl) rfl (fun _ => rfl) (fun I a b c d e f g h => ret3 I a b c d e f g h)
end Mine
end
section
open PySem PySem.W PySem.W.X PyProof.Rows PySem.Calls PySem.Spec
namespace Mine
set_option maxRecDepth 100000
section
variable {w : World} {A : Around} {B : Heap} {l : List Env} {n : Nat} {s : Shared}
theorem exc_of_made {B h h' : Heap} {e : Addr} {cls : String} {m : Str} {tk : Tok} (S : B.StaysIn h) (x : Heap.MadeExc h h' e cls [.str m tk]) : Exc B cls (some m) (.ref e) h' := by
  obtain ⟨t, he, htn, ht⟩ := x.there
  have fresh : ∀ b, h.get? b = none → B.get? b = none := fun b hb => by
    cases hq : B.get? b with
    | none => rfl
    | some o' => have := S b o' hq; rw [hb] at this; cases this
  refine ⟨e, .ref t, rfl, fresh e x.new, fun m' e' => ?_, .inl ⟨_, _, he, rfl, rfl, rfl, rfl⟩⟩
  cases e'
  exact ⟨t, tk, rfl, _, _, ht, rfl, rfl⟩
theorem exc_of_attr {B h h' : Heap} {e : Addr} (S : B.StaysIn h) (x : Heap.NewExcOf h h' e "AttributeError") : Exc B "AttributeError" none (.ref e) h' := by
  obtain ⟨ob, vs, he, hc, hd, h1⟩ := x.there
  have fresh : B.get? e = none := by
    cases hq : B.get? e with
    | none => rfl
    | some o' => have := S e o' hq; rw [x.new] at this; cases this
  have hsz := (Array.getElem?_eq_some_iff.mp h1).1
  exact ⟨e, vs[0]'(by omega), rfl, fresh, fun m' e' => (nomatch e'), .inl ⟨ob, vs, he, hc, hd, h1, Array.getElem?_eq_getElem _⟩⟩

/-- a comparison's first half: the method of the left one's type -/
theorem try_gen {v u mv : Value} {f : Str} {Q : Option Value → Shared → Prop} {E : Value → Shared → Prop} (hsp : Looks (M0 w) s.heap (specialOf v f) (some mv)) (hbd : Looks (M0 w) s.heap (bindSpecial mv v) (mv, [v]))
    (hc : wpAny (M0 w) A (call mv [v, u]) (fun r s' => match r with | .notImplemented => Q none s' | r => Q (some r) s') E s) : wpAny (M0 w) A (tryCompare v f u) Q E s := by
  unfold tryCompare callSpecialIfBound? bindSpecialIfBound?
  refine wpAny_bind (wpAny_holding (wpAny_bind (wpAny_bind (hsp.here ?_))))
  dsimp only
  have fin : wpAny (M0 w) A (call mv ([v] ++ [u]) >>= fun x => pure (some x)) (fun x s₁ => wpAny (M0 w) A (match x with | some .notImplemented | none => pure none | some v => pure (some v)) Q E s₁) E s := by
    refine wpAny_bind (wpAny_mono hc (fun x s' h' => wpAny_pure ?_) fun _ _ h' => h')
    cases x <;> exact wpAny_pure h'
  refine wpAny_bind (wpAny_askSetting (wpAny_ite ?_))
  split
  · exact wpAny_bind (hbd.here (wpAny_pure fin))
  · exact wpAny_tryCatch (wpAny_bind (hbd.here (wpAny_pure fin)))

/-- how the sides of a comparison look -/
structure Side (w : World) (B : Heap) (v tv : Value) (name : String) : Prop where
  ty : Looks (M0 w) B (typeOf v) tv
  nm : Looks (M0 w) B (typeNameOf v) name
  one : ∀ op u, oneThing? op v u = none
  short : name.length ≤ 100
structure Meth (w : World) (B : Heap) (v : Value) (f : Str) (mv : Value) : Prop where
  sp : Looks (M0 w) B (specialOf v f) (some mv)
  bd : Looks (M0 w) B (bindSpecial mv v) (mv, [v])
def cmpMsg (sym na nb : String) : Str := Str.ofString (s!"'{sym}' not supported between instances of '{na}' and '{nb}'")
def cmpRes (sym na nb : String) (r1 r2 : Res) : Res := match r1 with
  | .ni => (match r2 with | .ni => .ty (cmpMsg sym na nb) | r => r)
  | r => r
theorem cmp_gen {op : CmpOp} {sym : String} {f r : Str} {a b ta tb ma mb : Value} {na nb : String} {r1 r2 : Res} (R : Room A l n) (hn : n ≤ 600) (S : Sit B l s) (hop : op = .Lt ∨ op = .LtE ∨ op = .Gt ∨ op = .GtE) (hi : cmpInfo op = (sym, f, r)) (hsym : sym.length ≤ 2)
    (Sa : Side w B a ta na) (Sb : Side w B b tb nb) (hrf : (ta != tb) = false ∨ Looks (M0 w) B (isSubtype tb ta) false) (Ma : Meth w B a f ma) (Mb : Meth w B b r mb)
    (h1 : ∀ s', Sit B l s' → Does w A B l s' (call ma [a, b]) r1) (h2 : r1 = .ni → ∀ s', Sit B l s' → Does w A B l s' (call mb [b, a]) r2) :
    Does w A B l s (compareOp op a b) (cmpRes sym na nb r1 r2) := by
  have hco : compareOp op a b = richCompare op a b := by rcases hop with rfl | rfl | rfl | rfl <;> rfl
  have hu : A.units < cLine := by have := R.units; show _ < 9900; omega
  unfold Does
  rw [hco]
  unfold richCompare
  simp only [Sa.one, hi]
  refine wpAny_holding (wpAny_bind (wpAny_cRoomFor hu (wpAny_bind ((Sa.ty.keeps S.stays).here (wpAny_bind ((Sb.ty.keeps S.stays).here ?_))))))
  have main : wpAny (M0 w) A (do
      if let some v ← tryCompare a f b then return v
      if let some v ← tryCompare b r a then return v
      match op with
      | .Eq => rule "compare.eq-identity"; return .bool (← isSame a b)
      | .NotEq => rule "compare.ne-identity"; return .bool (!(← isSame a b))
      | _ =>
        rule "compare.unsupported"
        raiseError "TypeError" s!"'{sym}' not supported between instances of '{← typeNameOf a}' and '{← typeNameOf b}'")
      (fun v s' => Went B l s s' ∧ OkR (cmpRes sym na nb r1 r2) v) (fun e s' => Went B l s s' ∧ ErR B (cmpRes sym na nb r1 r2) e s'.heap) s := by
    refine wpAny_bind (try_gen (Ma.sp.keeps S.stays) (Ma.bd.keeps S.stays) (wpAny_mono (h1 s S) (fun v s₁ ⟨we, ok⟩ => ?_) fun e s₁ ⟨we, er⟩ => ⟨we, ?_⟩))
    · cases r1 with
      | bool x => obtain rfl : v = .bool x := ok; exact wpAny_pure ⟨we, rfl⟩
      | ty m => exact ok.elim
      | at_ => exact ok.elim
      | ni =>
        obtain rfl : v = .notImplemented := ok
        refine wpAny_bind (try_gen (Mb.sp.keeps we.sit.stays) (Mb.bd.keeps we.sit.stays) (wpAny_mono (h2 rfl s₁ we.sit) (fun v s₂ ⟨we₂, ok⟩ => ?_) fun e s₂ ⟨we₂, er⟩ => ⟨we.trans we₂, ?_⟩))
        · cases r2 with
          | bool x => obtain rfl : v = .bool x := ok; exact wpAny_pure ⟨we.trans we₂, rfl⟩
          | ty m => exact ok.elim
          | at_ => exact ok.elim
          | ni =>
            obtain rfl : v = .notImplemented := ok
            have S₂ := (we.trans we₂).sit
            have fin : wpAny (M0 w) A (do
                rule "compare.unsupported"
                raiseError "TypeError" s!"'{sym}' not supported between instances of '{← typeNameOf a}' and '{← typeNameOf b}'")
                (fun v s' => Went B l s s' ∧ OkR (cmpRes sym na nb .ni .ni) v) (fun e s' => Went B l s s' ∧ ErR B (cmpRes sym na nb .ni .ni) e s'.heap) s₂ := by
              refine wpAny_bind (wpAny_rule (wpAny_bind ((Sa.nm.keeps S₂.stays).here (wpAny_bind ((Sb.nm.keeps S₂.stays).here ?_)))))
              unfold raiseErrorMade
              have hlen : (cmpMsg sym na nb).length ≤ sizeLine := by
                have h1 := Sa.short
                have h2 := Sb.short
                unfold cmpMsg
                rw [PySem.ofString_length, sizeLine_eq]
                simp only [String.length_append, toString]
                have e1 : "'".length ≤ 100 := by decide
                have e3 : "' not supported between instances of '".length ≤ 100 := by decide
                have e4 : "' and '".length ≤ 100 := by decide
                omega
              refine wpAny_bind (wpAny_mkStr (wpAny_bind (wpAny_newExc_plain plainExc_TypeError fun h' e hm => wpAny_raiseNew_none R.handled ?_)) hlen)
              exact ⟨(we.trans we₂).trans (Went.of_keeps S₂ hm.keeps rfl rfl), exc_of_made S₂.stays hm⟩
            rcases hop with rfl | rfl | rfl | rfl <;> exact fin
        · cases r2 with
          | bool x => exact er.elim
          | ni => exact er.elim
          | ty m => exact er
          | at_ => exact er
    · cases r1 with
      | bool x => exact er.elim
      | ni => exact er.elim
      | ty m => exact er
      | at_ => exact er
  rcases hrf with hrf | hrf
  · rw [if_neg (by rw [hrf]; decide)]
    exact main
  · split
    · exact wpAny_bind ((hrf.keeps S.stays).here main)
    · exact main
end
end Mine
end
section
open PySem PySem.W PySem.W.X PyProof.Rows PySem.Calls PySem.Spec
namespace Mine
set_option maxRecDepth 100000
section
variable {w : World} {A : Around} {B : Heap} {l : List Env} {n : Nat} {s : Shared}
theorem eq_gen {op : CmpOp} {sym : String} {f r : Str} {a b ta tb ma : Value} {e : Bool} (R : Room A l n) (hn : n ≤ 600) (S : Sit B l s) (hop : op = .Eq ∨ op = .NotEq) (hi : cmpInfo op = (sym, f, r))
    (ha : Looks (M0 w) B (typeOf a) ta) (hb : Looks (M0 w) B (typeOf b) tb) (one : ∀ op u, oneThing? op a u = none) (hrf : (ta != tb) = false ∨ Looks (M0 w) B (isSubtype tb ta) false) (Ma : Meth w B a f ma)
    (h1 : Does w A B l s (call ma [a, b]) (.bool e)) : Does w A B l s (compareOp op a b) (.bool e) := by
  have hco : compareOp op a b = richCompare op a b := by rcases hop with rfl | rfl <;> rfl
  have hu : A.units < cLine := by have := R.units; show _ < 9900; omega
  unfold Does
  rw [hco]
  unfold richCompare
  simp only [one, hi]
  refine wpAny_holding (wpAny_bind (wpAny_cRoomFor hu (wpAny_bind ((ha.keeps S.stays).here (wpAny_bind ((hb.keeps S.stays).here ?_))))))
  have main : wpAny (M0 w) A (do
      if let some v ← tryCompare a f b then return v
      if let some v ← tryCompare b r a then return v
      match op with
      | .Eq => rule "compare.eq-identity"; return .bool (← isSame a b)
      | .NotEq => rule "compare.ne-identity"; return .bool (!(← isSame a b))
      | _ =>
        rule "compare.unsupported"
        raiseError "TypeError" s!"'{sym}' not supported between instances of '{← typeNameOf a}' and '{← typeNameOf b}'")
      (fun v s' => Went B l s s' ∧ OkR (.bool e) v) (fun x s' => Went B l s s' ∧ ErR B (.bool e) x s'.heap) s := by
    refine wpAny_bind (try_gen (Ma.sp.keeps S.stays) (Ma.bd.keeps S.stays) (wpAny_mono h1 (fun v s₁ ⟨we, ok⟩ => ?_) fun e s₁ ⟨we, er⟩ => er.elim))
    obtain rfl : v = .bool e := ok
    exact wpAny_pure ⟨we, rfl⟩
  rcases hrf with hrf | hrf
  · rw [if_neg (by rw [hrf]; decide)]
    exact main
  · split
    · exact wpAny_bind ((hrf.keeps S.stays).here main)
    · exact main

/-- object.__ne__ turns what __eq__ says -/
theorem ne_obj {a b me : Value} {e : Bool} (R : Room A l n) (hn : n < 600) (S : Sit B l s) (hi : Looks (M0 w) B (isInstance a (.type "object")) true) (Me : Meth w B a "__eq__" me)
    (h1 : ∀ A', Room A' l (n + 1) → ∀ s', Sit B l s' → Does w A' B l s' (call me [a, b]) (.bool e)) : Does w A B l s (call (.builtin "object.__ne__") [a, b]) (.bool (!e)) := by
  refine wpAny_call (codeAny_call_builtin (by decide +kernel) F.cmpEntry_ne (check_slot F.cmpKind_ne F.cmpSplit_ne (hi.keeps S.stays) (F.cmpArgs_ne _ _) ?_))
  have R' := R.in1
  have hu : A.in1.units < cLine := by have := R'.units; show _ < 9900; omega
  unfold Builtin.«object.__ne__»
  show wpAny _ _ (do
    cRoomFor "comparison" [a, b]
    match ← callSpecialIfBound? a "__eq__" [b] with
    | some .notImplemented | none => ret .notImplemented
    | some r => ret (.bool (!(← truthy r)))) _ _ _
  refine wpAny_bind (wpAny_cRoomFor hu ?_)
  unfold callSpecialIfBound? bindSpecialIfBound?
  refine wpAny_bind (wpAny_holding (wpAny_bind (wpAny_bind ((Me.sp.keeps S.stays).here ?_))))
  dsimp only
  have fin : wpAny (M0 w) A.in1 (call me ([a] ++ [b]) >>= fun x => pure (some x)) (fun x s₁ => wpAny (M0 w) A.in1 (match x with | some .notImplemented | none => ret .notImplemented | some r => (do ret (.bool (!(← truthy r))))) (fun fin s' => match fin with | .done f => (match (Except.ok f : Result) with | .ok (.ret v) => Went B l s s' ∧ OkR (.bool (!e)) v | .ok _ => False | .error e_1 => Went B l s s' ∧ ErR B (.bool (!e)) e_1 s'.heap) | .again c' => c'.quiet = true ∧ codeAny (M0 w) A c' (fun r s' => match r with | .ok (.ret v) => Went B l s s' ∧ OkR (.bool (!e)) v | .ok _ => False | .error e_1 => Went B l s s' ∧ ErR B (.bool (!e)) e_1 s'.heap) s') (fun e_1 s' => Went B l s s' ∧ ErR B (.bool (!e)) e_1 s'.heap) s₁) (fun e_1 s' => Went B l s s' ∧ ErR B (.bool (!e)) e_1 s'.heap) s := by
    refine wpAny_bind (wpAny_mono (h1 _ R' s S) (fun x s' ⟨we, ok⟩ => wpAny_pure ?_) fun _ _ ⟨_, er⟩ => er.elim)
    obtain rfl : x = .bool e := ok
    exact wpAny_bind (wpAny_truthy_bool (wpAny_pure ⟨we, rfl⟩))
  refine wpAny_bind (wpAny_askSetting (wpAny_ite ?_))
  split
  · exact wpAny_bind ((Me.bd.keeps S.stays).here (wpAny_pure fin))
  · exact wpAny_tryCatch (wpAny_bind ((Me.bd.keeps S.stays).here (wpAny_pure fin)))
end
end Mine
end
section
open PySem PySem.W PySem.W.X PyProof.Rows PySem.Calls PySem.Spec
namespace Mine
set_option maxRecDepth 100000
def sText : Str := ⟨#[116, 101, 120, 116]⟩
def QInst (B : Heap) (q t : Value) : Prop := handedIn t = true ∧ ∃ x d hs tk, q = .ref x ∧ B.get? x = some ⟨.ref 179, some d, .plain, #[]⟩ ∧ B.get? d = some ⟨.type "dict", none, .dict #[⟨hs, .str sText tk, t⟩] 1, #[]⟩
theorem q_text {w : World} {A : Around} {B : Heap} {s : Shared} {q t : Value} {e : Bool} {Q E : Value → Shared → Prop} (F : Facts w B) (S : B.StaysIn s.heap) (hq : QInst B q t) (h : ∀ tk, Q t { s with toks := tk }) : wpAny (M0 w) A (getAttr q "text" e) Q E s := by
  obtain ⟨ht, x, d, hs, tk, rfl, hx, hd⟩ := hq
  refine get_value (K := KK w.params) (C := 179) (od := some _) (F.K.keeps S) ⟨S _ _ hx, rfl, rfl, S _ _ hd⟩ (by kernel_rfl) (findObj_own (by kernel_rfl) (attr := none) (by kernel_rfl) rfl rfl) ht (h _)
structure Oth (w : World) (B : Heap) (u c : Value) (isq : Bool) : Prop where
  isi : ∀ {A : Around} {l : List Env} {n : Nat} {s : Shared}, Room A l n → n ≤ 600 → Sit B l s → Does w A B l s (call (.builtin "isinstance") [u, .ref 179]) (.bool isq)
  yes : isq = true → QInst B u c
  no : isq = false → c = u
def QMeth (a : Addr) (op : CmpOp) : Prop := ∀ {w : World} {A : Around} {B : Heap} {l : List Env} {n : Nat} {s : Shared} {q t u c : Value} {isq : Bool} {r : Res}, Facts w B → Room A l n → n < 600 → Sit B l s → QInst B q t → Oth w B u c isq →
  (∀ A' l' s', Room A' l' (n + 1) → Sit B l' s' → Does w A' B l' s' (compareOp op t c) r) → Does w A B l s (call (.ref a) [q, u]) r
def qscope : Scope := { kind := .function, names := [("self", .local), ("other", .local), ("isinstance", .globalImplicit), ("QName", .globalImplicit)], isGenerator := false, isCoroutine := false, more := [] }
theorem q_gen {a : Addr} {op : CmpOp} {o : Obj} {fd : FuncData} {p1 p2 p3 p4 p5 p6 p7 p8 p9 p10 p11 p12 p13 p14 p15 p16 : Pos}
    (hl : ∀ P, (KK P).lookup a = some o) (hd : o.data = .func fd)
    (hb : fd.body = .stmts [.If (.Call (.Name "isinstance" p1) [.Name "other" p2, .Name "QName" p3] [] p4) [.Return (some (.Compare (.Attribute (.Name "self" p5) "text" p6) [op] [.Attribute (.Name "other" p7) "text" p8] p9)) p10] [] p11,
      .Return (some (.Compare (.Attribute (.Name "self" p12) "text" p13) [op] [.Name "other" p14] p15)) p16])
    (hsc : fd.scope = qscope) (hg : fd.globals = mainGlobals) (hbl : fd.builtins = builtinsNs)
    (hbind : ∀ v u, bindArgs fd ⟨[v, u], []⟩ = pure [(("self" : Str), v), (("other" : Str), u)]) (hcd : ∀ P, codeIn (KK P) fd.code fd.qualname = true)
    (hm1 : ∀ v a p, behindInMarks op (.Attribute v a p) = false) (hm2 : ∀ x p, behindInMarks op (.Name x p) = false) : QMeth a op := by
  intro w A B l n s q t u c isq r F R hn S hq ho H
  have hsn : fd.scope.names = qscope.names := by rw [hsc]
  refine fn_does R hn S F (F.K _ _ (hl _)) hd hb (codeRec_of F.K (hcd _)) (hbind q u) (by rw [hsc]; rfl) (by rw [hsc]; rfl) (by rw [hsc]; rfl) (by rw [hsn]; decide) (by rw [hsn]; exact locs (scope := qscope) rfl) fun L env s₁ henv S₁ ns₁ R₁ => ?_
  have hk : ∀ x, env.kindOf x = qscope.names.lookup x := fun x => by rw [henv]; show fd.scope.names.lookup x = _; rw [hsn]
  have I : InF env B l (fun x => [(("self" : Str), q), (("other" : Str), u)].reverse.lookup x) s₁ := ⟨by rw [henv]; show fd.scope.kind = _; rw [hsc]; rfl, by rw [henv], by rw [henv]; exact hg, by rw [henv]; exact hbl, S₁, by rw [henv]; exact ns₁⟩
  have hloc : env.locals = L := by rw [henv]
  rw [← hloc]
  have ks : env.kindOf "self" = some .local := by rw [hk]; decide
  have ko : env.kindOf "other" = some .local := by rw [hk]; decide
  refine wpAny_execs_cons (wpAny_If (isTrue_plain (wpAny_Call_ofName (ev_bltn F S₁.stays I.kind I.g I.b (by rw [hk]; decide) (v := .builtin "isinstance") (by kernel_rfl) (by kernel_rfl) ?_))))
  refine callWith_any (P := fun _ => True) (fun h _ => keep_plain (by intro a e; cases e) h) rfl ?_
  refine spliced_cons (ev_loc I.kind ko I.ns (v := u) rfl (spliced_cons (ev_glob F S₁.stays I.kind I.g (by rw [hk]; decide) (v := .ref 179) (by kernel_rfl) (spliced_nil ⟨trivial, ?_⟩))))
  refine wpAny_mono (ho.isi R₁ (by omega) S₁) (fun v s₂ ⟨we, ok⟩ => ?_) fun e s₂ ⟨we, er⟩ => er.elim
  obtain rfl : v = .bool isq := ok
  have I₂ := I.went we
  refine wpAny_truthy_bool ?_
  cases isq with
  | true =>
    have hu := ho.yes rfl
    refine wpAny_execs_cons (wpAny_Return_some (wpAny_Compare1 (Attribute_Name_ (ev_loc I.kind ks I₂.ns (v := q) rfl (q_text F I₂.sit.stays hq fun tk => ?_))) (hm1 _ _ _)))
    refine Attribute_Name_ (ev_loc I.kind ko (by exact I₂.ns) (v := u) rfl (q_text F (by exact I₂.sit.stays) hu fun tk' => ?_))
    refine wpAny_mono (H _ _ { s₂ with toks := tk' } R₁ (I₂.sit.toks _)) (fun v s₃ ⟨we₃, ok⟩ => ⟨⟨we₃.sit, (UpBut.of we.slots).trans (.of we₃.slots), we₃.os.trans we.os⟩, ok⟩) fun e s₃ ⟨we₃, er⟩ => ⟨⟨we₃.sit, (UpBut.of we.slots).trans (.of we₃.slots), we₃.os.trans we.os⟩, er⟩
  | false =>
    obtain rfl := ho.no rfl
    refine wpAny_execs_nil (wpAny_execs_cons (wpAny_Return_some (wpAny_Compare1 (Attribute_Name_ (ev_loc I.kind ks I₂.ns (v := q) rfl (q_text F I₂.sit.stays hq fun tk => ?_))) (hm2 _ _))))
    refine ev_loc I.kind ko (by exact I₂.ns) rfl ?_
    refine wpAny_mono (H _ _ { s₂ with toks := tk } R₁ (I₂.sit.toks _)) (fun v s₃ ⟨we₃, ok⟩ => ⟨⟨we₃.sit, (UpBut.of we.slots).trans (.of we₃.slots), we₃.os.trans we.os⟩, ok⟩) fun e s₃ ⟨we₃, er⟩ => ⟨⟨we₃.sit, (UpBut.of we.slots).trans (.of we₃.slots), we₃.os.trans we.os⟩, er⟩
theorem q_le : QMeth 148 .LtE := q_gen (fun _ => rfl) rfl rfl rfl rfl rfl (fun _ _ => rfl) (fun _ => by kernel_rfl) (fun _ _ _ => rfl) (fun _ _ => rfl)
theorem q_lt : QMeth 155 .Lt := q_gen (fun _ => rfl) rfl rfl rfl rfl rfl (fun _ _ => rfl) (fun _ => by kernel_rfl) (fun _ _ _ => rfl) (fun _ _ => rfl)
theorem q_ge : QMeth 162 .GtE := q_gen (fun _ => rfl) rfl rfl rfl rfl rfl (fun _ _ => rfl) (fun _ => by kernel_rfl) (fun _ _ _ => rfl) (fun _ _ => rfl)
theorem q_gt : QMeth 169 .Gt := q_gen (fun _ => rfl) rfl rfl rfl rfl rfl (fun _ _ => rfl) (fun _ => by kernel_rfl) (fun _ _ _ => rfl) (fun _ _ => rfl)
theorem q_eq : QMeth 176 .Eq := q_gen (fun _ => rfl) rfl rfl rfl rfl rfl (fun _ _ => rfl) (fun _ => by kernel_rfl) (fun _ _ _ => rfl) (fun _ _ => rfl)
end Mine
end
section
open PySem PySem.W PySem.W.X PyProof.Rows PySem.Calls PySem.Spec
namespace Mine
set_option maxRecDepth 100000
/-- a set of some of 0, 1, 2 -/
def SetIs (B : Heap) (v : Value) (xs : List Int) : Prop := ∃ a es ep t, v = .ref a ∧ B.get? a = some ⟨.type "set", none, .set es ep t, #[]⟩ ∧ (∀ e ∈ es.toList, ∃ k tk, e = (k, Value.int k tk) ∧ (k = 0 ∨ k = 1 ∨ k = 2)) ∧ es.toList.map (·.1) = xs ∧ t.fits es.size = true ∧ es.size ≤ 3
section
variable {w : World} {A : Around} {B : Heap} {l : List Env} {n : Nat} {s : Shared} {E : Value → Shared → Prop}
theorem small_hash {k : Int} (h : k = 0 ∨ k = 1 ∨ k = 2) : hashInt k = k := by rcases h with rfl | rfl | rfl <;> decide +kernel
theorem setOf_of {a : Addr} {es : Array (Int × Value)} {ep : Nat} {t : SetTable} {h : Heap} (ho : h.get? a = some ⟨.type "set", none, .set es ep t, #[]⟩) (he : ∀ e ∈ es.toList, ∃ k tk, e = (k, Value.int k tk) ∧ (k = 0 ∨ k = 1 ∨ k = 2)) (hf : t.fits es.size = true) (hz : es.size ≤ 3) :
    h.SetOf (intKind P0 w) a (fun k => (es.toList.map (·.1)).contains k) es.size := by
  refine ⟨_, es, ep, t, ho, ⟨rfl, rfl, rfl⟩, rfl, fun e hm => ?_, fun k => ?_, by show _ < 4096; omega, hf, rfl⟩
  · obtain ⟨k, tk, rfl, hk⟩ := he e hm
    exact ⟨⟨k, by show Value.isInt k (.int k tk) = true; simp [Value.isInt], (small_hash hk).symm⟩, rfl⟩
  · simp only [List.contains_eq_mem, List.mem_map, decide_eq_true_eq]
    constructor
    · rintro ⟨e, hm, rfl⟩
      obtain ⟨k, tk, rfl, hk⟩ := he e hm
      exact ⟨_, hm, by show Value.isInt k (.int k tk) = true; simp [Value.isInt]⟩
    · rintro ⟨e, hm, hi⟩
      obtain ⟨k', tk, rfl, hk⟩ := he e hm
      have : k' = k := by have hi : Value.isInt k (.int k' tk) = true := hi; simpa [Value.isInt] using hi
      exact ⟨_, hm, this⟩
def subl (xs ys : List Int) : Bool := xs.all fun x => ys.contains x
open Builtin.Frozenset in
theorem subset_gen {a b : Addr} {es fs : Array (Int × Value)} {ep fp : Nat} {t u : SetTable} {id : String} {Q : Bool → Shared → Prop} (ha : s.heap.get? a = some ⟨.type "set", none, .set es ep t, #[]⟩) (hea : ∀ e ∈ es.toList, ∃ k tk, e = (k, Value.int k tk) ∧ (k = 0 ∨ k = 1 ∨ k = 2)) (hfa : t.fits es.size = true) (hza : es.size ≤ 3)
    (hb : s.heap.get? b = some ⟨.type "set", none, .set fs fp u, #[]⟩) (heb : ∀ e ∈ fs.toList, ∃ k tk, e = (k, Value.int k tk) ∧ (k = 0 ∨ k = 1 ∨ k = 2)) (hfb : u.fits fs.size = true) (hzb : fs.size ≤ 3)
    (h : Q (decide (es.size ≤ fs.size) && subl (es.toList.map (·.1)) (fs.toList.map (·.1))) s) : wpAny (M0 w) A (subsetOf id a b) Q E s := by
  unfold subsetOf Builtin.Frozenset.sizeOf setEntries setEpoch
  refine wpAny_bind (wpAny_bind (wpAny_bind (wpAny_setState_of ha rfl hfa (wpAny_pure (wpAny_pure ?_)))))
  refine wpAny_bind (wpAny_bind (wpAny_bind (wpAny_setState_of hb rfl hfb (wpAny_pure (wpAny_pure ?_)))))
  dsimp only
  by_cases hlt : es.size > fs.size
  · rw [if_pos hlt]
    refine wpAny_pure ?_
    have : decide (es.size ≤ fs.size) = false := decide_eq_false (by omega)
    rw [this, Bool.false_and] at h
    exact h
  · rw [if_neg hlt]
    have : decide (es.size ≤ fs.size) = true := decide_eq_true (by omega)
    rw [this, Bool.true_and] at h
    refine wpAny_bind (wpAny_bind (wpAny_setState_of ha rfl hfa (wpAny_pure ?_)))
    unfold walkUnseen setEntries
    refine wpAny_bind (wpAny_bind (wpAny_bind (wpAny_setState_of ha rfl hfa (wpAny_pure ?_))))
    refine wpAny_bind (wpAny_bind (wpAny_setState_of hb rfl hfb (wpAny_pure ?_)))
    dsimp only
    have hint : ∀ e ∈ es.toList ++ fs.toList, ∃ k tk, e.2 = Value.int k tk := fun e hm => by
      rcases List.mem_append.mp hm with hm | hm
      · obtain ⟨k, tk, rfl, _⟩ := hea e hm; exact ⟨k, tk, rfl⟩
      · obtain ⟨k, tk, rfl, _⟩ := heb e hm; exact ⟨k, tk, rfl⟩
    refine wpAny_bind (wpAny_forIn_list _ (fun rest r s' => s' = s ∧ r = (none, ()) ∧ (∀ e ∈ rest, ∃ k tk, e.2 = Value.int k tk)) _ ?_ ?_ _ _ ⟨rfl, rfl, hint⟩)
    · rintro ⟨hh, x⟩ rest r s' ⟨rfl, rfl, hr⟩
      obtain ⟨k, tk, hx⟩ := hr (hh, x) List.mem_cons_self
      dsimp only at hx
      subst hx
      exact wpAny_pure ⟨rfl, rfl, fun e hm => hr e (List.mem_cons_of_mem _ hm)⟩
    · rintro r s' ⟨rfl, rfl, _⟩
      refine wpAny_pure ?_
      have SO := setOf_of (w := w) hb heb hfb hzb
      refine wpAny_bind (wpAny_forIn_list _ (fun rest r s'' => s'' = s' ∧ r = (none, ()) ∧ (∀ e ∈ rest, ∃ k tk, e = (k, Value.int k tk) ∧ (k = 0 ∨ k = 1 ∨ k = 2)) ∧ subl (es.toList.map (·.1)) (fs.toList.map (·.1)) = subl (rest.map (·.1)) (fs.toList.map (·.1))) _ ?_ ?_ _ _ ⟨rfl, rfl, hea, rfl⟩)
      · rintro ⟨hh, x⟩ rest r s' ⟨rfl, rfl, hr, hsub⟩
        obtain ⟨k, tk, hx, hk⟩ := hr (hh, x) List.mem_cons_self
        cases hx
        dsimp only
        refine wpAny_bind (wpAny_holding ?_)
        have hf := wpAny_setFind_of (knd := intKind P0 w) (k := hh) (x := .int hh tk) (A := A) (E := E) (s := s') (by show Value.isInt hh (.int hh tk) = true; simp [Value.isInt]) rfl SO (Q := fun r s'' => s'' = s' ∧ r.isSome = (fs.toList.map (·.1)).contains hh) (fun r hr => ⟨rfl, hr⟩)
        rw [show (intKind P0 w).hash hh = hh from small_hash hk] at hf
        refine wpAny_mono hf (fun r s'' ⟨e, hr'⟩ => ?_) fun _ _ x => x
        subst e
        cases hc : (fs.toList.map (·.1)).contains hh with
        | false =>
          rw [hc] at hr'
          have : r.isNone = true := by cases r <;> simp_all
          rw [if_pos this]
          refine wpAny_pure ?_
          show wpAny _ _ (pure false) _ _ _
          refine wpAny_pure ?_
          rw [hsub] at h
          simp only [subl, List.map_cons, List.all_cons, hc, Bool.false_and] at h
          exact h
        | true =>
          rw [hc] at hr'
          have : ¬ r.isNone = true := by cases r <;> simp_all
          rw [if_neg this]
          unfold unchanged setEpoch
          refine wpAny_bind (wpAny_bind (wpAny_bind (wpAny_setState_of ha rfl hfa (wpAny_pure ?_))))
          dsimp only
          rw [if_neg (by simp)]
          refine wpAny_pure (wpAny_pure ⟨rfl, rfl, fun e hm => hr e (List.mem_cons_of_mem _ hm), ?_⟩)
          rw [hsub]
          simp only [subl, List.map_cons, List.all_cons, hc, Bool.true_and]
      · rintro r s' ⟨rfl, rfl, _, hsub⟩
        refine wpAny_pure ?_
        rw [hsub] at h
        exact h
def setOp (op : CmpOp) (xs ys : List Int) : Bool := match op with
  | .Eq => decide (xs.length = ys.length) && subl xs ys
  | .NotEq => !(decide (xs.length = ys.length) && subl xs ys)
  | .LtE => decide (xs.length ≤ ys.length) && subl xs ys
  | .GtE => decide (ys.length ≤ xs.length) && subl ys xs
  | .Lt => decide (xs.length < ys.length) && subl xs ys
  | _ => decide (ys.length < xs.length) && subl ys xs
theorem sub_set_frozen : isSubtype (.type "set") (.type "frozenset") = pure false := by rw [isSubtype_type]; kernel_rfl
theorem entry_lt : entryFor table "set.__lt__" = some Builtin.«frozenset.__lt__» := entryFor_alias (id' := "frozenset.__lt__") (by rw [fastTable_eq_tree]; kernel_rfl) (by decide +kernel) (by rw [PySem.W.S.canonicalZ_eq]; decide +kernel) (by rw [fastTable_eq_tree]; kernel_rfl)
theorem entry_le : entryFor table "set.__le__" = some Builtin.«frozenset.__le__» := entryFor_alias (id' := "frozenset.__le__") (by rw [fastTable_eq_tree]; kernel_rfl) (by decide +kernel) (by rw [PySem.W.S.canonicalZ_eq]; decide +kernel) (by rw [fastTable_eq_tree]; kernel_rfl)
theorem entry_gt : entryFor table "set.__gt__" = some Builtin.«frozenset.__gt__» := entryFor_alias (id' := "frozenset.__gt__") (by rw [fastTable_eq_tree]; kernel_rfl) (by decide +kernel) (by rw [PySem.W.S.canonicalZ_eq]; decide +kernel) (by rw [fastTable_eq_tree]; kernel_rfl)
theorem entry_ge : entryFor table "set.__ge__" = some Builtin.«frozenset.__ge__» := entryFor_alias (id' := "frozenset.__ge__") (by rw [fastTable_eq_tree]; kernel_rfl) (by decide +kernel) (by rw [PySem.W.S.canonicalZ_eq]; decide +kernel) (by rw [fastTable_eq_tree]; kernel_rfl)
theorem entry_eq : entryFor table "set.__eq__" = some Builtin.«frozenset.__eq__» := entryFor_alias (id' := "frozenset.__eq__") (by rw [fastTable_eq_tree]; kernel_rfl) (by decide +kernel) (by rw [PySem.W.S.canonicalZ_eq]; decide +kernel) (by rw [fastTable_eq_tree]; kernel_rfl)
theorem entry_ne : entryFor table "set.__ne__" = some Builtin.«frozenset.__ne__» := entryFor_alias (id' := "frozenset.__ne__") (by rw [fastTable_eq_tree]; kernel_rfl) (by decide +kernel) (by rw [PySem.W.S.canonicalZ_eq]; decide +kernel) (by rw [fastTable_eq_tree]; kernel_rfl)
theorem set_lt_call {v u : Value} {xs ys : List Int} {Q : Value → Shared → Prop} (S : B.StaysIn s.heap) (hv : SetIs B v xs) (hu : SetIs B u ys) (h : Q (.bool (setOp .Lt xs ys)) s) : wpAny (M0 w) A (call (.builtin "set.__lt__") [v, u]) Q E s := by
  obtain ⟨a, es, ep, t, rfl, ha, hea, rfl, hfa, hza⟩ := hv
  obtain ⟨b, fs, fp, u, rfl, hb, heb, rfl, hfb, hzb⟩ := hu
  have ha := S _ _ ha
  have hb := S _ _ hb
  obtain ⟨hp, g, d, tk, os⟩ := s
  have hTa : (⟨hp, g, d, tk, os⟩ : Shared).TypeIs (.ref a) "set" := ⟨_, ha, rfl⟩
  have hTb : (⟨hp, g, d, tk, os⟩ : Shared).TypeIs (.ref b) "set" := ⟨_, hb, rfl⟩
  have f1 := sub_set_self
  have f2 := sub_set_frozen
  refine wpAny_call (codeAny_call_builtin F.slot_set_lt.plain entry_lt (F.slot_set_lt.check _ _ _ _ _ _ _ _ hTa (F.args_set_lt_2 _ _) ?_))
  simp only [setOp, List.length_map, Array.length_toList] at h
  unfold Builtin.«frozenset.__lt__»
  repeat (first | with_reducible refine wpAny_pure ?_ | with_reducible refine wpAny_bind ?_ | (with_reducible refine wpAny_setState_of ha rfl hfa ?_) | (with_reducible refine wpAny_setState_of hb rfl hfb ?_) | (with_reducible refine subset_gen ha hea hfa hza hb heb hfb hzb ?_) | (with_reducible refine subset_gen hb heb hfb hzb ha hea hfa hza ?_) | (with_reducible refine wpAny_isInstance (by assumption) (by assumption) ?_) | ((with_reducible apply PySem.wpAny_ite_false); focus (rfl; done)) | ((with_reducible apply PySem.wpAny_ite_true); focus (rfl; done)) | wp_delta | with_reducible_and_instances refine wpAny_pure ?_ | with_reducible_and_instances refine wpAny_bind ?_)
  dsimp only
  split
  · rename_i hc
    rw [decide_eq_false (by omega), Bool.false_and] at h
    exact wpAny_pure h
  · rename_i hc
    rw [decide_eq_true (by omega), Bool.true_and] at h
    refine wpAny_bind (subset_gen ha hea hfa hza hb heb hfb hzb (wpAny_pure ?_))
    rw [decide_eq_true (by omega), Bool.true_and]
    exact h
theorem set_le_call {v u : Value} {xs ys : List Int} {Q : Value → Shared → Prop} (S : B.StaysIn s.heap) (hv : SetIs B v xs) (hu : SetIs B u ys) (h : Q (.bool (setOp .LtE xs ys)) s) : wpAny (M0 w) A (call (.builtin "set.__le__") [v, u]) Q E s := by
  obtain ⟨a, es, ep, t, rfl, ha, hea, rfl, hfa, hza⟩ := hv
  obtain ⟨b, fs, fp, u, rfl, hb, heb, rfl, hfb, hzb⟩ := hu
  have ha := S _ _ ha
  have hb := S _ _ hb
  obtain ⟨hp, g, d, tk, os⟩ := s
  have hTa : (⟨hp, g, d, tk, os⟩ : Shared).TypeIs (.ref a) "set" := ⟨_, ha, rfl⟩
  have hTb : (⟨hp, g, d, tk, os⟩ : Shared).TypeIs (.ref b) "set" := ⟨_, hb, rfl⟩
  have f1 := sub_set_self
  have f2 := sub_set_frozen
  refine wpAny_call (codeAny_call_builtin F.slot_set_le.plain entry_le (F.slot_set_le.check _ _ _ _ _ _ _ _ hTa (F.args_set_le_2 _ _) ?_))
  simp only [setOp, List.length_map, Array.length_toList] at h
  unfold Builtin.«frozenset.__le__»
  repeat (first | with_reducible refine wpAny_pure ?_ | with_reducible refine wpAny_bind ?_ | (with_reducible refine wpAny_setState_of ha rfl hfa ?_) | (with_reducible refine wpAny_setState_of hb rfl hfb ?_) | (with_reducible refine subset_gen ha hea hfa hza hb heb hfb hzb ?_) | (with_reducible refine subset_gen hb heb hfb hzb ha hea hfa hza ?_) | (with_reducible refine wpAny_isInstance (by assumption) (by assumption) ?_) | ((with_reducible apply PySem.wpAny_ite_false); focus (rfl; done)) | ((with_reducible apply PySem.wpAny_ite_true); focus (rfl; done)) | wp_delta | with_reducible_and_instances refine wpAny_pure ?_ | with_reducible_and_instances refine wpAny_bind ?_)
  exact h
theorem set_gt_call {v u : Value} {xs ys : List Int} {Q : Value → Shared → Prop} (S : B.StaysIn s.heap) (hv : SetIs B v xs) (hu : SetIs B u ys) (h : Q (.bool (setOp .Gt xs ys)) s) : wpAny (M0 w) A (call (.builtin "set.__gt__") [v, u]) Q E s := by
  obtain ⟨a, es, ep, t, rfl, ha, hea, rfl, hfa, hza⟩ := hv
  obtain ⟨b, fs, fp, u, rfl, hb, heb, rfl, hfb, hzb⟩ := hu
  have ha := S _ _ ha
  have hb := S _ _ hb
  obtain ⟨hp, g, d, tk, os⟩ := s
  have hTa : (⟨hp, g, d, tk, os⟩ : Shared).TypeIs (.ref a) "set" := ⟨_, ha, rfl⟩
  have hTb : (⟨hp, g, d, tk, os⟩ : Shared).TypeIs (.ref b) "set" := ⟨_, hb, rfl⟩
  have f1 := sub_set_self
  have f2 := sub_set_frozen
  refine wpAny_call (codeAny_call_builtin F.slot_set_gt.plain entry_gt (F.slot_set_gt.check _ _ _ _ _ _ _ _ hTa (F.args_set_gt_2 _ _) ?_))
  simp only [setOp, List.length_map, Array.length_toList] at h
  unfold Builtin.«frozenset.__gt__»
  repeat (first | with_reducible refine wpAny_pure ?_ | with_reducible refine wpAny_bind ?_ | (with_reducible refine wpAny_setState_of ha rfl hfa ?_) | (with_reducible refine wpAny_setState_of hb rfl hfb ?_) | (with_reducible refine subset_gen ha hea hfa hza hb heb hfb hzb ?_) | (with_reducible refine subset_gen hb heb hfb hzb ha hea hfa hza ?_) | (with_reducible refine wpAny_isInstance (by assumption) (by assumption) ?_) | ((with_reducible apply PySem.wpAny_ite_false); focus (rfl; done)) | ((with_reducible apply PySem.wpAny_ite_true); focus (rfl; done)) | wp_delta | with_reducible_and_instances refine wpAny_pure ?_ | with_reducible_and_instances refine wpAny_bind ?_)
  dsimp only
  split
  · rename_i hc
    rw [decide_eq_false (by omega), Bool.false_and] at h
    exact wpAny_pure h
  · rename_i hc
    rw [decide_eq_true (by omega), Bool.true_and] at h
    refine wpAny_bind (subset_gen hb heb hfb hzb ha hea hfa hza (wpAny_pure ?_))
    rw [decide_eq_true (by omega), Bool.true_and]
    exact h
theorem set_ge_call {v u : Value} {xs ys : List Int} {Q : Value → Shared → Prop} (S : B.StaysIn s.heap) (hv : SetIs B v xs) (hu : SetIs B u ys) (h : Q (.bool (setOp .GtE xs ys)) s) : wpAny (M0 w) A (call (.builtin "set.__ge__") [v, u]) Q E s := by
  obtain ⟨a, es, ep, t, rfl, ha, hea, rfl, hfa, hza⟩ := hv
  obtain ⟨b, fs, fp, u, rfl, hb, heb, rfl, hfb, hzb⟩ := hu
  have ha := S _ _ ha
  have hb := S _ _ hb
  obtain ⟨hp, g, d, tk, os⟩ := s
  have hTa : (⟨hp, g, d, tk, os⟩ : Shared).TypeIs (.ref a) "set" := ⟨_, ha, rfl⟩
  have hTb : (⟨hp, g, d, tk, os⟩ : Shared).TypeIs (.ref b) "set" := ⟨_, hb, rfl⟩
  have f1 := sub_set_self
  have f2 := sub_set_frozen
  refine wpAny_call (codeAny_call_builtin F.slot_set_ge.plain entry_ge (F.slot_set_ge.check _ _ _ _ _ _ _ _ hTa (F.args_set_ge_2 _ _) ?_))
  simp only [setOp, List.length_map, Array.length_toList] at h
  unfold Builtin.«frozenset.__ge__»
  repeat (first | with_reducible refine wpAny_pure ?_ | with_reducible refine wpAny_bind ?_ | (with_reducible refine wpAny_setState_of ha rfl hfa ?_) | (with_reducible refine wpAny_setState_of hb rfl hfb ?_) | (with_reducible refine subset_gen ha hea hfa hza hb heb hfb hzb ?_) | (with_reducible refine subset_gen hb heb hfb hzb ha hea hfa hza ?_) | (with_reducible refine wpAny_isInstance (by assumption) (by assumption) ?_) | ((with_reducible apply PySem.wpAny_ite_false); focus (rfl; done)) | ((with_reducible apply PySem.wpAny_ite_true); focus (rfl; done)) | wp_delta | with_reducible_and_instances refine wpAny_pure ?_ | with_reducible_and_instances refine wpAny_bind ?_)
  exact h
theorem set_eq_call {v u : Value} {xs ys : List Int} {Q : Value → Shared → Prop} (S : B.StaysIn s.heap) (hv : SetIs B v xs) (hu : SetIs B u ys) (h : Q (.bool (setOp .Eq xs ys)) s) : wpAny (M0 w) A (call (.builtin "set.__eq__") [v, u]) Q E s := by
  obtain ⟨a, es, ep, t, rfl, ha, hea, rfl, hfa, hza⟩ := hv
  obtain ⟨b, fs, fp, u, rfl, hb, heb, rfl, hfb, hzb⟩ := hu
  have ha := S _ _ ha
  have hb := S _ _ hb
  obtain ⟨hp, g, d, tk, os⟩ := s
  have hTa : (⟨hp, g, d, tk, os⟩ : Shared).TypeIs (.ref a) "set" := ⟨_, ha, rfl⟩
  have hTb : (⟨hp, g, d, tk, os⟩ : Shared).TypeIs (.ref b) "set" := ⟨_, hb, rfl⟩
  have f1 := sub_set_self
  have f2 := sub_set_frozen
  refine wpAny_call (codeAny_call_builtin F.slot_set_eq.plain entry_eq (F.slot_set_eq.check _ _ _ _ _ _ _ _ hTa (F.args_set_eq_2 _ _) ?_))
  simp only [setOp, List.length_map, Array.length_toList] at h
  unfold Builtin.«frozenset.__eq__»
  repeat (first | with_reducible refine wpAny_pure ?_ | with_reducible refine wpAny_bind ?_ | (with_reducible refine wpAny_setState_of ha rfl hfa ?_) | (with_reducible refine wpAny_setState_of hb rfl hfb ?_) | (with_reducible refine subset_gen ha hea hfa hza hb heb hfb hzb ?_) | (with_reducible refine subset_gen hb heb hfb hzb ha hea hfa hza ?_) | (with_reducible refine wpAny_isInstance (by assumption) (by assumption) ?_) | ((with_reducible apply PySem.wpAny_ite_false); focus (rfl; done)) | ((with_reducible apply PySem.wpAny_ite_true); focus (rfl; done)) | wp_delta | with_reducible_and_instances refine wpAny_pure ?_ | with_reducible_and_instances refine wpAny_bind ?_)
  dsimp only
  by_cases hc : es.size = fs.size
  · rw [decide_eq_true hc, Bool.true_and] at h
    rw [if_neg (by simp [hc])]
    repeat (first | with_reducible refine wpAny_pure ?_ | with_reducible refine wpAny_bind ?_ | (with_reducible refine wpAny_setState_of ha rfl hfa ?_) | (with_reducible refine wpAny_setState_of hb rfl hfb ?_) | (with_reducible refine subset_gen ha hea hfa hza hb heb hfb hzb ?_) | (with_reducible refine subset_gen hb heb hfb hzb ha hea hfa hza ?_) | (with_reducible refine wpAny_isInstance (by assumption) (by assumption) ?_) | ((with_reducible apply PySem.wpAny_ite_false); focus (rfl; done)) | ((with_reducible apply PySem.wpAny_ite_true); focus (rfl; done)) | wp_delta | with_reducible_and_instances refine wpAny_pure ?_ | with_reducible_and_instances refine wpAny_bind ?_)
    rw [decide_eq_true (by omega), Bool.true_and]
    exact h
  · rw [decide_eq_false hc, Bool.false_and] at h
    rw [if_pos (by simp [hc])]
    exact wpAny_pure (wpAny_pure h)
theorem set_ne_call {v u : Value} {xs ys : List Int} {Q : Value → Shared → Prop} (S : B.StaysIn s.heap) (hv : SetIs B v xs) (hu : SetIs B u ys) (h : Q (.bool (setOp .NotEq xs ys)) s) : wpAny (M0 w) A (call (.builtin "set.__ne__") [v, u]) Q E s := by
  obtain ⟨a, es, ep, t, rfl, ha, hea, rfl, hfa, hza⟩ := hv
  obtain ⟨b, fs, fp, u, rfl, hb, heb, rfl, hfb, hzb⟩ := hu
  have ha := S _ _ ha
  have hb := S _ _ hb
  obtain ⟨hp, g, d, tk, os⟩ := s
  have hTa : (⟨hp, g, d, tk, os⟩ : Shared).TypeIs (.ref a) "set" := ⟨_, ha, rfl⟩
  have hTb : (⟨hp, g, d, tk, os⟩ : Shared).TypeIs (.ref b) "set" := ⟨_, hb, rfl⟩
  have f1 := sub_set_self
  have f2 := sub_set_frozen
  refine wpAny_call (codeAny_call_builtin F.slot_set_ne.plain entry_ne (F.slot_set_ne.check _ _ _ _ _ _ _ _ hTa (F.args_set_ne_2 _ _) ?_))
  simp only [setOp, List.length_map, Array.length_toList] at h
  unfold Builtin.«frozenset.__ne__»
  repeat (first | with_reducible refine wpAny_pure ?_ | with_reducible refine wpAny_bind ?_ | (with_reducible refine wpAny_setState_of ha rfl hfa ?_) | (with_reducible refine wpAny_setState_of hb rfl hfb ?_) | (with_reducible refine subset_gen ha hea hfa hza hb heb hfb hzb ?_) | (with_reducible refine subset_gen hb heb hfb hzb ha hea hfa hza ?_) | (with_reducible refine wpAny_isInstance (by assumption) (by assumption) ?_) | ((with_reducible apply PySem.wpAny_ite_false); focus (rfl; done)) | ((with_reducible apply PySem.wpAny_ite_true); focus (rfl; done)) | wp_delta | with_reducible_and_instances refine wpAny_pure ?_ | with_reducible_and_instances refine wpAny_bind ?_)
  dsimp only
  by_cases hc : es.size = fs.size
  · rw [decide_eq_true hc, Bool.true_and] at h
    rw [if_neg (by simp [hc])]
    repeat (first | with_reducible refine wpAny_pure ?_ | with_reducible refine wpAny_bind ?_ | (with_reducible refine wpAny_setState_of ha rfl hfa ?_) | (with_reducible refine wpAny_setState_of hb rfl hfb ?_) | (with_reducible refine subset_gen ha hea hfa hza hb heb hfb hzb ?_) | (with_reducible refine subset_gen hb heb hfb hzb ha hea hfa hza ?_) | (with_reducible refine wpAny_isInstance (by assumption) (by assumption) ?_) | ((with_reducible apply PySem.wpAny_ite_false); focus (rfl; done)) | ((with_reducible apply PySem.wpAny_ite_true); focus (rfl; done)) | wp_delta | with_reducible_and_instances refine wpAny_pure ?_ | with_reducible_and_instances refine wpAny_bind ?_)
    rw [decide_eq_true (by omega), Bool.true_and]
    exact h
  · rw [decide_eq_false hc, Bool.false_and] at h
    rw [if_pos (by simp [hc])]
    exact wpAny_pure (wpAny_pure h)
end
end Mine
end
section
open PySem PySem.W PySem.W.X PyProof.Rows PySem.Calls PySem.Spec
namespace Mine
set_option maxRecDepth 100000
set_option maxHeartbeats 0
local macro_rules | `(tactic| x_close) => `(tactic| first | (refine kept_of (by assumption) ?_; rfl) | (refine kept_start ?_; rfl))
theorem ni_int_str_lt (w : World) (h : Heap) (d : Drawn) (tk : Nat) (os : OsState) (l : List Env) (y : Int) (t : Tok) (x2 : Str) (t2 : Tok) :
    wpAny (model PySem.Challenge.rw_nq0073_01.prog w) (AX l) (PySem.call (.builtin "int.__lt__") [.int y t, .str x2 t2]) (Kept ⟨h, #[], d, tk, os⟩ fun v _ => v = .notImplemented) (fun _ _ => False) ⟨h, #[], d, tk, os⟩ := by x_run
theorem ni_int_str_le (w : World) (h : Heap) (d : Drawn) (tk : Nat) (os : OsState) (l : List Env) (y : Int) (t : Tok) (x2 : Str) (t2 : Tok) :
    wpAny (model PySem.Challenge.rw_nq0073_01.prog w) (AX l) (PySem.call (.builtin "int.__le__") [.int y t, .str x2 t2]) (Kept ⟨h, #[], d, tk, os⟩ fun v _ => v = .notImplemented) (fun _ _ => False) ⟨h, #[], d, tk, os⟩ := by x_run
theorem ni_int_str_gt (w : World) (h : Heap) (d : Drawn) (tk : Nat) (os : OsState) (l : List Env) (y : Int) (t : Tok) (x2 : Str) (t2 : Tok) :
    wpAny (model PySem.Challenge.rw_nq0073_01.prog w) (AX l) (PySem.call (.builtin "int.__gt__") [.int y t, .str x2 t2]) (Kept ⟨h, #[], d, tk, os⟩ fun v _ => v = .notImplemented) (fun _ _ => False) ⟨h, #[], d, tk, os⟩ := by x_run
theorem ni_int_str_ge (w : World) (h : Heap) (d : Drawn) (tk : Nat) (os : OsState) (l : List Env) (y : Int) (t : Tok) (x2 : Str) (t2 : Tok) :
    wpAny (model PySem.Challenge.rw_nq0073_01.prog w) (AX l) (PySem.call (.builtin "int.__ge__") [.int y t, .str x2 t2]) (Kept ⟨h, #[], d, tk, os⟩ fun v _ => v = .notImplemented) (fun _ _ => False) ⟨h, #[], d, tk, os⟩ := by x_run
theorem ni_int_set_lt (w : World) (h : Heap) (d : Drawn) (tk : Nat) (os : OsState) (l : List Env) (y : Int) (t : Tok) (b : Addr) (dd : Option Addr) (es2 : Array (Int × Value)) (ep2 : Nat) (tb2 : SetTable) (sl : Array (Option Value)) (hb : h.get? b = some ⟨.type "set", dd, .set es2 ep2 tb2, sl⟩) :
    wpAny (model PySem.Challenge.rw_nq0073_01.prog w) (AX l) (PySem.call (.builtin "int.__lt__") [.int y t, .ref b]) (Kept ⟨h, #[], d, tk, os⟩ fun v _ => v = .notImplemented) (fun _ _ => False) ⟨h, #[], d, tk, os⟩ := by x_run
theorem ni_int_set_le (w : World) (h : Heap) (d : Drawn) (tk : Nat) (os : OsState) (l : List Env) (y : Int) (t : Tok) (b : Addr) (dd : Option Addr) (es2 : Array (Int × Value)) (ep2 : Nat) (tb2 : SetTable) (sl : Array (Option Value)) (hb : h.get? b = some ⟨.type "set", dd, .set es2 ep2 tb2, sl⟩) :
    wpAny (model PySem.Challenge.rw_nq0073_01.prog w) (AX l) (PySem.call (.builtin "int.__le__") [.int y t, .ref b]) (Kept ⟨h, #[], d, tk, os⟩ fun v _ => v = .notImplemented) (fun _ _ => False) ⟨h, #[], d, tk, os⟩ := by x_run
theorem ni_int_set_gt (w : World) (h : Heap) (d : Drawn) (tk : Nat) (os : OsState) (l : List Env) (y : Int) (t : Tok) (b : Addr) (dd : Option Addr) (es2 : Array (Int × Value)) (ep2 : Nat) (tb2 : SetTable) (sl : Array (Option Value)) (hb : h.get? b = some ⟨.type "set", dd, .set es2 ep2 tb2, sl⟩) :
    wpAny (model PySem.Challenge.rw_nq0073_01.prog w) (AX l) (PySem.call (.builtin "int.__gt__") [.int y t, .ref b]) (Kept ⟨h, #[], d, tk, os⟩ fun v _ => v = .notImplemented) (fun _ _ => False) ⟨h, #[], d, tk, os⟩ := by x_run
theorem ni_int_set_ge (w : World) (h : Heap) (d : Drawn) (tk : Nat) (os : OsState) (l : List Env) (y : Int) (t : Tok) (b : Addr) (dd : Option Addr) (es2 : Array (Int × Value)) (ep2 : Nat) (tb2 : SetTable) (sl : Array (Option Value)) (hb : h.get? b = some ⟨.type "set", dd, .set es2 ep2 tb2, sl⟩) :
    wpAny (model PySem.Challenge.rw_nq0073_01.prog w) (AX l) (PySem.call (.builtin "int.__ge__") [.int y t, .ref b]) (Kept ⟨h, #[], d, tk, os⟩ fun v _ => v = .notImplemented) (fun _ _ => False) ⟨h, #[], d, tk, os⟩ := by x_run
theorem ni_int_none_lt (w : World) (h : Heap) (d : Drawn) (tk : Nat) (os : OsState) (l : List Env) (y : Int) (t : Tok)  :
    wpAny (model PySem.Challenge.rw_nq0073_01.prog w) (AX l) (PySem.call (.builtin "int.__lt__") [.int y t, .none]) (Kept ⟨h, #[], d, tk, os⟩ fun v _ => v = .notImplemented) (fun _ _ => False) ⟨h, #[], d, tk, os⟩ := by x_run
theorem ni_int_none_le (w : World) (h : Heap) (d : Drawn) (tk : Nat) (os : OsState) (l : List Env) (y : Int) (t : Tok)  :
    wpAny (model PySem.Challenge.rw_nq0073_01.prog w) (AX l) (PySem.call (.builtin "int.__le__") [.int y t, .none]) (Kept ⟨h, #[], d, tk, os⟩ fun v _ => v = .notImplemented) (fun _ _ => False) ⟨h, #[], d, tk, os⟩ := by x_run
theorem ni_int_none_gt (w : World) (h : Heap) (d : Drawn) (tk : Nat) (os : OsState) (l : List Env) (y : Int) (t : Tok)  :
    wpAny (model PySem.Challenge.rw_nq0073_01.prog w) (AX l) (PySem.call (.builtin "int.__gt__") [.int y t, .none]) (Kept ⟨h, #[], d, tk, os⟩ fun v _ => v = .notImplemented) (fun _ _ => False) ⟨h, #[], d, tk, os⟩ := by x_run
theorem ni_int_none_ge (w : World) (h : Heap) (d : Drawn) (tk : Nat) (os : OsState) (l : List Env) (y : Int) (t : Tok)  :
    wpAny (model PySem.Challenge.rw_nq0073_01.prog w) (AX l) (PySem.call (.builtin "int.__ge__") [.int y t, .none]) (Kept ⟨h, #[], d, tk, os⟩ fun v _ => v = .notImplemented) (fun _ _ => False) ⟨h, #[], d, tk, os⟩ := by x_run
theorem ni_int_key_lt (w : World) (h : Heap) (d : Drawn) (tk : Nat) (os : OsState) (l : List Env) (y : Int) (t : Tok) (b C N : Addr) (dd dd2 : Option Addr) (sl sl2 : Array (Option Value)) (nm qn : Str) (bs sb : List Value) (hd : Bool) (sn : List Str) (ab : Bool) (co : Option Bool) (dl : Bool) (hb : h.get? b = some ⟨.ref C, dd, .plain, sl⟩) (hC : h.get? C = some ⟨.type "type", dd2, .cls ⟨nm, bs, [.ref C, .type "object"], N, qn, hd, sn, sb, ab, co, dl⟩, sl2⟩) :
    wpAny (model PySem.Challenge.rw_nq0073_01.prog w) (AX l) (PySem.call (.builtin "int.__lt__") [.int y t, .ref b]) (Kept ⟨h, #[], d, tk, os⟩ fun v _ => v = .notImplemented) (fun _ _ => False) ⟨h, #[], d, tk, os⟩ := by x_run
theorem ni_int_key_le (w : World) (h : Heap) (d : Drawn) (tk : Nat) (os : OsState) (l : List Env) (y : Int) (t : Tok) (b C N : Addr) (dd dd2 : Option Addr) (sl sl2 : Array (Option Value)) (nm qn : Str) (bs sb : List Value) (hd : Bool) (sn : List Str) (ab : Bool) (co : Option Bool) (dl : Bool) (hb : h.get? b = some ⟨.ref C, dd, .plain, sl⟩) (hC : h.get? C = some ⟨.type "type", dd2, .cls ⟨nm, bs, [.ref C, .type "object"], N, qn, hd, sn, sb, ab, co, dl⟩, sl2⟩) :
    wpAny (model PySem.Challenge.rw_nq0073_01.prog w) (AX l) (PySem.call (.builtin "int.__le__") [.int y t, .ref b]) (Kept ⟨h, #[], d, tk, os⟩ fun v _ => v = .notImplemented) (fun _ _ => False) ⟨h, #[], d, tk, os⟩ := by x_run
theorem ni_int_key_gt (w : World) (h : Heap) (d : Drawn) (tk : Nat) (os : OsState) (l : List Env) (y : Int) (t : Tok) (b C N : Addr) (dd dd2 : Option Addr) (sl sl2 : Array (Option Value)) (nm qn : Str) (bs sb : List Value) (hd : Bool) (sn : List Str) (ab : Bool) (co : Option Bool) (dl : Bool) (hb : h.get? b = some ⟨.ref C, dd, .plain, sl⟩) (hC : h.get? C = some ⟨.type "type", dd2, .cls ⟨nm, bs, [.ref C, .type "object"], N, qn, hd, sn, sb, ab, co, dl⟩, sl2⟩) :
    wpAny (model PySem.Challenge.rw_nq0073_01.prog w) (AX l) (PySem.call (.builtin "int.__gt__") [.int y t, .ref b]) (Kept ⟨h, #[], d, tk, os⟩ fun v _ => v = .notImplemented) (fun _ _ => False) ⟨h, #[], d, tk, os⟩ := by x_run
theorem ni_int_key_ge (w : World) (h : Heap) (d : Drawn) (tk : Nat) (os : OsState) (l : List Env) (y : Int) (t : Tok) (b C N : Addr) (dd dd2 : Option Addr) (sl sl2 : Array (Option Value)) (nm qn : Str) (bs sb : List Value) (hd : Bool) (sn : List Str) (ab : Bool) (co : Option Bool) (dl : Bool) (hb : h.get? b = some ⟨.ref C, dd, .plain, sl⟩) (hC : h.get? C = some ⟨.type "type", dd2, .cls ⟨nm, bs, [.ref C, .type "object"], N, qn, hd, sn, sb, ab, co, dl⟩, sl2⟩) :
    wpAny (model PySem.Challenge.rw_nq0073_01.prog w) (AX l) (PySem.call (.builtin "int.__ge__") [.int y t, .ref b]) (Kept ⟨h, #[], d, tk, os⟩ fun v _ => v = .notImplemented) (fun _ _ => False) ⟨h, #[], d, tk, os⟩ := by x_run
theorem ni_int_q_lt (w : World) (h : Heap) (d : Drawn) (tk : Nat) (os : OsState) (l : List Env) (y : Int) (t : Tok) (b : Addr) (dd : Option Addr) (sl : Array (Option Value)) (hb : h.get? b = some ⟨.ref 179, dd, .plain, sl⟩) (KX : (KK w.params).In h) :
    wpAny (model PySem.Challenge.rw_nq0073_01.prog w) (AX l) (PySem.call (.builtin "int.__lt__") [.int y t, .ref b]) (Kept ⟨h, #[], d, tk, os⟩ fun v _ => v = .notImplemented) (fun _ _ => False) ⟨h, #[], d, tk, os⟩ := by x_run
theorem ni_int_q_le (w : World) (h : Heap) (d : Drawn) (tk : Nat) (os : OsState) (l : List Env) (y : Int) (t : Tok) (b : Addr) (dd : Option Addr) (sl : Array (Option Value)) (hb : h.get? b = some ⟨.ref 179, dd, .plain, sl⟩) (KX : (KK w.params).In h) :
    wpAny (model PySem.Challenge.rw_nq0073_01.prog w) (AX l) (PySem.call (.builtin "int.__le__") [.int y t, .ref b]) (Kept ⟨h, #[], d, tk, os⟩ fun v _ => v = .notImplemented) (fun _ _ => False) ⟨h, #[], d, tk, os⟩ := by x_run
theorem ni_int_q_gt (w : World) (h : Heap) (d : Drawn) (tk : Nat) (os : OsState) (l : List Env) (y : Int) (t : Tok) (b : Addr) (dd : Option Addr) (sl : Array (Option Value)) (hb : h.get? b = some ⟨.ref 179, dd, .plain, sl⟩) (KX : (KK w.params).In h) :
    wpAny (model PySem.Challenge.rw_nq0073_01.prog w) (AX l) (PySem.call (.builtin "int.__gt__") [.int y t, .ref b]) (Kept ⟨h, #[], d, tk, os⟩ fun v _ => v = .notImplemented) (fun _ _ => False) ⟨h, #[], d, tk, os⟩ := by x_run
theorem ni_int_q_ge (w : World) (h : Heap) (d : Drawn) (tk : Nat) (os : OsState) (l : List Env) (y : Int) (t : Tok) (b : Addr) (dd : Option Addr) (sl : Array (Option Value)) (hb : h.get? b = some ⟨.ref 179, dd, .plain, sl⟩) (KX : (KK w.params).In h) :
    wpAny (model PySem.Challenge.rw_nq0073_01.prog w) (AX l) (PySem.call (.builtin "int.__ge__") [.int y t, .ref b]) (Kept ⟨h, #[], d, tk, os⟩ fun v _ => v = .notImplemented) (fun _ _ => False) ⟨h, #[], d, tk, os⟩ := by x_run
theorem ni_str_int_lt (w : World) (h : Heap) (d : Drawn) (tk : Nat) (os : OsState) (l : List Env) (x : Str) (t : Tok) (y2 : Int) (t2 : Tok) :
    wpAny (model PySem.Challenge.rw_nq0073_01.prog w) (AX l) (PySem.call (.builtin "str.__lt__") [.str x t, .int y2 t2]) (Kept ⟨h, #[], d, tk, os⟩ fun v _ => v = .notImplemented) (fun _ _ => False) ⟨h, #[], d, tk, os⟩ := by x_run
theorem ni_str_int_le (w : World) (h : Heap) (d : Drawn) (tk : Nat) (os : OsState) (l : List Env) (x : Str) (t : Tok) (y2 : Int) (t2 : Tok) :
    wpAny (model PySem.Challenge.rw_nq0073_01.prog w) (AX l) (PySem.call (.builtin "str.__le__") [.str x t, .int y2 t2]) (Kept ⟨h, #[], d, tk, os⟩ fun v _ => v = .notImplemented) (fun _ _ => False) ⟨h, #[], d, tk, os⟩ := by x_run
theorem ni_str_int_gt (w : World) (h : Heap) (d : Drawn) (tk : Nat) (os : OsState) (l : List Env) (x : Str) (t : Tok) (y2 : Int) (t2 : Tok) :
    wpAny (model PySem.Challenge.rw_nq0073_01.prog w) (AX l) (PySem.call (.builtin "str.__gt__") [.str x t, .int y2 t2]) (Kept ⟨h, #[], d, tk, os⟩ fun v _ => v = .notImplemented) (fun _ _ => False) ⟨h, #[], d, tk, os⟩ := by x_run
theorem ni_str_int_ge (w : World) (h : Heap) (d : Drawn) (tk : Nat) (os : OsState) (l : List Env) (x : Str) (t : Tok) (y2 : Int) (t2 : Tok) :
    wpAny (model PySem.Challenge.rw_nq0073_01.prog w) (AX l) (PySem.call (.builtin "str.__ge__") [.str x t, .int y2 t2]) (Kept ⟨h, #[], d, tk, os⟩ fun v _ => v = .notImplemented) (fun _ _ => False) ⟨h, #[], d, tk, os⟩ := by x_run
theorem ni_str_set_lt (w : World) (h : Heap) (d : Drawn) (tk : Nat) (os : OsState) (l : List Env) (x : Str) (t : Tok) (b : Addr) (dd : Option Addr) (es2 : Array (Int × Value)) (ep2 : Nat) (tb2 : SetTable) (sl : Array (Option Value)) (hb : h.get? b = some ⟨.type "set", dd, .set es2 ep2 tb2, sl⟩) :
    wpAny (model PySem.Challenge.rw_nq0073_01.prog w) (AX l) (PySem.call (.builtin "str.__lt__") [.str x t, .ref b]) (Kept ⟨h, #[], d, tk, os⟩ fun v _ => v = .notImplemented) (fun _ _ => False) ⟨h, #[], d, tk, os⟩ := by x_run
theorem ni_str_set_le (w : World) (h : Heap) (d : Drawn) (tk : Nat) (os : OsState) (l : List Env) (x : Str) (t : Tok) (b : Addr) (dd : Option Addr) (es2 : Array (Int × Value)) (ep2 : Nat) (tb2 : SetTable) (sl : Array (Option Value)) (hb : h.get? b = some ⟨.type "set", dd, .set es2 ep2 tb2, sl⟩) :
    wpAny (model PySem.Challenge.rw_nq0073_01.prog w) (AX l) (PySem.call (.builtin "str.__le__") [.str x t, .ref b]) (Kept ⟨h, #[], d, tk, os⟩ fun v _ => v = .notImplemented) (fun _ _ => False) ⟨h, #[], d, tk, os⟩ := by x_run
theorem ni_str_set_gt (w : World) (h : Heap) (d : Drawn) (tk : Nat) (os : OsState) (l : List Env) (x : Str) (t : Tok) (b : Addr) (dd : Option Addr) (es2 : Array (Int × Value)) (ep2 : Nat) (tb2 : SetTable) (sl : Array (Option Value)) (hb : h.get? b = some ⟨.type "set", dd, .set es2 ep2 tb2, sl⟩) :
    wpAny (model PySem.Challenge.rw_nq0073_01.prog w) (AX l) (PySem.call (.builtin "str.__gt__") [.str x t, .ref b]) (Kept ⟨h, #[], d, tk, os⟩ fun v _ => v = .notImplemented) (fun _ _ => False) ⟨h, #[], d, tk, os⟩ := by x_run
theorem ni_str_set_ge (w : World) (h : Heap) (d : Drawn) (tk : Nat) (os : OsState) (l : List Env) (x : Str) (t : Tok) (b : Addr) (dd : Option Addr) (es2 : Array (Int × Value)) (ep2 : Nat) (tb2 : SetTable) (sl : Array (Option Value)) (hb : h.get? b = some ⟨.type "set", dd, .set es2 ep2 tb2, sl⟩) :
    wpAny (model PySem.Challenge.rw_nq0073_01.prog w) (AX l) (PySem.call (.builtin "str.__ge__") [.str x t, .ref b]) (Kept ⟨h, #[], d, tk, os⟩ fun v _ => v = .notImplemented) (fun _ _ => False) ⟨h, #[], d, tk, os⟩ := by x_run
theorem ni_str_none_lt (w : World) (h : Heap) (d : Drawn) (tk : Nat) (os : OsState) (l : List Env) (x : Str) (t : Tok)  :
    wpAny (model PySem.Challenge.rw_nq0073_01.prog w) (AX l) (PySem.call (.builtin "str.__lt__") [.str x t, .none]) (Kept ⟨h, #[], d, tk, os⟩ fun v _ => v = .notImplemented) (fun _ _ => False) ⟨h, #[], d, tk, os⟩ := by x_run
theorem ni_str_none_le (w : World) (h : Heap) (d : Drawn) (tk : Nat) (os : OsState) (l : List Env) (x : Str) (t : Tok)  :
    wpAny (model PySem.Challenge.rw_nq0073_01.prog w) (AX l) (PySem.call (.builtin "str.__le__") [.str x t, .none]) (Kept ⟨h, #[], d, tk, os⟩ fun v _ => v = .notImplemented) (fun _ _ => False) ⟨h, #[], d, tk, os⟩ := by x_run
theorem ni_str_none_gt (w : World) (h : Heap) (d : Drawn) (tk : Nat) (os : OsState) (l : List Env) (x : Str) (t : Tok)  :
    wpAny (model PySem.Challenge.rw_nq0073_01.prog w) (AX l) (PySem.call (.builtin "str.__gt__") [.str x t, .none]) (Kept ⟨h, #[], d, tk, os⟩ fun v _ => v = .notImplemented) (fun _ _ => False) ⟨h, #[], d, tk, os⟩ := by x_run
theorem ni_str_none_ge (w : World) (h : Heap) (d : Drawn) (tk : Nat) (os : OsState) (l : List Env) (x : Str) (t : Tok)  :
    wpAny (model PySem.Challenge.rw_nq0073_01.prog w) (AX l) (PySem.call (.builtin "str.__ge__") [.str x t, .none]) (Kept ⟨h, #[], d, tk, os⟩ fun v _ => v = .notImplemented) (fun _ _ => False) ⟨h, #[], d, tk, os⟩ := by x_run
theorem ni_str_key_lt (w : World) (h : Heap) (d : Drawn) (tk : Nat) (os : OsState) (l : List Env) (x : Str) (t : Tok) (b C N : Addr) (dd dd2 : Option Addr) (sl sl2 : Array (Option Value)) (nm qn : Str) (bs sb : List Value) (hd : Bool) (sn : List Str) (ab : Bool) (co : Option Bool) (dl : Bool) (hb : h.get? b = some ⟨.ref C, dd, .plain, sl⟩) (hC : h.get? C = some ⟨.type "type", dd2, .cls ⟨nm, bs, [.ref C, .type "object"], N, qn, hd, sn, sb, ab, co, dl⟩, sl2⟩) :
    wpAny (model PySem.Challenge.rw_nq0073_01.prog w) (AX l) (PySem.call (.builtin "str.__lt__") [.str x t, .ref b]) (Kept ⟨h, #[], d, tk, os⟩ fun v _ => v = .notImplemented) (fun _ _ => False) ⟨h, #[], d, tk, os⟩ := by x_run
theorem ni_str_key_le (w : World) (h : Heap) (d : Drawn) (tk : Nat) (os : OsState) (l : List Env) (x : Str) (t : Tok) (b C N : Addr) (dd dd2 : Option Addr) (sl sl2 : Array (Option Value)) (nm qn : Str) (bs sb : List Value) (hd : Bool) (sn : List Str) (ab : Bool) (co : Option Bool) (dl : Bool) (hb : h.get? b = some ⟨.ref C, dd, .plain, sl⟩) (hC : h.get? C = some ⟨.type "type", dd2, .cls ⟨nm, bs, [.ref C, .type "object"], N, qn, hd, sn, sb, ab, co, dl⟩, sl2⟩) :
    wpAny (model PySem.Challenge.rw_nq0073_01.prog w) (AX l) (PySem.call (.builtin "str.__le__") [.str x t, .ref b]) (Kept ⟨h, #[], d, tk, os⟩ fun v _ => v = .notImplemented) (fun _ _ => False) ⟨h, #[], d, tk, os⟩ := by x_run
theorem ni_str_key_gt (w : World) (h : Heap) (d : Drawn) (tk : Nat) (os : OsState) (l : List Env) (x : Str) (t : Tok) (b C N : Addr) (dd dd2 : Option Addr) (sl sl2 : Array (Option Value)) (nm qn : Str) (bs sb : List Value) (hd : Bool) (sn : List Str) (ab : Bool) (co : Option Bool) (dl : Bool) (hb : h.get? b = some ⟨.ref C, dd, .plain, sl⟩) (hC : h.get? C = some ⟨.type "type", dd2, .cls ⟨nm, bs, [.ref C, .type "object"], N, qn, hd, sn, sb, ab, co, dl⟩, sl2⟩) :
    wpAny (model PySem.Challenge.rw_nq0073_01.prog w) (AX l) (PySem.call (.builtin "str.__gt__") [.str x t, .ref b]) (Kept ⟨h, #[], d, tk, os⟩ fun v _ => v = .notImplemented) (fun _ _ => False) ⟨h, #[], d, tk, os⟩ := by x_run
theorem ni_str_key_ge (w : World) (h : Heap) (d : Drawn) (tk : Nat) (os : OsState) (l : List Env) (x : Str) (t : Tok) (b C N : Addr) (dd dd2 : Option Addr) (sl sl2 : Array (Option Value)) (nm qn : Str) (bs sb : List Value) (hd : Bool) (sn : List Str) (ab : Bool) (co : Option Bool) (dl : Bool) (hb : h.get? b = some ⟨.ref C, dd, .plain, sl⟩) (hC : h.get? C = some ⟨.type "type", dd2, .cls ⟨nm, bs, [.ref C, .type "object"], N, qn, hd, sn, sb, ab, co, dl⟩, sl2⟩) :
    wpAny (model PySem.Challenge.rw_nq0073_01.prog w) (AX l) (PySem.call (.builtin "str.__ge__") [.str x t, .ref b]) (Kept ⟨h, #[], d, tk, os⟩ fun v _ => v = .notImplemented) (fun _ _ => False) ⟨h, #[], d, tk, os⟩ := by x_run
theorem ni_str_q_lt (w : World) (h : Heap) (d : Drawn) (tk : Nat) (os : OsState) (l : List Env) (x : Str) (t : Tok) (b : Addr) (dd : Option Addr) (sl : Array (Option Value)) (hb : h.get? b = some ⟨.ref 179, dd, .plain, sl⟩) (KX : (KK w.params).In h) :
    wpAny (model PySem.Challenge.rw_nq0073_01.prog w) (AX l) (PySem.call (.builtin "str.__lt__") [.str x t, .ref b]) (Kept ⟨h, #[], d, tk, os⟩ fun v _ => v = .notImplemented) (fun _ _ => False) ⟨h, #[], d, tk, os⟩ := by x_run
theorem ni_str_q_le (w : World) (h : Heap) (d : Drawn) (tk : Nat) (os : OsState) (l : List Env) (x : Str) (t : Tok) (b : Addr) (dd : Option Addr) (sl : Array (Option Value)) (hb : h.get? b = some ⟨.ref 179, dd, .plain, sl⟩) (KX : (KK w.params).In h) :
    wpAny (model PySem.Challenge.rw_nq0073_01.prog w) (AX l) (PySem.call (.builtin "str.__le__") [.str x t, .ref b]) (Kept ⟨h, #[], d, tk, os⟩ fun v _ => v = .notImplemented) (fun _ _ => False) ⟨h, #[], d, tk, os⟩ := by x_run
theorem ni_str_q_gt (w : World) (h : Heap) (d : Drawn) (tk : Nat) (os : OsState) (l : List Env) (x : Str) (t : Tok) (b : Addr) (dd : Option Addr) (sl : Array (Option Value)) (hb : h.get? b = some ⟨.ref 179, dd, .plain, sl⟩) (KX : (KK w.params).In h) :
    wpAny (model PySem.Challenge.rw_nq0073_01.prog w) (AX l) (PySem.call (.builtin "str.__gt__") [.str x t, .ref b]) (Kept ⟨h, #[], d, tk, os⟩ fun v _ => v = .notImplemented) (fun _ _ => False) ⟨h, #[], d, tk, os⟩ := by x_run
theorem ni_str_q_ge (w : World) (h : Heap) (d : Drawn) (tk : Nat) (os : OsState) (l : List Env) (x : Str) (t : Tok) (b : Addr) (dd : Option Addr) (sl : Array (Option Value)) (hb : h.get? b = some ⟨.ref 179, dd, .plain, sl⟩) (KX : (KK w.params).In h) :
    wpAny (model PySem.Challenge.rw_nq0073_01.prog w) (AX l) (PySem.call (.builtin "str.__ge__") [.str x t, .ref b]) (Kept ⟨h, #[], d, tk, os⟩ fun v _ => v = .notImplemented) (fun _ _ => False) ⟨h, #[], d, tk, os⟩ := by x_run
theorem ni_set_int_lt (w : World) (h : Heap) (d : Drawn) (tk : Nat) (os : OsState) (l : List Env) (a : Addr) (es : Array (Int × Value)) (ep : Nat) (tb : SetTable) (ha : h.get? a = some ⟨.type "set", none, .set es ep tb, #[]⟩) (y2 : Int) (t2 : Tok) :
    wpAny (model PySem.Challenge.rw_nq0073_01.prog w) (AX l) (PySem.call (.builtin "set.__lt__") [.ref a, .int y2 t2]) (Kept ⟨h, #[], d, tk, os⟩ fun v _ => v = .notImplemented) (fun _ _ => False) ⟨h, #[], d, tk, os⟩ := by x_run
theorem ni_set_int_le (w : World) (h : Heap) (d : Drawn) (tk : Nat) (os : OsState) (l : List Env) (a : Addr) (es : Array (Int × Value)) (ep : Nat) (tb : SetTable) (ha : h.get? a = some ⟨.type "set", none, .set es ep tb, #[]⟩) (y2 : Int) (t2 : Tok) :
    wpAny (model PySem.Challenge.rw_nq0073_01.prog w) (AX l) (PySem.call (.builtin "set.__le__") [.ref a, .int y2 t2]) (Kept ⟨h, #[], d, tk, os⟩ fun v _ => v = .notImplemented) (fun _ _ => False) ⟨h, #[], d, tk, os⟩ := by x_run
theorem ni_set_int_gt (w : World) (h : Heap) (d : Drawn) (tk : Nat) (os : OsState) (l : List Env) (a : Addr) (es : Array (Int × Value)) (ep : Nat) (tb : SetTable) (ha : h.get? a = some ⟨.type "set", none, .set es ep tb, #[]⟩) (y2 : Int) (t2 : Tok) :
    wpAny (model PySem.Challenge.rw_nq0073_01.prog w) (AX l) (PySem.call (.builtin "set.__gt__") [.ref a, .int y2 t2]) (Kept ⟨h, #[], d, tk, os⟩ fun v _ => v = .notImplemented) (fun _ _ => False) ⟨h, #[], d, tk, os⟩ := by x_run
theorem ni_set_int_ge (w : World) (h : Heap) (d : Drawn) (tk : Nat) (os : OsState) (l : List Env) (a : Addr) (es : Array (Int × Value)) (ep : Nat) (tb : SetTable) (ha : h.get? a = some ⟨.type "set", none, .set es ep tb, #[]⟩) (y2 : Int) (t2 : Tok) :
    wpAny (model PySem.Challenge.rw_nq0073_01.prog w) (AX l) (PySem.call (.builtin "set.__ge__") [.ref a, .int y2 t2]) (Kept ⟨h, #[], d, tk, os⟩ fun v _ => v = .notImplemented) (fun _ _ => False) ⟨h, #[], d, tk, os⟩ := by x_run
theorem ni_set_str_lt (w : World) (h : Heap) (d : Drawn) (tk : Nat) (os : OsState) (l : List Env) (a : Addr) (es : Array (Int × Value)) (ep : Nat) (tb : SetTable) (ha : h.get? a = some ⟨.type "set", none, .set es ep tb, #[]⟩) (x2 : Str) (t2 : Tok) :
    wpAny (model PySem.Challenge.rw_nq0073_01.prog w) (AX l) (PySem.call (.builtin "set.__lt__") [.ref a, .str x2 t2]) (Kept ⟨h, #[], d, tk, os⟩ fun v _ => v = .notImplemented) (fun _ _ => False) ⟨h, #[], d, tk, os⟩ := by x_run
theorem ni_set_str_le (w : World) (h : Heap) (d : Drawn) (tk : Nat) (os : OsState) (l : List Env) (a : Addr) (es : Array (Int × Value)) (ep : Nat) (tb : SetTable) (ha : h.get? a = some ⟨.type "set", none, .set es ep tb, #[]⟩) (x2 : Str) (t2 : Tok) :
    wpAny (model PySem.Challenge.rw_nq0073_01.prog w) (AX l) (PySem.call (.builtin "set.__le__") [.ref a, .str x2 t2]) (Kept ⟨h, #[], d, tk, os⟩ fun v _ => v = .notImplemented) (fun _ _ => False) ⟨h, #[], d, tk, os⟩ := by x_run
theorem ni_set_str_gt (w : World) (h : Heap) (d : Drawn) (tk : Nat) (os : OsState) (l : List Env) (a : Addr) (es : Array (Int × Value)) (ep : Nat) (tb : SetTable) (ha : h.get? a = some ⟨.type "set", none, .set es ep tb, #[]⟩) (x2 : Str) (t2 : Tok) :
    wpAny (model PySem.Challenge.rw_nq0073_01.prog w) (AX l) (PySem.call (.builtin "set.__gt__") [.ref a, .str x2 t2]) (Kept ⟨h, #[], d, tk, os⟩ fun v _ => v = .notImplemented) (fun _ _ => False) ⟨h, #[], d, tk, os⟩ := by x_run
theorem ni_set_str_ge (w : World) (h : Heap) (d : Drawn) (tk : Nat) (os : OsState) (l : List Env) (a : Addr) (es : Array (Int × Value)) (ep : Nat) (tb : SetTable) (ha : h.get? a = some ⟨.type "set", none, .set es ep tb, #[]⟩) (x2 : Str) (t2 : Tok) :
    wpAny (model PySem.Challenge.rw_nq0073_01.prog w) (AX l) (PySem.call (.builtin "set.__ge__") [.ref a, .str x2 t2]) (Kept ⟨h, #[], d, tk, os⟩ fun v _ => v = .notImplemented) (fun _ _ => False) ⟨h, #[], d, tk, os⟩ := by x_run
theorem ni_set_none_lt (w : World) (h : Heap) (d : Drawn) (tk : Nat) (os : OsState) (l : List Env) (a : Addr) (es : Array (Int × Value)) (ep : Nat) (tb : SetTable) (ha : h.get? a = some ⟨.type "set", none, .set es ep tb, #[]⟩)  :
    wpAny (model PySem.Challenge.rw_nq0073_01.prog w) (AX l) (PySem.call (.builtin "set.__lt__") [.ref a, .none]) (Kept ⟨h, #[], d, tk, os⟩ fun v _ => v = .notImplemented) (fun _ _ => False) ⟨h, #[], d, tk, os⟩ := by x_run
theorem ni_set_none_le (w : World) (h : Heap) (d : Drawn) (tk : Nat) (os : OsState) (l : List Env) (a : Addr) (es : Array (Int × Value)) (ep : Nat) (tb : SetTable) (ha : h.get? a = some ⟨.type "set", none, .set es ep tb, #[]⟩)  :
    wpAny (model PySem.Challenge.rw_nq0073_01.prog w) (AX l) (PySem.call (.builtin "set.__le__") [.ref a, .none]) (Kept ⟨h, #[], d, tk, os⟩ fun v _ => v = .notImplemented) (fun _ _ => False) ⟨h, #[], d, tk, os⟩ := by x_run
theorem ni_set_none_gt (w : World) (h : Heap) (d : Drawn) (tk : Nat) (os : OsState) (l : List Env) (a : Addr) (es : Array (Int × Value)) (ep : Nat) (tb : SetTable) (ha : h.get? a = some ⟨.type "set", none, .set es ep tb, #[]⟩)  :
    wpAny (model PySem.Challenge.rw_nq0073_01.prog w) (AX l) (PySem.call (.builtin "set.__gt__") [.ref a, .none]) (Kept ⟨h, #[], d, tk, os⟩ fun v _ => v = .notImplemented) (fun _ _ => False) ⟨h, #[], d, tk, os⟩ := by x_run
theorem ni_set_none_ge (w : World) (h : Heap) (d : Drawn) (tk : Nat) (os : OsState) (l : List Env) (a : Addr) (es : Array (Int × Value)) (ep : Nat) (tb : SetTable) (ha : h.get? a = some ⟨.type "set", none, .set es ep tb, #[]⟩)  :
    wpAny (model PySem.Challenge.rw_nq0073_01.prog w) (AX l) (PySem.call (.builtin "set.__ge__") [.ref a, .none]) (Kept ⟨h, #[], d, tk, os⟩ fun v _ => v = .notImplemented) (fun _ _ => False) ⟨h, #[], d, tk, os⟩ := by x_run
theorem ni_set_key_lt (w : World) (h : Heap) (d : Drawn) (tk : Nat) (os : OsState) (l : List Env) (a : Addr) (es : Array (Int × Value)) (ep : Nat) (tb : SetTable) (ha : h.get? a = some ⟨.type "set", none, .set es ep tb, #[]⟩) (b C N : Addr) (dd dd2 : Option Addr) (sl sl2 : Array (Option Value)) (nm qn : Str) (bs sb : List Value) (hd : Bool) (sn : List Str) (ab : Bool) (co : Option Bool) (dl : Bool) (hb : h.get? b = some ⟨.ref C, dd, .plain, sl⟩) (hC : h.get? C = some ⟨.type "type", dd2, .cls ⟨nm, bs, [.ref C, .type "object"], N, qn, hd, sn, sb, ab, co, dl⟩, sl2⟩) :
    wpAny (model PySem.Challenge.rw_nq0073_01.prog w) (AX l) (PySem.call (.builtin "set.__lt__") [.ref a, .ref b]) (Kept ⟨h, #[], d, tk, os⟩ fun v _ => v = .notImplemented) (fun _ _ => False) ⟨h, #[], d, tk, os⟩ := by x_run
theorem ni_set_key_le (w : World) (h : Heap) (d : Drawn) (tk : Nat) (os : OsState) (l : List Env) (a : Addr) (es : Array (Int × Value)) (ep : Nat) (tb : SetTable) (ha : h.get? a = some ⟨.type "set", none, .set es ep tb, #[]⟩) (b C N : Addr) (dd dd2 : Option Addr) (sl sl2 : Array (Option Value)) (nm qn : Str) (bs sb : List Value) (hd : Bool) (sn : List Str) (ab : Bool) (co : Option Bool) (dl : Bool) (hb : h.get? b = some ⟨.ref C, dd, .plain, sl⟩) (hC : h.get? C = some ⟨.type "type", dd2, .cls ⟨nm, bs, [.ref C, .type "object"], N, qn, hd, sn, sb, ab, co, dl⟩, sl2⟩) :
    wpAny (model PySem.Challenge.rw_nq0073_01.prog w) (AX l) (PySem.call (.builtin "set.__le__") [.ref a, .ref b]) (Kept ⟨h, #[], d, tk, os⟩ fun v _ => v = .notImplemented) (fun _ _ => False) ⟨h, #[], d, tk, os⟩ := by x_run
theorem ni_set_key_gt (w : World) (h : Heap) (d : Drawn) (tk : Nat) (os : OsState) (l : List Env) (a : Addr) (es : Array (Int × Value)) (ep : Nat) (tb : SetTable) (ha : h.get? a = some ⟨.type "set", none, .set es ep tb, #[]⟩) (b C N : Addr) (dd dd2 : Option Addr) (sl sl2 : Array (Option Value)) (nm qn : Str) (bs sb : List Value) (hd : Bool) (sn : List Str) (ab : Bool) (co : Option Bool) (dl : Bool) (hb : h.get? b = some ⟨.ref C, dd, .plain, sl⟩) (hC : h.get? C = some ⟨.type "type", dd2, .cls ⟨nm, bs, [.ref C, .type "object"], N, qn, hd, sn, sb, ab, co, dl⟩, sl2⟩) :
    wpAny (model PySem.Challenge.rw_nq0073_01.prog w) (AX l) (PySem.call (.builtin "set.__gt__") [.ref a, .ref b]) (Kept ⟨h, #[], d, tk, os⟩ fun v _ => v = .notImplemented) (fun _ _ => False) ⟨h, #[], d, tk, os⟩ := by x_run
theorem ni_set_key_ge (w : World) (h : Heap) (d : Drawn) (tk : Nat) (os : OsState) (l : List Env) (a : Addr) (es : Array (Int × Value)) (ep : Nat) (tb : SetTable) (ha : h.get? a = some ⟨.type "set", none, .set es ep tb, #[]⟩) (b C N : Addr) (dd dd2 : Option Addr) (sl sl2 : Array (Option Value)) (nm qn : Str) (bs sb : List Value) (hd : Bool) (sn : List Str) (ab : Bool) (co : Option Bool) (dl : Bool) (hb : h.get? b = some ⟨.ref C, dd, .plain, sl⟩) (hC : h.get? C = some ⟨.type "type", dd2, .cls ⟨nm, bs, [.ref C, .type "object"], N, qn, hd, sn, sb, ab, co, dl⟩, sl2⟩) :
    wpAny (model PySem.Challenge.rw_nq0073_01.prog w) (AX l) (PySem.call (.builtin "set.__ge__") [.ref a, .ref b]) (Kept ⟨h, #[], d, tk, os⟩ fun v _ => v = .notImplemented) (fun _ _ => False) ⟨h, #[], d, tk, os⟩ := by x_run
theorem ni_set_q_lt (w : World) (h : Heap) (d : Drawn) (tk : Nat) (os : OsState) (l : List Env) (a : Addr) (es : Array (Int × Value)) (ep : Nat) (tb : SetTable) (ha : h.get? a = some ⟨.type "set", none, .set es ep tb, #[]⟩) (b : Addr) (dd : Option Addr) (sl : Array (Option Value)) (hb : h.get? b = some ⟨.ref 179, dd, .plain, sl⟩) (KX : (KK w.params).In h) :
    wpAny (model PySem.Challenge.rw_nq0073_01.prog w) (AX l) (PySem.call (.builtin "set.__lt__") [.ref a, .ref b]) (Kept ⟨h, #[], d, tk, os⟩ fun v _ => v = .notImplemented) (fun _ _ => False) ⟨h, #[], d, tk, os⟩ := by x_run
theorem ni_set_q_le (w : World) (h : Heap) (d : Drawn) (tk : Nat) (os : OsState) (l : List Env) (a : Addr) (es : Array (Int × Value)) (ep : Nat) (tb : SetTable) (ha : h.get? a = some ⟨.type "set", none, .set es ep tb, #[]⟩) (b : Addr) (dd : Option Addr) (sl : Array (Option Value)) (hb : h.get? b = some ⟨.ref 179, dd, .plain, sl⟩) (KX : (KK w.params).In h) :
    wpAny (model PySem.Challenge.rw_nq0073_01.prog w) (AX l) (PySem.call (.builtin "set.__le__") [.ref a, .ref b]) (Kept ⟨h, #[], d, tk, os⟩ fun v _ => v = .notImplemented) (fun _ _ => False) ⟨h, #[], d, tk, os⟩ := by x_run
theorem ni_set_q_gt (w : World) (h : Heap) (d : Drawn) (tk : Nat) (os : OsState) (l : List Env) (a : Addr) (es : Array (Int × Value)) (ep : Nat) (tb : SetTable) (ha : h.get? a = some ⟨.type "set", none, .set es ep tb, #[]⟩) (b : Addr) (dd : Option Addr) (sl : Array (Option Value)) (hb : h.get? b = some ⟨.ref 179, dd, .plain, sl⟩) (KX : (KK w.params).In h) :
    wpAny (model PySem.Challenge.rw_nq0073_01.prog w) (AX l) (PySem.call (.builtin "set.__gt__") [.ref a, .ref b]) (Kept ⟨h, #[], d, tk, os⟩ fun v _ => v = .notImplemented) (fun _ _ => False) ⟨h, #[], d, tk, os⟩ := by x_run
theorem ni_set_q_ge (w : World) (h : Heap) (d : Drawn) (tk : Nat) (os : OsState) (l : List Env) (a : Addr) (es : Array (Int × Value)) (ep : Nat) (tb : SetTable) (ha : h.get? a = some ⟨.type "set", none, .set es ep tb, #[]⟩) (b : Addr) (dd : Option Addr) (sl : Array (Option Value)) (hb : h.get? b = some ⟨.ref 179, dd, .plain, sl⟩) (KX : (KK w.params).In h) :
    wpAny (model PySem.Challenge.rw_nq0073_01.prog w) (AX l) (PySem.call (.builtin "set.__ge__") [.ref a, .ref b]) (Kept ⟨h, #[], d, tk, os⟩ fun v _ => v = .notImplemented) (fun _ _ => False) ⟨h, #[], d, tk, os⟩ := by x_run
theorem ni_none_lt (w : World) (h : Heap) (d : Drawn) (tk : Nat) (os : OsState) (l : List Env) (u : Value) :
    wpAny (model PySem.Challenge.rw_nq0073_01.prog w) (AX l) (PySem.call (.builtin "NoneType.__lt__") [.none, u]) (Kept ⟨h, #[], d, tk, os⟩ fun v _ => v = .notImplemented) (fun _ _ => False) ⟨h, #[], d, tk, os⟩ := by x_run
theorem ni_none_le (w : World) (h : Heap) (d : Drawn) (tk : Nat) (os : OsState) (l : List Env) (u : Value) :
    wpAny (model PySem.Challenge.rw_nq0073_01.prog w) (AX l) (PySem.call (.builtin "NoneType.__le__") [.none, u]) (Kept ⟨h, #[], d, tk, os⟩ fun v _ => v = .notImplemented) (fun _ _ => False) ⟨h, #[], d, tk, os⟩ := by x_run
theorem ni_none_gt (w : World) (h : Heap) (d : Drawn) (tk : Nat) (os : OsState) (l : List Env) (u : Value) :
    wpAny (model PySem.Challenge.rw_nq0073_01.prog w) (AX l) (PySem.call (.builtin "NoneType.__gt__") [.none, u]) (Kept ⟨h, #[], d, tk, os⟩ fun v _ => v = .notImplemented) (fun _ _ => False) ⟨h, #[], d, tk, os⟩ := by x_run
theorem ni_none_ge (w : World) (h : Heap) (d : Drawn) (tk : Nat) (os : OsState) (l : List Env) (u : Value) :
    wpAny (model PySem.Challenge.rw_nq0073_01.prog w) (AX l) (PySem.call (.builtin "NoneType.__ge__") [.none, u]) (Kept ⟨h, #[], d, tk, os⟩ fun v _ => v = .notImplemented) (fun _ _ => False) ⟨h, #[], d, tk, os⟩ := by x_run
theorem isi_int (w : World) (h : Heap) (d : Drawn) (tk : Nat) (os : OsState) (l : List Env) (y : Int) (t : Tok) (KX : (KK w.params).In h) :
    wpAny (model PySem.Challenge.rw_nq0073_01.prog w) (AX l) (PySem.call (.builtin "isinstance") [.int y t, .ref 179]) (Kept ⟨h, #[], d, tk, os⟩ fun v _ => v = .bool false) (fun _ _ => False) ⟨h, #[], d, tk, os⟩ := by x_run
theorem isi_str (w : World) (h : Heap) (d : Drawn) (tk : Nat) (os : OsState) (l : List Env) (x : Str) (t : Tok) (KX : (KK w.params).In h) :
    wpAny (model PySem.Challenge.rw_nq0073_01.prog w) (AX l) (PySem.call (.builtin "isinstance") [.str x t, .ref 179]) (Kept ⟨h, #[], d, tk, os⟩ fun v _ => v = .bool false) (fun _ _ => False) ⟨h, #[], d, tk, os⟩ := by x_run
theorem isi_none (w : World) (h : Heap) (d : Drawn) (tk : Nat) (os : OsState) (l : List Env)  (KX : (KK w.params).In h) :
    wpAny (model PySem.Challenge.rw_nq0073_01.prog w) (AX l) (PySem.call (.builtin "isinstance") [.none, .ref 179]) (Kept ⟨h, #[], d, tk, os⟩ fun v _ => v = .bool false) (fun _ _ => False) ⟨h, #[], d, tk, os⟩ := by x_run
theorem isi_set (w : World) (h : Heap) (d : Drawn) (tk : Nat) (os : OsState) (l : List Env) (b : Addr) (dd : Option Addr) (es2 : Array (Int × Value)) (ep2 : Nat) (tb2 : SetTable) (sl : Array (Option Value)) (hb : h.get? b = some ⟨.type "set", dd, .set es2 ep2 tb2, sl⟩) (KX : (KK w.params).In h) :
    wpAny (model PySem.Challenge.rw_nq0073_01.prog w) (AX l) (PySem.call (.builtin "isinstance") [.ref b, .ref 179]) (Kept ⟨h, #[], d, tk, os⟩ fun v _ => v = .bool false) (fun _ _ => False) ⟨h, #[], d, tk, os⟩ := by x_run
theorem isi_q (w : World) (h : Heap) (d : Drawn) (tk : Nat) (os : OsState) (l : List Env) (b : Addr) (dd : Option Addr) (sl : Array (Option Value)) (hb : h.get? b = some ⟨.ref 179, dd, .plain, sl⟩) (KX : (KK w.params).In h) :
    wpAny (model PySem.Challenge.rw_nq0073_01.prog w) (AX l) (PySem.call (.builtin "isinstance") [.ref b, .ref 179]) (Kept ⟨h, #[], d, tk, os⟩ fun v _ => v = .bool true) (fun _ _ => False) ⟨h, #[], d, tk, os⟩ := by x_run
end Mine
end
section
open PySem PySem.W PySem.W.X PyProof.Rows PySem.Calls PySem.Spec
namespace Mine
set_option maxRecDepth 100000
section
variable {w : World} {A : Around} {B : Heap} {l : List Env} {n : Nat} {s : Shared}
theorem Sit.same {env : Env} {h' : Heap} {tk : Nat} {m' : Str → Option Value} (S : Sit B (env :: l) s) (hf : env.frame = some env.locals) (hn : h'.Ns env.locals m') (hs : Heap.SameBut env.locals s.heap h') : Wf B (env :: l) env.locals s { s with heap := h', toks := tk } := by
  have hB : B.get? env.locals = none := (S.frames.mem (b := env.locals) (by rw [List.filterMap_cons, hf]; exact List.mem_cons_self)).1
  refine ⟨⟨fun b o e => (hs.2 b (fun q => by rw [q, hB] at e; cases e)).trans (S.stays b o e), frames_but hs.2 ?_ S.frames, S.gens⟩, fun b o ne e _ => ⟨o.slots, (hs.2 b ne).trans e⟩, rfl⟩
  obtain ⟨o', es, ep, ho', hd', _⟩ := hn
  exact ⟨o', ho', fun vs q => by rw [hd'] at q; cases q⟩
/-- an exception noted in the frame that holds the try, and laid down -/
theorem note_exc {env : Env} {L : Addr} {cls : String} {msg : Option Str} {e : Value} {E : Value → Shared → Prop} {Q : Shared → Prop} (hfr : A.frames = some (env :: l)) (hf : env.frame = some L) (S : Sit B (env :: l) s) (x : Exc B cls msg e s.heap)
    (h : ∀ h' a a0, e = .ref a → Sit B (env :: l) { s with heap := h' } → s.heap.UpToSlots h' → h'.TracedW B a (.type cls) a0 → (∀ m, msg = some m → ∃ t tk, a0 = .ref t ∧ h'.TupAt t [.str m tk]) → Q { s with heap := h' }) :
    wpAny (M0 w) A (noteFrame e env) (fun _ s₂ => wpAny (M0 w) A (setFlight e none) (fun _ s₃ => Q s₃) E s₂) E s := by
  obtain ⟨a, a0, rfl, hBa, hm, x⟩ := x
  have fin : ∀ h', Heap.NotedW B (env :: l) a (.type cls) a0 (rawInt L) s.heap h' → wpAny (M0 w) A (setFlight (.ref a) none) (fun _ s₃ => Q s₃) E { s with heap := h' } := fun h' hN => by
    obtain ⟨k1, k2, k3, k4⟩ := hN
    refine wpAny_setFlight_noneW k1 k2 k3 fun h'' j1 j2 j3 j4 => ?_
    have up : s.heap.UpToSlots h'' := Heap.UpToSlots.trans k4 fun b o e hn => ⟨o.slots, j4 b o e hn⟩
    exact h h'' a a0 rfl ⟨j1, j2, S.gens⟩ up j3 fun m e => let ⟨t, tk, ha, ht⟩ := hm m e; ⟨t, tk, ha, ht.of_slots up⟩
  rcases x with ⟨oe, vs, he, hc, hd, h1, h0⟩ | x
  · rw [← hc] at fin
    unfold noteFrame
    simp only [hf]
    refine wpAny_bind (wpAny_field he hd h1 ?_)
    rw [if_neg (by decide)]
    exact wpAny_entryW hfr S.frames hf he S.stays hBa hd (Array.getElem?_eq_some_iff.mp h1).1 h0 fin
  · exact wpAny_noteFrame_onW hfr S.frames hf x S.stays hBa fin
def SaidOk (r : Res) (v : Value) : Prop := match r with
  | .bool b => v = .bool b
  | .ni => ∃ tk, v = .str (Str.ofString "handed on") tk
  | .at_ => ∃ tk, v = .str (Str.ofString "no key") tk
  | .ty m => ∃ tk, v = .str m tk
def sscope : Scope := { kind := .function, names := [("made", .local), ("left", .local), ("right", .local), ("said", .local), ("refused", .local), ("AttributeError", .globalImplicit), ("TypeError", .globalImplicit), ("str", .globalImplicit), ("NotImplemented", .globalImplicit)], isGenerator := false, isCoroutine := false, more := [] }
theorem sub_Ty_At : isSubtype (.type "TypeError") (.type "AttributeError") = pure false := by rw [isSubtype_type]; kernel_rfl
theorem sub_Ty_Ty : isSubtype (.type "TypeError") (.type "TypeError") = pure true := by rw [isSubtype_type]; kernel_rfl
theorem sub_At_BE : isSubtype (.type "AttributeError") (.type "BaseException") = pure true := by rw [isSubtype_type]; kernel_rfl
theorem sub_Ty_BE : isSubtype (.type "TypeError") (.type "BaseException") = pure true := by rw [isSubtype_type]; kernel_rfl
theorem sub_At_nt : isSubtype (.type ((Manifest.find? "AttributeError").elim "type" fun x => x.metatype)) (.type "tuple") = pure false := by
  rw [show ((Manifest.find? "AttributeError").elim "type" fun x => x.metatype) = "type" from by decide +kernel, isSubtype_type]; kernel_rfl
theorem sub_Ty_nt : isSubtype (.type ((Manifest.find? "TypeError").elim "type" fun x => x.metatype)) (.type "tuple") = pure false := by
  rw [show ((Manifest.find? "TypeError").elim "type" fun x => x.metatype) = "type" from by decide +kernel, isSubtype_type]; kernel_rfl

theorem said_gen {a : Addr} {o : Obj} {fd : FuncData} {p0 p1 p2 p3 p4 p5 p6 p7 p8 p9 p10 p11 p12 p13 p14 p15 p16 p17 p18 p19 p20 p21 p22 p23 : Pos} {k1 k2 : Nat}
    (hl : ∀ P, (KK P).lookup a = some o) (hd : o.data = .func fd)
    (hb : fd.body = .stmts [.Try [.Assign [.Name "said" p0] (.Call (.Name "made" p1) [.Name "left" p2, .Name "right" p3] [] p4) p5]
        [.ExceptHandler (some (.Name "AttributeError" p6)) none [.Return (some (.Constant (.str "no key") k1 p7)) p8] p9,
         .ExceptHandler (some (.Name "TypeError" p10)) (some "refused") [.Return (some (.Call (.Name "str" p11) [.Name "refused" p12] [] p13)) p14] p15] [] [] p16,
      .Return (some (.IfExp (.Compare (.Name "said" p17) [.Is] [.Name "NotImplemented" p18] p19) (.Constant (.str "handed on") k2 p20) (.Name "said" p21) p22)) p23])
    (hsc : fd.scope = sscope) (hg : fd.globals = mainGlobals) (hbl : fd.builtins = builtinsNs)
    (hbind : ∀ x v u, bindArgs fd ⟨[x, v, u], []⟩ = pure [(("made" : Str), x), (("left" : Str), v), (("right" : Str), u)]) (hcd : ∀ P, codeIn (KK P) fd.code fd.qualname = true)
    (hsw : ∀ env, swapsWith (.Call (.Name "made" p1) [.Name "left" p2, .Name "right" p3] [] p4) (some (.Name "said" p0)) p5.line env = pure false)
    {r : Res} {mv lv rv : Value} (F : Facts w B) (R : Room A l n) (hn : n < 600) (S : Sit B l s) (hkp : ∃ k, (k = Keeper.frame ∨ k = Keeper.machine ∨ k = Keeper.boundFrame) ∧ Looks (M0 w) B (keeperOf mv) k)
    (H : ∀ A' l' s', Room A' l' (n + 1) → Sit B l' s' → Does w A' B l' s' (call mv [lv, rv]) r) :
    wpAny (M0 w) A (call (.ref a) [mv, lv, rv]) (fun v s' => Went B l s s' ∧ SaidOk r v) (fun _ _ => False) s := by
  have hsn : fd.scope.names = sscope.names := by rw [hsc]
  refine fn_call R hn S F.lim (F.K _ _ (hl _)) hd hb (codeRec_of F.K (hcd _)) (hbind mv lv rv) (by rw [hsc]; rfl) (by rw [hsc]; rfl) (by rw [hsc]; rfl) (by rw [hsn]; decide) (by rw [hsn]; exact locs (scope := sscope) rfl) fun L env s₁ henv S₁ ns₁ _ _ _ => ?_
  have R₁ := R.deeper env
  have hk : ∀ x, env.kindOf x = sscope.names.lookup x := fun x => by rw [henv]; show fd.scope.names.lookup x = _; rw [hsn]
  have I : InF env B l (fun x => [(("made" : Str), mv), (("left" : Str), lv), (("right" : Str), rv)].reverse.lookup x) s₁ := ⟨by rw [henv]; show fd.scope.kind = _; rw [hsc]; rfl, by rw [henv], by rw [henv]; exact hg, by rw [henv]; exact hbl, S₁, by rw [henv]; exact ns₁⟩
  have hloc : env.locals = L := by rw [henv]
  have hfrL : env.frame = some env.locals := by rw [henv]
  have hcl : (env.scope.kind == .class || (env.scope.kind == .module && env.locals != env.globals)) = false := by rw [I.kind]; rfl
  rw [← hloc]
  have ksaid : env.kindOf "said" = some .local := by rw [hk]; decide
  have kref : env.kindOf "refused" = some .local := by rw [hk]; decide
  obtain ⟨kp, hkp1, hkp2⟩ := hkp
  refine wpAny_execs_cons (wpAny_Try_except (wpAny_execs_cons (wpAny_Assign_Name (wpAny_Call_ofName (ev_loc I.kind (by rw [hk]; decide) I.ns (v := mv) rfl ?_)) (hsw env))))
  refine callWith_any (P := fun h => B.StaysIn h) (fun h e => ⟨kp, hkp1, hkp2.keeps e⟩) rfl ?_
  refine spliced_cons (ev_loc I.kind (by rw [hk]; decide) I.ns (v := lv) rfl (spliced_cons (ev_loc I.kind (by rw [hk]; decide) I.ns (v := rv) rfl (spliced_nil ⟨S₁.stays, ?_⟩))))
  refine wpAny_mono (H _ _ s₁ R₁ S₁) (fun v s₂ ⟨we, ok⟩ => ?_) fun e s₂ ⟨we, er⟩ => ?_
  · have I₂ := I.went we
    refine store_loc I.kind ksaid hfrL I₂.sit I₂.ns fun s₃ wf ns₃ => ?_
    have wf₃ : Wf B (env :: l) env.locals s₁ s₃ := we.wf.trans wf
    refine wpAny_execs_nil (wpAny_execs_nil (wpAny_execs_cons (wpAny_Return_some (wpAny_IfExp (wpAny_isTrue_Compare1 (ev_loc I.kind ksaid ns₃ (v := v) rfl (ev_bltn F wf.sit.stays I.kind I.g I.b (by rw [hk]; decide) (v := .notImplemented) (by kernel_rfl) (by kernel_rfl) ?_)))))))
    cases r with
    | bool b =>
      obtain rfl : v = .bool b := ok
      refine wpAny_is_other rfl (by intro e; cases e) (wpAny_truthy_bool ?_)
      exact ev_loc I.kind ksaid ns₃ rfl ⟨wf₃, fun we' => ⟨we', rfl⟩⟩
    | ni =>
      obtain rfl : v = .notImplemented := ok
      refine wpAny_is_self rfl (wpAny_truthy_bool ?_)
      exact Constant_str ⟨wf₃.toks _, fun we' => ⟨we', _, rfl⟩⟩
    | ty m => exact ok.elim
    | at_ => exact ok.elim
  · cases r with
    | bool b => exact er.elim
    | ni => exact er.elim
    | at_ =>
      refine note_exc (Around.frames_deeper R.frames) hfrL we.sit er fun h' x a0 he S₃ up₃ tr₃ _ => ?_
      subst he
      have wf₃ : Wf B (env :: l) env.locals s₁ { s₂ with heap := h' } := ⟨S₃, (UpBut.of we.slots).trans (.of up₃), we.os⟩
      obtain ⟨oe, vs, T, oT, ts, hge, ⟨hcls, h0⟩, hdd, hrest⟩ := id tr₃
      refine wpAny_handleBy_builtin sub_At_BE sub_At_nt (b := true) sub_AttributeError (ev_bltn F S₃.stays I.kind I.g I.b (by rw [hk]; decide) (v := .type "AttributeError") (by kernel_rfl) (by kernel_rfl) ⟨rfl, ⟨oe, hge, hcls⟩, ?_⟩)
      rw [if_pos rfl]
      refine wpAny_setFlight_noneW S₃.stays S₃.frames tr₃.at fun h'' j1 j2 j3 j4 => ?_
      have wf₄ : Wf B (env :: l) env.locals s₁ { s₂ with heap := h'' } := wf₃.trans ⟨⟨j1, j2, S₃.gens⟩, .of fun b o e hn => ⟨o.slots, j4 b o e hn⟩, rfl⟩
      exact wpAny_execs_cons (wpAny_Return_some (Constant_str ⟨wf₄.toks _, fun we' => ⟨we', _, rfl⟩⟩))
    | ty m =>
      refine note_exc (Around.frames_deeper R.frames) hfrL we.sit er fun h' x a0 he S₃ up₃ tr₃ hmsg => ?_
      subst he
      obtain ⟨t, tk, rfl, htup⟩ := hmsg m rfl
      have wf₃ : Wf B (env :: l) env.locals s₁ { s₂ with heap := h' } := ⟨S₃, (UpBut.of we.slots).trans (.of up₃), we.os⟩
      obtain ⟨oe, vs, T, oT, ts, hge, ⟨hcls, h0⟩, hdd, hrest⟩ := id tr₃
      refine wpAny_handleBy_builtin sub_At_BE sub_At_nt (b := false) sub_Ty_At (ev_bltn F S₃.stays I.kind I.g I.b (by rw [hk]; decide) (v := .type "AttributeError") (by kernel_rfl) (by kernel_rfl) ⟨rfl, ⟨oe, hge, hcls⟩, ?_⟩)
      rw [if_neg (by decide)]
      refine wpAny_handleBy_builtin_as sub_Ty_BE sub_Ty_nt (b := true) sub_Ty_Ty (ev_bltn F S₃.stays I.kind I.g I.b (by rw [hk]; decide) (v := .type "TypeError") (by kernel_rfl) (by kernel_rfl) ⟨rfl, ⟨oe, hge, hcls⟩, ?_⟩)
      rw [if_pos rfl]
      refine wpAny_setFlight_noneW S₃.stays S₃.frames tr₃.at fun h'' j1 j2 j3 j4 => ?_
      have up₄ : h'.UpToSlots h'' := fun b o e hn => ⟨o.slots, j4 b o e hn⟩
      have wf₄ : Wf B (env :: l) env.locals s₁ { s₂ with heap := h'' } := wf₃.trans ⟨⟨j1, j2, S₃.gens⟩, .of up₄, rfl⟩
      have ns₄ : h''.Ns env.locals _ := up₄.ns (up₃.ns (we.slots.ns I.ns))
      refine wpAny_storeName_local kref ns₄ (fun h₅ ns₅ hs₅ => ?_) hcl
      have wf₅ := Sit.same (tk := s₂.toks + 1) wf₄.sit hfrL ns₅ hs₅
      have wf₅' := wf₄.trans wf₅
      obtain ⟨oL, es, ep, hoL, hdL, _⟩ := id ns₄
      have tup₅ : h₅.TupAt t [.str m tk] := by
        obtain ⟨o', k, ho', hc', hd'⟩ := htup.of_slots up₄
        refine ⟨o', k, (hs₅.2 _ fun q => ?_).trans ho', hc', hd'⟩
        rw [q, hoL] at ho'
        cases ho'
        rw [hdL] at hd'
        cases hd'
      have exc₅ : h₅.ExcAt x "TypeError" (.ref t) := by
        obtain ⟨oe, vs, T, oT, ts, hge, ⟨hcls, h0⟩, hdd, hrest⟩ := id j3
        refine ⟨oe, vs, (hs₅.2 _ fun q => ?_).trans hge, hcls, hdd, h0⟩
        rw [q, hoL] at hge
        cases hge
        rw [hdL] at hdd
        cases hdd
      refine wpAny_execs_cons (wpAny_Return_some (wpAny_Call_ofName (ev_bltn F wf₅.sit.stays I.kind I.g I.b (by rw [hk]; decide) (v := .type "str") (by kernel_rfl) (by kernel_rfl) ?_)))
      refine callWith_any (P := fun _ => True) (fun h _ => keep_plain (fun a q => by cases q) h) rfl ?_
      refine spliced_cons (ev_loc I.kind kref ns₅ (v := .ref x) rfl (spliced_nil ⟨trivial, ?_⟩))
      refine P.str_of_exc_one PySem.F.excStr_TypeError (by have := R₁.units; show A.units + 3 + 2 < _; have := R.units; show _ < 9900; omega) exc₅ tup₅ ?_
      refine wpAny_nameGoes kref ns₅ hcl fun h₆ m₆ ns₆ hs₆ => ?_
      exact ⟨wf₅'.trans (Sit.same wf₅.sit hfrL ns₆ hs₆), fun we' => ⟨we', tk, rfl⟩⟩
theorem said_call {r : Res} {mv lv rv : Value} (F : Facts w B) (R : Room A l n) (hn : n < 600) (S : Sit B l s) (hkp : ∃ k, (k = Keeper.frame ∨ k = Keeper.machine ∨ k = Keeper.boundFrame) ∧ Looks (M0 w) B (keeperOf mv) k)
    (H : ∀ A' l' s', Room A' l' (n + 1) → Sit B l' s' → Does w A' B l' s' (call mv [lv, rv]) r) :
    wpAny (M0 w) A (call (.ref 202) [mv, lv, rv]) (fun v s' => Went B l s s' ∧ SaidOk r v) (fun _ _ => False) s :=
  said_gen (fun _ => rfl) rfl rfl rfl rfl rfl (fun _ _ _ => rfl) (fun _ => by kernel_rfl) (fun _ => rfl) F R hn S hkp H
end
end Mine
end
section
open PySem PySem.W PySem.W.X PyProof.Rows PySem.Calls PySem.Spec
namespace Mine
set_option maxRecDepth 100000
inductive O4 where
  | lt
  | le
  | gt
  | ge
def O4.cmp : O4 → CmpOp
  | .lt => .Lt
  | .le => .LtE
  | .gt => .Gt
  | .ge => .GtE
def O4.attr : O4 → Str
  | .lt => "__lt__"
  | .le => "__le__"
  | .gt => "__gt__"
  | .ge => "__ge__"
def O4.sym : O4 → String
  | .lt => "<"
  | .le => "<="
  | .gt => ">"
  | .ge => ">="
def O4.opp : O4 → O4
  | .lt => .gt
  | .le => .ge
  | .gt => .lt
  | .ge => .le
theorem O4.info (o : O4) : cmpInfo o.cmp = (o.sym, o.attr, o.opp.attr) := by cases o <;> rfl
theorem O4.four (o : O4) : o.cmp = .Lt ∨ o.cmp = .LtE ∨ o.cmp = .Gt ∨ o.cmp = .GtE := by cases o <;> simp [O4.cmp]
theorem O4.symlen (o : O4) : o.sym.length ≤ 2 := by cases o <;> decide
section
variable {w : World} {A : Around} {B : Heap} {l : List Env} {n : Nat} {s : Shared}
theorem gm_type {T : String} {name : Str} {v : Value} {pl : Sem Bool} {Q : Value × List Value → Shared → Prop} {E : Value → Shared → Prop} (ht : typeOf (.type T) = pure (.type "type")) (hs : Manifest.isStub T = false)
    (e : findCls [] (.type T) (.type "type") name = some (.val v)) (hh : handedIn v = true) (h : ∀ tk, Q (v, []) { s with toks := tk }) : wpAny (M0 w) A (getMethod (.type T) name pl) Q E s := by
  have X : Frag.In [] s.heap := fun a o e => nomatch e
  have hstub : opaqueClassAbove (.type T) = pure none := by unfold opaqueClassAbove; dsimp only; rw [hs]; rfl
  have L0 : Looks (M0 w) s.heap (typeOf (.type T)) (.type "type") := Looks.of_pure ht
  have hg : findIn [] (.type "type") "__getattribute__" = some (some (.builtin "type.__getattribute__")) := type_tga
  unfold getMethod specialOf
  refine wpAny_bind (wpAny_bind (L0.here ((looks_findIn X hg).here ?_)))
  dsimp only
  rw [if_pos canon_tga]
  refine wpAny_bind (wpAny_mono (Q := fun v => Q (v, [])) (E := E) ?_ (fun _ _ z => wpAny_pure z) fun _ _ z => z)
  have LO : Looks (M0 w) s.heap (opaqueClassAbove (.type T)) none := Looks.of_pure hstub
  refine cls_open X LO L0 hg (looks_hook X (r := none) (by rfl)) (by show subIn [] _ _ = _; rfl) e
    (wpAny_pure (by show wpAny _ _ (handedOut v) _ _ _; rw [handedOut_of hh]; exact wpAny_pure (h _)))

/-- what the law asks of a value's type -/
structure Ty (w : World) (B : Heap) (v tv : Value) (name : String) (meth : O4 → Value) (meq mne : Value) : Prop where
  side : Side w B v tv name
  m : ∀ o : O4, Meth w B v o.attr (meth o)
  eq : Meth w B v "__eq__" meq
  ne : Meth w B v "__ne__" mne
  tc : ∀ {A : Around} {s : Shared} (Q E : Value → Shared → Prop), B.StaysIn s.heap → Q tv s → wpAny (M0 w) A (call (.type "type") [v]) Q E s
  gm : ∀ (o : O4) {A : Around} {s : Shared} (pl : Sem Bool) (Q : Value × List Value → Shared → Prop) (E : Value → Shared → Prop), B.StaysIn s.heap → (∀ tk, Q (meth o, []) { s with toks := tk }) → wpAny (M0 w) A (getMethod tv o.attr pl) Q E s
  kp : ∀ o : O4, ∃ k, (k = Keeper.frame ∨ k = Keeper.machine ∨ k = Keeper.boundFrame) ∧ Looks (M0 w) B (keeperOf (meth o)) k
theorem Ty.step {v tv u : Value} {name : String} {meth : O4 → Value} {meq mne : Value} {o : O4} {r0 : Res} {e : Bool} (T : Ty w B v tv name meth meq mne) (S : Sit B l s) (hc : Does w A B l s (call (meth o) [v, u]) r0)
    (heq : (∃ b, r0 = .bool b) → Does w A B l s (compareOp .Eq v u) (.bool e)) (hne : (∃ b, r0 = .bool b) → Does w A B l s (compareOp .NotEq v u) (.bool (!e))) : StepR w A B l s v u tv (meth o) o.attr r0 e :=
  ⟨fun Q E h => T.tc Q E S.stays h, fun pl Q E h => T.gm o pl Q E S.stays h, let ⟨k, a, b⟩ := T.kp o; ⟨k, a, b.keeps S.stays⟩, hc, heq, hne⟩
end
def bmeth (T : String) : O4 → Value
  | .lt => .builtin (T ++ ".__lt__")
  | .le => .builtin (T ++ ".__le__")
  | .gt => .builtin (T ++ ".__gt__")
  | .ge => .builtin (T ++ ".__ge__")
theorem meth_slot {w : World} {B : Heap} {v : Value} {T : String} {f : Str} {id : String} (sl : Slot T f id) (ht : Looks (M0 w) B (typeOf v) (.type T)) : Meth w B v f (.builtin id) :=
  ⟨by unfold specialOf; exact ht.andThen (Looks.of_pure sl.lookup), Looks.of_pure (sl.bind v)⟩
theorem ty_type {w : World} {B : Heap} {v : Value} {T : String} (one : ∀ op u, oneThing? op v u = none) (ht : ∀ h, B.StaysIn h → ∀ g d t os, (⟨h, g, d, t, os⟩ : Shared).TypeIs v T) (hl : Looks (M0 w) B (typeOf v) (.type T)) (hnm : Looks (M0 w) B (typeNameOf v) T) (hs : T.length ≤ 100)
    (s1 : Slot T "__lt__" (T ++ ".__lt__")) (s2 : Slot T "__le__" (T ++ ".__le__")) (s3 : Slot T "__gt__" (T ++ ".__gt__")) (s4 : Slot T "__ge__" (T ++ ".__ge__")) (s5 : Slot T "__eq__" (T ++ ".__eq__")) (s6 : Slot T "__ne__" (T ++ ".__ne__"))
    (hnb : (Value.type T == Value.type "builtin_function_or_method") = false) (htt : typeOf (.type T) = pure (.type "type")) (hst : Manifest.isStub T = false)
    (f : ∀ o : O4, findCls [] (.type T) (.type "type") o.attr = some (.val (bmeth T o))) (hh : ∀ o, handedIn (bmeth T o) = true) : Ty w B v (.type T) T (bmeth T) (.builtin (T ++ ".__eq__")) (.builtin (T ++ ".__ne__")) where
  side := ⟨hl, hnm, one, hs⟩
  m o := by cases o <;> first | exact meth_slot s1 hl | exact meth_slot s2 hl | exact meth_slot s3 hl | exact meth_slot s4 hl
  eq := meth_slot s5 hl
  ne := meth_slot s6 hl
  tc {A s} Q E S hq := call_type_of (by obtain ⟨h, g, d, t, os⟩ := s; exact ht h S g d t os) hnb hq
  gm o {A s} pl Q E S hq := gm_type htt hst (f o) (hh o) hq
  kp o := keep_plain (by cases o <;> intro a e <;> cases e) B
theorem name_int {w : World} {B : Heap} {y : Int} {t : Tok} : Looks (M0 w) B (typeNameOf (.int y t)) "int" := Looks.of_pure (by kernel_rfl)
end Mine
end
section
open PySem PySem.W PySem.W.X PyProof.Rows PySem.Calls PySem.Spec
namespace Mine
set_option maxRecDepth 100000
theorem sl_int_lt : Slot "int" "__lt__" ("int" ++ ".__lt__") := F.slot_int_lt
theorem sl_int_le : Slot "int" "__le__" ("int" ++ ".__le__") := F.slot_int_le
theorem sl_int_gt : Slot "int" "__gt__" ("int" ++ ".__gt__") := F.slot_int_gt
theorem sl_int_ge : Slot "int" "__ge__" ("int" ++ ".__ge__") := F.slot_int_ge
theorem sl_int_eq : Slot "int" "__eq__" ("int" ++ ".__eq__") := F.slot_int_eq
theorem sl_int_ne : Slot "int" "__ne__" ("int" ++ ".__ne__") := F.slot_int_ne
theorem sl_str_lt : Slot "str" "__lt__" ("str" ++ ".__lt__") := F.slot_str_lt
theorem sl_str_le : Slot "str" "__le__" ("str" ++ ".__le__") := F.slot_str_le
theorem sl_str_gt : Slot "str" "__gt__" ("str" ++ ".__gt__") := F.slot_str_gt
theorem sl_str_ge : Slot "str" "__ge__" ("str" ++ ".__ge__") := F.slot_str_ge
theorem sl_str_eq : Slot "str" "__eq__" ("str" ++ ".__eq__") := F.slot_str_eq
theorem sl_str_ne : Slot "str" "__ne__" ("str" ++ ".__ne__") := F.slot_str_ne
theorem sl_set_lt : Slot "set" "__lt__" ("set" ++ ".__lt__") := F.slot_set_lt
theorem sl_set_le : Slot "set" "__le__" ("set" ++ ".__le__") := F.slot_set_le
theorem sl_set_gt : Slot "set" "__gt__" ("set" ++ ".__gt__") := F.slot_set_gt
theorem sl_set_ge : Slot "set" "__ge__" ("set" ++ ".__ge__") := F.slot_set_ge
theorem sl_set_eq : Slot "set" "__eq__" ("set" ++ ".__eq__") := F.slot_set_eq
theorem sl_set_ne : Slot "set" "__ne__" ("set" ++ ".__ne__") := F.slot_set_ne
theorem sl_NoneType_lt : Slot "NoneType" "__lt__" ("NoneType" ++ ".__lt__") := F.slot_NoneType_lt
theorem sl_NoneType_le : Slot "NoneType" "__le__" ("NoneType" ++ ".__le__") := F.slot_NoneType_le
theorem sl_NoneType_gt : Slot "NoneType" "__gt__" ("NoneType" ++ ".__gt__") := F.slot_NoneType_gt
theorem sl_NoneType_ge : Slot "NoneType" "__ge__" ("NoneType" ++ ".__ge__") := F.slot_NoneType_ge
theorem sl_NoneType_eq : Slot "NoneType" "__eq__" ("NoneType" ++ ".__eq__") := F.slot_NoneType_eq
theorem sl_NoneType_ne : Slot "NoneType" "__ne__" ("NoneType" ++ ".__ne__") := F.slot_NoneType_ne
theorem ty_int {w : World} {B : Heap} (y : Int) (t : Tok) : Ty w B (.int y t) (.type "int") "int" (bmeth "int") (.builtin "int.__eq__") (.builtin "int.__ne__") :=
  ty_type (T := "int") (fun op u => rfl) (fun h _ g d tk os => typeIs_int _ y t) (Looks.of_pure rfl) (Looks.of_pure (by kernel_rfl)) (by decide) sl_int_lt sl_int_le sl_int_gt sl_int_ge sl_int_eq sl_int_ne (by decide) (by kernel_rfl) (by decide +kernel) (fun o => by cases o <;> kernel_rfl) (fun o => by cases o <;> rfl)
theorem ty_str {w : World} {B : Heap} (x : Str) (t : Tok) : Ty w B (.str x t) (.type "str") "str" (bmeth "str") (.builtin "str.__eq__") (.builtin "str.__ne__") :=
  ty_type (T := "str") (fun op u => rfl) (fun h _ g d tk os => typeIs_str _ x t) (Looks.of_pure rfl) (Looks.of_pure (by kernel_rfl)) (by decide) sl_str_lt sl_str_le sl_str_gt sl_str_ge sl_str_eq sl_str_ne (by decide) (by kernel_rfl) (by decide +kernel) (fun o => by cases o <;> kernel_rfl) (fun o => by cases o <;> rfl)
theorem ty_none {w : World} {B : Heap} : Ty w B .none (.type "NoneType") "NoneType" (bmeth "NoneType") (.builtin "NoneType.__eq__") (.builtin "NoneType.__ne__") :=
  ty_type (T := "NoneType") (fun op u => rfl) (fun h _ g d tk os => rfl) (Looks.of_pure rfl) (Looks.of_pure (by kernel_rfl)) (by decide) sl_NoneType_lt sl_NoneType_le sl_NoneType_gt sl_NoneType_ge sl_NoneType_eq sl_NoneType_ne (by decide) (by kernel_rfl) (by decide +kernel) (fun o => by cases o <;> kernel_rfl) (fun o => by cases o <;> rfl)
theorem ty_set {w : World} {B : Heap} {a : Addr} {dd : Option Addr} {es : Array (Int × Value)} {ep : Nat} {tb : SetTable} {sl : Array (Option Value)} (ho : B.get? a = some ⟨.type "set", dd, .set es ep tb, sl⟩) :
    Ty w B (.ref a) (.type "set") "set" (bmeth "set") (.builtin "set.__eq__") (.builtin "set.__ne__") :=
  ty_type (T := "set") (fun op u => rfl) (fun h S g d tk os => ⟨_, S _ _ ho, rfl⟩) ((Looks.ld ho).andThen .now)
    (Looks.andThen (a := .type "set") (Looks.andThen (a := .type "set") ((Looks.ld ho).andThen .now) (Looks.of_pure (by kernel_rfl))) (Looks.of_pure (by kernel_rfl))) (by decide) sl_set_lt sl_set_le sl_set_gt sl_set_ge sl_set_eq sl_set_ne (by decide) (by kernel_rfl) (by decide +kernel) (fun o => by cases o <;> kernel_rfl) (fun o => by cases o <;> rfl)
end Mine
end
section
open PySem PySem.W PySem.W.X PyProof.Rows PySem.Calls PySem.Spec
namespace Mine
set_option maxRecDepth 100000
def O4.test : O4 → Int → Int → Bool
  | .lt, a, b => decide (a < b)
  | .le, a, b => decide (a ≤ b)
  | .gt, a, b => decide (a > b)
  | .ge, a, b => decide (a ≥ b)
def O4.stest : O4 → Str → Str → Bool
  | .lt, x, y => decide (x.cps.toList < y.cps.toList)
  | .le, x, y => !decide (y.cps.toList < x.cps.toList)
  | .gt, x, y => decide (y.cps.toList < x.cps.toList)
  | .ge, x, y => !decide (x.cps.toList < y.cps.toList)
inductive Bare where
  | int (y : Int)
  | str (x : Str)
  | set (xs : List Int)
  | none
  | key (y : Int)
def KInst (B : Heap) (v : Value) (y : Int) : Prop := ∃ a t dx, v = .ref a ∧ B.get? a = some ⟨.ref (nat_lit 295), some dx, .plain, #[some (.int y t)]⟩ ∧ B.get? dx = some emptyDict
def IsB (B : Heap) (v : Value) : Bare → Prop
  | .int y => ∃ t, v = .int y t
  | .str x => ∃ t, v = .str x t
  | .set xs => SetIs B v xs
  | .none => v = .none
  | .key y => KInst B v y
def Bare.notKey : Bare → Prop
  | .key _ => False
  | _ => True
def kmeth : O4 → Value
  | .lt => .ref (nat_lit 259)
  | .gt => .ref (nat_lit 267)
  | .le => .ref (nat_lit 283)
  | .ge => .ref (nat_lit 291)
/-- what cmp_to_key has made, seen from the law -/
structure KLaw (w : World) (B : Heap) : Prop where
  cls : ∃ (dd2 : Option Addr) (sl2 : Array (Option Value)) (N : Addr) (nm qn : Str) (bs sb : List Value) (hd : Bool) (sn : List Str) (ab : Bool) (co : Option Bool) (dl : Bool),
    B.get? (nat_lit 295) = some ⟨.type "type", dd2, .cls ⟨nm, bs, [.ref (nat_lit 295), .type "object"], N, qn, hd, sn, sb, ab, co, dl⟩, sl2⟩
  ty : ∀ {v : Value} {y : Int}, KInst B v y → Ty w B v (.ref (nat_lit 295)) "K" kmeth (.ref (nat_lit 275)) (.builtin "object.__ne__")
  cmp : ∀ {A : Around} {l : List Env} {n : Nat} {s : Shared} {v u : Value} {y z : Int} (o : O4), Room A l n → n < 590 → Sit B l s → KInst B v y → KInst B u z → Does w A B l s (call (kmeth o) [v, u]) (.bool (o.test (y / 2) (z / 2)))
  eq : ∀ {A : Around} {l : List Env} {n : Nat} {s : Shared} {v u : Value} {y z : Int}, Room A l n → n < 590 → Sit B l s → KInst B v y → KInst B u z → Does w A B l s (call (.ref (nat_lit 275)) [v, u]) (.bool (decide (y / 2 = z / 2)))
  bad : ∀ {A : Around} {l : List Env} {n : Nat} {s : Shared} {v u : Value} {y : Int} (o : O4), Room A l n → n < 590 → Sit B l s → KInst B v y → ((∃ b : Bare, b.notKey ∧ IsB B u b) ∨ ∃ t, QInst B u t) → Does w A B l s (call (kmeth o) [v, u]) .at_
  isi : ∀ {A : Around} {l : List Env} {n : Nat} {s : Shared} {v : Value} {y : Int}, Room A l n → n ≤ 600 → Sit B l s → KInst B v y → Does w A B l s (call (.builtin "isinstance") [v, .ref 179]) (.bool false)
  iso : ∀ {v : Value} {y : Int}, KInst B v y → Looks (M0 w) B (isInstance v (.type "object")) true
section
variable {w : World} {A : Around} {B : Heap} {l : List Env} {n : Nat} {s : Shared}
theorem does_kept {t : Sem Value} {r : Res} {P : Value → Heap → Prop} (R : Room A l n) (hn : n ≤ 600) (S : Sit B l s) (h : ∀ h d tk os, B.StaysIn h → wpAny (M0 w) (AX l) t (Kept ⟨h, #[], d, tk, os⟩ P) (fun _ _ => False) ⟨h, #[], d, tk, os⟩) (hr : ∀ v h, P v h → OkR r v) : Does w A B l s t r := by
  obtain ⟨h₀, g, d, tk, os⟩ := s
  obtain rfl : g = #[] := S.gens
  refine room_of R hn (wpAny_mono (h h₀ d tk os S.stays) (fun v s' x => ⟨Went.of_keeps S x.keep x.gens x.os, hr _ _ x.val⟩) fun _ _ x => x.elim)
theorem does_val {t : Sem Value} {r : Res} {v : Value} (S : Sit B l s) (hv : OkR r v) (h : ∀ (Q E : Value → Shared → Prop), Q v s → wpAny (M0 w) A t Q E s) : Does w A B l s t r :=
  h _ _ ⟨.refl S, hv⟩
def R4 (o : O4) : Bare → Bare → Res
  | .int y, .int z => .bool (o.test y z)
  | .str x, .str z => .bool (o.stest x z)
  | .set xs, .set zs => .bool (setOp o.cmp xs zs)
  | .key y, .key z => .bool (o.test (y / 2) (z / 2))
  | .key _, _ => .at_
  | _, _ => .ni
def RQ : Bare → Res
  | .key _ => .at_
  | _ => .ni
def bm : Bare → O4 → Value
  | .int _ => bmeth "int"
  | .str _ => bmeth "str"
  | .set _ => bmeth "set"
  | .none => bmeth "NoneType"
  | .key _ => kmeth
def bt : Bare → Value
  | .int _ => .type "int"
  | .str _ => .type "str"
  | .set _ => .type "set"
  | .none => .type "NoneType"
  | .key _ => .ref (nat_lit 295)
def bn : Bare → String
  | .int _ => "int"
  | .str _ => "str"
  | .set _ => "set"
  | .none => "NoneType"
  | .key _ => "K"
def beqm : Bare → Value
  | .int _ => .builtin "int.__eq__"
  | .str _ => .builtin "str.__eq__"
  | .set _ => .builtin "set.__eq__"
  | .none => .builtin "NoneType.__eq__"
  | .key _ => .ref (nat_lit 275)
def bnem : Bare → Value
  | .int _ => .builtin "int.__ne__"
  | .str _ => .builtin "str.__ne__"
  | .set _ => .builtin "set.__ne__"
  | .none => .builtin "NoneType.__ne__"
  | .key _ => .builtin "object.__ne__"
theorem bare_ty {v : Value} {b : Bare} (KL : KLaw w B) (h : IsB B v b) : Ty w B v (bt b) (bn b) (bm b) (beqm b) (bnem b) := by
  cases b with
  | int y => obtain ⟨t, rfl⟩ := h; exact ty_int y t
  | str x => obtain ⟨t, rfl⟩ := h; exact ty_str x t
  | set xs => obtain ⟨a, es, ep, t, rfl, ha, _⟩ := h; exact ty_set ha
  | none => obtain rfl : v = .none := h; exact ty_none
  | key y => exact KL.ty h
theorem int_call {o : O4} {y z : Int} {t u : Tok} (S : Sit B l s) : Does w A B l s (call (bmeth "int" o) [.int y t, .int z u]) (.bool (o.test y z)) := by
  refine does_val S rfl fun Q E h => ?_
  cases o with
  | lt => exact call_gives F.slot_int_lt (typeIs_int s _ _) F.entry_int_lt (F.args_int_lt_2 _ _) (gives_int_lt _ _ _ _) h
  | le => exact call_gives F.slot_int_le (typeIs_int s _ _) F.entry_int_le (F.args_int_le_2 _ _) (gives_int_le _ _ _ _) h
  | gt => exact call_gives F.slot_int_gt (typeIs_int s _ _) F.entry_int_gt (F.args_int_gt_2 _ _) (gives_int_gt _ _ _ _) h
  | ge => exact call_gives F.slot_int_ge (typeIs_int s _ _) F.entry_int_ge (F.args_int_ge_2 _ _) (gives_int_ge _ _ _ _) h
theorem str_call {o : O4} {y z : Str} {t u : Tok} (S : Sit B l s) : Does w A B l s (call (bmeth "str" o) [.str y t, .str z u]) (.bool (o.stest y z)) := by
  refine does_val S rfl fun Q E h => ?_
  cases o with
  | lt => exact call_gives F.slot_str_lt (typeIs_str s _ _) F.entry_str_lt (F.args_str_lt_2 _ _) (gives_str_lt _ _ _ _) h
  | le => exact call_gives F.slot_str_le (typeIs_str s _ _) F.entry_str_le (F.args_str_le_2 _ _) (gives_str_le _ _ _ _) h
  | gt => exact call_gives F.slot_str_gt (typeIs_str s _ _) F.entry_str_gt (F.args_str_gt_2 _ _) (gives_str_gt _ _ _ _) h
  | ge => exact call_gives F.slot_str_ge (typeIs_str s _ _) F.entry_str_ge (F.args_str_ge_2 _ _) (gives_str_ge _ _ _ _) h
theorem set_call {o : O4} {v u : Value} {xs zs : List Int} (S : Sit B l s) (hv : SetIs B v xs) (hu : SetIs B u zs) : Does w A B l s (call (bmeth "set" o) [v, u]) (.bool (setOp o.cmp xs zs)) := by
  refine does_val S rfl fun Q E h => ?_
  cases o with
  | lt => exact set_lt_call S.stays hv hu h
  | le => exact set_le_call S.stays hv hu h
  | gt => exact set_gt_call S.stays hv hu h
  | ge => exact set_ge_call S.stays hv hu h
theorem bare_call {o : O4} {v u : Value} {b c : Bare} (F : Facts w B) (KL : KLaw w B) (R : Room A l n) (hn : n < 590) (S : Sit B l s) (hv : IsB B v b) (hu : IsB B u c) : Does w A B l s (call (bm b o) [v, u]) (R4 o b c) := by
  have hn' : n ≤ 600 := by omega
  have ni : ∀ {t : Sem Value}, (∀ h d tk os, B.StaysIn h → wpAny (M0 w) (AX l) t (Kept ⟨h, #[], d, tk, os⟩ fun v _ => v = .notImplemented) (fun _ _ => False) ⟨h, #[], d, tk, os⟩) → Does w A B l s t .ni := fun h => does_kept R hn' S h fun _ _ x => x
  obtain ⟨dd2, sl2, N, nm, qn, bs, sb, hd, sn, ab, co, dl, hC⟩ := KL.cls
  cases b with
  | int y =>
    cases c with
    | int z =>
      obtain ⟨t, rfl⟩ := hv; obtain ⟨t2, rfl⟩ := hu; exact int_call S
    | str z =>
      obtain ⟨t, rfl⟩ := hv; obtain ⟨t2, rfl⟩ := hu
      cases o with
      | lt => exact ni fun h d tk os B0 => ni_int_str_lt w h d tk os l y t z t2
      | le => exact ni fun h d tk os B0 => ni_int_str_le w h d tk os l y t z t2
      | gt => exact ni fun h d tk os B0 => ni_int_str_gt w h d tk os l y t z t2
      | ge => exact ni fun h d tk os B0 => ni_int_str_ge w h d tk os l y t z t2
    | set z =>
      obtain ⟨t, rfl⟩ := hv; obtain ⟨a2, es2, ep2, tb2, rfl, ha2, _⟩ := hu
      cases o with
      | lt => exact ni fun h d tk os B0 => ni_int_set_lt w h d tk os l y t a2 none es2 ep2 tb2 #[] (B0 _ _ ha2)
      | le => exact ni fun h d tk os B0 => ni_int_set_le w h d tk os l y t a2 none es2 ep2 tb2 #[] (B0 _ _ ha2)
      | gt => exact ni fun h d tk os B0 => ni_int_set_gt w h d tk os l y t a2 none es2 ep2 tb2 #[] (B0 _ _ ha2)
      | ge => exact ni fun h d tk os B0 => ni_int_set_ge w h d tk os l y t a2 none es2 ep2 tb2 #[] (B0 _ _ ha2)
    | none  =>
      obtain ⟨t, rfl⟩ := hv; obtain rfl : u = .none := hu
      cases o with
      | lt => exact ni fun h d tk os B0 => ni_int_none_lt w h d tk os l y t 
      | le => exact ni fun h d tk os B0 => ni_int_none_le w h d tk os l y t 
      | gt => exact ni fun h d tk os B0 => ni_int_none_gt w h d tk os l y t 
      | ge => exact ni fun h d tk os B0 => ni_int_none_ge w h d tk os l y t 
    | key z =>
      obtain ⟨t, rfl⟩ := hv; obtain ⟨a2, t2, dx2, rfl, ha2, _⟩ := hu
      cases o with
      | lt => exact ni fun h d tk os B0 => ni_int_key_lt w h d tk os l y t a2 295 N (some dx2) dd2 _ sl2 nm qn bs sb hd sn ab co dl (B0 _ _ ha2) (B0 _ _ hC)
      | le => exact ni fun h d tk os B0 => ni_int_key_le w h d tk os l y t a2 295 N (some dx2) dd2 _ sl2 nm qn bs sb hd sn ab co dl (B0 _ _ ha2) (B0 _ _ hC)
      | gt => exact ni fun h d tk os B0 => ni_int_key_gt w h d tk os l y t a2 295 N (some dx2) dd2 _ sl2 nm qn bs sb hd sn ab co dl (B0 _ _ ha2) (B0 _ _ hC)
      | ge => exact ni fun h d tk os B0 => ni_int_key_ge w h d tk os l y t a2 295 N (some dx2) dd2 _ sl2 nm qn bs sb hd sn ab co dl (B0 _ _ ha2) (B0 _ _ hC)
  | str x =>
    cases c with
    | int z =>
      obtain ⟨t, rfl⟩ := hv; obtain ⟨t2, rfl⟩ := hu
      cases o with
      | lt => exact ni fun h d tk os B0 => ni_str_int_lt w h d tk os l x t z t2
      | le => exact ni fun h d tk os B0 => ni_str_int_le w h d tk os l x t z t2
      | gt => exact ni fun h d tk os B0 => ni_str_int_gt w h d tk os l x t z t2
      | ge => exact ni fun h d tk os B0 => ni_str_int_ge w h d tk os l x t z t2
    | str z =>
      obtain ⟨t, rfl⟩ := hv; obtain ⟨t2, rfl⟩ := hu; exact str_call S
    | set z =>
      obtain ⟨t, rfl⟩ := hv; obtain ⟨a2, es2, ep2, tb2, rfl, ha2, _⟩ := hu
      cases o with
      | lt => exact ni fun h d tk os B0 => ni_str_set_lt w h d tk os l x t a2 none es2 ep2 tb2 #[] (B0 _ _ ha2)
      | le => exact ni fun h d tk os B0 => ni_str_set_le w h d tk os l x t a2 none es2 ep2 tb2 #[] (B0 _ _ ha2)
      | gt => exact ni fun h d tk os B0 => ni_str_set_gt w h d tk os l x t a2 none es2 ep2 tb2 #[] (B0 _ _ ha2)
      | ge => exact ni fun h d tk os B0 => ni_str_set_ge w h d tk os l x t a2 none es2 ep2 tb2 #[] (B0 _ _ ha2)
    | none  =>
      obtain ⟨t, rfl⟩ := hv; obtain rfl : u = .none := hu
      cases o with
      | lt => exact ni fun h d tk os B0 => ni_str_none_lt w h d tk os l x t 
      | le => exact ni fun h d tk os B0 => ni_str_none_le w h d tk os l x t 
      | gt => exact ni fun h d tk os B0 => ni_str_none_gt w h d tk os l x t 
      | ge => exact ni fun h d tk os B0 => ni_str_none_ge w h d tk os l x t 
    | key z =>
      obtain ⟨t, rfl⟩ := hv; obtain ⟨a2, t2, dx2, rfl, ha2, _⟩ := hu
      cases o with
      | lt => exact ni fun h d tk os B0 => ni_str_key_lt w h d tk os l x t a2 295 N (some dx2) dd2 _ sl2 nm qn bs sb hd sn ab co dl (B0 _ _ ha2) (B0 _ _ hC)
      | le => exact ni fun h d tk os B0 => ni_str_key_le w h d tk os l x t a2 295 N (some dx2) dd2 _ sl2 nm qn bs sb hd sn ab co dl (B0 _ _ ha2) (B0 _ _ hC)
      | gt => exact ni fun h d tk os B0 => ni_str_key_gt w h d tk os l x t a2 295 N (some dx2) dd2 _ sl2 nm qn bs sb hd sn ab co dl (B0 _ _ ha2) (B0 _ _ hC)
      | ge => exact ni fun h d tk os B0 => ni_str_key_ge w h d tk os l x t a2 295 N (some dx2) dd2 _ sl2 nm qn bs sb hd sn ab co dl (B0 _ _ ha2) (B0 _ _ hC)
  | set xs =>
    cases c with
    | int z =>
      obtain ⟨a, es, ep, tb, rfl, ha, _⟩ := hv; obtain ⟨t2, rfl⟩ := hu
      cases o with
      | lt => exact ni fun h d tk os B0 => ni_set_int_lt w h d tk os l a es ep tb (B0 _ _ ha) z t2
      | le => exact ni fun h d tk os B0 => ni_set_int_le w h d tk os l a es ep tb (B0 _ _ ha) z t2
      | gt => exact ni fun h d tk os B0 => ni_set_int_gt w h d tk os l a es ep tb (B0 _ _ ha) z t2
      | ge => exact ni fun h d tk os B0 => ni_set_int_ge w h d tk os l a es ep tb (B0 _ _ ha) z t2
    | str z =>
      obtain ⟨a, es, ep, tb, rfl, ha, _⟩ := hv; obtain ⟨t2, rfl⟩ := hu
      cases o with
      | lt => exact ni fun h d tk os B0 => ni_set_str_lt w h d tk os l a es ep tb (B0 _ _ ha) z t2
      | le => exact ni fun h d tk os B0 => ni_set_str_le w h d tk os l a es ep tb (B0 _ _ ha) z t2
      | gt => exact ni fun h d tk os B0 => ni_set_str_gt w h d tk os l a es ep tb (B0 _ _ ha) z t2
      | ge => exact ni fun h d tk os B0 => ni_set_str_ge w h d tk os l a es ep tb (B0 _ _ ha) z t2
    | set z =>
      exact set_call S hv hu
    | none  =>
      obtain ⟨a, es, ep, tb, rfl, ha, _⟩ := hv; obtain rfl : u = .none := hu
      cases o with
      | lt => exact ni fun h d tk os B0 => ni_set_none_lt w h d tk os l a es ep tb (B0 _ _ ha) 
      | le => exact ni fun h d tk os B0 => ni_set_none_le w h d tk os l a es ep tb (B0 _ _ ha) 
      | gt => exact ni fun h d tk os B0 => ni_set_none_gt w h d tk os l a es ep tb (B0 _ _ ha) 
      | ge => exact ni fun h d tk os B0 => ni_set_none_ge w h d tk os l a es ep tb (B0 _ _ ha) 
    | key z =>
      obtain ⟨a, es, ep, tb, rfl, ha, _⟩ := hv; obtain ⟨a2, t2, dx2, rfl, ha2, _⟩ := hu
      cases o with
      | lt => exact ni fun h d tk os B0 => ni_set_key_lt w h d tk os l a es ep tb (B0 _ _ ha) a2 295 N (some dx2) dd2 _ sl2 nm qn bs sb hd sn ab co dl (B0 _ _ ha2) (B0 _ _ hC)
      | le => exact ni fun h d tk os B0 => ni_set_key_le w h d tk os l a es ep tb (B0 _ _ ha) a2 295 N (some dx2) dd2 _ sl2 nm qn bs sb hd sn ab co dl (B0 _ _ ha2) (B0 _ _ hC)
      | gt => exact ni fun h d tk os B0 => ni_set_key_gt w h d tk os l a es ep tb (B0 _ _ ha) a2 295 N (some dx2) dd2 _ sl2 nm qn bs sb hd sn ab co dl (B0 _ _ ha2) (B0 _ _ hC)
      | ge => exact ni fun h d tk os B0 => ni_set_key_ge w h d tk os l a es ep tb (B0 _ _ ha) a2 295 N (some dx2) dd2 _ sl2 nm qn bs sb hd sn ab co dl (B0 _ _ ha2) (B0 _ _ hC)
  | none  =>
    obtain rfl : v = .none := hv
    have h : Does w A B l s (call (bm .none o) [.none, u]) .ni := by
      cases o with
      | lt => exact ni fun h d tk os _ => ni_none_lt w h d tk os l u
      | le => exact ni fun h d tk os _ => ni_none_le w h d tk os l u
      | gt => exact ni fun h d tk os _ => ni_none_gt w h d tk os l u
      | ge => exact ni fun h d tk os _ => ni_none_ge w h d tk os l u
    cases c <;> exact h
  | key y =>
    cases c with
    | key z => exact KL.cmp o R hn S hv hu
    | int z => exact KL.bad o R hn S hv (.inl ⟨.int z, trivial, hu⟩)
    | str z => exact KL.bad o R hn S hv (.inl ⟨.str z, trivial, hu⟩)
    | set z => exact KL.bad o R hn S hv (.inl ⟨.set z, trivial, hu⟩)
    | none => exact KL.bad o R hn S hv (.inl ⟨.none, trivial, hu⟩)
theorem bareq_call {o : O4} {v u t0 : Value} {b : Bare} (F : Facts w B) (KL : KLaw w B) (R : Room A l n) (hn : n < 590) (S : Sit B l s) (hv : IsB B v b) (hu : QInst B u t0) : Does w A B l s (call (bm b o) [v, u]) (RQ b) := by
  have hn' : n ≤ 600 := by omega
  have ni : ∀ {t : Sem Value}, (∀ h d tk os, B.StaysIn h → wpAny (M0 w) (AX l) t (Kept ⟨h, #[], d, tk, os⟩ fun v _ => v = .notImplemented) (fun _ _ => False) ⟨h, #[], d, tk, os⟩) → Does w A B l s t .ni := fun h => does_kept R hn' S h fun _ _ x => x
  obtain ⟨ht0, a2, d2, hs2, tk2, rfl, ha2, hd2⟩ := id hu
  cases b with
  | key y => exact KL.bad o R hn S hv (.inr ⟨t0, hu⟩)
  | none =>
    obtain rfl : v = .none := hv
    cases o with
    | lt => exact ni fun h d tk os _ => ni_none_lt w h d tk os l _
    | le => exact ni fun h d tk os _ => ni_none_le w h d tk os l _
    | gt => exact ni fun h d tk os _ => ni_none_gt w h d tk os l _
    | ge => exact ni fun h d tk os _ => ni_none_ge w h d tk os l _
  | int y =>
    obtain ⟨t, rfl⟩ := hv
    cases o with
    | lt => exact ni fun h d tk os B0 => ni_int_q_lt w h d tk os l y t a2 _ _ (B0 _ _ ha2) (F.K.keeps B0)
    | le => exact ni fun h d tk os B0 => ni_int_q_le w h d tk os l y t a2 _ _ (B0 _ _ ha2) (F.K.keeps B0)
    | gt => exact ni fun h d tk os B0 => ni_int_q_gt w h d tk os l y t a2 _ _ (B0 _ _ ha2) (F.K.keeps B0)
    | ge => exact ni fun h d tk os B0 => ni_int_q_ge w h d tk os l y t a2 _ _ (B0 _ _ ha2) (F.K.keeps B0)
  | str x =>
    obtain ⟨t, rfl⟩ := hv
    cases o with
    | lt => exact ni fun h d tk os B0 => ni_str_q_lt w h d tk os l x t a2 _ _ (B0 _ _ ha2) (F.K.keeps B0)
    | le => exact ni fun h d tk os B0 => ni_str_q_le w h d tk os l x t a2 _ _ (B0 _ _ ha2) (F.K.keeps B0)
    | gt => exact ni fun h d tk os B0 => ni_str_q_gt w h d tk os l x t a2 _ _ (B0 _ _ ha2) (F.K.keeps B0)
    | ge => exact ni fun h d tk os B0 => ni_str_q_ge w h d tk os l x t a2 _ _ (B0 _ _ ha2) (F.K.keeps B0)
  | set xs =>
    obtain ⟨a, es, ep, tb, rfl, ha, _⟩ := hv
    cases o with
    | lt => exact ni fun h d tk os B0 => ni_set_q_lt w h d tk os l a es ep tb (B0 _ _ ha) a2 _ _ (B0 _ _ ha2) (F.K.keeps B0)
    | le => exact ni fun h d tk os B0 => ni_set_q_le w h d tk os l a es ep tb (B0 _ _ ha) a2 _ _ (B0 _ _ ha2) (F.K.keeps B0)
    | gt => exact ni fun h d tk os B0 => ni_set_q_gt w h d tk os l a es ep tb (B0 _ _ ha) a2 _ _ (B0 _ _ ha2) (F.K.keeps B0)
    | ge => exact ni fun h d tk os B0 => ni_set_q_ge w h d tk os l a es ep tb (B0 _ _ ha) a2 _ _ (B0 _ _ ha2) (F.K.keeps B0)
end
end Mine
end
section
open PySem PySem.W PySem.W.X PyProof.Rows PySem.Calls PySem.Spec
namespace Mine
set_option maxRecDepth 100000
section
variable {w : World} {A : Around} {B : Heap} {l : List Env} {n : Nat} {s : Shared}
theorem sub_key {base : Value} (KL : KLaw w B) (h : ([.ref (nat_lit 295), .type "object"] : List Value).contains base = false) : Looks (M0 w) B (isSubtype (.ref (nat_lit 295)) base) false := by
  obtain ⟨dd2, sl2, N, nm, qn, bs, sb, hd, sn, ab, co, dl, hC⟩ := KL.cls
  unfold isSubtype
  refine Looks.andThen (a := [.ref (nat_lit 295), .type "object"]) (Looks.andThen (a := ⟨nm, bs, [.ref (nat_lit 295), .type "object"], N, qn, hd, sn, sb, ab, co, dl⟩) ((Looks.ld (part := none) hC).andThen .now) .now) ?_
  dsimp only
  rw [if_neg (by decide), h]
  exact .now
theorem sub_bare (KL : KLaw w B) (b c : Bare) : (bt b != bt c) = false ∨ Looks (M0 w) B (isSubtype (bt c) (bt b)) false := by
  cases b <;> cases c <;> first
    | exact .inl rfl
    | exact .inr (sub_key KL rfl)
    | exact .inr (Looks.of_pure (by show isSubtype (.type _) _ = _; rw [isSubtype_type]; kernel_rfl))
theorem sub_bareq (KL : KLaw w B) (c : Bare) : Looks (M0 w) B (isSubtype (bt c) (.ref 179)) false := by
  cases c <;> first
    | exact sub_key KL rfl
    | exact Looks.of_pure (by show isSubtype (.type _) _ = _; rw [isSubtype_type]; kernel_rfl)
def RC (o : O4) (b c : Bare) : Res := cmpRes o.sym (bn b) (bn c) (R4 o b c) (R4 o.opp c b)
theorem bare_cmp {o : O4} {v u : Value} {b c : Bare} (F : Facts w B) (KL : KLaw w B) (R : Room A l n) (hn : n < 590) (S : Sit B l s) (hv : IsB B v b) (hu : IsB B u c) : Does w A B l s (compareOp o.cmp v u) (RC o b c) :=
  cmp_gen R (by omega) S o.four o.info o.symlen (bare_ty KL hv).side (bare_ty KL hu).side (sub_bare KL b c) ((bare_ty KL hv).m o) ((bare_ty KL hu).m o.opp)
    (fun s' S' => bare_call F KL R hn S' hv hu) fun _ s' S' => bare_call F KL R hn S' hu hv
def EB : Bare → Bare → Option Bool
  | .int y, .int z => some (y == z)
  | .str x, .str z => some (x.cps.toList == z.cps.toList)
  | .set xs, .set zs => some (setOp .Eq xs zs)
  | .key y, .key z => some (decide (y / 2 = z / 2))
  | _, _ => none
theorem bare_eqcall {v u : Value} {b c : Bare} {e : Bool} (KL : KLaw w B) (R : Room A l n) (hn : n < 590) (S : Sit B l s) (hv : IsB B v b) (hu : IsB B u c) (he : EB b c = some e) : Does w A B l s (call (beqm b) [v, u]) (.bool e) := by
  cases b <;> cases c <;> cases he
  · obtain ⟨t, rfl⟩ := hv; obtain ⟨t2, rfl⟩ := hu
    exact does_val S rfl fun Q E h => call_gives F.slot_int_eq (typeIs_int s _ _) F.entry_int_eq (F.args_int_eq_2 _ _) (gives_int_eq _ _ _ _) h
  · obtain ⟨t, rfl⟩ := hv; obtain ⟨t2, rfl⟩ := hu
    exact does_val S rfl fun Q E h => call_gives F.slot_str_eq (typeIs_str s _ _) F.entry_str_eq (F.args_str_eq_2 _ _) (gives_str_eq _ _ _ _) h
  · exact does_val S rfl fun Q E h => set_eq_call S.stays hv hu h
  · exact KL.eq R hn S hv hu
theorem bare_necall {v u : Value} {b c : Bare} {e : Bool} (KL : KLaw w B) (R : Room A l n) (hn : n < 589) (S : Sit B l s) (hv : IsB B v b) (hu : IsB B u c) (he : EB b c = some e) : Does w A B l s (call (bnem b) [v, u]) (.bool (!e)) := by
  cases b <;> cases c <;> cases he
  · obtain ⟨t, rfl⟩ := hv; obtain ⟨t2, rfl⟩ := hu
    exact does_val S rfl fun Q E h => call_gives F.slot_int_ne (typeIs_int s _ _) F.entry_int_ne (F.args_int_ne_2 _ _) (gives_int_ne _ _ _ _) h
  · obtain ⟨t, rfl⟩ := hv; obtain ⟨t2, rfl⟩ := hu
    exact does_val S rfl fun Q E h => call_gives F.slot_str_ne (typeIs_str s _ _) F.entry_str_ne (F.args_str_ne_2 _ _) (gives_str_ne _ _ _ _) h
  · exact does_val S rfl fun Q E h => set_ne_call S.stays hv hu h
  · exact ne_obj R (by omega) S (KL.iso hv) (KL.ty hv).eq fun A' R' s' S' => KL.eq R' (by omega) S' hv hu
theorem bare_eq {v u : Value} {b c : Bare} {e : Bool} (KL : KLaw w B) (R : Room A l n) (hn : n < 589) (S : Sit B l s) (hv : IsB B v b) (hu : IsB B u c) (he : EB b c = some e) : Does w A B l s (compareOp .Eq v u) (.bool e) :=
  eq_gen R (by omega) S (.inl rfl) rfl (bare_ty KL hv).side.ty (bare_ty KL hu).side.ty (bare_ty KL hv).side.one (sub_bare KL b c) (bare_ty KL hv).eq (bare_eqcall KL R (by omega) S hv hu he)
theorem bare_ne {v u : Value} {b c : Bare} {e : Bool} (KL : KLaw w B) (R : Room A l n) (hn : n < 589) (S : Sit B l s) (hv : IsB B v b) (hu : IsB B u c) (he : EB b c = some e) : Does w A B l s (compareOp .NotEq v u) (.bool (!e)) :=
  eq_gen R (by omega) S (.inr rfl) rfl (bare_ty KL hv).side.ty (bare_ty KL hu).side.ty (bare_ty KL hv).side.one (sub_bare KL b c) (bare_ty KL hv).ne (bare_necall KL R (by omega) S hv hu he)

/- QName -/
def qmeth : O4 → Value
  | .lt => .ref 155
  | .le => .ref 148
  | .gt => .ref 169
  | .ge => .ref 162
theorem meth_fn {v : Value} {x C : Addr} {f : Str} {a : Addr} {od : Option Addr} {dat : Data} {sl : Array (Option Value)} {K : Frag} (X : K.In B) (hx : B.get? x = some ⟨.ref C, od, dat, sl⟩) (h1 : findIn K (.ref C) f = some (some (.ref a))) (h2 : typeIn K (.ref a) = some (.type "function")) : Meth w B (.ref x) f (.ref a) :=
  ⟨(Looks.andThen (a := .ref C) ((Looks.ld hx).andThen .now) (looks_findIn X h1)), (looks_typeIn X h2).andThen .now⟩
theorem meth_ne {x C : Addr} {od : Option Addr} {dat : Data} {sl : Array (Option Value)} {K : Frag} (X : K.In B) (hx : B.get? x = some ⟨.ref C, od, dat, sl⟩) (h1 : findIn K (.ref C) "__ne__" = some (some (.builtin "object.__ne__"))) : Meth w B (.ref x) "__ne__" (.builtin "object.__ne__") :=
  ⟨(Looks.andThen (a := .ref C) ((Looks.ld hx).andThen .now) (looks_findIn X h1)), (looks_typeIn X (v := .builtin "object.__ne__") (t := .type "wrapper_descriptor") (by kernel_rfl)).andThen .now⟩
/-- a value whose class lies in a written heap -/
theorem ty_inst {x C : Addr} {od : Option Addr} {dat : Data} {sl : Array (Option Value)} {K : Frag} {name : String} {cd : ClassData} {meth : O4 → Value} {ae : Addr} (X : K.In B) (hx : B.get? x = some ⟨.ref C, od, dat, sl⟩)
    (hc : clsIn K C = some cd) (hnm : cd.name.toString = name) (hlen : ¬ cd.name.cps.foldl (fun k c => k + (Str.utf8Of c).length) 0 > 50) (hs : name.length ≤ 100)
    (hm : ∀ o : O4, ∃ a, meth o = .ref a ∧ findIn K (.ref C) o.attr = some (some (.ref a)) ∧ typeIn K (.ref a) = some (.type "function") ∧ (∃ ob fd, K.lookup a = some ob ∧ ob.data = .func fd) ∧ findCls K (.ref C) (.type "type") o.attr = some (.val (.ref a)))
    (he : findIn K (.ref C) "__eq__" = some (some (.ref ae))) (he' : typeIn K (.ref ae) = some (.type "function")) (hne : findIn K (.ref C) "__ne__" = some (some (.builtin "object.__ne__")))
    (hg : specialIn K (.ref C) "__getattribute__" = some (some (.builtin "type.__getattribute__"))) (hr : readsIn K C (.type "type") = true) : Ty w B (.ref x) (.ref C) name meth (.ref ae) (.builtin "object.__ne__") where
  side := by
    refine ⟨(Looks.ld hx).andThen .now, ?_, fun op u => rfl, hs⟩
    unfold PySem.typeNameOf shownTypeOf
    refine Looks.andThen (a := .ref C) (Looks.andThen (a := .ref C) ((Looks.ld hx).andThen .now) ?_) ?_
    · rw [if_neg (by intro e; cases e)]; exact .now
    · unfold typeName
      refine (looks_clsIn X hc).andThen ?_
      dsimp only
      rw [if_neg hlen, ← hnm]
      exact .now
  m o := by obtain ⟨a, e, h1, h2, _⟩ := hm o; rw [e]; exact meth_fn (v := .ref x) X hx h1 h2
  eq := meth_fn (v := .ref x) X hx he he'
  ne := meth_ne X hx hne
  tc {A s} Q E S hq := by
    obtain ⟨h, g, d, t, os⟩ := s
    exact call_type_obj (S _ _ hx) rfl hq
  gm o {A s} pl Q E S hq := by
    obtain ⟨a, e, _, _, _, h3⟩ := hm o
    rw [e] at hq
    exact method_cls (X.keeps S) hg (cls_value (X.keeps S) hr h3 rfl (hq _))
  kp o := by
    obtain ⟨a, e, _, _, ⟨ob, fd, h1, h2⟩, _⟩ := hm o
    rw [e]
    exact keep_fn (X _ _ h1) h2
theorem q_ty {q t : Value} (F : Facts w B) (hq : QInst B q t) : Ty w B q (.ref 179) "QName" qmeth (.ref 176) (.builtin "object.__ne__") := by
  obtain ⟨ht, x, d, hs, tk, rfl, hx, hd⟩ := hq
  refine ty_inst F.K hx (cd := _) rfl (by kernel_rfl) (by decide +kernel) (by decide) (fun o => ?_) (by kernel_rfl) (by kernel_rfl) (by kernel_rfl) (by kernel_rfl) (by kernel_rfl)
  cases o
  · exact ⟨155, rfl, by kernel_rfl, by kernel_rfl, ⟨_, _, rfl, rfl⟩, by kernel_rfl⟩
  · exact ⟨148, rfl, by kernel_rfl, by kernel_rfl, ⟨_, _, rfl, rfl⟩, by kernel_rfl⟩
  · exact ⟨169, rfl, by kernel_rfl, by kernel_rfl, ⟨_, _, rfl, rfl⟩, by kernel_rfl⟩
  · exact ⟨162, rfl, by kernel_rfl, by kernel_rfl, ⟨_, _, rfl, rfl⟩, by kernel_rfl⟩
end
end Mine
end
section
open PySem PySem.W PySem.W.X PyProof.Rows PySem.Calls PySem.Spec
namespace Mine
set_option maxRecDepth 100000
section
variable {w : World} {A : Around} {B : Heap} {l : List Env} {n : Nat} {s : Shared}
theorem oth_bare {u : Value} {c : Bare} (F : Facts w B) (KL : KLaw w B) (hu : IsB B u c) : Oth w B u u false := by
  refine ⟨fun {A l n s} R hn S => ?_, fun e => (nomatch e), fun _ => rfl⟩
  have ni : ∀ {t : Sem Value}, (∀ h d tk os, B.StaysIn h → wpAny (M0 w) (AX l) t (Kept ⟨h, #[], d, tk, os⟩ fun v _ => v = .bool false) (fun _ _ => False) ⟨h, #[], d, tk, os⟩) → Does w A B l s t (.bool false) := fun h => does_kept R hn S h fun _ _ x => x
  cases c with
  | int y => obtain ⟨t, rfl⟩ := hu; exact ni fun h d tk os B0 => isi_int w h d tk os l y t (F.K.keeps B0)
  | str y => obtain ⟨t, rfl⟩ := hu; exact ni fun h d tk os B0 => isi_str w h d tk os l y t (F.K.keeps B0)
  | set y => obtain ⟨a, es, ep, tb, rfl, ha, _⟩ := hu; exact ni fun h d tk os B0 => isi_set w h d tk os l a none es ep tb #[] (B0 _ _ ha) (F.K.keeps B0)
  | none => obtain rfl : u = .none := hu; exact ni fun h d tk os B0 => isi_none w h d tk os l (F.K.keeps B0)
  | key y => exact KL.isi R hn S hu
theorem oth_q {u t : Value} (F : Facts w B) (hu : QInst B u t) : Oth w B u t true := by
  refine ⟨fun {A l n s} R hn S => ?_, fun _ => hu, fun e => (nomatch e)⟩
  obtain ⟨ht, x, d, hs, tk, rfl, hx, hd⟩ := hu
  exact does_kept R hn S (fun h d tk os B0 => isi_q w h d tk os l x _ _ (B0 _ _ hx) (F.K.keeps B0)) fun _ _ x => x
inductive Thg where
  | bare (b : Bare)
  | q (b : Bare)
def Thg.core : Thg → Bare
  | .bare b => b
  | .q b => b
def IsT (B : Heap) (v : Value) : Thg → Prop
  | .bare b => IsB B v b
  | .q b => ∃ t, QInst B v t ∧ IsB B t b
theorem oth_t {u : Value} {c : Thg} (F : Facts w B) (KL : KLaw w B) (hu : IsT B u c) : ∃ x isq, Oth w B u x isq ∧ IsB B x c.core := by
  cases c with
  | bare b => exact ⟨u, false, oth_bare F KL hu, hu⟩
  | q b => obtain ⟨t, h1, h2⟩ := hu; exact ⟨t, true, oth_q F h1, h2⟩
theorem q_call {o : O4} {v t u : Value} {b : Bare} {c : Thg} (F : Facts w B) (KL : KLaw w B) (R : Room A l n) (hn : n < 589) (S : Sit B l s) (hv : QInst B v t) (ht : IsB B t b) (hu : IsT B u c) : Does w A B l s (call (qmeth o) [v, u]) (RC o b c.core) := by
  obtain ⟨x, isq, ho, hx⟩ := oth_t F KL hu
  cases o with
  | lt => exact q_lt F R (by omega) S hv ho fun A' l' s' R' S' => bare_cmp (o := .lt) F KL R' (by omega) S' ht hx
  | le => exact q_le F R (by omega) S hv ho fun A' l' s' R' S' => bare_cmp (o := .le) F KL R' (by omega) S' ht hx
  | gt => exact q_gt F R (by omega) S hv ho fun A' l' s' R' S' => bare_cmp (o := .gt) F KL R' (by omega) S' ht hx
  | ge => exact q_ge F R (by omega) S hv ho fun A' l' s' R' S' => bare_cmp (o := .ge) F KL R' (by omega) S' ht hx
theorem q_eqcall {v t u : Value} {b : Bare} {c : Thg} {e : Bool} (F : Facts w B) (KL : KLaw w B) (R : Room A l n) (hn : n < 588) (S : Sit B l s) (hv : QInst B v t) (ht : IsB B t b) (hu : IsT B u c) (he : EB b c.core = some e) : Does w A B l s (call (.ref 176) [v, u]) (.bool e) := by
  obtain ⟨x, isq, ho, hx⟩ := oth_t F KL hu
  exact q_eq F R (by omega) S hv ho fun A' l' s' R' S' => bare_eq KL R' (by omega) S' ht hx he
def tt : Thg → Value
  | .bare b => bt b
  | .q _ => .ref 179
theorem thg_ty {u : Value} {c : Thg} (F : Facts w B) (KL : KLaw w B) (hu : IsT B u c) : Looks (M0 w) B (typeOf u) (tt c) := by
  cases c with
  | bare b => exact (bare_ty KL hu).side.ty
  | q b => obtain ⟨t, h1, h2⟩ := hu; exact (q_ty F h1).side.ty
theorem sub_q (KL : KLaw w B) (c : Thg) : ((.ref 179 : Value) != tt c) = false ∨ Looks (M0 w) B (isSubtype (tt c) (.ref 179)) false := by
  cases c with
  | bare b => exact .inr (sub_bareq KL b)
  | q b => exact .inl rfl
theorem q_iso {v t : Value} (F : Facts w B) (hv : QInst B v t) : Looks (M0 w) B (isInstance v (.type "object")) true :=
  (q_ty F hv).side.ty.andThen (looks_subIn F.K (by kernel_rfl))
theorem q_eqop {v t u : Value} {b : Bare} {c : Thg} {e : Bool} (F : Facts w B) (KL : KLaw w B) (R : Room A l n) (hn : n < 587) (S : Sit B l s) (hv : QInst B v t) (ht : IsB B t b) (hu : IsT B u c) (he : EB b c.core = some e) : Does w A B l s (compareOp .Eq v u) (.bool e) :=
  eq_gen R (by omega) S (.inl rfl) rfl (q_ty F hv).side.ty (thg_ty F KL hu) (q_ty F hv).side.one (sub_q KL c) (q_ty F hv).eq (q_eqcall F KL R (by omega) S hv ht hu he)
theorem q_neop {v t u : Value} {b : Bare} {c : Thg} {e : Bool} (F : Facts w B) (KL : KLaw w B) (R : Room A l n) (hn : n < 587) (S : Sit B l s) (hv : QInst B v t) (ht : IsB B t b) (hu : IsT B u c) (he : EB b c.core = some e) : Does w A B l s (compareOp .NotEq v u) (.bool (!e)) :=
  eq_gen R (by omega) S (.inr rfl) rfl (q_ty F hv).side.ty (thg_ty F KL hu) (q_ty F hv).side.one (sub_q KL c) (q_ty F hv).ne
    (ne_obj R (by omega) S (q_iso F hv) (q_ty F hv).eq fun A' R' s' S' => q_eqcall F KL R' (by omega) S' hv ht hu he)
/-- what type(left).op(left, right) gives -/
def R0 (o : O4) : Thg → Thg → Res
  | .bare b, .bare c => R4 o b c
  | .bare b, .q _ => RQ b
  | .q b, c => RC o b c.core
def E0 (x y : Thg) : Bool := (EB x.core y.core).getD false
def tmeth : Thg → O4 → Value
  | .bare b => bm b
  | .q _ => qmeth
theorem R4_bool {o : O4} {b c : Bare} {x : Bool} (h : R4 o b c = .bool x) : ∃ e, EB b c = some e := by
  cases b <;> cases c <;> first | exact ⟨_, rfl⟩ | cases h
theorem RC_bool {o : O4} {b c : Bare} {x : Bool} (h : RC o b c = .bool x) : ∃ e, EB b c = some e := by
  cases b <;> cases c <;> first | exact ⟨_, rfl⟩ | cases h
theorem thg_step {o : O4} {v u : Value} {x y : Thg} (F : Facts w B) (KL : KLaw w B) (R : Room A l n) (hn : n < 587) (S : Sit B l s) (hv : IsT B v x) (hu : IsT B u y) : StepR w A B l s v u (tt x) (tmeth x o) o.attr (R0 o x y) (E0 x y) := by
  cases x with
  | bare b =>
    cases y with
    | bare c =>
      refine (bare_ty KL hv).step S (bare_call F KL R (by omega) S hv hu) (fun ⟨x, hx⟩ => ?_) fun ⟨x, hx⟩ => ?_
      · obtain ⟨e, he⟩ := R4_bool hx
        rw [show E0 (.bare b) (.bare c) = e by unfold E0; show (EB b c).getD _ = _; rw [he]; rfl]
        exact bare_eq KL R (by omega) S hv hu he
      · obtain ⟨e, he⟩ := R4_bool hx
        rw [show E0 (.bare b) (.bare c) = e by unfold E0; show (EB b c).getD _ = _; rw [he]; rfl]
        exact bare_ne KL R (by omega) S hv hu he
    | q c =>
      obtain ⟨t, h1, h2⟩ := hu
      refine (bare_ty KL hv).step S (bareq_call F KL R (by omega) S hv h1) (fun ⟨x, hx⟩ => ?_) fun ⟨x, hx⟩ => ?_ <;> (cases b <;> cases hx)
  | q b =>
    obtain ⟨t, h1, h2⟩ := hv
    refine (q_ty F h1).step S (q_call F KL R (by omega) S h1 h2 hu) (fun ⟨x, hx⟩ => ?_) fun ⟨x, hx⟩ => ?_
    · obtain ⟨e, he⟩ := RC_bool hx
      rw [show E0 (.q b) y = e by unfold E0; show (EB b _).getD _ = _; rw [he]; rfl]
      exact q_eqop F KL R (by omega) S h1 h2 hu he
    · obtain ⟨e, he⟩ := RC_bool hx
      rw [show E0 (.q b) y = e by unfold E0; show (EB b _).getD _ = _; rw [he]; rfl]
      exact q_neop F KL R (by omega) S h1 h2 hu he
/-- one of the twelve on two things -/
theorem twelve_thg {a : Addr} {o : O4} {form : Bool → Bool → Bool} {v u : Value} {x y : Thg} (T : Twelve a o.attr form) (F : Facts w B) (KL : KLaw w B) (R : Room A l n) (hn : n < 586) (S : Sit B l s) (hv : IsT B v x) (hu : IsT B u y) :
    Does w A B l s (call (.ref a) [v, u]) (outR form (R0 o x y) (E0 x y)) :=
  T F R (by omega) S fun A' l' s' R' S' => thg_step F KL R' (by omega) S' hv hu
end
end Mine
end
section
open PySem PySem.W PySem.W.X PyProof.Rows PySem.Calls PySem.Spec
namespace Mine
set_option maxRecDepth 100000
section
variable {prog : Program} {w : World} {A : Around} {B : Heap} {l : List Env} {n : Nat} {s : Shared} {R : Result → Shared → Prop}
theorem code_expr {body : Expr} {env : Env}
    (h : wpAny (model prog w) (A.deeper env) (eval body env) (fun v s' => R (.ok (.ret v)) s')
      (fun e s' => wpAny (model prog w) (A.deeper env) (leaving env e) (fun _ s'' => R (.error e) s'') (fun e' s'' => R (.error e') s'') s') s) :
    codeAny (model prog w) A (.expr body env) R s := by
  refine codeAny_of_tree ?_
  show wpAny _ (A.deeper env) (do point; ret (← (eval body env).onRaise (leaving env))) _ _ s
  exact wpAny_bind (wpAny_point (wpAny_bind (wpAny_onRaise (wpAny_mono h (fun f s' h' => wpAny_pure h') fun _ _ h' => h'))))
theorem code_call_lam {a : Addr} {args : Args} {o : Obj} {fd : FuncData} {body : Expr} (hroom : A.depth < recursionLimit)
    (ho : s.heap.get? a = some o) (hd' : o.data = .func fd) (hco : fd.scope.isCoroutine = false) (hgen : fd.scope.isGenerator = false) (hbody : fd.body = .expr body) (hcd : s.heap.CodeRec fd.code fd.qualname)
    (h : wpAny (model prog w) A.in1 (bindArgs fd args) (fun binds s₁ =>
      wpAny (model prog w) A.in1 (newFunctionEnv fd.scope fd.globals fd.closure binds (fd.qualname ++ ".<locals>.") (some a) fd.code none fd.builtins)
        (fun env s₂ => s₂.heap.NoLimit ∧ codeAny (model prog w) A (.expr body env) R s₂) (fun e s' => R (.error e) s') s₁) (fun e s' => R (.error e) s') s) :
    codeAny (model prog w) A (.call (.ref a) args) R s := by
  refine codeAny_of_tree ?_
  show wpAny _ A.in1 (callAny (.ref a) args) _ _ s
  simp only [callAny]
  refine wpAny_bind (wpAny_load ho ?_)
  obtain ⟨c, oc, vs, tq, hc, hoc, hdc, hq⟩ := hcd
  simp only [hd', callFunction, hco, hgen, hbody, hc]
  rw [hc] at h
  refine wpAny_bind (m := field (.ref c) 1) (wpAny_field hoc hdc hq (wpAny_bind (wpAny_pure ?_)))
  exact wpAny_bind (wpAny_mono h (fun binds s₁ h₁ => wpAny_bind (wpAny_mono h₁ (fun env s₂ h₂ => wpAny_bind (wpAny_enterFrame h₂.1 hroom
    (wpAny_pure (And.intro rfl h₂.2)))) fun _ _ h' => h')) fun _ _ h' => h')
/-- a lambda of the text's own: its expression in its frame -/
theorem lam_does {r : Res} {a : Addr} {o : Obj} {fd : FuncData} {body : Expr} {args : List Value} {binds : List (Str × Value)}
    (R : Room A l n) (hn : n < 600) (S : Sit B l s) (F : Facts w B) (ho : B.get? a = some o) (hd : o.data = .func fd) (hbody : fd.body = .expr body) (hcd : B.CodeRec fd.code fd.qualname)
    (hbind : bindArgs fd ⟨args, []⟩ = pure binds) (hco : fd.scope.isCoroutine = false) (hgen : fd.scope.isGenerator = false) (hk : fd.scope.kind = .function)
    (hcell : ∀ x ∈ fd.scope.names, x.2 ≠ .cell) (hloc : ∀ x ∈ binds, fd.scope.names.lookup x.1 = some .local)
    (h : ∀ (L : Addr) (env : Env) (s₁ : Shared), env = { scope := fd.scope, locals := L, globals := fd.globals, cells := fd.closure, qual := fd.qualname ++ ".<locals>.", func := some a, code := fd.code, frame := some L, builtins := fd.builtins } →
      Sit B (env :: l) s₁ → s₁.heap.Ns L (fun x => binds.reverse.lookup x) → Room (A.deeper env) (env :: l) (n + 1) → Does w (A.deeper env) B (env :: l) s₁ (eval body env) r) :
    Does w A B l s (call (.ref a) args) r := by
  refine wpAny_call (code_call_lam (fd := fd) (by have := R.depth; show _ < 1000; omega) (S.stays _ _ ho) hd hco hgen hbody (hcd.keeps S.stays) ?_)
  rw [hbind]
  refine wpAny_pure (wpAny_newFunctionEnv hcell hloc (fun h₁ hns hsb => ⟨(F.lim.keeps S.stays).fresh _ hsb, ?_⟩) hk)
  have hkeep : ∀ b o, s.heap.get? b = some o → h₁.get? b = some o := fun b o e => (hsb.extBut b o (Nat.ne_of_lt (Heap.lt_size e)) (Heap.get?_push_of_some _ e))
  have hnew : B.get? s.heap.objs.size = none := S.stays.fresh
  have S1 : Sit B (newEnv fd.scope s.heap.objs.size fd.globals fd.closure (fd.qualname ++ ".<locals>.") (some a) fd.code none fd.builtins :: l) { s with heap := h₁, toks := s.toks + binds.length } :=
    ⟨fun b o e => hkeep b o (S.stays b o e), .cons (by show fd.scope.kind ≠ .module; rw [hk]; decide) rfl hns hnew (S.frames.of_keeps fun b o e _ => ⟨o, hkeep b o e, rfl⟩), S.gens⟩
  have hA : (A.deeper (newEnv fd.scope s.heap.objs.size fd.globals fd.closure (fd.qualname ++ ".<locals>.") (some a) fd.code none fd.builtins)).frames = some (_ :: l) := Around.frames_deeper R.frames
  have up : s.heap.UpToSlots h₁ := .of_keeps hkeep
  refine code_expr (wpAny_mono (h s.heap.objs.size _ _ rfl S1 hns (R.deeper _)) ?_ ?_)
  · rintro v s' ⟨we, ok⟩
    exact ⟨⟨⟨we.sit.stays, we.sit.frames.2.2, we.sit.gens⟩, up.trans we.slots, we.os⟩, ok⟩
  · rintro e s' ⟨we, er⟩
    have go : ∀ {cls msg} {E : Value → Shared → Prop}, Exc B cls msg e s'.heap → (∀ h, Exc B cls msg e h → ErR B r e h) → wpAny (M0 w) _ (leaving _ e) (fun _ s'' => Went B l s s'' ∧ ErR B r e s''.heap) E s' := fun x f => leave_exc hA rfl we.sit x fun h' x' S'' u' =>
      ⟨⟨⟨S''.stays, S''.frames.2.2, S''.gens⟩, (up.trans we.slots).trans u', we.os⟩, f _ x'⟩
    cases r with
    | bool b => exact er.elim
    | ni => exact er.elim
    | ty m => exact go er fun _ x => x
    | at_ => exact go er fun _ x => x
def lscope (f : Str) : Scope := { kind := .function, names := [("a", .local), ("b", .local), (f, .globalImplicit)], isGenerator := false, isCoroutine := false, more := [] }
/-- a lambda that hands its two arguments to the global function g -/
structure LamTo (B : Heap) (v : Value) (f : Str) : Prop where
  at_ : ∃ a o fd p0 p1 p2 p3, v = .ref a ∧ B.get? a = some o ∧ o.data = .func fd ∧ fd.body = .expr (.Call (.Name f p0) [.Name "a" p1, .Name "b" p2] [] p3) ∧ fd.scope = lscope f ∧ fd.globals = mainGlobals ∧ fd.builtins = builtinsNs ∧
    (∀ v u, bindArgs fd ⟨[v, u], []⟩ = pure [(("a" : Str), v), (("b" : Str), u)]) ∧ B.CodeRec fd.code fd.qualname
theorem LamTo.keep {v : Value} {f : Str} (L : LamTo B v f) : ∃ k, (k = Keeper.frame ∨ k = Keeper.machine ∨ k = Keeper.boundFrame) ∧ Looks (M0 w) B (keeperOf v) k := by
  obtain ⟨a, o, fd, p0, p1, p2, p3, rfl, ho, hd, _⟩ := L.at_
  exact keep_fn ho hd
theorem lam_call {v x y : Value} {f : Str} {g : Addr} {og : Obj} {fg : FuncData} {r : Res} (F : Facts w B) (L : LamTo B v f) (R : Room A l n) (hn : n < 600) (S : Sit B l s) (hf : nsIn (KK w.params) mainGlobals f = some (some (.ref g))) (hg : (KK w.params).lookup g = some og) (hgd : og.data = .func fg)
    (hne : f ≠ "a" ∧ f ≠ "b") (hdb : (f == ("__debug__" : Str)) = false) (H : ∀ A' l' s', Room A' l' (n + 1) → Sit B l' s' → Does w A' B l' s' (call (.ref g) [x, y]) r) : Does w A B l s (call v [x, y]) r := by
  obtain ⟨a, o, fd, p0, p1, p2, p3, rfl, ho, hd, hb, hsc, hgl, hbl, hbind, hcd⟩ := L.at_
  have hsn : fd.scope.names = (lscope f).names := by rw [hsc]
  refine lam_does R hn S F ho hd hb hcd (hbind x y) (by rw [hsc]; rfl) (by rw [hsc]; rfl) (by rw [hsc]; rfl) (by rw [hsn]; intro z hz; simp [lscope] at hz; rcases hz with rfl | rfl | rfl <;> simp) (by rw [hsn]; intro z hz; simp at hz; rcases hz with rfl | rfl <;> rfl) fun L env s₁ henv S₁ ns₁ R₁ => ?_
  have hk : ∀ x, env.kindOf x = (lscope f).names.lookup x := fun x => by rw [henv]; show fd.scope.names.lookup x = _; rw [hsn]
  have kind : env.scope.kind = .function := by rw [henv]; show fd.scope.kind = _; rw [hsc]; rfl
  have ns : s₁.heap.Ns env.locals (fun z => [(("a" : Str), x), (("b" : Str), y)].reverse.lookup z) := by rw [henv]; exact ns₁
  have kf : env.kindOf f = some .globalImplicit := by
    rw [hk]
    show List.lookup f [("a", _), ("b", _), (f, _)] = _
    have h1 : (f == ("a" : Str)) = false := beq_eq_false_iff_ne.mpr hne.1
    have h2 : (f == ("b" : Str)) = false := beq_eq_false_iff_ne.mpr hne.2
    rw [List.lookup_cons, h1, List.lookup_cons, h2, List.lookup_cons_self]
  refine wpAny_Call_ofName (ev_glob F S₁.stays kind (by rw [henv]; exact hgl) kf hf ?_ hdb)
  refine callWith_any (P := fun h => B.StaysIn h) (fun h e => keep_fn (e _ _ (F.K _ _ hg)) hgd) rfl ?_
  refine spliced_cons (ev_loc kind (by rw [hk]; rfl) ns (v := x) rfl (spliced_cons (ev_loc kind (by rw [hk]; rfl) ns (v := y) rfl (spliced_nil ⟨S₁.stays, ?_⟩))))
  exact H _ _ s₁ R₁ S₁
end
end Mine
end
section
open PySem PySem.W PySem.W.X PyProof.Rows PySem.Calls PySem.Spec
namespace Mine
set_option maxRecDepth 100000
theorem miss_int : typeLookup (.type "int") "obj" = pure none := by rw [typeLookup_type, builtinLookup_eq_fast]; kernel_rfl
theorem miss_str : typeLookup (.type "str") "obj" = pure none := by rw [typeLookup_type, builtinLookup_eq_fast]; kernel_rfl
theorem miss_none : typeLookup (.type "NoneType") "obj" = pure none := by rw [typeLookup_type, builtinLookup_eq_fast]; kernel_rfl
theorem miss_set : typeLookup (.type "set") "obj" = pure none := by rw [typeLookup_type, builtinLookup_eq_fast]; kernel_rfl
theorem set_hook : typeLookup (.type "set") "__getattr__" = pure none := by rw [typeLookup_type, builtinLookup_eq_fast]; kernel_rfl
theorem sl_set_ga : Slot "set" "__getattribute__" "set.__getattribute__" :=
  .of (owner := "set") (n := "__getattribute__") (by rw [typeLookup_type, builtinLookup_eq_fast]; kernel_rfl) (by decide +kernel) (by decide +kernel) (by decide +kernel) (by exact .inl (by decide +kernel)) (by rw [isSubtype_type]; kernel_rfl)
theorem entry_set_ga : entryFor table "set.__getattribute__" = some Builtin.«object.__getattribute__» :=
  entryFor_alias (id' := "object.__getattribute__") (by rw [fastTable_eq_tree]; kernel_rfl) (by decide +kernel) (by rw [PySem.W.S.canonicalZ_eq]; decide +kernel) (by rw [fastTable_eq_tree]; kernel_rfl)
theorem args_set_ga (a b : Value) : argsOk "set.__getattribute__" ⟨[a, b], []⟩ := by unfold argsOk; kernel_rfl
theorem ga_set (a : Addr) (es : Array (Int × Value)) (k : Nat) (tb : SetTable) (sl : Array (Option Value)) (name : Str) (u : Tok) (hmiss : typeLookup (.type "set") name = pure none) (hname : (["__module__", "__name__", "__qualname__", "__doc__", "__annotations__"] : List Str).contains name = false) (hsz : name.length + 100 ≤ sizeLine) :
    Meets (Builtin.«object.__getattribute__» ⟨[.ref a, .str name u], []⟩) (fun A R s => s.heap.get? a = some { cls := .type "set", dict := none, data := .set es k tb, slots := sl } ∧ raisesAttr (.ref a) name A R s) :=
  Meets.of_wp fun prog w A R s hs => by
    obtain ⟨hp, g, d, tk, os⟩ := s
    obtain ⟨hx, hs⟩ := hs
    have hT : (⟨hp, g, d, tk, os⟩ : Shared).TypeIs (.ref a) "set" := ⟨_, hx, rfl⟩
    unfold Builtin.«object.__getattribute__»
    repeat (any_goals (first | assumption | wp_step))
    simp only [hname, Bool.false_eq_true, if_false]
    repeat (any_goals (first | assumption | wp_step))
    exact wpAny_raiseAttrError hs.1 hs.2 (attrMsg_fits (by decide +kernel) hsz)
theorem looks_attr {M : Model} {h : Heap} {e : Addr} {t o : Value} {name : Str} {u : Tok} (he : h.get? e = some { cls := .type "AttributeError", data := .fields #[t, .none, .none, .none, .bool false, .none, .str name u, o] }) : Looks M h (isInstance (.ref e) (.type "AttributeError")) true :=
  Looks.andThen (a := .type "AttributeError") ((Looks.ld he).andThen .now) (Looks.of_pure sub_AttributeError)
theorem looks_lacks {M : Model} {h : Heap} {e : Addr} {t o : Value} {name : Str} {u : Tok} (he : h.get? e = some { cls := .type "AttributeError", data := .fields #[t, .none, .none, .none, .bool false, .none, .str name u, o] }) : Looks M h (lacksNameAndObj (.ref e)) false := by
  unfold lacksNameAndObj
  refine (looks_attr he).andThen ?_
  refine Looks.andThen (a := _) (Looks.ld (part := none) he) ?_
  exact .now
theorem looks_note {M : Model} {h : Heap} {e : Addr} {t o x y : Value} {name : Str} {u : Tok} (he : h.get? e = some { cls := .type "AttributeError", data := .fields #[t, .none, .none, .none, .bool false, .none, .str name u, o] }) : Looks M h (noteAttr (.ref e) x y) () :=
  (looks_lacks he).andThen .now
theorem raised_attr {prog : Program} {w : World} {A : Around} {E : Value → Shared → Prop} {s : Shared} {e : Addr} {t o x nm : Value} {T : String} {name : Str} {u : Tok} {Q : Value → Shared → Prop} (he : s.heap.get? e = some { cls := .type "AttributeError", data := .fields #[t, .none, .none, .none, .bool false, .none, .str name u, o] })
    (hk : typeLookup (.type T) "__getattr__" = pure none) (h : E (.ref e) s) : wpAny (model prog w) A (getattributeRaised x nm (.type T) (.ref e) none true true) Q E s := by
  unfold getattributeRaised
  refine wpAny_bind ((looks_attr he).here ?_)
  show wpAny _ _ (do hookOrError x nm (.ref e) true true (← hookBehind (.type T) none)) _ _ _
  refine wpAny_bind ?_
  show wpAny _ _ (typeLookup (.type T) "__getattr__") _ _ _
  rw [hk]
  refine wpAny_pure ?_
  show wpAny _ _ (attributeErrorLeaves x nm (.ref e) true true) _ _ _
  unfold attributeErrorLeaves
  rw [if_neg (by decide), if_pos rfl]
  refine wpAny_bind ((looks_lacks he).here ?_)
  rw [if_neg (by decide)]
  exact wpAny_bind ((looks_note he).here (wpAny_throw h))
theorem getAttr_set {prog : Program} {w : World} {A : Around} {E : Value → Shared → Prop} {s : Shared} {a : Addr} {es : Array (Int × Value)} {k : Nat} {tb : SetTable} {sl : Array (Option Value)} {name : Str} {Q : Value → Shared → Prop}
    (hx : s.heap.get? a = some ⟨.type "set", none, .set es k tb, sl⟩) (hmiss : typeLookup (.type "set") name = pure none) (hname : (["__module__", "__name__", "__qualname__", "__doc__", "__annotations__"] : List Str).contains name = false) (hsz : name.length + 100 ≤ sizeLine) (hA : A.handled = none)
    (h : ∀ h' tk e, Heap.NewExcOf s.heap h' e "AttributeError" → E (.ref e) { s with heap := h', toks := tk }) :
    wpAny (model prog w) A (getAttr (.ref a) name true) Q E s := by
  obtain ⟨hp, g, d, tk, os⟩ := s
  have L0 : Looks (model prog w) hp (typeOf (.ref a)) (.type "set") := (Looks.ld hx).andThen .now
  unfold getAttr getAttrBy
  refine wpAny_bind (wpAny_mkText (wpAny_holding (wpAny_bind (L0.at (wpAny_bind ?_)))))
  rw [sl_set_ga.lookup]
  refine wpAny_pure ?_
  show wpAny _ _ (getAttrByItsOwn _ _ _ _ _ _) _ _ _
  unfold getAttrByItsOwn
  refine wpAny_bind (wpAny_pure (a := none) (wpAny_bind (wpAny_attempt (wpAny_holding ?_))))
  unfold callGetattribute boundAndCalled
  rw [if_neg (by decide), sl_set_ga.bind]
  refine wpAny_bind (wpAny_pure ?_)
  refine call_meets sl_set_ga ⟨_, hx, rfl⟩ entry_set_ga (args_set_ga _ _) (ga_set a es k tb sl name _ hmiss hname hsz) ⟨hx, hA, fun h' tk' e hx' => ?_⟩
  obtain ⟨t', u', he⟩ := hx'.there
  exact raised_attr he set_hook (h _ _ _ hx'.of)
end Mine
end
section
open PySem PySem.W PySem.W.X PyProof.Rows PySem.Calls PySem.Spec
namespace Mine
set_option maxRecDepth 100000
section
variable {w : World} {A : Around} {B : Heap} {l : List Env} {n : Nat} {s : Shared}
theorem nm_len : (Str.ofString "obj").length + 100 ≤ sizeLine := by rw [PySem.ofString_length, sizeLine_eq]; decide
/-- other.obj where other is no key: AttributeError -/
theorem getAttr_inst_miss {prog : Program} {K : Frag} {x C : Addr} {ox : Obj} {od : Option Obj} {cd : ClassData} {Q E : Value → Shared → Prop} {expr : Bool} (X : K.In s.heap) (I : InstAt s.heap x ox C od) (hga : findIn K (.ref C) "__getattribute__" = some (some (.builtin "object.__getattribute__"))) (hgh : findIn K (.ref C) "__getattr__" = some none)
    (hf : findObj K C od "obj" = some .missing) (hc : clsIn K C = some cd) (hlen : cd.name.cps.foldl (fun k c => k + (Str.utf8Of c).length) 0 ≤ 100) (hl2 : cd.name.toString.length ≤ 50) (hA : A.handled = none)
    (h : ∀ h' tk e, Heap.NewExcOf s.heap h' e "AttributeError" → E (.ref e) { s with heap := h', toks := tk }) :
    wpAny (model prog w) A (getAttr (.ref x) "obj" expr) Q E s := by
  refine get_open X I hga ?_
  obtain ⟨hh', g, d, t, os⟩ := s
  have L0 := I.type (M := model prog w)
  have L1 := looks_find (M := model prog w) X I hf
  refine wpAny_bind (wpAny_pure (wpAny_bind (L0.at (wpAny_bind (L1.at ?_)))))
  refine wpAny_bind ((looks_findIn X hgh).at ?_)
  show wpAny _ _ (Builtin.ObjectAttr.noSuchAttribute (.ref x) "obj") _ _ _
  unfold Builtin.ObjectAttr.noSuchAttribute
  have L2 : Looks (model prog w) hh' (typeNameOfCut 100 (.ref x)) cd.name.toString := by
    unfold typeNameOfCut shownTypeOf
    refine Looks.andThen (a := .ref C) (L0.andThen ?_) ?_
    · rw [if_neg (by intro e; cases e)]; exact .now
    · unfold typeNameCut
      refine (looks_clsIn X hc).andThen ?_
      dsimp only
      rw [if_pos hlen]
      exact .now
  refine wpAny_bind (L2.at ?_)
  refine wpAny_raiseAttrError hA (fun h' tk e hx => ?_) (attrMsg_fits ?_ nm_len)
  · obtain ⟨t', u', he⟩ := hx.there
    exact (looks_note he).here (h _ _ _ hx.of)
  · simp only [String.length_append, toString]
    have e1 : "'".length ≤ 2 := by decide
    have e2 : "' object has no attribute '".length ≤ 30 := by decide
    omega
theorem no_obj {u : Value} {Q E : Value → Shared → Prop} (F : Facts w B) (R : Room A l n) (S : Sit B l s) (hu : (∃ b : Bare, b.notKey ∧ IsB B u b) ∨ ∃ t, QInst B u t) (h : ∀ e s', Went B l s s' → Exc B "AttributeError" none e s'.heap → E e s') :
    wpAny (M0 w) A (getAttr u "obj" true) Q E s := by
  have fin : ∀ h' tk e, Heap.NewExcOf s.heap h' e "AttributeError" → E (.ref e) { s with heap := h', toks := tk } := fun h' tk e x => h _ _ (Went.of_keeps S x.keeps rfl rfl) (exc_of_attr S.stays x)
  rcases hu with ⟨b, hb, hu⟩ | ⟨t, hq⟩
  · cases b with
    | int y => obtain ⟨t, rfl⟩ := hu; exact getAttr_miss_int miss_int R.handled fin nm_len
    | str y => obtain ⟨t, rfl⟩ := hu; exact getAttr_miss_str miss_str R.handled fin nm_len
    | none => obtain rfl : u = .none := hu; exact getAttr_miss_none miss_none R.handled fin nm_len
    | set y => obtain ⟨a, es, ep, tb, rfl, ha, _⟩ := hu; exact getAttr_set (S.stays _ _ ha) miss_set (by decide) nm_len R.handled fin
    | key y => exact hb.elim
  · obtain ⟨ht, x, d, hs, tk, rfl, hx, hd⟩ := hq
    exact getAttr_inst_miss (K := KK w.params) (C := 179) (od := some _) (F.K.keeps S.stays) ⟨S.stays _ _ hx, rfl, rfl, S.stays _ _ hd⟩ (by kernel_rfl) (by kernel_rfl) (by kernel_rfl) (cd := _) rfl (by decide +kernel) (by decide +kernel) R.handled fin
end
end Mine
end
section
open PySem PySem.W PySem.W.X PyProof.Rows PySem.Calls PySem.Spec
namespace Mine
set_option maxRecDepth 100000
section
variable {prog : Program} {w : World} {A : Around} {B : Heap} {l : List Env} {n : Nat} {s : Shared}
theorem ev_int {M : Model} {E : Value → Shared → Prop} {env : Env} {x : Int} {k : Nat} {pos : Pos} {Q : Value → Shared → Prop} (h : Q (.int x s.toks) { s with toks := s.toks + 1 }) : wpAny M A (eval (.Constant (.int x) k pos) env) Q E s := fun _ _ _ => h
theorem Went.tok {s s' : Shared} (x : Went B l s s') (tk : Nat) : Went B l s { s' with toks := tk } := ⟨⟨x.sit.stays, x.sit.frames, x.sit.gens⟩, x.slots, x.os⟩
/-- a lambda of the text's own that gives a value -/
theorem lam_val {P : Value → Prop} {a : Addr} {o : Obj} {fd : FuncData} {body : Expr} {args : List Value} {binds : List (Str × Value)}
    (R : Room A l n) (hn : n < 600) (S : Sit B l s) (F : Facts w B) (ho : B.get? a = some o) (hd : o.data = .func fd) (hbody : fd.body = .expr body) (hcd : B.CodeRec fd.code fd.qualname)
    (hbind : bindArgs fd ⟨args, []⟩ = pure binds) (hco : fd.scope.isCoroutine = false) (hgen : fd.scope.isGenerator = false) (hk : fd.scope.kind = .function)
    (hcell : ∀ x ∈ fd.scope.names, x.2 ≠ .cell) (hloc : ∀ x ∈ binds, fd.scope.names.lookup x.1 = some .local)
    (h : ∀ (L : Addr) (env : Env) (s₁ : Shared), env = { scope := fd.scope, locals := L, globals := fd.globals, cells := fd.closure, qual := fd.qualname ++ ".<locals>.", func := some a, code := fd.code, frame := some L, builtins := fd.builtins } →
      Sit B (env :: l) s₁ → s₁.heap.Ns L (fun x => binds.reverse.lookup x) → wpAny (M0 w) (A.deeper env) (eval body env) (fun v s' => Went B (env :: l) s₁ s' ∧ P v) (fun _ _ => False) s₁) :
    wpAny (M0 w) A (call (.ref a) args) (fun v s' => Went B l s s' ∧ P v) (fun _ _ => False) s := by
  refine wpAny_call (code_call_lam (fd := fd) (by have := R.depth; show _ < 1000; omega) (S.stays _ _ ho) hd hco hgen hbody (hcd.keeps S.stays) ?_)
  rw [hbind]
  refine wpAny_pure (wpAny_newFunctionEnv hcell hloc (fun h₁ hns hsb => ⟨(F.lim.keeps S.stays).fresh _ hsb, ?_⟩) hk)
  have hkeep : ∀ b o, s.heap.get? b = some o → h₁.get? b = some o := fun b o e => (hsb.extBut b o (Nat.ne_of_lt (Heap.lt_size e)) (Heap.get?_push_of_some _ e))
  have hnew : B.get? s.heap.objs.size = none := S.stays.fresh
  have S1 : Sit B (newEnv fd.scope s.heap.objs.size fd.globals fd.closure (fd.qualname ++ ".<locals>.") (some a) fd.code none fd.builtins :: l) { s with heap := h₁, toks := s.toks + binds.length } :=
    ⟨fun b o e => hkeep b o (S.stays b o e), .cons (by show fd.scope.kind ≠ .module; rw [hk]; decide) rfl hns hnew (S.frames.of_keeps fun b o e _ => ⟨o, hkeep b o e, rfl⟩), S.gens⟩
  have up : s.heap.UpToSlots h₁ := .of_keeps hkeep
  refine code_expr (wpAny_mono (h s.heap.objs.size _ _ rfl S1 hns) ?_ fun _ _ x => x.elim)
  rintro v s' ⟨we, ok⟩
  exact ⟨⟨⟨we.sit.stays, we.sit.frames.2.2, we.sit.gens⟩, up.trans we.slots, we.os⟩, ok⟩
def ascope : Scope := { kind := .function, names := [("a", .local), ("b", .local)], isGenerator := false, isCoroutine := false, more := [] }
/-- the first lambda of the law -/
def MyCmp (B : Heap) (v : Value) : Prop := ∃ a o fd p0 p1 p2 p3 p4 p5 p6 p7 p8 k0 k1 k2, v = .ref a ∧ B.get? a = some o ∧ o.data = .func fd ∧
  fd.body = .expr (.BinOp (.Constant (.int 3) k0 p0) .Mult (.BinOp (.BinOp (.Name "a" p1) .FloorDiv (.Constant (.int 2) k1 p2) p3) .Sub (.BinOp (.Name "b" p4) .FloorDiv (.Constant (.int 2) k2 p5) p6) p7) p8) ∧ fd.scope = ascope ∧
    (∀ v u, bindArgs fd ⟨[v, u], []⟩ = pure [(("a" : Str), v), (("b" : Str), u)]) ∧ B.CodeRec fd.code fd.qualname
theorem div_two {M : Model} {y : Int} {t u : Tok} {E Q : Value → Shared → Prop} (h : Q (.int (y / 2) s.toks) { s with toks := s.toks + 1 }) : wpAny (model prog w) A (binaryOp .FloorDiv (.int y t) (.int 2 u)) Q E s := by
  refine AutoIntOps.floordiv_1 (by decide) ?_ ?_
  · unfold Builtin.divisionGoesByPylong
    have : Nat.log2 2 = 1 := by decide +kernel
    simp [this]
  · rw [Int.fdiv_eq_ediv_of_nonneg _ (by decide)]; exact h
theorem mycmp_call {v : Value} {y z : Int} {t u : Tok} (F : Facts w B) (L : MyCmp B v) (R : Room A l n) (hn : n < 600) (S : Sit B l s) :
    wpAny (M0 w) A (call v [.int y t, .int z u]) (fun v s' => Went B l s s' ∧ ∃ tk, v = .int (3 * (y / 2 - z / 2)) tk) (fun _ _ => False) s := by
  obtain ⟨a, o, fd, p0, p1, p2, p3, p4, p5, p6, p7, p8, k0, k1, k2, rfl, ho, hd, hb, hsc, hbind, hcd⟩ := L
  have hsn : fd.scope.names = ascope.names := by rw [hsc]
  refine lam_val R hn S F ho hd hb hcd (hbind _ _) (by rw [hsc]; rfl) (by rw [hsc]; rfl) (by rw [hsc]; rfl) (by rw [hsn]; decide) (by rw [hsn]; intro z hz; simp at hz; rcases hz with rfl | rfl <;> rfl) fun L env s₁ henv S₁ ns₁ => ?_
  have hk : ∀ x, env.kindOf x = ascope.names.lookup x := fun x => by rw [henv]; show fd.scope.names.lookup x = _; rw [hsn]
  have kind : env.scope.kind = .function := by rw [henv]; show fd.scope.kind = _; rw [hsc]; rfl
  have ns : s₁.heap.Ns env.locals (fun w => [(("a" : Str), Value.int y t), (("b" : Str), Value.int z u)].reverse.lookup w) := by rw [henv]; exact ns₁
  refine wpAny_BinOp (ev_int (wpAny_BinOp (wpAny_BinOp (ev_loc kind (by rw [hk]; rfl) (by exact ns) (v := .int y t) rfl (ev_int (div_two (M := M0 w) ?_))))))
  refine wpAny_BinOp (ev_loc kind (by rw [hk]; rfl) (by exact ns) (v := .int z u) rfl (ev_int (div_two (M := M0 w) ?_)))
  refine P.sub_int (P.mul_int ⟨⟨⟨S₁.stays, S₁.frames, S₁.gens⟩, .refl _, rfl⟩, _, rfl⟩ (IntMulOk.of_left (by decide +kernel)))
end
end Mine
end
section
open PySem PySem.W PySem.W.X PyProof.Rows PySem.Calls PySem.Spec
namespace Mine
set_option maxRecDepth 100000
def kscope : Scope := { kind := .function, names := [("self", .local), ("other", .local), ("mycmp", .free)], isGenerator := false, isCoroutine := false, more := [] }
/-- one of K's comparing methods, as it lies in a written heap -/
def KFn (K : Frag) (a : Addr) (op : CmpOp) : Prop := ∃ o fd p0 p1 p2 p3 p4 p5 p6 p7 p8 k, K.lookup a = some o ∧ o.data = .func fd ∧
  fd.body = .stmts [.Return (some (.Compare (.Call (.Name "mycmp" p0) [.Attribute (.Name "self" p1) "obj" p2, .Attribute (.Name "other" p3) "obj" p4] [] p5) [op] [.Constant (.int 0) k p6] p7)) p8] ∧ fd.scope = kscope ∧
  fd.closure = [(("mycmp" : Str), (nat_lit 236))] ∧ (∀ v u, bindArgs fd ⟨[v, u], []⟩ = pure [(("self" : Str), v), (("other" : Str), u)]) ∧ codeIn K fd.code fd.qualname = true
def kaddr : O4 → Addr
  | .lt => (nat_lit 259)
  | .gt => (nat_lit 267)
  | .le => (nat_lit 283)
  | .ge => (nat_lit 291)
structure KSpec (K : Frag) : Prop where
  cls : ∃ (dd2 : Option Addr) (sl2 : Array (Option Value)) (N : Addr) (nm qn : Str) (bs sb : List Value) (hd : Bool) (sn : List Str) (ab : Bool) (co : Option Bool) (dl : Bool),
    K.lookup (nat_lit 295) = some ⟨.type "type", dd2, .cls ⟨nm, bs, [.ref (nat_lit 295), .type "object"], N, qn, hd, sn, sb, ab, co, dl⟩, sl2⟩ ∧ nm.toString = "K" ∧ ¬ nm.cps.foldl (fun k c => k + (Str.utf8Of c).length) 0 > 50
  meth : ∀ o : O4, findIn K (.ref (nat_lit 295)) o.attr = some (some (.ref (kaddr o))) ∧ typeIn K (.ref (kaddr o)) = some (.type "function") ∧ findCls K (.ref (nat_lit 295)) (.type "type") o.attr = some (.val (.ref (kaddr o)))
  fn : ∀ o : O4, KFn K (kaddr o) o.cmp
  meq : findIn K (.ref (nat_lit 295)) "__eq__" = some (some (.ref (nat_lit 275))) ∧ typeIn K (.ref (nat_lit 275)) = some (.type "function")
  fneq : KFn K (nat_lit 275) .Eq
  mne : findIn K (.ref (nat_lit 295)) "__ne__" = some (some (.builtin "object.__ne__"))
  ga : specialIn K (.ref (nat_lit 295)) "__getattribute__" = some (some (.builtin "type.__getattribute__"))
  reads : readsIn K (nat_lit 295) (.type "type") = true
  plain : plainGet K (nat_lit 295) "obj" = true
  slot : findIn K (.ref (nat_lit 295)) "obj" = some (some (.ref (nat_lit 296))) ∧ specialIn K (.ref (nat_lit 296)) "__get__" = some (some (.builtin "member_descriptor.__get__")) ∧ takesIn K (.ref (nat_lit 296)) = some true ∧ slotIn K (nat_lit 296) (nat_lit 295) = some 0
  cell : ∃ d sl c, K.lookup (nat_lit 236) = some ⟨c, d, .cell (some (.ref (nat_lit 234))), sl⟩
  sub : subIn K (.ref (nat_lit 295)) (.type "object") = some true
section
variable {w : World} {A : Around} {B : Heap} {l : List Env} {n : Nat} {s : Shared} {K : Frag}
theorem kobj {v : Value} {y : Int} {Q E : Value → Shared → Prop} {expr : Bool} (KS : KSpec K) (X : K.In s.heap) (hv : KInst s.heap v y) (h : ∀ t tk, Q (.int y t) { s with toks := tk }) : wpAny (M0 w) A (getAttr v "obj" expr) Q E s := by
  obtain ⟨a, t, dx, rfl, ha, hdx⟩ := hv
  obtain ⟨dd2, sl2, N, nm, qn, bs, sb, hd, sn, ab, co, dl, hC, _⟩ := KS.cls
  obtain ⟨h1, h2, h3, h4⟩ := KS.slot
  have I : InstAt s.heap a _ (nat_lit 295) (some emptyDict) := ⟨ha, rfl, rfl, hdx⟩
  have hf : findObj K (nat_lit 295) (some emptyDict) "obj" = some (.bind (.builtin "member_descriptor.__get__") (.ref (nat_lit 296))) := by
    unfold findObj
    have : clsIn K (nat_lit 295) = some ⟨nm, bs, [.ref (nat_lit 295), .type "object"], N, qn, hd, sn, sb, ab, co, dl⟩ := by unfold clsIn; rw [hC]
    rw [this, Option.bind_some, h1, Option.bind_some]
    simp [h2, h3]
  exact get_bind X I (plainGet_of KS.plain).1 hf (plainGet_of KS.plain).2 (wpAny_call (slot_get (s := { s with toks := s.toks + 1 }) X I h4 (v := .int y t) rfl (handed_on rfl (h _ _))))
theorem kinst_keeps {h h' : Heap} {v : Value} {y : Int} (x : KInst h v y) (k : ∀ b o, h.get? b = some o → h'.get? b = some o) : KInst h' v y := let ⟨a, t, dx, e, ha, hd⟩ := x; ⟨a, t, dx, e, k _ _ ha, k _ _ hd⟩
/-- K's method on two keys -/
theorem kfn_ok {a : Addr} {op : CmpOp} {v u : Value} {y z : Int} {b : Bool} (F : Facts w B) (X : K.In B) (KS : KSpec K) (MC : MyCmp B (.ref (nat_lit 234))) (KF : KFn K a op) (hop : ∀ p k x, behindInMarks op (.Constant (.int x) k p) = false)
    (hb : ∀ {A : Around} {s : Shared} {t t' : Tok} {Q E : Value → Shared → Prop}, Q (.bool b) s → wpAny (M0 w) A (compareOp op (.int (3 * (y / 2 - z / 2)) t) (.int 0 t')) Q E s)
    (R : Room A l n) (hn : n < 590) (S : Sit B l s) (hv : KInst B v y) (hu : KInst B u z) : Does w A B l s (call (.ref a) [v, u]) (.bool b) := by
  obtain ⟨o, fd, p0, p1, p2, p3, p4, p5, p6, p7, p8, k, ho, hd, hbd, hsc, hcl, hbind, hcd⟩ := KF
  have hsn : fd.scope.names = kscope.names := by rw [hsc]
  refine fn_does R (by omega) S F (X _ _ ho) hd hbd (codeRec_of X hcd) (hbind v u) (by rw [hsc]; rfl) (by rw [hsc]; rfl) (by rw [hsc]; rfl) (by rw [hsn]; decide) (by rw [hsn]; exact locs (scope := kscope) rfl) fun L env s₁ henv S₁ ns₁ R₁ => ?_
  have hk : ∀ x, env.kindOf x = kscope.names.lookup x := fun x => by rw [henv]; show fd.scope.names.lookup x = _; rw [hsn]
  have kind : env.scope.kind = .function := by rw [henv]; show fd.scope.kind = _; rw [hsc]; rfl
  have ns : s₁.heap.Ns env.locals (fun x => [(("self" : Str), v), (("other" : Str), u)].reverse.lookup x) := by rw [henv]; exact ns₁
  obtain ⟨d, sl, c, hcell⟩ := KS.cell
  have hcl' : env.cells.lookup ("mycmp" : Str) = some (nat_lit 236) := by rw [henv]; show fd.closure.lookup _ = _; rw [hcl]; rfl
  refine wpAny_execs_cons (wpAny_Return_some (wpAny_Compare1 (wpAny_Call_ofName (wpAny_Name (wpAny_loadName_free kind (by rw [hk]; rfl) hcl' ⟨_, S₁.stays _ _ (X _ _ hcell), rfl⟩ ?_) (by decide))) (hop _ _ _)))
  obtain ⟨a', o', fd', q0, q1, q2, q3, q4, q5, q6, q7, q8, j0, j1, j2, e', ho', hd', hrest⟩ := id MC
  cases e'
  refine callWith_any (P := fun h => B.StaysIn h) (fun h e => keep_fn (e _ _ ho') hd') rfl ?_
  refine spliced_cons (Attribute_Name_ (ev_loc kind (by rw [hk]; rfl) ns (v := v) rfl (kobj KS (X.keeps S₁.stays) (kinst_keeps hv S₁.stays) fun t tk => ?_)))
  refine spliced_cons (Attribute_Name_ (ev_loc kind (by rw [hk]; rfl) (by exact ns) (v := u) rfl (kobj KS (X.keeps S₁.stays) (kinst_keeps hu S₁.stays) fun t' tk' => ?_)))
  refine spliced_nil ⟨S₁.stays, ?_⟩
  refine wpAny_mono (mycmp_call F MC R₁ (by omega) (S₁.toks tk')) (fun x s₂ ⟨we, t2, e2⟩ => ?_) fun _ _ x => x.elim
  subst e2
  refine ev_int (hb ?_)
  have w' : Wf B (env :: l) L s₁ s₂ := ⟨we.sit, .of we.slots, we.os⟩
  exact ⟨w'.toks _, rfl⟩
/-- K's method where the other is no key -/
theorem kfn_bad {a : Addr} {op : CmpOp} {v u : Value} {y : Int} (F : Facts w B) (X : K.In B) (KS : KSpec K) (MC : MyCmp B (.ref (nat_lit 234))) (KF : KFn K a op) (hop : ∀ p k x, behindInMarks op (.Constant (.int x) k p) = false)
    (R : Room A l n) (hn : n < 590) (S : Sit B l s) (hv : KInst B v y) (hu : (∃ b : Bare, b.notKey ∧ IsB B u b) ∨ ∃ t, QInst B u t) : Does w A B l s (call (.ref a) [v, u]) .at_ := by
  obtain ⟨o, fd, p0, p1, p2, p3, p4, p5, p6, p7, p8, k, ho, hd, hbd, hsc, hcl, hbind, hcd⟩ := KF
  have hsn : fd.scope.names = kscope.names := by rw [hsc]
  refine fn_does R (by omega) S F (X _ _ ho) hd hbd (codeRec_of X hcd) (hbind v u) (by rw [hsc]; rfl) (by rw [hsc]; rfl) (by rw [hsc]; rfl) (by rw [hsn]; decide) (by rw [hsn]; exact locs (scope := kscope) rfl) fun L env s₁ henv S₁ ns₁ R₁ => ?_
  have hk : ∀ x, env.kindOf x = kscope.names.lookup x := fun x => by rw [henv]; show fd.scope.names.lookup x = _; rw [hsn]
  have kind : env.scope.kind = .function := by rw [henv]; show fd.scope.kind = _; rw [hsc]; rfl
  have ns : s₁.heap.Ns env.locals (fun x => [(("self" : Str), v), (("other" : Str), u)].reverse.lookup x) := by rw [henv]; exact ns₁
  obtain ⟨d, sl, c, hcell⟩ := KS.cell
  have hcl' : env.cells.lookup ("mycmp" : Str) = some (nat_lit 236) := by rw [henv]; show fd.closure.lookup _ = _; rw [hcl]; rfl
  refine wpAny_execs_cons (wpAny_Return_some (wpAny_Compare1 (wpAny_Call_ofName (wpAny_Name (wpAny_loadName_free kind (by rw [hk]; rfl) hcl' ⟨_, S₁.stays _ _ (X _ _ hcell), rfl⟩ ?_) (by decide))) (hop _ _ _)))
  obtain ⟨a', o', fd', q0, q1, q2, q3, q4, q5, q6, q7, q8, j0, j1, j2, e', ho', hd', hrest⟩ := id MC
  cases e'
  refine callWith_any (P := fun h => B.StaysIn h) (fun h e => keep_fn (e _ _ ho') hd') rfl ?_
  refine spliced_cons (Attribute_Name_ (ev_loc kind (by rw [hk]; rfl) ns (v := v) rfl (kobj KS (X.keeps S₁.stays) (kinst_keeps hv S₁.stays) fun t tk => ?_)))
  refine spliced_cons (Attribute_Name_ (ev_loc kind (by rw [hk]; rfl) (by exact ns) (v := u) rfl (no_obj (l := env :: l) F R₁ (S₁.toks tk) hu fun e s₂ we x => ?_)))
  exact ⟨⟨we.sit, .of we.slots, we.os⟩, x⟩
end
end Mine
end
section
open PySem PySem.W PySem.W.X PyProof.Rows PySem.Calls PySem.Spec
namespace Mine
set_option maxRecDepth 100000
section
variable {prog : Program} {w : World} {A : Around} {B : Heap} {l : List Env} {n : Nat} {s : Shared} {K : Frag} {E : Value → Shared → Prop}
theorem class_attr_inst {x C : Addr} {ox : Obj} {od : Option Obj} {Q : Option Value → Shared → Prop} (X : K.In s.heap) (I : InstAt s.heap x ox C od) (hga : findIn K (.ref C) "__getattribute__" = some (some (.builtin "object.__getattribute__"))) (hgh : findIn K (.ref C) "__getattr__" = some none)
    (hf : findObj K C od "__class__" = some (.bind (.builtin "getset_descriptor.__get__") (.builtin "object.__class__"))) (hm : mroIn K C (.type "object") = some true)
    (h : Q (some (.ref C)) { s with toks := s.toks + 1 }) : wpAny (model prog w) A (getAttr? (.ref x) "__class__") Q E s := by
  obtain ⟨hh, g, d, t, os⟩ := s
  have L0 := I.type (M := model prog w)
  have L1 := looks_findIn (M := model prog w) X hga
  have L2 := looks_find (M := model prog w) X I hf
  unfold getAttr? getAttrBy?
  refine wpAny_bind (wpAny_mkText (wpAny_bind (wpAny_attempt ?_)))
  unfold getAttrBy
  refine wpAny_holding (wpAny_bind (L0.at (wpAny_bind (L1.at ?_))))
  show wpAny _ _ (getAttrEveryday _ _ _) _ _ _
  refine wpAny_bind (wpAny_onRaise (wpAny_runValue (codeAny_builtin F.plainObj_entry_getattr_hooked ?_)))
  refine wpAny_bind (wpAny_pure (wpAny_bind (L0.at (wpAny_bind (L2.at ?_)))))
  refine wpAny_bind ((looks_findIn X hgh).at ?_)
  show wpAny _ _ (holding [.builtin "object.__class__"] (call (.builtin "getset_descriptor.__get__") [.builtin "object.__class__", .ref x, .ref C]) >>= ret) _ _ _
  refine wpAny_bind (wpAny_holding (wpAny_call (class_get (s := ⟨hh, g, d, t + 1, os⟩) X I hm ?_)))
  refine wpAny_pure ?_
  show wpAny _ _ (handedOut (.ref C)) _ _ _
  exact handed_on rfl (wpAny_pure h)
theorem isk_nested {v : Value} {C D : Addr} {dep : Int} {tk : Tok} {Q : Fin → Shared → Prop} {P : Heap → Prop} (X : K.In s.heap) (ht : Looks (model prog w) s.heap (typeOf v) (.ref D)) (hne : (Value.ref D == Value.ref C) = false) (e0 : (clsIn K C).isSome = true) (eD : (clsIn K D).isSome = true) (e1 : typeIn K (.ref C) = some (.type "type")) (e2 : instIn K (.ref C) (.type "type") = some true) (L4 : Looks (model prog w) s.heap (isSubtype (.ref D) (.ref C)) false) (p : P s.heap)
    (ca : ∀ {prog : Program} {w : World} {A : Around} {E : Value → Shared → Prop} {Q : Option Value → Shared → Prop} {s : Shared}, P s.heap → Q (some (.ref D)) { s with toks := s.toks + 1 } → wpAny (model prog w) A (getAttr? v "__class__") Q E s)
    (h : Q (.done (.ret (.bool false))) { s with toks := s.toks + 1 }) :
    wpAny (model prog w) A (Builtin.«isinstance.nested» ⟨[v, .ref C, .int dep tk], []⟩) Q E s := by
  obtain ⟨hh, g, d, tt, os⟩ := s
  unfold Builtin.«isinstance.nested»
  refine wpAny_bind (ht.at ?_)
  rw [if_neg (by rw [hne]; decide)]
  have L1 := looks_typeIn (M := model prog w) X e1
  have L2 := looks_instIn (M := model prog w) X e2
  have L3 : Looks (model prog w) hh (isInstance v (.ref C)) false := ht.andThen L4
  refine wpAny_bind (L1.at ?_)
  rw [if_pos (by decide)]
  k_delta "plainIsInstance"
  unfold isType
  repeat lk
  unfold clsIn at e0
  split at e0
  · rename_i ho
    refine nd_load (X _ _ ho) (nd_pure (wpAny_pure ?_))
    simp only [Bool.not_true, Bool.false_eq_true, if_false]
    refine wpAny_bind (L3.at ?_)
    simp only [Bool.false_eq_true, if_false]
    refine wpAny_bind (ca p ?_)
    unfold clsIn at eD
    split at eD
    rotate_left
    · cases eD
    rename_i hoD
    refine wpAny_bind (wpAny_bind (wpAny_loadPart (X _ _ hoD) (wpAny_pure ?_)))
    simp only [Bool.not_true, Bool.false_eq_true, if_false]
    refine wpAny_bind (wpAny_rule ?_)
    refine L4.at ?_
    exact wpAny_pure h
  · cases e0
/-- all that the law asks of the made class -/
theorem klaw_of (F : Facts w B) (X : K.In B) (KS : KSpec K) (MC : MyCmp B (.ref (nat_lit 234))) (hcls : findObj K (nat_lit 295) (some emptyDict) "__class__" = some (.bind (.builtin "getset_descriptor.__get__") (.builtin "object.__class__"))) (hmro : mroIn K (nat_lit 295) (.type "object") = some true) (hsub : subIn K (.ref (nat_lit 295)) (.ref 179) = some false)
    (hq : (clsIn K 179).isSome = true ∧ typeIn K (.ref 179) = some (.type "type") ∧ instIn K (.ref 179) (.type "type") = some true) (hk : (clsIn K (nat_lit 295)).isSome = true) : KLaw w B where
  cls := by
    obtain ⟨dd2, sl2, N, nm, qn, bs, sb, hd, sn, ab, co, dl, hC, _⟩ := KS.cls
    exact ⟨dd2, sl2, N, nm, qn, bs, sb, hd, sn, ab, co, dl, X _ _ hC⟩
  ty {v y} hv := by
    obtain ⟨a, t, dx, rfl, ha, _⟩ := hv
    obtain ⟨dd2, sl2, N, nm, qn, bs, sb, hd, sn, ab, co, dl, hC, hnm, hlen⟩ := KS.cls
    refine ty_inst X ha (cd := ⟨nm, bs, [.ref (nat_lit 295), .type "object"], N, qn, hd, sn, sb, ab, co, dl⟩) (by unfold clsIn; rw [hC]) hnm hlen (by decide) (fun o => ?_) KS.meq.1 KS.meq.2 KS.mne KS.ga KS.reads
    obtain ⟨h1, h2, h3⟩ := KS.meth o
    obtain ⟨ob, fd, p0, p1, p2, p3, p4, p5, p6, p7, p8, k, ho, hd, _⟩ := KS.fn o
    exact ⟨kaddr o, by cases o <;> rfl, h1, h2, ⟨ob, fd, ho, hd⟩, h3⟩
  cmp {A l n s v u y z} o R hn S hv hu := by
    have e : kmeth o = .ref (kaddr o) := by cases o <;> rfl
    rw [e]
    refine kfn_ok F X KS MC (KS.fn o) (fun p k x => by cases o <;> rfl) (fun {A s t t' Q E} h => ?_) R hn S hv hu
    cases o with
    | lt => exact P.lt_int (by rw [show decide (3 * (y / 2 - z / 2) < 0) = decide (y / 2 < z / 2) from by rw [decide_eq_decide]; omega]; exact h)
    | le => exact P.le_int (by rw [show decide (3 * (y / 2 - z / 2) ≤ 0) = decide (y / 2 ≤ z / 2) from by rw [decide_eq_decide]; omega]; exact h)
    | gt => exact P.gt_int (by rw [show decide (3 * (y / 2 - z / 2) > 0) = decide (y / 2 > z / 2) from by rw [decide_eq_decide]; omega]; exact h)
    | ge => exact P.ge_int (by rw [show decide (3 * (y / 2 - z / 2) ≥ 0) = decide (y / 2 ≥ z / 2) from by rw [decide_eq_decide]; omega]; exact h)
  eq {A l n s v u y z} R hn S hv hu := by
    refine kfn_ok F X KS MC KS.fneq (fun p k x => rfl) (fun {A s t t' Q E} h => ?_) R hn S hv hu
    refine P.eq_int ?_
    rw [show (3 * (y / 2 - z / 2) == 0) = decide (y / 2 = z / 2) from by rw [show (3 * (y / 2 - z / 2) == 0) = decide (3 * (y / 2 - z / 2) = 0) from rfl, decide_eq_decide]; omega]
    exact h
  bad {A l n s v u y} o R hn S hv hu := by
    have e : kmeth o = .ref (kaddr o) := by cases o <;> rfl
    rw [e]
    exact kfn_bad F X KS MC (KS.fn o) (fun p k x => by cases o <;> rfl) R hn S hv hu
  isi {A l n s v y} R hn S hv := by
    obtain ⟨a, t, dx, rfl, ha, hdx⟩ := hv
    have kk : ∀ {h : Heap}, B.StaysIn h → InstAt h a _ (nat_lit 295) (some emptyDict) := fun e => ⟨e _ _ ha, rfl, rfl, e _ _ hdx⟩
    exact call_isinstance (S := fun _ R s => B.StaysIn s.heap ∧ R (.ok (.ret (.bool false))) { s with toks := s.toks + 1 }) (fun prog w A R s hs => isinstance_outer (isk_nested (K := K) (D := (nat_lit 295)) (P := fun h => B.StaysIn h) (X.keeps hs.1) ((kk hs.1).type) rfl hq.1 hk hq.2.1 hq.2.2 (looks_subIn (X.keeps hs.1) hsub) hs.1 (fun {prog w A E Q s} e q => class_attr_inst (X.keeps e) (kk e) (plainGet_of KS.plain).1 (plainGet_of KS.plain).2 hcls hmro q) hs.2) (by intro e; cases e)) ⟨S.stays, (Went.refl S).tok _, rfl⟩
  iso {v y} hv := by
    obtain ⟨a, t, dx, rfl, ha, _⟩ := hv
    exact Looks.andThen (a := .ref (nat_lit 295)) ((Looks.ld ha).andThen .now) (looks_subIn X KS.sub)
end
end Mine
end
section
open PySem PySem.W PySem.W.X PyProof.Rows PySem.Calls PySem.Spec
namespace Mine
set_option maxRecDepth 100000
def iscope : Scope := { kind := .function, names := [("self", .local), ("obj", .local)], isGenerator := false, isCoroutine := false, more := [] }
def KInit (K : Frag) : Prop := ∃ o fd p0 p1 p2 p3, K.lookup (nat_lit 251) = some o ∧ o.data = .func fd ∧ fd.body = .stmts [.Assign [.Attribute (.Name "self" p0) "obj" p1] (.Name "obj" p2) p3] ∧ fd.scope = iscope ∧
  (∀ v u, bindArgs fd ⟨[v, u], []⟩ = pure [(("self" : Str), v), (("obj" : Str), u)]) ∧ codeIn K fd.code fd.qualname = true
structure KMk (K : Frag) : Prop where
  makes : makesIn K (nat_lit 295) = true
  init : findIn K (.ref (nat_lit 295)) "__init__" = some (some (.ref (nat_lit 251)))
  ift : typeIn K (.ref (nat_lit 251)) = some (.type "function")
  sa : findIn K (.ref (nat_lit 295)) "__setattr__" = some (some (.builtin "object.__setattr__"))
  po : plainOver K (nat_lit 295) = true
  tk : takerIn K (nat_lit 295) "obj" = some (some (.ref (nat_lit 296)))
  ty : typeIn K (.ref (nat_lit 296)) = some (.type "member_descriptor")
  sl : slotIn K (nat_lit 296) (nat_lit 295) = some 0
  fn : KInit K
  keep : keepIn K (.ref (nat_lit 295)) = true
section
variable {w : World} {A : Around} {s : Shared} {K : Frag}
theorem key_inst {y : Int} {t : Tok} (X : K.In s.heap) (KM : KMk K) (hlim : s.heap.NoLimit) (hdp : A.depth < 900) : wpAny (M0 w) A (call (.ref (nat_lit 295)) [.int y t]) (Kept s fun v h' => KInst h' v y) (fun _ _ => False) s := by
  obtain ⟨h, g, d, tk, os⟩ := s
  obtain ⟨o, fd, p0, p1, p2, p3, ho, hd, hb, hsc, hbind, hcd⟩ := KM.fn
  refine wpAny_call (make_core (makes_of X KM.makes) (looks_findIn X KM.init) (fun self => bind_fn X self KM.ift) (.inl rfl) ?_)
  have k2 : ∀ b o, h.get? b = some o → ((h.push emptyDict).push (instObj (nat_lit 295) h.objs.size)).get? b = some o := fun b o e => Heap.get?_push_of_some _ (Heap.get?_push_of_some _ e)
  have hx : ((h.push emptyDict).push (instObj (nat_lit 295) h.objs.size)).get? (h.objs.size + 1) = some (instObj (nat_lit 295) h.objs.size) := by have := Heap.get?_push_size (o := instObj (nat_lit 295) h.objs.size) (h.push emptyDict) rfl; rwa [Heap.size_push] at this
  have hdx : ((h.push emptyDict).push (instObj (nat_lit 295) h.objs.size)).get? h.objs.size = some emptyDict := Heap.get?_push_of_some _ (Heap.get?_push_size _ rfl)
  have z2 : ((h.push emptyDict).push (instObj (nat_lit 295) h.objs.size)).objs.size = h.objs.size + 2 := by rw [Heap.size_push, Heap.size_push]
  generalize (h.push emptyDict).push (instObj (nat_lit 295) h.objs.size) = h2 at k2 hx hdx z2 ⊢
  have hsn : fd.scope.names = iscope.names := by rw [hsc]
  refine codeAny_call_function (fd := fd) (by show _ < 1000; rw [depth_under_kw]; omega) (k2 _ _ (X _ _ ho)) hd (by rw [hsc]; rfl) (by rw [hsc]; rfl) hb ((codeRec_of X hcd).keeps k2) ?_
  rw [hbind]
  refine wpAny_pure (wpAny_newFunctionEnv (by rw [hsn]; decide) (by rw [hsn]; exact locs (scope := iscope) rfl) (fun h₁ hns hsb => ⟨(hlim.keeps k2).fresh _ hsb, ?_⟩) (by rw [hsc]; rfl))
  dsimp only at hns hsb ⊢
  have k3 : ∀ b o, h2.get? b = some o → h₁.get? b = some o := fun b o e => hsb.extBut b o (Nat.ne_of_lt (Heap.lt_size e)) (Heap.get?_push_of_some _ e)
  refine codeAny_func ?_
  generalize henv : newEnv fd.scope h2.objs.size fd.globals fd.closure (fd.qualname ++ ".<locals>.") (some (nat_lit 251)) fd.code none fd.builtins = env
  have hk : ∀ x, env.kindOf x = iscope.names.lookup x := fun x => by rw [← henv]; show fd.scope.names.lookup x = _; rw [hsn]
  have kind : env.scope.kind = .function := by rw [← henv]; show fd.scope.kind = _; rw [hsc]; rfl
  have hL : env.locals = h2.objs.size := by rw [← henv]; rfl
  have none₀ : ∀ b, h.objs.size ≤ b → h.get? b = none := fun b hb => Heap.get?_none_of_le hb
  have F : Fr h h2.objs.size h₁ (fun z => [(("self" : Str), Value.ref (h.objs.size + 1)), (("obj" : Str), Value.int y t)].reverse.lookup z) := ⟨hns, fun b o e => k3 _ _ (k2 _ _ e), by rw [z2]; exact Nat.le_add_right _ _⟩
  have N : News h h2.objs.size h₁ [(h.objs.size + 1, instObj (nat_lit 295) h.objs.size), (h.objs.size, emptyDict)] := by
    intro p hp
    rcases List.mem_cons.mp hp with rfl | hp
    · exact ⟨k3 _ _ hx, by rw [z2]; exact Nat.ne_of_lt (Nat.lt_succ_self _), none₀ _ (Nat.le_succ _)⟩
    · rw [List.mem_singleton.mp hp]
      exact ⟨k3 _ _ hdx, by rw [z2]; exact Nat.ne_of_lt (by omega), none₀ _ (Nat.le_refl _)⟩
  have ns : h₁.Ns env.locals (fun z => [(("self" : Str), Value.ref (h.objs.size + 1)), (("obj" : Str), Value.int y t)].reverse.lookup z) := by rw [hL]; exact F.ns
  refine wpAny_execs_cons (plainObj_wpAny_Assign_Attribute (ev_loc kind (by rw [hk]; decide) (by exact ns) (v := .int y t) rfl (ev_loc kind (by rw [hk]; decide) (by exact ns) (v := .ref (h.objs.size + 1)) rfl ?_)) rfl)
  have I : InstAt h₁ (h.objs.size + 1) (instObj (nat_lit 295) h.objs.size) (nat_lit 295) (some emptyDict) := ⟨k3 _ _ hx, rfl, rfl, k3 _ _ hdx⟩
  refine set_slot (F := by exact F) X N I KM.sa KM.po KM.tk KM.ty KM.sl (by decide) (ox' := ⟨.ref (nat_lit 295), some h.objs.size, .plain, #[some (.int y t)]⟩) rfl rfl (.head (by intro p hp; rw [List.mem_singleton.mp hp]; exact Nat.ne_of_lt (Nat.lt_succ_self _))) fun h' F' N' => ?_
  refine wpAny_execs_nil ?_
  refine ⟨rfl, F'.keep, rfl, rfl, _, t, h.objs.size, rfl, (N' _ (.head _)).1, (N' _ (.tail _ (.head _))).1⟩
end
end Mine
end
section
open PySem PySem.W PySem.W.X PyProof.Rows PySem.Calls PySem.Spec PySem.W.ZRun
namespace Mine
section
local macro_rules | `(tactic| refine $e:term) => `(tactic| assumption)
set_option maxRecDepth 100000 in
set_option maxHeartbeats 8000000 in
/-- the head's written heap alone: the row's claim stands as a premise, so the top's run is not shown anew -/
theorem hk2 (h : r2.Holds) : r2.Holds := by z_head
end
set_option maxRecDepth 100000
set_option maxHeartbeats 0
structure KGood (K : Frag) : Prop where
  spec : KSpec K
  cls : findObj K (nat_lit 295) (some emptyDict) "__class__" = some (.bind (.builtin "getset_descriptor.__get__") (.builtin "object.__class__"))
  mro : mroIn K (nat_lit 295) (.type "object") = some true
  sub : subIn K (.ref (nat_lit 295)) (.ref 179) = some false
  q : (clsIn K 179).isSome = true ∧ typeIn K (.ref 179) = some (.type "type") ∧ instIn K (.ref 179) (.type "type") = some true
  k : (clsIn K (nat_lit 295)).isSome = true
  makes : KMk K
def kb (L e : Nat) (op : CmpOp) : List Stmt := [.Return (some (.Compare (.Call (.Name "mycmp" ⟨L, 19, L, 24⟩) [.Attribute (.Name "self" ⟨L, 25, L, 29⟩) "obj" ⟨L, 25, L, 33⟩, .Attribute (.Name "other" ⟨L, 35, L, 40⟩) "obj" ⟨L, 35, L, 44⟩] [] ⟨L, 19, L, 45⟩) [op] [.Constant (.int 0) 0 ⟨L, 48 + e, L, 49 + e⟩] ⟨L, 19, L, 49 + e⟩)) ⟨L, 12, L, 49 + e⟩]
def objAt (K : Frag) (a : Addr) : Obj := (K.lookup a).getD default
def fdAt (K : Frag) (a : Addr) : FuncData := match (objAt K a).data with
  | .func fd => fd
  | _ => default
def cdAt (K : Frag) (a : Addr) : ClassData := match (objAt K a).data with
  | .cls cd => cd
  | _ => default
def CodesAt (t : Nat) (K : Frag) : Prop := K.lookup (nat_lit 240) = some ⟨Value.type "tuple", none, Data.seq (⟨[Value.str (Str.ofString "mycmp") (t + 5)]⟩) 0, #[]⟩ ∧ K.lookup (nat_lit 241) = some ⟨Value.none, none, Data.fields (⟨[Value.int (68) 0, Value.int (8) 0, Value.ref 250, Value.int (71) 0, Value.int (8) 0, Value.ref 258, Value.int (74) 0, Value.int (8) 0, Value.ref 266, Value.int (77) 0, Value.int (8) 0, Value.ref 274, Value.int (80) 0, Value.int (8) 0, Value.ref 282, Value.int (83) 0, Value.int (8) 0, Value.ref 290]⟩), #[]⟩ ∧ K.lookup (nat_lit 242) = some ⟨Value.type "code", none, Data.fields (⟨[Value.str (Str.ofString "K") (t + 2), Value.str (Str.ofString "cmp_to_key.<locals>.K") (t + 3), Value.str (Str.ofString "/claim/cut.py") (t + 4), Value.int (64) 0, Value.int (0) 0, Value.int (0) 0, Value.int (0) 0, Value.int (0) 0, Value.ref 240, Value.bool true, Value.int (181) 0, Value.ref 241, Value.none, Value.none, Value.none, Value.none, Value.int (Int.ofNat (t + 6)) 0, Value.int (64) 0, Value.str (Str.ofString "/claim/cut.py") (t + 7)]⟩), #[]⟩ ∧ K.lookup (nat_lit 250) = some ⟨Value.type "code", none, Data.fields (⟨[Value.str (Str.ofString "__init__") (t + 17), Value.str (Str.ofString "cmp_to_key.<locals>.K.__init__") (t + 18), Value.str (Str.ofString "/claim/cut.py") (t + 19), Value.int (68) 0, Value.int (2) 0, Value.int (0) 0, Value.int (0) 0, Value.int (19) 0, Value.ref 245, Value.bool true, Value.int (181) 0, Value.ref 246, Value.none, Value.ref 247, Value.ref 248, Value.ref 249, Value.int (Int.ofNat (t + 22)) 0, Value.int (68) 0, Value.str (Str.ofString "/claim/cut.py") (t + 23)]⟩), #[]⟩ ∧ K.lookup (nat_lit 258) = some ⟨Value.type "code", none, Data.fields (⟨[Value.str (Str.ofString "__lt__") (t + 25), Value.str (Str.ofString "cmp_to_key.<locals>.K.__lt__") (t + 26), Value.str (Str.ofString "/claim/cut.py") (t + 27), Value.int (71) 0, Value.int (2) 0, Value.int (0) 0, Value.int (0) 0, Value.int (19) 0, Value.ref 253, Value.bool true, Value.int (181) 0, Value.ref 254, Value.none, Value.ref 255, Value.ref 256, Value.ref 257, Value.int (Int.ofNat (t + 31)) 0, Value.int (71) 0, Value.str (Str.ofString "/claim/cut.py") (t + 32)]⟩), #[]⟩ ∧ K.lookup (nat_lit 266) = some ⟨Value.type "code", none, Data.fields (⟨[Value.str (Str.ofString "__gt__") (t + 34), Value.str (Str.ofString "cmp_to_key.<locals>.K.__gt__") (t + 35), Value.str (Str.ofString "/claim/cut.py") (t + 36), Value.int (74) 0, Value.int (2) 0, Value.int (0) 0, Value.int (0) 0, Value.int (19) 0, Value.ref 261, Value.bool true, Value.int (181) 0, Value.ref 262, Value.none, Value.ref 263, Value.ref 264, Value.ref 265, Value.int (Int.ofNat (t + 40)) 0, Value.int (74) 0, Value.str (Str.ofString "/claim/cut.py") (t + 41)]⟩), #[]⟩ ∧ K.lookup (nat_lit 274) = some ⟨Value.type "code", none, Data.fields (⟨[Value.str (Str.ofString "__eq__") (t + 43), Value.str (Str.ofString "cmp_to_key.<locals>.K.__eq__") (t + 44), Value.str (Str.ofString "/claim/cut.py") (t + 45), Value.int (77) 0, Value.int (2) 0, Value.int (0) 0, Value.int (0) 0, Value.int (19) 0, Value.ref 269, Value.bool true, Value.int (181) 0, Value.ref 270, Value.none, Value.ref 271, Value.ref 272, Value.ref 273, Value.int (Int.ofNat (t + 49)) 0, Value.int (77) 0, Value.str (Str.ofString "/claim/cut.py") (t + 50)]⟩), #[]⟩ ∧ K.lookup (nat_lit 282) = some ⟨Value.type "code", none, Data.fields (⟨[Value.str (Str.ofString "__le__") (t + 52), Value.str (Str.ofString "cmp_to_key.<locals>.K.__le__") (t + 53), Value.str (Str.ofString "/claim/cut.py") (t + 54), Value.int (80) 0, Value.int (2) 0, Value.int (0) 0, Value.int (0) 0, Value.int (19) 0, Value.ref 277, Value.bool true, Value.int (181) 0, Value.ref 278, Value.none, Value.ref 279, Value.ref 280, Value.ref 281, Value.int (Int.ofNat (t + 58)) 0, Value.int (80) 0, Value.str (Str.ofString "/claim/cut.py") (t + 59)]⟩), #[]⟩ ∧ K.lookup (nat_lit 290) = some ⟨Value.type "code", none, Data.fields (⟨[Value.str (Str.ofString "__ge__") (t + 61), Value.str (Str.ofString "cmp_to_key.<locals>.K.__ge__") (t + 62), Value.str (Str.ofString "/claim/cut.py") (t + 63), Value.int (83) 0, Value.int (2) 0, Value.int (0) 0, Value.int (0) 0, Value.int (19) 0, Value.ref 285, Value.bool true, Value.int (181) 0, Value.ref 286, Value.none, Value.ref 287, Value.ref 288, Value.ref 289, Value.int (Int.ofNat (t + 67)) 0, Value.int (83) 0, Value.str (Str.ofString "/claim/cut.py") (t + 68)]⟩), #[]⟩
def Codes (K : Frag) : Prop := ∃ t, CodesAt t K
def ib : List Stmt := [.Assign [.Attribute (.Name "self" ⟨69, 12, 69, 16⟩) "obj" ⟨69, 12, 69, 20⟩] (.Name "obj" ⟨69, 23, 69, 26⟩) ⟨69, 12, 69, 26⟩]
theorem init_mk {K : Frag} (h1 : K.lookup (nat_lit 251) = some (objAt K (nat_lit 251))) (h2 : (objAt K (nat_lit 251)).data = .func (fdAt K (nat_lit 251))) (h3 : (fdAt K (nat_lit 251)).body = .stmts ib) (h4 : (fdAt K (nat_lit 251)).scope = iscope)
    (h6 : ∀ v u, bindArgs (fdAt K (nat_lit 251)) ⟨[v, u], []⟩ = pure [(("self" : Str), v), (("obj" : Str), u)]) (h7 : codeIn K (fdAt K (nat_lit 251)).code (fdAt K (nat_lit 251)).qualname = true) : KInit K := ⟨_, _, _, _, _, _, h1, h2, h3, h4, h6, h7⟩
theorem kfn_mk {K : Frag} {a : Addr} {op : CmpOp} (L e : Nat) (h1 : K.lookup a = some (objAt K a)) (h2 : (objAt K a).data = .func (fdAt K a)) (h3 : (fdAt K a).body = .stmts (kb L e op)) (h4 : (fdAt K a).scope = kscope) (h5 : (fdAt K a).closure = [(("mycmp" : Str), (nat_lit 236))])
    (h6 : ∀ v u, bindArgs (fdAt K a) ⟨[v, u], []⟩ = pure [(("self" : Str), v), (("other" : Str), u)]) (h7 : codeIn K (fdAt K a).code (fdAt K a).qualname = true) : KFn K a op := ⟨_, _, _, _, _, _, _, _, _, _, _, _, h1, h2, h3, h4, h5, h6, h7⟩
theorem cls_mk {K : Frag} (h1 : K.lookup (nat_lit 295) = some (objAt K (nat_lit 295))) (h2 : (objAt K (nat_lit 295)).cls = .type "type") (h3 : (objAt K (nat_lit 295)).data = .cls (cdAt K (nat_lit 295))) (h4 : (cdAt K (nat_lit 295)).mro = [.ref (nat_lit 295), .type "object"]) (h5 : (cdAt K (nat_lit 295)).name.toString = "K")
    (h6 : ¬ (cdAt K (nat_lit 295)).name.cps.foldl (fun k c => k + (Str.utf8Of c).length) 0 > 50) : ∃ (dd2 : Option Addr) (sl2 : Array (Option Value)) (N : Addr) (nm qn : Str) (bs sb : List Value) (hd : Bool) (sn : List Str) (ab : Bool) (co : Option Bool) (dl : Bool),
    K.lookup (nat_lit 295) = some ⟨.type "type", dd2, .cls ⟨nm, bs, [.ref (nat_lit 295), .type "object"], N, qn, hd, sn, sb, ab, co, dl⟩, sl2⟩ ∧ nm.toString = "K" ∧ ¬ nm.cps.foldl (fun k c => k + (Str.utf8Of c).length) 0 > 50 := by
  rw [h1]
  revert h2 h3 h4 h5 h6
  generalize objAt K (nat_lit 295) = o
  generalize cdAt K (nat_lit 295) = c
  obtain ⟨c1, d1, dat, sl⟩ := o
  obtain ⟨nm, bs, mro, N, qn, hd, sn, sb, ab, co, dl⟩ := c
  intro h2 h3 h4 h5 h6
  cases h2
  cases h3
  cases h4
  exact ⟨_, _, _, _, _, _, _, _, _, _, _, _, rfl, h5, h6⟩
theorem cell_mk {K : Frag} (h1 : K.lookup (nat_lit 236) = some (objAt K (nat_lit 236))) (h2 : (objAt K (nat_lit 236)).data = .cell (some (.ref (nat_lit 234)))) : ∃ d sl c, K.lookup (nat_lit 236) = some ⟨c, d, .cell (some (.ref (nat_lit 234))), sl⟩ := by
  rw [h1]
  revert h2
  generalize objAt K (nat_lit 236) = o
  obtain ⟨c1, d1, dat, sl⟩ := o
  intro h2
  cases h2
  exact ⟨_, _, _, rfl⟩
def fragOf (n : Nat) (T : BT) : Nat → Frag
  | 0 => []
  | m + 1 => match T.get m with
    | some o => (n + m, o) :: fragOf n T m
    | none => fragOf n T m
theorem fragOf_in {V : XV} {h : Heap} {T : BT} {m : Nat} {ch : Ch} (D : Rep V h T m ch) : ∀ k, (fragOf V.n₁ T k).In h
  | 0 => fun a o e => nomatch e
  | k + 1 => fun a o e => by
    unfold fragOf at e
    split at e
    · rename_i o' ho
      rw [List.lookup_cons] at e
      split at e
      · rename_i q
        cases e
        rw [beq_iff_eq.mp q]
        exact (D.own _ _ ho).2
      · exact fragOf_in D k a o e
    · exact fragOf_in D k a o e
def KeyMade (w : World) (s : Shared) (v : Value) (s' : Shared) : Prop := v = .ref (nat_lit 295) ∧ s'.gens = s.gens ∧ s'.os = s.os ∧ s'.heap.objs.size = 299 ∧ s'.heap.get? 100 = some ⟨.none, none, .fields ⟨[.int 64 0, .int 4 0, .ref 242]⟩, #[]⟩ ∧ (∀ b o, b ≠ 100 → s.heap.get? b = some o → s'.heap.get? b = some o) ∧ ∃ K1 : Frag, K1.In s'.heap ∧ KGood (K1 ++ KK w.params) ∧ Codes K1 ∧ ∀ a o, K1.lookup a = some o → 224 ≤ a
theorem fragOf_above {n : Nat} {T : BT} {a : Addr} {o : Obj} : ∀ k, (fragOf n T k).lookup a = some o → n ≤ a
  | 0, e => nomatch e
  | k + 1, e => by
    unfold fragOf at e
    split at e
    · rw [List.lookup_cons] at e
      split at e
      · rename_i q
        rw [beq_iff_eq.mp q]
        exact Nat.le_add_right _ _
      · exact fragOf_above k e
    · exact fragOf_above k e
theorem made_of {V : XV} {T : BT} {m : Nat} {ch : Ch} {w : World} {s s' : Shared} {v : Value} (D : Rep V s'.heap T m ch) (h1 : V.h₀ = s.heap) (hg : s'.gens = s.gens) (ho : s'.os = s.os) (hv : v = .ref (nat_lit 295)) (hn : V.n₁ + m = 299) (hch : ∀ b, b ≠ 100 → chLook ch b = none) (h100 : chLook ch 100 = some ⟨[.int 64 0, .int 4 0, .ref 242]⟩) (cd : CodesAt s.toks (fragOf V.n₁ T m)) (g : KGood (fragOf V.n₁ T m ++ KK w.params)) (hb : 224 ≤ V.n₁) (z : (0 : Nat) ≤ 1) : KeyMade w s v s' :=
  ⟨hv, hg, ho, by rw [← hn]; exact D.size, (D.ch _ _ h100).1, fun b o ne e => D.keep b o (by rw [h1]; exact e) (hch b ne), _, fragOf_in D m, g, ⟨_, cd⟩, fun a o e => Nat.le_trans hb (fragOf_above m e)⟩
theorem ch_one {x : Array Value} {b : Addr} (hb : b ≠ 100) : chLook [(100, x)] b = none := by
  show (match Nat.beq 100 b with | true => some x | false => none) = none
  rw [BT.beq_eq, decide_eq_false (fun e => hb e.symm)]
local macro_rules | `(tactic| exfalso) => `(tactic| ((refine made_of (by assumption) rfl (by first | rfl | (symm; assumption)) rfl ?v ?n ?c ?h ?e ?g ?b ?z); (case b => exact Nat.le_of_ble_eq_true (by kernel_rfl)); (case h => kernel_rfl); (case e => exact ⟨by kernel_rfl, by kernel_rfl, by kernel_rfl, by kernel_rfl, by kernel_rfl, by kernel_rfl, by kernel_rfl, by kernel_rfl, by kernel_rfl⟩); (case v => kernel_rfl); (case n => kernel_rfl); (case c => (intro b hb; exact ch_one hb)); (case g => (refine ⟨⟨?_, ?_, ?_, ?_, ?_, ?_, ?_, ?_, ?_, ?_, ?_, ?_⟩, ?_, ?_, ?_, ?_, ?_, ⟨?_, ?_, ?_, ?_, ?_, ?_, ?_, ?_, ?_, ?_⟩⟩; all_goals first | exact init_mk (by kernel_rfl) (by kernel_rfl) (by kernel_rfl) (by kernel_rfl) (by intro v u; kernel_rfl) (by kernel_rfl) | kernel_rfl | exact ⟨by kernel_rfl, by kernel_rfl⟩ | exact ⟨by kernel_rfl, by kernel_rfl, by kernel_rfl⟩ | exact ⟨by kernel_rfl, by kernel_rfl, by kernel_rfl, by kernel_rfl⟩ | (intro o; cases o <;> exact ⟨by kernel_rfl, by kernel_rfl, by kernel_rfl⟩) | exact cls_mk (by kernel_rfl) (by kernel_rfl) (by kernel_rfl) (by kernel_rfl) (by kernel_rfl) (Nat.not_lt.mpr (Nat.le_of_ble_eq_true (by kernel_rfl))) | exact cell_mk (by kernel_rfl) (by kernel_rfl) | (intro o; cases o; (exact kfn_mk 72 0 (by kernel_rfl) (by kernel_rfl) (by kernel_rfl) (by kernel_rfl) (by kernel_rfl) (by intro v u; kernel_rfl) (by kernel_rfl)); (exact kfn_mk 81 1 (by kernel_rfl) (by kernel_rfl) (by kernel_rfl) (by kernel_rfl) (by kernel_rfl) (by intro v u; kernel_rfl) (by kernel_rfl)); (exact kfn_mk 75 0 (by kernel_rfl) (by kernel_rfl) (by kernel_rfl) (by kernel_rfl) (by kernel_rfl) (by intro v u; kernel_rfl) (by kernel_rfl)); (exact kfn_mk 84 1 (by kernel_rfl) (by kernel_rfl) (by kernel_rfl) (by kernel_rfl) (by kernel_rfl) (by intro v u; kernel_rfl) (by kernel_rfl))) | (exact kfn_mk 78 1 (by kernel_rfl) (by kernel_rfl) (by kernel_rfl) (by kernel_rfl) (by kernel_rfl) (by intro v u; kernel_rfl) (by kernel_rfl))))))
theorem key_made (w : World) (h : Heap) (g : Array GenState) (d : Drawn) (t : Nat) (os : OsState) (l : List Env) (ZH : KT.Holds h 1 0 (hk2.ktop_59 w.params)) (ZN : h.objs.size = 235) (hg : g = #[]) :
  wpAny (model PySem.Challenge.rw_nq0073_01.prog w) (AX l) (PySem.call (.ref 105) [.ref 234]) (KeyMade w ⟨h, g, d, t, os⟩) (fun _ _ => False) ⟨h, g, d, t, os⟩ := by
  z_run
end Mine
end
section
open PySem PySem.W PySem.W.X PyProof.Rows PySem.Calls PySem.Spec PySem.W.ZRun
namespace Mine
set_option maxRecDepth 100000
set_option maxHeartbeats 0
section
local macro_rules | `(tactic| refine $e:term) => `(tactic| assumption)
def r3 : OpenRow := { PySem.Challenge.rw_nq0073_01.row with name := Str.ofString "_law_due" }
set_option maxRecDepth 100000 in
set_option maxHeartbeats 8000000 in
/-- the head's written heap alone: the row's claim stands as a premise, so the top's run is not shown anew -/
theorem h4 (h : r3.Holds) : r3.Holds := by z_head
end
noncomputable def oK (P : Params) (a : Addr) : Obj := objAt (KK P) a
def Kept2 (s : Shared) (s' : Shared) : Prop := s'.gens = s.gens ∧ s'.os = s.os ∧ ∀ b o, s.heap.get? b = some o → s'.heap.get? b = some o
theorem kept2_of {V : XV} {T : BT} {m : Nat} {s s' : Shared} (D : Rep V s'.heap T m []) (h1 : V.h₀ = s.heap) (hg : s'.gens = s.gens) (ho : s'.os = s.os) (z : (0 : Nat) ≤ 1) : Kept2 s s' := ⟨hg, ho, fun b o e => D.keep b o (by rw [h1]; exact e) rfl⟩
local macro_rules | `(tactic| exfalso) => `(tactic| (refine kept2_of (by assumption) rfl (by first | rfl | (symm; assumption)) rfl ?z))
theorem sec_made_315 (w : World) (h : Heap) (g : Array GenState) (d : Drawn) (t : Nat) (os : OsState) (l : List Env) (bb : Addr) (q240_1 q242_1 q242_2 q242_3 q242_4 q242_5 q250_1 q250_2 q250_3 q250_4 q250_5 q258_1 q258_2 q258_3 q258_4 q258_5 q266_1 q266_2 q266_3 q266_4 q266_5 q274_1 q274_2 q274_3 q274_4 q274_5 q282_1 q282_2 q282_3 q282_4 q282_5 q290_1 q290_2 q290_3 q290_4 q290_5 : Nat) (ZH : KT.Holds h 1 0 (h4.ktop_66 w.params)) (e99 : h.get? 99 = some ⟨(oK w.params 99).cls, (oK w.params 99).dict, (oK w.params 99).data, (oK w.params 99).slots⟩) (e101 : h.get? 101 = some ⟨(oK w.params 101).cls, (oK w.params 101).dict, (oK w.params 101).data, (oK w.params 101).slots⟩) (e102 : h.get? 102 = some ⟨(oK w.params 102).cls, (oK w.params 102).dict, (oK w.params 102).data, (oK w.params 102).slots⟩) (e103 : h.get? 103 = some ⟨(oK w.params 103).cls, (oK w.params 103).dict, (oK w.params 103).data, (oK w.params 103).slots⟩) (e104 : h.get? 104 = some ⟨(oK w.params 104).cls, (oK w.params 104).dict, (oK w.params 104).data, (oK w.params 104).slots⟩) (e105 : h.get? 105 = some ⟨(oK w.params 105).cls, (oK w.params 105).dict, (oK w.params 105).data, (oK w.params 105).slots⟩) (e100 : h.get? 100 = some ⟨.none, none, .fields ⟨[.int 64 0, .int 4 0, .ref 242]⟩, #[]⟩) (e240 : h.get? 240 = some ⟨Value.type "tuple", none, Data.seq (⟨[Value.str (Str.ofString "mycmp") q240_1]⟩) 0, #[]⟩) (e241 : h.get? 241 = some ⟨Value.none, none, Data.fields (⟨[Value.int (68) 0, Value.int (8) 0, Value.ref 250, Value.int (71) 0, Value.int (8) 0, Value.ref 258, Value.int (74) 0, Value.int (8) 0, Value.ref 266, Value.int (77) 0, Value.int (8) 0, Value.ref 274, Value.int (80) 0, Value.int (8) 0, Value.ref 282, Value.int (83) 0, Value.int (8) 0, Value.ref 290]⟩), #[]⟩) (e242 : h.get? 242 = some ⟨Value.type "code", none, Data.fields (⟨[Value.str (Str.ofString "K") q242_1, Value.str (Str.ofString "cmp_to_key.<locals>.K") q242_2, Value.str (Str.ofString "/claim/cut.py") q242_3, Value.int (64) 0, Value.int (0) 0, Value.int (0) 0, Value.int (0) 0, Value.int (0) 0, Value.ref 240, Value.bool true, Value.int (181) 0, Value.ref 241, Value.none, Value.none, Value.none, Value.none, Value.int (Int.ofNat q242_4) 0, Value.int (64) 0, Value.str (Str.ofString "/claim/cut.py") q242_5]⟩), #[]⟩) (e250 : h.get? 250 = some ⟨Value.type "code", none, Data.fields (⟨[Value.str (Str.ofString "__init__") q250_1, Value.str (Str.ofString "cmp_to_key.<locals>.K.__init__") q250_2, Value.str (Str.ofString "/claim/cut.py") q250_3, Value.int (68) 0, Value.int (2) 0, Value.int (0) 0, Value.int (0) 0, Value.int (19) 0, Value.ref 245, Value.bool true, Value.int (181) 0, Value.ref 246, Value.none, Value.ref 247, Value.ref 248, Value.ref 249, Value.int (Int.ofNat q250_4) 0, Value.int (68) 0, Value.str (Str.ofString "/claim/cut.py") q250_5]⟩), #[]⟩) (e258 : h.get? 258 = some ⟨Value.type "code", none, Data.fields (⟨[Value.str (Str.ofString "__lt__") q258_1, Value.str (Str.ofString "cmp_to_key.<locals>.K.__lt__") q258_2, Value.str (Str.ofString "/claim/cut.py") q258_3, Value.int (71) 0, Value.int (2) 0, Value.int (0) 0, Value.int (0) 0, Value.int (19) 0, Value.ref 253, Value.bool true, Value.int (181) 0, Value.ref 254, Value.none, Value.ref 255, Value.ref 256, Value.ref 257, Value.int (Int.ofNat q258_4) 0, Value.int (71) 0, Value.str (Str.ofString "/claim/cut.py") q258_5]⟩), #[]⟩) (e266 : h.get? 266 = some ⟨Value.type "code", none, Data.fields (⟨[Value.str (Str.ofString "__gt__") q266_1, Value.str (Str.ofString "cmp_to_key.<locals>.K.__gt__") q266_2, Value.str (Str.ofString "/claim/cut.py") q266_3, Value.int (74) 0, Value.int (2) 0, Value.int (0) 0, Value.int (0) 0, Value.int (19) 0, Value.ref 261, Value.bool true, Value.int (181) 0, Value.ref 262, Value.none, Value.ref 263, Value.ref 264, Value.ref 265, Value.int (Int.ofNat q266_4) 0, Value.int (74) 0, Value.str (Str.ofString "/claim/cut.py") q266_5]⟩), #[]⟩) (e274 : h.get? 274 = some ⟨Value.type "code", none, Data.fields (⟨[Value.str (Str.ofString "__eq__") q274_1, Value.str (Str.ofString "cmp_to_key.<locals>.K.__eq__") q274_2, Value.str (Str.ofString "/claim/cut.py") q274_3, Value.int (77) 0, Value.int (2) 0, Value.int (0) 0, Value.int (0) 0, Value.int (19) 0, Value.ref 269, Value.bool true, Value.int (181) 0, Value.ref 270, Value.none, Value.ref 271, Value.ref 272, Value.ref 273, Value.int (Int.ofNat q274_4) 0, Value.int (77) 0, Value.str (Str.ofString "/claim/cut.py") q274_5]⟩), #[]⟩) (e282 : h.get? 282 = some ⟨Value.type "code", none, Data.fields (⟨[Value.str (Str.ofString "__le__") q282_1, Value.str (Str.ofString "cmp_to_key.<locals>.K.__le__") q282_2, Value.str (Str.ofString "/claim/cut.py") q282_3, Value.int (80) 0, Value.int (2) 0, Value.int (0) 0, Value.int (0) 0, Value.int (19) 0, Value.ref 277, Value.bool true, Value.int (181) 0, Value.ref 278, Value.none, Value.ref 279, Value.ref 280, Value.ref 281, Value.int (Int.ofNat q282_4) 0, Value.int (80) 0, Value.str (Str.ofString "/claim/cut.py") q282_5]⟩), #[]⟩) (e290 : h.get? 290 = some ⟨Value.type "code", none, Data.fields (⟨[Value.str (Str.ofString "__ge__") q290_1, Value.str (Str.ofString "cmp_to_key.<locals>.K.__ge__") q290_2, Value.str (Str.ofString "/claim/cut.py") q290_3, Value.int (83) 0, Value.int (2) 0, Value.int (0) 0, Value.int (0) 0, Value.int (19) 0, Value.ref 285, Value.bool true, Value.int (181) 0, Value.ref 286, Value.none, Value.ref 287, Value.ref 288, Value.ref 289, Value.int (Int.ofNat q290_4) 0, Value.int (83) 0, Value.str (Str.ofString "/claim/cut.py") q290_5]⟩), #[]⟩) (ZN : h.objs.size = 315) (hg : g = #[]) :
  wpAny (model PySem.Challenge.rw_nq0073_01.prog w) (AX l) (PySem.call (.ref 105) [.ref bb]) (fun v s' => Kept2 ⟨h, g, d, t, os⟩ s') (fun _ _ => False) ⟨h, g, d, t, os⟩ := by
  z_run
theorem sec_made_316 (w : World) (h : Heap) (g : Array GenState) (d : Drawn) (t : Nat) (os : OsState) (l : List Env) (bb : Addr) (q240_1 q242_1 q242_2 q242_3 q242_4 q242_5 q250_1 q250_2 q250_3 q250_4 q250_5 q258_1 q258_2 q258_3 q258_4 q258_5 q266_1 q266_2 q266_3 q266_4 q266_5 q274_1 q274_2 q274_3 q274_4 q274_5 q282_1 q282_2 q282_3 q282_4 q282_5 q290_1 q290_2 q290_3 q290_4 q290_5 : Nat) (ZH : KT.Holds h 1 0 (h4.ktop_66 w.params)) (e99 : h.get? 99 = some ⟨(oK w.params 99).cls, (oK w.params 99).dict, (oK w.params 99).data, (oK w.params 99).slots⟩) (e101 : h.get? 101 = some ⟨(oK w.params 101).cls, (oK w.params 101).dict, (oK w.params 101).data, (oK w.params 101).slots⟩) (e102 : h.get? 102 = some ⟨(oK w.params 102).cls, (oK w.params 102).dict, (oK w.params 102).data, (oK w.params 102).slots⟩) (e103 : h.get? 103 = some ⟨(oK w.params 103).cls, (oK w.params 103).dict, (oK w.params 103).data, (oK w.params 103).slots⟩) (e104 : h.get? 104 = some ⟨(oK w.params 104).cls, (oK w.params 104).dict, (oK w.params 104).data, (oK w.params 104).slots⟩) (e105 : h.get? 105 = some ⟨(oK w.params 105).cls, (oK w.params 105).dict, (oK w.params 105).data, (oK w.params 105).slots⟩) (e100 : h.get? 100 = some ⟨.none, none, .fields ⟨[.int 64 0, .int 4 0, .ref 242]⟩, #[]⟩) (e240 : h.get? 240 = some ⟨Value.type "tuple", none, Data.seq (⟨[Value.str (Str.ofString "mycmp") q240_1]⟩) 0, #[]⟩) (e241 : h.get? 241 = some ⟨Value.none, none, Data.fields (⟨[Value.int (68) 0, Value.int (8) 0, Value.ref 250, Value.int (71) 0, Value.int (8) 0, Value.ref 258, Value.int (74) 0, Value.int (8) 0, Value.ref 266, Value.int (77) 0, Value.int (8) 0, Value.ref 274, Value.int (80) 0, Value.int (8) 0, Value.ref 282, Value.int (83) 0, Value.int (8) 0, Value.ref 290]⟩), #[]⟩) (e242 : h.get? 242 = some ⟨Value.type "code", none, Data.fields (⟨[Value.str (Str.ofString "K") q242_1, Value.str (Str.ofString "cmp_to_key.<locals>.K") q242_2, Value.str (Str.ofString "/claim/cut.py") q242_3, Value.int (64) 0, Value.int (0) 0, Value.int (0) 0, Value.int (0) 0, Value.int (0) 0, Value.ref 240, Value.bool true, Value.int (181) 0, Value.ref 241, Value.none, Value.none, Value.none, Value.none, Value.int (Int.ofNat q242_4) 0, Value.int (64) 0, Value.str (Str.ofString "/claim/cut.py") q242_5]⟩), #[]⟩) (e250 : h.get? 250 = some ⟨Value.type "code", none, Data.fields (⟨[Value.str (Str.ofString "__init__") q250_1, Value.str (Str.ofString "cmp_to_key.<locals>.K.__init__") q250_2, Value.str (Str.ofString "/claim/cut.py") q250_3, Value.int (68) 0, Value.int (2) 0, Value.int (0) 0, Value.int (0) 0, Value.int (19) 0, Value.ref 245, Value.bool true, Value.int (181) 0, Value.ref 246, Value.none, Value.ref 247, Value.ref 248, Value.ref 249, Value.int (Int.ofNat q250_4) 0, Value.int (68) 0, Value.str (Str.ofString "/claim/cut.py") q250_5]⟩), #[]⟩) (e258 : h.get? 258 = some ⟨Value.type "code", none, Data.fields (⟨[Value.str (Str.ofString "__lt__") q258_1, Value.str (Str.ofString "cmp_to_key.<locals>.K.__lt__") q258_2, Value.str (Str.ofString "/claim/cut.py") q258_3, Value.int (71) 0, Value.int (2) 0, Value.int (0) 0, Value.int (0) 0, Value.int (19) 0, Value.ref 253, Value.bool true, Value.int (181) 0, Value.ref 254, Value.none, Value.ref 255, Value.ref 256, Value.ref 257, Value.int (Int.ofNat q258_4) 0, Value.int (71) 0, Value.str (Str.ofString "/claim/cut.py") q258_5]⟩), #[]⟩) (e266 : h.get? 266 = some ⟨Value.type "code", none, Data.fields (⟨[Value.str (Str.ofString "__gt__") q266_1, Value.str (Str.ofString "cmp_to_key.<locals>.K.__gt__") q266_2, Value.str (Str.ofString "/claim/cut.py") q266_3, Value.int (74) 0, Value.int (2) 0, Value.int (0) 0, Value.int (0) 0, Value.int (19) 0, Value.ref 261, Value.bool true, Value.int (181) 0, Value.ref 262, Value.none, Value.ref 263, Value.ref 264, Value.ref 265, Value.int (Int.ofNat q266_4) 0, Value.int (74) 0, Value.str (Str.ofString "/claim/cut.py") q266_5]⟩), #[]⟩) (e274 : h.get? 274 = some ⟨Value.type "code", none, Data.fields (⟨[Value.str (Str.ofString "__eq__") q274_1, Value.str (Str.ofString "cmp_to_key.<locals>.K.__eq__") q274_2, Value.str (Str.ofString "/claim/cut.py") q274_3, Value.int (77) 0, Value.int (2) 0, Value.int (0) 0, Value.int (0) 0, Value.int (19) 0, Value.ref 269, Value.bool true, Value.int (181) 0, Value.ref 270, Value.none, Value.ref 271, Value.ref 272, Value.ref 273, Value.int (Int.ofNat q274_4) 0, Value.int (77) 0, Value.str (Str.ofString "/claim/cut.py") q274_5]⟩), #[]⟩) (e282 : h.get? 282 = some ⟨Value.type "code", none, Data.fields (⟨[Value.str (Str.ofString "__le__") q282_1, Value.str (Str.ofString "cmp_to_key.<locals>.K.__le__") q282_2, Value.str (Str.ofString "/claim/cut.py") q282_3, Value.int (80) 0, Value.int (2) 0, Value.int (0) 0, Value.int (0) 0, Value.int (19) 0, Value.ref 277, Value.bool true, Value.int (181) 0, Value.ref 278, Value.none, Value.ref 279, Value.ref 280, Value.ref 281, Value.int (Int.ofNat q282_4) 0, Value.int (80) 0, Value.str (Str.ofString "/claim/cut.py") q282_5]⟩), #[]⟩) (e290 : h.get? 290 = some ⟨Value.type "code", none, Data.fields (⟨[Value.str (Str.ofString "__ge__") q290_1, Value.str (Str.ofString "cmp_to_key.<locals>.K.__ge__") q290_2, Value.str (Str.ofString "/claim/cut.py") q290_3, Value.int (83) 0, Value.int (2) 0, Value.int (0) 0, Value.int (0) 0, Value.int (19) 0, Value.ref 285, Value.bool true, Value.int (181) 0, Value.ref 286, Value.none, Value.ref 287, Value.ref 288, Value.ref 289, Value.int (Int.ofNat q290_4) 0, Value.int (83) 0, Value.str (Str.ofString "/claim/cut.py") q290_5]⟩), #[]⟩) (ZN : h.objs.size = 316) (hg : g = #[]) :
  wpAny (model PySem.Challenge.rw_nq0073_01.prog w) (AX l) (PySem.call (.ref 105) [.ref bb]) (fun v s' => Kept2 ⟨h, g, d, t, os⟩ s') (fun _ _ => False) ⟨h, g, d, t, os⟩ := by
  z_run
theorem sec_made_317 (w : World) (h : Heap) (g : Array GenState) (d : Drawn) (t : Nat) (os : OsState) (l : List Env) (bb : Addr) (q240_1 q242_1 q242_2 q242_3 q242_4 q242_5 q250_1 q250_2 q250_3 q250_4 q250_5 q258_1 q258_2 q258_3 q258_4 q258_5 q266_1 q266_2 q266_3 q266_4 q266_5 q274_1 q274_2 q274_3 q274_4 q274_5 q282_1 q282_2 q282_3 q282_4 q282_5 q290_1 q290_2 q290_3 q290_4 q290_5 : Nat) (ZH : KT.Holds h 1 0 (h4.ktop_66 w.params)) (e99 : h.get? 99 = some ⟨(oK w.params 99).cls, (oK w.params 99).dict, (oK w.params 99).data, (oK w.params 99).slots⟩) (e101 : h.get? 101 = some ⟨(oK w.params 101).cls, (oK w.params 101).dict, (oK w.params 101).data, (oK w.params 101).slots⟩) (e102 : h.get? 102 = some ⟨(oK w.params 102).cls, (oK w.params 102).dict, (oK w.params 102).data, (oK w.params 102).slots⟩) (e103 : h.get? 103 = some ⟨(oK w.params 103).cls, (oK w.params 103).dict, (oK w.params 103).data, (oK w.params 103).slots⟩) (e104 : h.get? 104 = some ⟨(oK w.params 104).cls, (oK w.params 104).dict, (oK w.params 104).data, (oK w.params 104).slots⟩) (e105 : h.get? 105 = some ⟨(oK w.params 105).cls, (oK w.params 105).dict, (oK w.params 105).data, (oK w.params 105).slots⟩) (e100 : h.get? 100 = some ⟨.none, none, .fields ⟨[.int 64 0, .int 4 0, .ref 242]⟩, #[]⟩) (e240 : h.get? 240 = some ⟨Value.type "tuple", none, Data.seq (⟨[Value.str (Str.ofString "mycmp") q240_1]⟩) 0, #[]⟩) (e241 : h.get? 241 = some ⟨Value.none, none, Data.fields (⟨[Value.int (68) 0, Value.int (8) 0, Value.ref 250, Value.int (71) 0, Value.int (8) 0, Value.ref 258, Value.int (74) 0, Value.int (8) 0, Value.ref 266, Value.int (77) 0, Value.int (8) 0, Value.ref 274, Value.int (80) 0, Value.int (8) 0, Value.ref 282, Value.int (83) 0, Value.int (8) 0, Value.ref 290]⟩), #[]⟩) (e242 : h.get? 242 = some ⟨Value.type "code", none, Data.fields (⟨[Value.str (Str.ofString "K") q242_1, Value.str (Str.ofString "cmp_to_key.<locals>.K") q242_2, Value.str (Str.ofString "/claim/cut.py") q242_3, Value.int (64) 0, Value.int (0) 0, Value.int (0) 0, Value.int (0) 0, Value.int (0) 0, Value.ref 240, Value.bool true, Value.int (181) 0, Value.ref 241, Value.none, Value.none, Value.none, Value.none, Value.int (Int.ofNat q242_4) 0, Value.int (64) 0, Value.str (Str.ofString "/claim/cut.py") q242_5]⟩), #[]⟩) (e250 : h.get? 250 = some ⟨Value.type "code", none, Data.fields (⟨[Value.str (Str.ofString "__init__") q250_1, Value.str (Str.ofString "cmp_to_key.<locals>.K.__init__") q250_2, Value.str (Str.ofString "/claim/cut.py") q250_3, Value.int (68) 0, Value.int (2) 0, Value.int (0) 0, Value.int (0) 0, Value.int (19) 0, Value.ref 245, Value.bool true, Value.int (181) 0, Value.ref 246, Value.none, Value.ref 247, Value.ref 248, Value.ref 249, Value.int (Int.ofNat q250_4) 0, Value.int (68) 0, Value.str (Str.ofString "/claim/cut.py") q250_5]⟩), #[]⟩) (e258 : h.get? 258 = some ⟨Value.type "code", none, Data.fields (⟨[Value.str (Str.ofString "__lt__") q258_1, Value.str (Str.ofString "cmp_to_key.<locals>.K.__lt__") q258_2, Value.str (Str.ofString "/claim/cut.py") q258_3, Value.int (71) 0, Value.int (2) 0, Value.int (0) 0, Value.int (0) 0, Value.int (19) 0, Value.ref 253, Value.bool true, Value.int (181) 0, Value.ref 254, Value.none, Value.ref 255, Value.ref 256, Value.ref 257, Value.int (Int.ofNat q258_4) 0, Value.int (71) 0, Value.str (Str.ofString "/claim/cut.py") q258_5]⟩), #[]⟩) (e266 : h.get? 266 = some ⟨Value.type "code", none, Data.fields (⟨[Value.str (Str.ofString "__gt__") q266_1, Value.str (Str.ofString "cmp_to_key.<locals>.K.__gt__") q266_2, Value.str (Str.ofString "/claim/cut.py") q266_3, Value.int (74) 0, Value.int (2) 0, Value.int (0) 0, Value.int (0) 0, Value.int (19) 0, Value.ref 261, Value.bool true, Value.int (181) 0, Value.ref 262, Value.none, Value.ref 263, Value.ref 264, Value.ref 265, Value.int (Int.ofNat q266_4) 0, Value.int (74) 0, Value.str (Str.ofString "/claim/cut.py") q266_5]⟩), #[]⟩) (e274 : h.get? 274 = some ⟨Value.type "code", none, Data.fields (⟨[Value.str (Str.ofString "__eq__") q274_1, Value.str (Str.ofString "cmp_to_key.<locals>.K.__eq__") q274_2, Value.str (Str.ofString "/claim/cut.py") q274_3, Value.int (77) 0, Value.int (2) 0, Value.int (0) 0, Value.int (0) 0, Value.int (19) 0, Value.ref 269, Value.bool true, Value.int (181) 0, Value.ref 270, Value.none, Value.ref 271, Value.ref 272, Value.ref 273, Value.int (Int.ofNat q274_4) 0, Value.int (77) 0, Value.str (Str.ofString "/claim/cut.py") q274_5]⟩), #[]⟩) (e282 : h.get? 282 = some ⟨Value.type "code", none, Data.fields (⟨[Value.str (Str.ofString "__le__") q282_1, Value.str (Str.ofString "cmp_to_key.<locals>.K.__le__") q282_2, Value.str (Str.ofString "/claim/cut.py") q282_3, Value.int (80) 0, Value.int (2) 0, Value.int (0) 0, Value.int (0) 0, Value.int (19) 0, Value.ref 277, Value.bool true, Value.int (181) 0, Value.ref 278, Value.none, Value.ref 279, Value.ref 280, Value.ref 281, Value.int (Int.ofNat q282_4) 0, Value.int (80) 0, Value.str (Str.ofString "/claim/cut.py") q282_5]⟩), #[]⟩) (e290 : h.get? 290 = some ⟨Value.type "code", none, Data.fields (⟨[Value.str (Str.ofString "__ge__") q290_1, Value.str (Str.ofString "cmp_to_key.<locals>.K.__ge__") q290_2, Value.str (Str.ofString "/claim/cut.py") q290_3, Value.int (83) 0, Value.int (2) 0, Value.int (0) 0, Value.int (0) 0, Value.int (19) 0, Value.ref 285, Value.bool true, Value.int (181) 0, Value.ref 286, Value.none, Value.ref 287, Value.ref 288, Value.ref 289, Value.int (Int.ofNat q290_4) 0, Value.int (83) 0, Value.str (Str.ofString "/claim/cut.py") q290_5]⟩), #[]⟩) (ZN : h.objs.size = 317) (hg : g = #[]) :
  wpAny (model PySem.Challenge.rw_nq0073_01.prog w) (AX l) (PySem.call (.ref 105) [.ref bb]) (fun v s' => Kept2 ⟨h, g, d, t, os⟩ s') (fun _ _ => False) ⟨h, g, d, t, os⟩ := by
  z_run
theorem sec_made_318 (w : World) (h : Heap) (g : Array GenState) (d : Drawn) (t : Nat) (os : OsState) (l : List Env) (bb : Addr) (q240_1 q242_1 q242_2 q242_3 q242_4 q242_5 q250_1 q250_2 q250_3 q250_4 q250_5 q258_1 q258_2 q258_3 q258_4 q258_5 q266_1 q266_2 q266_3 q266_4 q266_5 q274_1 q274_2 q274_3 q274_4 q274_5 q282_1 q282_2 q282_3 q282_4 q282_5 q290_1 q290_2 q290_3 q290_4 q290_5 : Nat) (ZH : KT.Holds h 1 0 (h4.ktop_66 w.params)) (e99 : h.get? 99 = some ⟨(oK w.params 99).cls, (oK w.params 99).dict, (oK w.params 99).data, (oK w.params 99).slots⟩) (e101 : h.get? 101 = some ⟨(oK w.params 101).cls, (oK w.params 101).dict, (oK w.params 101).data, (oK w.params 101).slots⟩) (e102 : h.get? 102 = some ⟨(oK w.params 102).cls, (oK w.params 102).dict, (oK w.params 102).data, (oK w.params 102).slots⟩) (e103 : h.get? 103 = some ⟨(oK w.params 103).cls, (oK w.params 103).dict, (oK w.params 103).data, (oK w.params 103).slots⟩) (e104 : h.get? 104 = some ⟨(oK w.params 104).cls, (oK w.params 104).dict, (oK w.params 104).data, (oK w.params 104).slots⟩) (e105 : h.get? 105 = some ⟨(oK w.params 105).cls, (oK w.params 105).dict, (oK w.params 105).data, (oK w.params 105).slots⟩) (e100 : h.get? 100 = some ⟨.none, none, .fields ⟨[.int 64 0, .int 4 0, .ref 242]⟩, #[]⟩) (e240 : h.get? 240 = some ⟨Value.type "tuple", none, Data.seq (⟨[Value.str (Str.ofString "mycmp") q240_1]⟩) 0, #[]⟩) (e241 : h.get? 241 = some ⟨Value.none, none, Data.fields (⟨[Value.int (68) 0, Value.int (8) 0, Value.ref 250, Value.int (71) 0, Value.int (8) 0, Value.ref 258, Value.int (74) 0, Value.int (8) 0, Value.ref 266, Value.int (77) 0, Value.int (8) 0, Value.ref 274, Value.int (80) 0, Value.int (8) 0, Value.ref 282, Value.int (83) 0, Value.int (8) 0, Value.ref 290]⟩), #[]⟩) (e242 : h.get? 242 = some ⟨Value.type "code", none, Data.fields (⟨[Value.str (Str.ofString "K") q242_1, Value.str (Str.ofString "cmp_to_key.<locals>.K") q242_2, Value.str (Str.ofString "/claim/cut.py") q242_3, Value.int (64) 0, Value.int (0) 0, Value.int (0) 0, Value.int (0) 0, Value.int (0) 0, Value.ref 240, Value.bool true, Value.int (181) 0, Value.ref 241, Value.none, Value.none, Value.none, Value.none, Value.int (Int.ofNat q242_4) 0, Value.int (64) 0, Value.str (Str.ofString "/claim/cut.py") q242_5]⟩), #[]⟩) (e250 : h.get? 250 = some ⟨Value.type "code", none, Data.fields (⟨[Value.str (Str.ofString "__init__") q250_1, Value.str (Str.ofString "cmp_to_key.<locals>.K.__init__") q250_2, Value.str (Str.ofString "/claim/cut.py") q250_3, Value.int (68) 0, Value.int (2) 0, Value.int (0) 0, Value.int (0) 0, Value.int (19) 0, Value.ref 245, Value.bool true, Value.int (181) 0, Value.ref 246, Value.none, Value.ref 247, Value.ref 248, Value.ref 249, Value.int (Int.ofNat q250_4) 0, Value.int (68) 0, Value.str (Str.ofString "/claim/cut.py") q250_5]⟩), #[]⟩) (e258 : h.get? 258 = some ⟨Value.type "code", none, Data.fields (⟨[Value.str (Str.ofString "__lt__") q258_1, Value.str (Str.ofString "cmp_to_key.<locals>.K.__lt__") q258_2, Value.str (Str.ofString "/claim/cut.py") q258_3, Value.int (71) 0, Value.int (2) 0, Value.int (0) 0, Value.int (0) 0, Value.int (19) 0, Value.ref 253, Value.bool true, Value.int (181) 0, Value.ref 254, Value.none, Value.ref 255, Value.ref 256, Value.ref 257, Value.int (Int.ofNat q258_4) 0, Value.int (71) 0, Value.str (Str.ofString "/claim/cut.py") q258_5]⟩), #[]⟩) (e266 : h.get? 266 = some ⟨Value.type "code", none, Data.fields (⟨[Value.str (Str.ofString "__gt__") q266_1, Value.str (Str.ofString "cmp_to_key.<locals>.K.__gt__") q266_2, Value.str (Str.ofString "/claim/cut.py") q266_3, Value.int (74) 0, Value.int (2) 0, Value.int (0) 0, Value.int (0) 0, Value.int (19) 0, Value.ref 261, Value.bool true, Value.int (181) 0, Value.ref 262, Value.none, Value.ref 263, Value.ref 264, Value.ref 265, Value.int (Int.ofNat q266_4) 0, Value.int (74) 0, Value.str (Str.ofString "/claim/cut.py") q266_5]⟩), #[]⟩) (e274 : h.get? 274 = some ⟨Value.type "code", none, Data.fields (⟨[Value.str (Str.ofString "__eq__") q274_1, Value.str (Str.ofString "cmp_to_key.<locals>.K.__eq__") q274_2, Value.str (Str.ofString "/claim/cut.py") q274_3, Value.int (77) 0, Value.int (2) 0, Value.int (0) 0, Value.int (0) 0, Value.int (19) 0, Value.ref 269, Value.bool true, Value.int (181) 0, Value.ref 270, Value.none, Value.ref 271, Value.ref 272, Value.ref 273, Value.int (Int.ofNat q274_4) 0, Value.int (77) 0, Value.str (Str.ofString "/claim/cut.py") q274_5]⟩), #[]⟩) (e282 : h.get? 282 = some ⟨Value.type "code", none, Data.fields (⟨[Value.str (Str.ofString "__le__") q282_1, Value.str (Str.ofString "cmp_to_key.<locals>.K.__le__") q282_2, Value.str (Str.ofString "/claim/cut.py") q282_3, Value.int (80) 0, Value.int (2) 0, Value.int (0) 0, Value.int (0) 0, Value.int (19) 0, Value.ref 277, Value.bool true, Value.int (181) 0, Value.ref 278, Value.none, Value.ref 279, Value.ref 280, Value.ref 281, Value.int (Int.ofNat q282_4) 0, Value.int (80) 0, Value.str (Str.ofString "/claim/cut.py") q282_5]⟩), #[]⟩) (e290 : h.get? 290 = some ⟨Value.type "code", none, Data.fields (⟨[Value.str (Str.ofString "__ge__") q290_1, Value.str (Str.ofString "cmp_to_key.<locals>.K.__ge__") q290_2, Value.str (Str.ofString "/claim/cut.py") q290_3, Value.int (83) 0, Value.int (2) 0, Value.int (0) 0, Value.int (0) 0, Value.int (19) 0, Value.ref 285, Value.bool true, Value.int (181) 0, Value.ref 286, Value.none, Value.ref 287, Value.ref 288, Value.ref 289, Value.int (Int.ofNat q290_4) 0, Value.int (83) 0, Value.str (Str.ofString "/claim/cut.py") q290_5]⟩), #[]⟩) (ZN : h.objs.size = 318) (hg : g = #[]) :
  wpAny (model PySem.Challenge.rw_nq0073_01.prog w) (AX l) (PySem.call (.ref 105) [.ref bb]) (fun v s' => Kept2 ⟨h, g, d, t, os⟩ s') (fun _ _ => False) ⟨h, g, d, t, os⟩ := by
  z_run
theorem sec_made_319 (w : World) (h : Heap) (g : Array GenState) (d : Drawn) (t : Nat) (os : OsState) (l : List Env) (bb : Addr) (q240_1 q242_1 q242_2 q242_3 q242_4 q242_5 q250_1 q250_2 q250_3 q250_4 q250_5 q258_1 q258_2 q258_3 q258_4 q258_5 q266_1 q266_2 q266_3 q266_4 q266_5 q274_1 q274_2 q274_3 q274_4 q274_5 q282_1 q282_2 q282_3 q282_4 q282_5 q290_1 q290_2 q290_3 q290_4 q290_5 : Nat) (ZH : KT.Holds h 1 0 (h4.ktop_66 w.params)) (e99 : h.get? 99 = some ⟨(oK w.params 99).cls, (oK w.params 99).dict, (oK w.params 99).data, (oK w.params 99).slots⟩) (e101 : h.get? 101 = some ⟨(oK w.params 101).cls, (oK w.params 101).dict, (oK w.params 101).data, (oK w.params 101).slots⟩) (e102 : h.get? 102 = some ⟨(oK w.params 102).cls, (oK w.params 102).dict, (oK w.params 102).data, (oK w.params 102).slots⟩) (e103 : h.get? 103 = some ⟨(oK w.params 103).cls, (oK w.params 103).dict, (oK w.params 103).data, (oK w.params 103).slots⟩) (e104 : h.get? 104 = some ⟨(oK w.params 104).cls, (oK w.params 104).dict, (oK w.params 104).data, (oK w.params 104).slots⟩) (e105 : h.get? 105 = some ⟨(oK w.params 105).cls, (oK w.params 105).dict, (oK w.params 105).data, (oK w.params 105).slots⟩) (e100 : h.get? 100 = some ⟨.none, none, .fields ⟨[.int 64 0, .int 4 0, .ref 242]⟩, #[]⟩) (e240 : h.get? 240 = some ⟨Value.type "tuple", none, Data.seq (⟨[Value.str (Str.ofString "mycmp") q240_1]⟩) 0, #[]⟩) (e241 : h.get? 241 = some ⟨Value.none, none, Data.fields (⟨[Value.int (68) 0, Value.int (8) 0, Value.ref 250, Value.int (71) 0, Value.int (8) 0, Value.ref 258, Value.int (74) 0, Value.int (8) 0, Value.ref 266, Value.int (77) 0, Value.int (8) 0, Value.ref 274, Value.int (80) 0, Value.int (8) 0, Value.ref 282, Value.int (83) 0, Value.int (8) 0, Value.ref 290]⟩), #[]⟩) (e242 : h.get? 242 = some ⟨Value.type "code", none, Data.fields (⟨[Value.str (Str.ofString "K") q242_1, Value.str (Str.ofString "cmp_to_key.<locals>.K") q242_2, Value.str (Str.ofString "/claim/cut.py") q242_3, Value.int (64) 0, Value.int (0) 0, Value.int (0) 0, Value.int (0) 0, Value.int (0) 0, Value.ref 240, Value.bool true, Value.int (181) 0, Value.ref 241, Value.none, Value.none, Value.none, Value.none, Value.int (Int.ofNat q242_4) 0, Value.int (64) 0, Value.str (Str.ofString "/claim/cut.py") q242_5]⟩), #[]⟩) (e250 : h.get? 250 = some ⟨Value.type "code", none, Data.fields (⟨[Value.str (Str.ofString "__init__") q250_1, Value.str (Str.ofString "cmp_to_key.<locals>.K.__init__") q250_2, Value.str (Str.ofString "/claim/cut.py") q250_3, Value.int (68) 0, Value.int (2) 0, Value.int (0) 0, Value.int (0) 0, Value.int (19) 0, Value.ref 245, Value.bool true, Value.int (181) 0, Value.ref 246, Value.none, Value.ref 247, Value.ref 248, Value.ref 249, Value.int (Int.ofNat q250_4) 0, Value.int (68) 0, Value.str (Str.ofString "/claim/cut.py") q250_5]⟩), #[]⟩) (e258 : h.get? 258 = some ⟨Value.type "code", none, Data.fields (⟨[Value.str (Str.ofString "__lt__") q258_1, Value.str (Str.ofString "cmp_to_key.<locals>.K.__lt__") q258_2, Value.str (Str.ofString "/claim/cut.py") q258_3, Value.int (71) 0, Value.int (2) 0, Value.int (0) 0, Value.int (0) 0, Value.int (19) 0, Value.ref 253, Value.bool true, Value.int (181) 0, Value.ref 254, Value.none, Value.ref 255, Value.ref 256, Value.ref 257, Value.int (Int.ofNat q258_4) 0, Value.int (71) 0, Value.str (Str.ofString "/claim/cut.py") q258_5]⟩), #[]⟩) (e266 : h.get? 266 = some ⟨Value.type "code", none, Data.fields (⟨[Value.str (Str.ofString "__gt__") q266_1, Value.str (Str.ofString "cmp_to_key.<locals>.K.__gt__") q266_2, Value.str (Str.ofString "/claim/cut.py") q266_3, Value.int (74) 0, Value.int (2) 0, Value.int (0) 0, Value.int (0) 0, Value.int (19) 0, Value.ref 261, Value.bool true, Value.int (181) 0, Value.ref 262, Value.none, Value.ref 263, Value.ref 264, Value.ref 265, Value.int (Int.ofNat q266_4) 0, Value.int (74) 0, Value.str (Str.ofString "/claim/cut.py") q266_5]⟩), #[]⟩) (e274 : h.get? 274 = some ⟨Value.type "code", none, Data.fields (⟨[Value.str (Str.ofString "__eq__") q274_1, Value.str (Str.ofString "cmp_to_key.<locals>.K.__eq__") q274_2, Value.str (Str.ofString "/claim/cut.py") q274_3, Value.int (77) 0, Value.int (2) 0, Value.int (0) 0, Value.int (0) 0, Value.int (19) 0, Value.ref 269, Value.bool true, Value.int (181) 0, Value.ref 270, Value.none, Value.ref 271, Value.ref 272, Value.ref 273, Value.int (Int.ofNat q274_4) 0, Value.int (77) 0, Value.str (Str.ofString "/claim/cut.py") q274_5]⟩), #[]⟩) (e282 : h.get? 282 = some ⟨Value.type "code", none, Data.fields (⟨[Value.str (Str.ofString "__le__") q282_1, Value.str (Str.ofString "cmp_to_key.<locals>.K.__le__") q282_2, Value.str (Str.ofString "/claim/cut.py") q282_3, Value.int (80) 0, Value.int (2) 0, Value.int (0) 0, Value.int (0) 0, Value.int (19) 0, Value.ref 277, Value.bool true, Value.int (181) 0, Value.ref 278, Value.none, Value.ref 279, Value.ref 280, Value.ref 281, Value.int (Int.ofNat q282_4) 0, Value.int (80) 0, Value.str (Str.ofString "/claim/cut.py") q282_5]⟩), #[]⟩) (e290 : h.get? 290 = some ⟨Value.type "code", none, Data.fields (⟨[Value.str (Str.ofString "__ge__") q290_1, Value.str (Str.ofString "cmp_to_key.<locals>.K.__ge__") q290_2, Value.str (Str.ofString "/claim/cut.py") q290_3, Value.int (83) 0, Value.int (2) 0, Value.int (0) 0, Value.int (0) 0, Value.int (19) 0, Value.ref 285, Value.bool true, Value.int (181) 0, Value.ref 286, Value.none, Value.ref 287, Value.ref 288, Value.ref 289, Value.int (Int.ofNat q290_4) 0, Value.int (83) 0, Value.str (Str.ofString "/claim/cut.py") q290_5]⟩), #[]⟩) (ZN : h.objs.size = 319) (hg : g = #[]) :
  wpAny (model PySem.Challenge.rw_nq0073_01.prog w) (AX l) (PySem.call (.ref 105) [.ref bb]) (fun v s' => Kept2 ⟨h, g, d, t, os⟩ s') (fun _ _ => False) ⟨h, g, d, t, os⟩ := by
  z_run
theorem sec_made_320 (w : World) (h : Heap) (g : Array GenState) (d : Drawn) (t : Nat) (os : OsState) (l : List Env) (bb : Addr) (q240_1 q242_1 q242_2 q242_3 q242_4 q242_5 q250_1 q250_2 q250_3 q250_4 q250_5 q258_1 q258_2 q258_3 q258_4 q258_5 q266_1 q266_2 q266_3 q266_4 q266_5 q274_1 q274_2 q274_3 q274_4 q274_5 q282_1 q282_2 q282_3 q282_4 q282_5 q290_1 q290_2 q290_3 q290_4 q290_5 : Nat) (ZH : KT.Holds h 1 0 (h4.ktop_66 w.params)) (e99 : h.get? 99 = some ⟨(oK w.params 99).cls, (oK w.params 99).dict, (oK w.params 99).data, (oK w.params 99).slots⟩) (e101 : h.get? 101 = some ⟨(oK w.params 101).cls, (oK w.params 101).dict, (oK w.params 101).data, (oK w.params 101).slots⟩) (e102 : h.get? 102 = some ⟨(oK w.params 102).cls, (oK w.params 102).dict, (oK w.params 102).data, (oK w.params 102).slots⟩) (e103 : h.get? 103 = some ⟨(oK w.params 103).cls, (oK w.params 103).dict, (oK w.params 103).data, (oK w.params 103).slots⟩) (e104 : h.get? 104 = some ⟨(oK w.params 104).cls, (oK w.params 104).dict, (oK w.params 104).data, (oK w.params 104).slots⟩) (e105 : h.get? 105 = some ⟨(oK w.params 105).cls, (oK w.params 105).dict, (oK w.params 105).data, (oK w.params 105).slots⟩) (e100 : h.get? 100 = some ⟨.none, none, .fields ⟨[.int 64 0, .int 4 0, .ref 242]⟩, #[]⟩) (e240 : h.get? 240 = some ⟨Value.type "tuple", none, Data.seq (⟨[Value.str (Str.ofString "mycmp") q240_1]⟩) 0, #[]⟩) (e241 : h.get? 241 = some ⟨Value.none, none, Data.fields (⟨[Value.int (68) 0, Value.int (8) 0, Value.ref 250, Value.int (71) 0, Value.int (8) 0, Value.ref 258, Value.int (74) 0, Value.int (8) 0, Value.ref 266, Value.int (77) 0, Value.int (8) 0, Value.ref 274, Value.int (80) 0, Value.int (8) 0, Value.ref 282, Value.int (83) 0, Value.int (8) 0, Value.ref 290]⟩), #[]⟩) (e242 : h.get? 242 = some ⟨Value.type "code", none, Data.fields (⟨[Value.str (Str.ofString "K") q242_1, Value.str (Str.ofString "cmp_to_key.<locals>.K") q242_2, Value.str (Str.ofString "/claim/cut.py") q242_3, Value.int (64) 0, Value.int (0) 0, Value.int (0) 0, Value.int (0) 0, Value.int (0) 0, Value.ref 240, Value.bool true, Value.int (181) 0, Value.ref 241, Value.none, Value.none, Value.none, Value.none, Value.int (Int.ofNat q242_4) 0, Value.int (64) 0, Value.str (Str.ofString "/claim/cut.py") q242_5]⟩), #[]⟩) (e250 : h.get? 250 = some ⟨Value.type "code", none, Data.fields (⟨[Value.str (Str.ofString "__init__") q250_1, Value.str (Str.ofString "cmp_to_key.<locals>.K.__init__") q250_2, Value.str (Str.ofString "/claim/cut.py") q250_3, Value.int (68) 0, Value.int (2) 0, Value.int (0) 0, Value.int (0) 0, Value.int (19) 0, Value.ref 245, Value.bool true, Value.int (181) 0, Value.ref 246, Value.none, Value.ref 247, Value.ref 248, Value.ref 249, Value.int (Int.ofNat q250_4) 0, Value.int (68) 0, Value.str (Str.ofString "/claim/cut.py") q250_5]⟩), #[]⟩) (e258 : h.get? 258 = some ⟨Value.type "code", none, Data.fields (⟨[Value.str (Str.ofString "__lt__") q258_1, Value.str (Str.ofString "cmp_to_key.<locals>.K.__lt__") q258_2, Value.str (Str.ofString "/claim/cut.py") q258_3, Value.int (71) 0, Value.int (2) 0, Value.int (0) 0, Value.int (0) 0, Value.int (19) 0, Value.ref 253, Value.bool true, Value.int (181) 0, Value.ref 254, Value.none, Value.ref 255, Value.ref 256, Value.ref 257, Value.int (Int.ofNat q258_4) 0, Value.int (71) 0, Value.str (Str.ofString "/claim/cut.py") q258_5]⟩), #[]⟩) (e266 : h.get? 266 = some ⟨Value.type "code", none, Data.fields (⟨[Value.str (Str.ofString "__gt__") q266_1, Value.str (Str.ofString "cmp_to_key.<locals>.K.__gt__") q266_2, Value.str (Str.ofString "/claim/cut.py") q266_3, Value.int (74) 0, Value.int (2) 0, Value.int (0) 0, Value.int (0) 0, Value.int (19) 0, Value.ref 261, Value.bool true, Value.int (181) 0, Value.ref 262, Value.none, Value.ref 263, Value.ref 264, Value.ref 265, Value.int (Int.ofNat q266_4) 0, Value.int (74) 0, Value.str (Str.ofString "/claim/cut.py") q266_5]⟩), #[]⟩) (e274 : h.get? 274 = some ⟨Value.type "code", none, Data.fields (⟨[Value.str (Str.ofString "__eq__") q274_1, Value.str (Str.ofString "cmp_to_key.<locals>.K.__eq__") q274_2, Value.str (Str.ofString "/claim/cut.py") q274_3, Value.int (77) 0, Value.int (2) 0, Value.int (0) 0, Value.int (0) 0, Value.int (19) 0, Value.ref 269, Value.bool true, Value.int (181) 0, Value.ref 270, Value.none, Value.ref 271, Value.ref 272, Value.ref 273, Value.int (Int.ofNat q274_4) 0, Value.int (77) 0, Value.str (Str.ofString "/claim/cut.py") q274_5]⟩), #[]⟩) (e282 : h.get? 282 = some ⟨Value.type "code", none, Data.fields (⟨[Value.str (Str.ofString "__le__") q282_1, Value.str (Str.ofString "cmp_to_key.<locals>.K.__le__") q282_2, Value.str (Str.ofString "/claim/cut.py") q282_3, Value.int (80) 0, Value.int (2) 0, Value.int (0) 0, Value.int (0) 0, Value.int (19) 0, Value.ref 277, Value.bool true, Value.int (181) 0, Value.ref 278, Value.none, Value.ref 279, Value.ref 280, Value.ref 281, Value.int (Int.ofNat q282_4) 0, Value.int (80) 0, Value.str (Str.ofString "/claim/cut.py") q282_5]⟩), #[]⟩) (e290 : h.get? 290 = some ⟨Value.type "code", none, Data.fields (⟨[Value.str (Str.ofString "__ge__") q290_1, Value.str (Str.ofString "cmp_to_key.<locals>.K.__ge__") q290_2, Value.str (Str.ofString "/claim/cut.py") q290_3, Value.int (83) 0, Value.int (2) 0, Value.int (0) 0, Value.int (0) 0, Value.int (19) 0, Value.ref 285, Value.bool true, Value.int (181) 0, Value.ref 286, Value.none, Value.ref 287, Value.ref 288, Value.ref 289, Value.int (Int.ofNat q290_4) 0, Value.int (83) 0, Value.str (Str.ofString "/claim/cut.py") q290_5]⟩), #[]⟩) (ZN : h.objs.size = 320) (hg : g = #[]) :
  wpAny (model PySem.Challenge.rw_nq0073_01.prog w) (AX l) (PySem.call (.ref 105) [.ref bb]) (fun v s' => Kept2 ⟨h, g, d, t, os⟩ s') (fun _ _ => False) ⟨h, g, d, t, os⟩ := by
  z_run
theorem sec_made_321 (w : World) (h : Heap) (g : Array GenState) (d : Drawn) (t : Nat) (os : OsState) (l : List Env) (bb : Addr) (q240_1 q242_1 q242_2 q242_3 q242_4 q242_5 q250_1 q250_2 q250_3 q250_4 q250_5 q258_1 q258_2 q258_3 q258_4 q258_5 q266_1 q266_2 q266_3 q266_4 q266_5 q274_1 q274_2 q274_3 q274_4 q274_5 q282_1 q282_2 q282_3 q282_4 q282_5 q290_1 q290_2 q290_3 q290_4 q290_5 : Nat) (ZH : KT.Holds h 1 0 (h4.ktop_66 w.params)) (e99 : h.get? 99 = some ⟨(oK w.params 99).cls, (oK w.params 99).dict, (oK w.params 99).data, (oK w.params 99).slots⟩) (e101 : h.get? 101 = some ⟨(oK w.params 101).cls, (oK w.params 101).dict, (oK w.params 101).data, (oK w.params 101).slots⟩) (e102 : h.get? 102 = some ⟨(oK w.params 102).cls, (oK w.params 102).dict, (oK w.params 102).data, (oK w.params 102).slots⟩) (e103 : h.get? 103 = some ⟨(oK w.params 103).cls, (oK w.params 103).dict, (oK w.params 103).data, (oK w.params 103).slots⟩) (e104 : h.get? 104 = some ⟨(oK w.params 104).cls, (oK w.params 104).dict, (oK w.params 104).data, (oK w.params 104).slots⟩) (e105 : h.get? 105 = some ⟨(oK w.params 105).cls, (oK w.params 105).dict, (oK w.params 105).data, (oK w.params 105).slots⟩) (e100 : h.get? 100 = some ⟨.none, none, .fields ⟨[.int 64 0, .int 4 0, .ref 242]⟩, #[]⟩) (e240 : h.get? 240 = some ⟨Value.type "tuple", none, Data.seq (⟨[Value.str (Str.ofString "mycmp") q240_1]⟩) 0, #[]⟩) (e241 : h.get? 241 = some ⟨Value.none, none, Data.fields (⟨[Value.int (68) 0, Value.int (8) 0, Value.ref 250, Value.int (71) 0, Value.int (8) 0, Value.ref 258, Value.int (74) 0, Value.int (8) 0, Value.ref 266, Value.int (77) 0, Value.int (8) 0, Value.ref 274, Value.int (80) 0, Value.int (8) 0, Value.ref 282, Value.int (83) 0, Value.int (8) 0, Value.ref 290]⟩), #[]⟩) (e242 : h.get? 242 = some ⟨Value.type "code", none, Data.fields (⟨[Value.str (Str.ofString "K") q242_1, Value.str (Str.ofString "cmp_to_key.<locals>.K") q242_2, Value.str (Str.ofString "/claim/cut.py") q242_3, Value.int (64) 0, Value.int (0) 0, Value.int (0) 0, Value.int (0) 0, Value.int (0) 0, Value.ref 240, Value.bool true, Value.int (181) 0, Value.ref 241, Value.none, Value.none, Value.none, Value.none, Value.int (Int.ofNat q242_4) 0, Value.int (64) 0, Value.str (Str.ofString "/claim/cut.py") q242_5]⟩), #[]⟩) (e250 : h.get? 250 = some ⟨Value.type "code", none, Data.fields (⟨[Value.str (Str.ofString "__init__") q250_1, Value.str (Str.ofString "cmp_to_key.<locals>.K.__init__") q250_2, Value.str (Str.ofString "/claim/cut.py") q250_3, Value.int (68) 0, Value.int (2) 0, Value.int (0) 0, Value.int (0) 0, Value.int (19) 0, Value.ref 245, Value.bool true, Value.int (181) 0, Value.ref 246, Value.none, Value.ref 247, Value.ref 248, Value.ref 249, Value.int (Int.ofNat q250_4) 0, Value.int (68) 0, Value.str (Str.ofString "/claim/cut.py") q250_5]⟩), #[]⟩) (e258 : h.get? 258 = some ⟨Value.type "code", none, Data.fields (⟨[Value.str (Str.ofString "__lt__") q258_1, Value.str (Str.ofString "cmp_to_key.<locals>.K.__lt__") q258_2, Value.str (Str.ofString "/claim/cut.py") q258_3, Value.int (71) 0, Value.int (2) 0, Value.int (0) 0, Value.int (0) 0, Value.int (19) 0, Value.ref 253, Value.bool true, Value.int (181) 0, Value.ref 254, Value.none, Value.ref 255, Value.ref 256, Value.ref 257, Value.int (Int.ofNat q258_4) 0, Value.int (71) 0, Value.str (Str.ofString "/claim/cut.py") q258_5]⟩), #[]⟩) (e266 : h.get? 266 = some ⟨Value.type "code", none, Data.fields (⟨[Value.str (Str.ofString "__gt__") q266_1, Value.str (Str.ofString "cmp_to_key.<locals>.K.__gt__") q266_2, Value.str (Str.ofString "/claim/cut.py") q266_3, Value.int (74) 0, Value.int (2) 0, Value.int (0) 0, Value.int (0) 0, Value.int (19) 0, Value.ref 261, Value.bool true, Value.int (181) 0, Value.ref 262, Value.none, Value.ref 263, Value.ref 264, Value.ref 265, Value.int (Int.ofNat q266_4) 0, Value.int (74) 0, Value.str (Str.ofString "/claim/cut.py") q266_5]⟩), #[]⟩) (e274 : h.get? 274 = some ⟨Value.type "code", none, Data.fields (⟨[Value.str (Str.ofString "__eq__") q274_1, Value.str (Str.ofString "cmp_to_key.<locals>.K.__eq__") q274_2, Value.str (Str.ofString "/claim/cut.py") q274_3, Value.int (77) 0, Value.int (2) 0, Value.int (0) 0, Value.int (0) 0, Value.int (19) 0, Value.ref 269, Value.bool true, Value.int (181) 0, Value.ref 270, Value.none, Value.ref 271, Value.ref 272, Value.ref 273, Value.int (Int.ofNat q274_4) 0, Value.int (77) 0, Value.str (Str.ofString "/claim/cut.py") q274_5]⟩), #[]⟩) (e282 : h.get? 282 = some ⟨Value.type "code", none, Data.fields (⟨[Value.str (Str.ofString "__le__") q282_1, Value.str (Str.ofString "cmp_to_key.<locals>.K.__le__") q282_2, Value.str (Str.ofString "/claim/cut.py") q282_3, Value.int (80) 0, Value.int (2) 0, Value.int (0) 0, Value.int (0) 0, Value.int (19) 0, Value.ref 277, Value.bool true, Value.int (181) 0, Value.ref 278, Value.none, Value.ref 279, Value.ref 280, Value.ref 281, Value.int (Int.ofNat q282_4) 0, Value.int (80) 0, Value.str (Str.ofString "/claim/cut.py") q282_5]⟩), #[]⟩) (e290 : h.get? 290 = some ⟨Value.type "code", none, Data.fields (⟨[Value.str (Str.ofString "__ge__") q290_1, Value.str (Str.ofString "cmp_to_key.<locals>.K.__ge__") q290_2, Value.str (Str.ofString "/claim/cut.py") q290_3, Value.int (83) 0, Value.int (2) 0, Value.int (0) 0, Value.int (0) 0, Value.int (19) 0, Value.ref 285, Value.bool true, Value.int (181) 0, Value.ref 286, Value.none, Value.ref 287, Value.ref 288, Value.ref 289, Value.int (Int.ofNat q290_4) 0, Value.int (83) 0, Value.str (Str.ofString "/claim/cut.py") q290_5]⟩), #[]⟩) (ZN : h.objs.size = 321) (hg : g = #[]) :
  wpAny (model PySem.Challenge.rw_nq0073_01.prog w) (AX l) (PySem.call (.ref 105) [.ref bb]) (fun v s' => Kept2 ⟨h, g, d, t, os⟩ s') (fun _ _ => False) ⟨h, g, d, t, os⟩ := by
  z_run
theorem sec_made_322 (w : World) (h : Heap) (g : Array GenState) (d : Drawn) (t : Nat) (os : OsState) (l : List Env) (bb : Addr) (q240_1 q242_1 q242_2 q242_3 q242_4 q242_5 q250_1 q250_2 q250_3 q250_4 q250_5 q258_1 q258_2 q258_3 q258_4 q258_5 q266_1 q266_2 q266_3 q266_4 q266_5 q274_1 q274_2 q274_3 q274_4 q274_5 q282_1 q282_2 q282_3 q282_4 q282_5 q290_1 q290_2 q290_3 q290_4 q290_5 : Nat) (ZH : KT.Holds h 1 0 (h4.ktop_66 w.params)) (e99 : h.get? 99 = some ⟨(oK w.params 99).cls, (oK w.params 99).dict, (oK w.params 99).data, (oK w.params 99).slots⟩) (e101 : h.get? 101 = some ⟨(oK w.params 101).cls, (oK w.params 101).dict, (oK w.params 101).data, (oK w.params 101).slots⟩) (e102 : h.get? 102 = some ⟨(oK w.params 102).cls, (oK w.params 102).dict, (oK w.params 102).data, (oK w.params 102).slots⟩) (e103 : h.get? 103 = some ⟨(oK w.params 103).cls, (oK w.params 103).dict, (oK w.params 103).data, (oK w.params 103).slots⟩) (e104 : h.get? 104 = some ⟨(oK w.params 104).cls, (oK w.params 104).dict, (oK w.params 104).data, (oK w.params 104).slots⟩) (e105 : h.get? 105 = some ⟨(oK w.params 105).cls, (oK w.params 105).dict, (oK w.params 105).data, (oK w.params 105).slots⟩) (e100 : h.get? 100 = some ⟨.none, none, .fields ⟨[.int 64 0, .int 4 0, .ref 242]⟩, #[]⟩) (e240 : h.get? 240 = some ⟨Value.type "tuple", none, Data.seq (⟨[Value.str (Str.ofString "mycmp") q240_1]⟩) 0, #[]⟩) (e241 : h.get? 241 = some ⟨Value.none, none, Data.fields (⟨[Value.int (68) 0, Value.int (8) 0, Value.ref 250, Value.int (71) 0, Value.int (8) 0, Value.ref 258, Value.int (74) 0, Value.int (8) 0, Value.ref 266, Value.int (77) 0, Value.int (8) 0, Value.ref 274, Value.int (80) 0, Value.int (8) 0, Value.ref 282, Value.int (83) 0, Value.int (8) 0, Value.ref 290]⟩), #[]⟩) (e242 : h.get? 242 = some ⟨Value.type "code", none, Data.fields (⟨[Value.str (Str.ofString "K") q242_1, Value.str (Str.ofString "cmp_to_key.<locals>.K") q242_2, Value.str (Str.ofString "/claim/cut.py") q242_3, Value.int (64) 0, Value.int (0) 0, Value.int (0) 0, Value.int (0) 0, Value.int (0) 0, Value.ref 240, Value.bool true, Value.int (181) 0, Value.ref 241, Value.none, Value.none, Value.none, Value.none, Value.int (Int.ofNat q242_4) 0, Value.int (64) 0, Value.str (Str.ofString "/claim/cut.py") q242_5]⟩), #[]⟩) (e250 : h.get? 250 = some ⟨Value.type "code", none, Data.fields (⟨[Value.str (Str.ofString "__init__") q250_1, Value.str (Str.ofString "cmp_to_key.<locals>.K.__init__") q250_2, Value.str (Str.ofString "/claim/cut.py") q250_3, Value.int (68) 0, Value.int (2) 0, Value.int (0) 0, Value.int (0) 0, Value.int (19) 0, Value.ref 245, Value.bool true, Value.int (181) 0, Value.ref 246, Value.none, Value.ref 247, Value.ref 248, Value.ref 249, Value.int (Int.ofNat q250_4) 0, Value.int (68) 0, Value.str (Str.ofString "/claim/cut.py") q250_5]⟩), #[]⟩) (e258 : h.get? 258 = some ⟨Value.type "code", none, Data.fields (⟨[Value.str (Str.ofString "__lt__") q258_1, Value.str (Str.ofString "cmp_to_key.<locals>.K.__lt__") q258_2, Value.str (Str.ofString "/claim/cut.py") q258_3, Value.int (71) 0, Value.int (2) 0, Value.int (0) 0, Value.int (0) 0, Value.int (19) 0, Value.ref 253, Value.bool true, Value.int (181) 0, Value.ref 254, Value.none, Value.ref 255, Value.ref 256, Value.ref 257, Value.int (Int.ofNat q258_4) 0, Value.int (71) 0, Value.str (Str.ofString "/claim/cut.py") q258_5]⟩), #[]⟩) (e266 : h.get? 266 = some ⟨Value.type "code", none, Data.fields (⟨[Value.str (Str.ofString "__gt__") q266_1, Value.str (Str.ofString "cmp_to_key.<locals>.K.__gt__") q266_2, Value.str (Str.ofString "/claim/cut.py") q266_3, Value.int (74) 0, Value.int (2) 0, Value.int (0) 0, Value.int (0) 0, Value.int (19) 0, Value.ref 261, Value.bool true, Value.int (181) 0, Value.ref 262, Value.none, Value.ref 263, Value.ref 264, Value.ref 265, Value.int (Int.ofNat q266_4) 0, Value.int (74) 0, Value.str (Str.ofString "/claim/cut.py") q266_5]⟩), #[]⟩) (e274 : h.get? 274 = some ⟨Value.type "code", none, Data.fields (⟨[Value.str (Str.ofString "__eq__") q274_1, Value.str (Str.ofString "cmp_to_key.<locals>.K.__eq__") q274_2, Value.str (Str.ofString "/claim/cut.py") q274_3, Value.int (77) 0, Value.int (2) 0, Value.int (0) 0, Value.int (0) 0, Value.int (19) 0, Value.ref 269, Value.bool true, Value.int (181) 0, Value.ref 270, Value.none, Value.ref 271, Value.ref 272, Value.ref 273, Value.int (Int.ofNat q274_4) 0, Value.int (77) 0, Value.str (Str.ofString "/claim/cut.py") q274_5]⟩), #[]⟩) (e282 : h.get? 282 = some ⟨Value.type "code", none, Data.fields (⟨[Value.str (Str.ofString "__le__") q282_1, Value.str (Str.ofString "cmp_to_key.<locals>.K.__le__") q282_2, Value.str (Str.ofString "/claim/cut.py") q282_3, Value.int (80) 0, Value.int (2) 0, Value.int (0) 0, Value.int (0) 0, Value.int (19) 0, Value.ref 277, Value.bool true, Value.int (181) 0, Value.ref 278, Value.none, Value.ref 279, Value.ref 280, Value.ref 281, Value.int (Int.ofNat q282_4) 0, Value.int (80) 0, Value.str (Str.ofString "/claim/cut.py") q282_5]⟩), #[]⟩) (e290 : h.get? 290 = some ⟨Value.type "code", none, Data.fields (⟨[Value.str (Str.ofString "__ge__") q290_1, Value.str (Str.ofString "cmp_to_key.<locals>.K.__ge__") q290_2, Value.str (Str.ofString "/claim/cut.py") q290_3, Value.int (83) 0, Value.int (2) 0, Value.int (0) 0, Value.int (0) 0, Value.int (19) 0, Value.ref 285, Value.bool true, Value.int (181) 0, Value.ref 286, Value.none, Value.ref 287, Value.ref 288, Value.ref 289, Value.int (Int.ofNat q290_4) 0, Value.int (83) 0, Value.str (Str.ofString "/claim/cut.py") q290_5]⟩), #[]⟩) (ZN : h.objs.size = 322) (hg : g = #[]) :
  wpAny (model PySem.Challenge.rw_nq0073_01.prog w) (AX l) (PySem.call (.ref 105) [.ref bb]) (fun v s' => Kept2 ⟨h, g, d, t, os⟩ s') (fun _ _ => False) ⟨h, g, d, t, os⟩ := by
  z_run
theorem sec_made_323 (w : World) (h : Heap) (g : Array GenState) (d : Drawn) (t : Nat) (os : OsState) (l : List Env) (bb : Addr) (q240_1 q242_1 q242_2 q242_3 q242_4 q242_5 q250_1 q250_2 q250_3 q250_4 q250_5 q258_1 q258_2 q258_3 q258_4 q258_5 q266_1 q266_2 q266_3 q266_4 q266_5 q274_1 q274_2 q274_3 q274_4 q274_5 q282_1 q282_2 q282_3 q282_4 q282_5 q290_1 q290_2 q290_3 q290_4 q290_5 : Nat) (ZH : KT.Holds h 1 0 (h4.ktop_66 w.params)) (e99 : h.get? 99 = some ⟨(oK w.params 99).cls, (oK w.params 99).dict, (oK w.params 99).data, (oK w.params 99).slots⟩) (e101 : h.get? 101 = some ⟨(oK w.params 101).cls, (oK w.params 101).dict, (oK w.params 101).data, (oK w.params 101).slots⟩) (e102 : h.get? 102 = some ⟨(oK w.params 102).cls, (oK w.params 102).dict, (oK w.params 102).data, (oK w.params 102).slots⟩) (e103 : h.get? 103 = some ⟨(oK w.params 103).cls, (oK w.params 103).dict, (oK w.params 103).data, (oK w.params 103).slots⟩) (e104 : h.get? 104 = some ⟨(oK w.params 104).cls, (oK w.params 104).dict, (oK w.params 104).data, (oK w.params 104).slots⟩) (e105 : h.get? 105 = some ⟨(oK w.params 105).cls, (oK w.params 105).dict, (oK w.params 105).data, (oK w.params 105).slots⟩) (e100 : h.get? 100 = some ⟨.none, none, .fields ⟨[.int 64 0, .int 4 0, .ref 242]⟩, #[]⟩) (e240 : h.get? 240 = some ⟨Value.type "tuple", none, Data.seq (⟨[Value.str (Str.ofString "mycmp") q240_1]⟩) 0, #[]⟩) (e241 : h.get? 241 = some ⟨Value.none, none, Data.fields (⟨[Value.int (68) 0, Value.int (8) 0, Value.ref 250, Value.int (71) 0, Value.int (8) 0, Value.ref 258, Value.int (74) 0, Value.int (8) 0, Value.ref 266, Value.int (77) 0, Value.int (8) 0, Value.ref 274, Value.int (80) 0, Value.int (8) 0, Value.ref 282, Value.int (83) 0, Value.int (8) 0, Value.ref 290]⟩), #[]⟩) (e242 : h.get? 242 = some ⟨Value.type "code", none, Data.fields (⟨[Value.str (Str.ofString "K") q242_1, Value.str (Str.ofString "cmp_to_key.<locals>.K") q242_2, Value.str (Str.ofString "/claim/cut.py") q242_3, Value.int (64) 0, Value.int (0) 0, Value.int (0) 0, Value.int (0) 0, Value.int (0) 0, Value.ref 240, Value.bool true, Value.int (181) 0, Value.ref 241, Value.none, Value.none, Value.none, Value.none, Value.int (Int.ofNat q242_4) 0, Value.int (64) 0, Value.str (Str.ofString "/claim/cut.py") q242_5]⟩), #[]⟩) (e250 : h.get? 250 = some ⟨Value.type "code", none, Data.fields (⟨[Value.str (Str.ofString "__init__") q250_1, Value.str (Str.ofString "cmp_to_key.<locals>.K.__init__") q250_2, Value.str (Str.ofString "/claim/cut.py") q250_3, Value.int (68) 0, Value.int (2) 0, Value.int (0) 0, Value.int (0) 0, Value.int (19) 0, Value.ref 245, Value.bool true, Value.int (181) 0, Value.ref 246, Value.none, Value.ref 247, Value.ref 248, Value.ref 249, Value.int (Int.ofNat q250_4) 0, Value.int (68) 0, Value.str (Str.ofString "/claim/cut.py") q250_5]⟩), #[]⟩) (e258 : h.get? 258 = some ⟨Value.type "code", none, Data.fields (⟨[Value.str (Str.ofString "__lt__") q258_1, Value.str (Str.ofString "cmp_to_key.<locals>.K.__lt__") q258_2, Value.str (Str.ofString "/claim/cut.py") q258_3, Value.int (71) 0, Value.int (2) 0, Value.int (0) 0, Value.int (0) 0, Value.int (19) 0, Value.ref 253, Value.bool true, Value.int (181) 0, Value.ref 254, Value.none, Value.ref 255, Value.ref 256, Value.ref 257, Value.int (Int.ofNat q258_4) 0, Value.int (71) 0, Value.str (Str.ofString "/claim/cut.py") q258_5]⟩), #[]⟩) (e266 : h.get? 266 = some ⟨Value.type "code", none, Data.fields (⟨[Value.str (Str.ofString "__gt__") q266_1, Value.str (Str.ofString "cmp_to_key.<locals>.K.__gt__") q266_2, Value.str (Str.ofString "/claim/cut.py") q266_3, Value.int (74) 0, Value.int (2) 0, Value.int (0) 0, Value.int (0) 0, Value.int (19) 0, Value.ref 261, Value.bool true, Value.int (181) 0, Value.ref 262, Value.none, Value.ref 263, Value.ref 264, Value.ref 265, Value.int (Int.ofNat q266_4) 0, Value.int (74) 0, Value.str (Str.ofString "/claim/cut.py") q266_5]⟩), #[]⟩) (e274 : h.get? 274 = some ⟨Value.type "code", none, Data.fields (⟨[Value.str (Str.ofString "__eq__") q274_1, Value.str (Str.ofString "cmp_to_key.<locals>.K.__eq__") q274_2, Value.str (Str.ofString "/claim/cut.py") q274_3, Value.int (77) 0, Value.int (2) 0, Value.int (0) 0, Value.int (0) 0, Value.int (19) 0, Value.ref 269, Value.bool true, Value.int (181) 0, Value.ref 270, Value.none, Value.ref 271, Value.ref 272, Value.ref 273, Value.int (Int.ofNat q274_4) 0, Value.int (77) 0, Value.str (Str.ofString "/claim/cut.py") q274_5]⟩), #[]⟩) (e282 : h.get? 282 = some ⟨Value.type "code", none, Data.fields (⟨[Value.str (Str.ofString "__le__") q282_1, Value.str (Str.ofString "cmp_to_key.<locals>.K.__le__") q282_2, Value.str (Str.ofString "/claim/cut.py") q282_3, Value.int (80) 0, Value.int (2) 0, Value.int (0) 0, Value.int (0) 0, Value.int (19) 0, Value.ref 277, Value.bool true, Value.int (181) 0, Value.ref 278, Value.none, Value.ref 279, Value.ref 280, Value.ref 281, Value.int (Int.ofNat q282_4) 0, Value.int (80) 0, Value.str (Str.ofString "/claim/cut.py") q282_5]⟩), #[]⟩) (e290 : h.get? 290 = some ⟨Value.type "code", none, Data.fields (⟨[Value.str (Str.ofString "__ge__") q290_1, Value.str (Str.ofString "cmp_to_key.<locals>.K.__ge__") q290_2, Value.str (Str.ofString "/claim/cut.py") q290_3, Value.int (83) 0, Value.int (2) 0, Value.int (0) 0, Value.int (0) 0, Value.int (19) 0, Value.ref 285, Value.bool true, Value.int (181) 0, Value.ref 286, Value.none, Value.ref 287, Value.ref 288, Value.ref 289, Value.int (Int.ofNat q290_4) 0, Value.int (83) 0, Value.str (Str.ofString "/claim/cut.py") q290_5]⟩), #[]⟩) (ZN : h.objs.size = 323) (hg : g = #[]) :
  wpAny (model PySem.Challenge.rw_nq0073_01.prog w) (AX l) (PySem.call (.ref 105) [.ref bb]) (fun v s' => Kept2 ⟨h, g, d, t, os⟩ s') (fun _ _ => False) ⟨h, g, d, t, os⟩ := by
  z_run
end Mine
end
section
open PySem PySem.W PySem.W.X PyProof.Rows PySem.Calls PySem.Spec
namespace Mine
set_option maxRecDepth 100000
inductive OutV where
  | nokey
  | handed
  | msg (na nb : String)
  | tab (within holding : Bool)
def strAt (i : Int) : Str := if i = 0 then "" else if i = 1 then "a" else if i = 2 then "ab" else "b"
def bits (y : Int) : List Int := (if y % 2 = 1 then [0] else []) ++ ((if y / 2 % 2 = 1 then [1] else []) ++ (if y / 4 % 2 = 1 then [2] else []))
def core (k : Nat) (y : Int) : Bare := match k with
  | 0 => .int y
  | 1 => .str (strAt (y % 4))
  | 2 => .set (bits y)
  | 3 => .none
  | _ => .key y
def thg (k : Nat) (y : Int) (wr : Bool) : Thg := match wr with
  | true => .q (core k y)
  | false => .bare (core k y)
def kn (k : Nat) : String := match k with
  | 0 => "int"
  | 1 => "str"
  | 2 => "set"
  | _ => "NoneType"
def or8 (y z : Int) : Int := (((y % 8).toNat ||| (z % 8).toNat : Nat) : Int)
def within (k : Nat) (y z : Int) : Bool := match k with
  | 0 => decide (y ≤ z)
  | 1 => decide (y % 4 ≤ z % 4)
  | 2 => decide (or8 y z = z % 8)
  | _ => decide (y / 2 ≤ z / 2)
def holding' (k : Nat) (y z : Int) : Bool := match k with
  | 0 => decide (y ≥ z)
  | 1 => decide (y % 4 ≥ z % 4)
  | 2 => decide (or8 y z = y % 8)
  | _ => decide (y / 2 ≥ z / 2)
def outV (k : Nat) (y : Int) (wr : Bool) (k2 : Nat) (z : Int) (w2 : Bool) : OutV :=
  if wr && ((k == 4) != (k2 == 4)) then .nokey
  else if wr && (k != k2 || k == 3) then .msg (kn k) (kn k2)
  else if !wr && (k != k2 || k == 3 || w2) then (if k == 4 then .nokey else .handed)
  else .tab (within k y z) (holding' k y z)
def tabAt (w h : Bool) : O4 → Bool
  | .lt => w && !h
  | .le => w
  | .gt => h && !w
  | .ge => h
def O4.up : O4 → Bool
  | .lt => false
  | .le => false
  | _ => true
def O4.comp : O4 → O4
  | .lt => .ge
  | .le => .gt
  | .gt => .le
  | .ge => .lt
def dueB (nm root : O4) (w h : Bool) : Bool := if nm.up == root.up then tabAt w h nm else !tabAt w h nm.comp
def dueR (nm root : O4) : OutV → Res
  | .nokey => .at_
  | .handed => .ni
  | .msg na nb => .ty (cmpMsg root.sym na nb)
  | .tab w h => .bool (dueB nm root w h)
structure Ent where
  g : Addr
  f : Str
  nm : O4
  root : O4
  form : Bool → Bool → Bool
def ents : List Ent := [⟨21, "_gt_from_lt", .gt, .lt, fun o e => !o && !e⟩, ⟨28, "_le_from_lt", .le, .lt, fun o e => o || e⟩, ⟨35, "_ge_from_lt", .ge, .lt, fun o _ => !o⟩,
  ⟨42, "_ge_from_le", .ge, .le, fun o e => !o || e⟩, ⟨49, "_lt_from_le", .lt, .le, fun o e => o && !e⟩, ⟨56, "_gt_from_le", .gt, .le, fun o _ => !o⟩,
  ⟨63, "_lt_from_gt", .lt, .gt, fun o e => !o && !e⟩, ⟨70, "_ge_from_gt", .ge, .gt, fun o e => o || e⟩, ⟨77, "_le_from_gt", .le, .gt, fun o _ => !o⟩,
  ⟨84, "_le_from_ge", .le, .ge, fun o e => !o || e⟩, ⟨91, "_gt_from_ge", .gt, .ge, fun o e => o && !e⟩, ⟨98, "_lt_from_ge", .lt, .ge, fun o _ => !o⟩]
/-- what the six comparisons of two like values must be, seen from the law's table -/
structure Like (w h : Bool) (t : O4 → Bool) (e : Bool) : Prop where
  lt : t .lt = (w && !h)
  le : t .le = w
  gt : t .gt = (h && !w)
  ge : t .ge = h
  eq : e = (w && h)
theorem ents_like {w h e : Bool} {t : O4 → Bool} (L : Like w h t e) : ∀ x ∈ ents, dueB x.nm x.root w h = x.form (t x.root) e := by
  obtain ⟨h1, h2, h3, h4, h5⟩ := L
  intro x hx
  simp only [ents, List.mem_cons, List.mem_nil_iff, or_false] at hx
  rcases hx with rfl | rfl | rfl | rfl | rfl | rfl | rfl | rfl | rfl | rfl | rfl | rfl <;> simp only [h1, h2, h3, h4, h5] <;> cases w <;> cases h <;> rfl
theorem like_int {y z : Int} : Like (decide (y ≤ z)) (decide (y ≥ z)) (fun o => o.test y z) (decide (y = z)) := by
  refine ⟨?_, rfl, ?_, rfl, ?_⟩
  · show decide (y < z) = _
    rw [Bool.eq_iff_iff]; simp; omega
  · show decide (y > z) = _
    rw [Bool.eq_iff_iff]; simp; omega
  · rw [Bool.eq_iff_iff]; simp; omega
theorem four (y : Int) : y % 4 = 0 ∨ y % 4 = 1 ∨ y % 4 = 2 ∨ y % 4 = 3 := by omega
theorem like_str {y z : Int} : Like (decide (y % 4 ≤ z % 4)) (decide (y % 4 ≥ z % 4)) (fun o => o.stest (strAt (y % 4)) (strAt (z % 4))) ((strAt (y % 4)).cps.toList == (strAt (z % 4)).cps.toList) := by
  rcases four y with e | e | e | e <;> rcases four z with e' | e' | e' | e' <;> rw [e, e'] <;> constructor <;> decide +kernel
theorem bits_eq (y : Int) : bits y = bits (y % 8) := by
  unfold bits
  rw [show y % 8 % 2 = y % 2 by omega, show y % 8 / 2 % 2 = y / 2 % 2 by omega, show y % 8 / 4 % 2 = y / 4 % 2 by omega]
theorem eight (y : Int) : y % 8 = 0 ∨ y % 8 = 1 ∨ y % 8 = 2 ∨ y % 8 = 3 ∨ y % 8 = 4 ∨ y % 8 = 5 ∨ y % 8 = 6 ∨ y % 8 = 7 := by omega
def orr (a b : Int) : Int := ((a.toNat ||| b.toNat : Nat) : Int)
def likeSet (a b : Int) : Bool := (let w := decide (orr a b = b); let h := decide (orr a b = a); setOp .Lt (bits a) (bits b) == (w && !h) && setOp .LtE (bits a) (bits b) == w && setOp .Gt (bits a) (bits b) == (h && !w) && setOp .GtE (bits a) (bits b) == h && setOp .Eq (bits a) (bits b) == (w && h))
theorem likeSets : ∀ a ∈ [(0 : Int), 1, 2, 3, 4, 5, 6, 7], ∀ b ∈ [(0 : Int), 1, 2, 3, 4, 5, 6, 7], likeSet a b = true := by decide +kernel
theorem mem8 (y : Int) : y % 8 ∈ [(0 : Int), 1, 2, 3, 4, 5, 6, 7] := by
  rcases eight y with e | e | e | e | e | e | e | e <;> rw [e] <;> decide
theorem like_set {y z : Int} : Like (decide (or8 y z = z % 8)) (decide (or8 y z = y % 8)) (fun o => setOp o.cmp (bits y) (bits z)) (setOp .Eq (bits y) (bits z)) := by
  have h := likeSets _ (mem8 y) _ (mem8 z)
  rw [bits_eq y, bits_eq z]
  unfold likeSet at h
  simp only [Bool.and_eq_true, beq_iff_eq] at h
  obtain ⟨⟨⟨⟨h1, h2⟩, h3⟩, h4⟩, h5⟩ := h
  exact ⟨h1, h2, h3, h4, h5⟩
theorem like_core {k : Nat} {y z : Int} {o : O4} (h3 : k ≠ 3) : ∃ (t : O4 → Bool) (e : Bool), (∀ o, R4 o (core k y) (core k z) = .bool (t o)) ∧ EB (core k y) (core k z) = some e ∧ Like (within k y z) (holding' k y z) t e := by
  match k with
  | 0 => exact ⟨_, _, fun o => rfl, rfl, by have := like_int (y := y) (z := z); exact this⟩
  | 1 => exact ⟨_, _, fun o => rfl, rfl, like_str⟩
  | 2 => exact ⟨_, _, fun o => rfl, rfl, like_set⟩
  | 3 => exact (h3 rfl).elim
  | n + 4 => exact ⟨_, _, fun o => rfl, rfl, like_int⟩
/-- two things that the law does not compare -/
theorem cross {nm root : O4} {k k2 : Nat} {y z : Int} {wr w2 : Bool} (hk : k < 5) (hk2 : k2 < 5) (d : ¬ (k = k2 ∧ k ≠ 3 ∧ (wr = false → w2 = false))) : ∃ r, dueR nm root (outV k y wr k2 z w2) = r ∧ (∀ b, r ≠ .bool b) ∧ R0 root (thg k y wr) (thg k2 z w2) = r := by
  have c1 : k = 0 ∨ k = 1 ∨ k = 2 ∨ k = 3 ∨ k = 4 := by omega
  have c2 : k2 = 0 ∨ k2 = 1 ∨ k2 = 2 ∨ k2 = 3 ∨ k2 = 4 := by omega
  clear hk hk2
  cases wr with
  | true =>
    have e1 : outV k y true k2 z w2 = outV k y true k2 z false := by cases w2 <;> rfl
    have e2 : R0 root (thg k y true) (thg k2 z w2) = RC root (core k y) (core k2 z) := by cases w2 <;> rfl
    rw [e1, e2]
    rcases c1 with rfl | rfl | rfl | rfl | rfl <;> rcases c2 with rfl | rfl | rfl | rfl | rfl <;>
      first | exact absurd ⟨rfl, by decide, fun e => by cases e⟩ d | exact ⟨_, rfl, (fun b e => by cases e), rfl⟩
  | false =>
    cases w2 with
    | true =>
      have e1 : outV k y false k2 z true = if (k == 4) = true then .nokey else .handed := by unfold outV; simp
      have e2 : R0 root (thg k y false) (thg k2 z true) = RQ (core k y) := rfl
      rw [e1, e2]
      rcases c1 with rfl | rfl | rfl | rfl | rfl <;> exact ⟨_, rfl, (fun b e => by cases e), rfl⟩
    | false =>
      rcases c1 with rfl | rfl | rfl | rfl | rfl <;> rcases c2 with rfl | rfl | rfl | rfl | rfl <;>
        first | exact absurd ⟨rfl, by decide, fun _ => rfl⟩ d | exact ⟨_, rfl, (fun b e => by cases e), rfl⟩
/-- the law's table says what the twelve give -/
theorem plain_law {k k2 : Nat} {y z : Int} {wr w2 : Bool} (hk : k < 5) (hk2 : k2 < 5) : ∀ x ∈ ents, dueR x.nm x.root (outV k y wr k2 z w2) = outR x.form (R0 x.root (thg k y wr) (thg k2 z w2)) (E0 (thg k y wr) (thg k2 z w2)) := by
  intro x hx
  by_cases same : k = k2 ∧ k ≠ 3 ∧ (wr = false → w2 = false)
  · obtain ⟨rfl, h3, hw⟩ := same
    obtain ⟨t, e, h1, h2, L⟩ := like_core (y := y) (z := z) (o := .lt) h3
    have ho : outV k y wr k z w2 = .tab (within k y z) (holding' k y z) := by
      unfold outV
      cases wr
      · rw [hw rfl]; simp [h3]
      · simp [h3]
    rw [ho]
    have hr : R0 x.root (thg k y wr) (thg k z w2) = .bool (t x.root) := by
      cases wr
      · rw [hw rfl]; exact h1 _
      · have : (thg k z w2).core = core k z := by cases w2 <;> rfl
        show cmpRes _ _ _ (R4 _ (core k y) (thg k z w2).core) _ = _
        rw [this, h1]; rfl
    have he : E0 (thg k y wr) (thg k z w2) = e := by
      have a1 : (thg k z w2).core = core k z := by cases w2 <;> rfl
      have a2 : (thg k y wr).core = core k y := by cases wr <;> rfl
      unfold E0
      rw [a1, a2, h2]; rfl
    rw [hr, he]
    show Res.bool _ = Res.bool _
    rw [ents_like L x hx]
  · obtain ⟨r, h1, h2, h3⟩ := cross (nm := x.nm) (root := x.root) (y := y) (z := z) hk hk2 same
    rw [h1, h3]
    cases r with
    | bool b => exact absurd rfl (h2 b)
    | _ => rfl
end Mine
end
section
open PySem PySem.W PySem.W.X PyProof.Rows PySem.Calls PySem.Spec
namespace Mine
set_option maxRecDepth 100000
set_option maxHeartbeats 0
section
local macro_rules | `(tactic| x_close) => `(tactic| (first | (refine kept_of (by assumption) ?_; first | rfl | exact congrArg Value.bool (by first | (symm; assumption) | (simp only [*]; done) | (simp_all; done))) | (refine kept_start ?_; rfl)))
theorem dict_eq_ni (w : World) (h : Heap) (d : Drawn) (tk : Nat) (os : OsState) (l : List Env) (a : Addr) (es : Array DictEntry) (ep : Nat) (sl : Array (Option Value)) (x : Str) (t : Tok) (ha : h.get? a = some ⟨.type "dict", none, .dict es ep, sl⟩) :
    wpAny (model PySem.Challenge.rw_nq0073_01.prog w) (AX l) (PySem.call (.builtin "dict.__eq__") [.ref a, .str x t]) (Kept ⟨h, #[], d, tk, os⟩ fun v _ => v = .notImplemented) (fun _ _ => False) ⟨h, #[], d, tk, os⟩ := by x_run
theorem str_eq_ni (w : World) (h : Heap) (d : Drawn) (tk : Nat) (os : OsState) (l : List Env) (a : Addr) (es : Array DictEntry) (ep : Nat) (sl : Array (Option Value)) (x : Str) (t : Tok) (ha : h.get? a = some ⟨.type "dict", none, .dict es ep, sl⟩) :
    wpAny (model PySem.Challenge.rw_nq0073_01.prog w) (AX l) (PySem.call (.builtin "str.__eq__") [.str x t, .ref a]) (Kept ⟨h, #[], d, tk, os⟩ fun v _ => v = .notImplemented) (fun _ _ => False) ⟨h, #[], d, tk, os⟩ := by x_run
end
end Mine
end
section
open PySem PySem.W PySem.W.X PyProof.Rows PySem.Calls PySem.Spec
namespace Mine
set_option maxRecDepth 100000
section
variable {w : World} {A : Around} {B : Heap} {l : List Env} {n : Nat} {s : Shared}
/-- == where neither side knows the other -/
theorem eq_ni {a b ta tb ma mb : Value} {na nb : String} (R : Room A l n) (hn : n ≤ 600) (S : Sit B l s) (ha : Looks (M0 w) B (typeOf a) ta) (hb : Looks (M0 w) B (typeOf b) tb) (one : ∀ op u, oneThing? op a u = none) (hrf : Looks (M0 w) B (isSubtype tb ta) false) (Ma : Meth w B a "__eq__" ma) (Mb : Meth w B b "__eq__" mb)
    (h1 : Does w A B l s (call ma [a, b]) .ni) (h2 : ∀ s', Sit B l s' → Does w A B l s' (call mb [b, a]) .ni) (hs : isSame a b = pure false) : Does w A B l s (compareOp .Eq a b) (.bool false) := by
  have hu : A.units < cLine := by have := R.units; show _ < 9900; omega
  unfold Does
  show wpAny _ _ (richCompare .Eq a b) _ _ _
  unfold richCompare
  simp only [one, show cmpInfo .Eq = ("==", (("__eq__" : Str), ("__eq__" : Str))) from rfl]
  refine wpAny_holding (wpAny_bind (wpAny_cRoomFor hu (wpAny_bind ((ha.keeps S.stays).here (wpAny_bind ((hb.keeps S.stays).here ?_))))))
  have main : wpAny (M0 w) A (do
      if let some v ← tryCompare a "__eq__" b then return v
      if let some v ← tryCompare b "__eq__" a then return v
      rule "compare.eq-identity"; return .bool (← isSame a b))
      (fun v s' => Went B l s s' ∧ OkR (.bool false) v) (fun x s' => Went B l s s' ∧ ErR B (.bool false) x s'.heap) s := by
    refine wpAny_bind (try_gen (Ma.sp.keeps S.stays) (Ma.bd.keeps S.stays) (wpAny_mono h1 (fun v s₁ ⟨we, ok⟩ => ?_) fun e s₁ ⟨we, er⟩ => er.elim))
    obtain rfl : v = .notImplemented := ok
    refine wpAny_bind (try_gen (Mb.sp.keeps we.sit.stays) (Mb.bd.keeps we.sit.stays) (wpAny_mono (h2 s₁ we.sit) (fun v s₂ ⟨we₂, ok⟩ => ?_) fun e s₁ ⟨we, er⟩ => er.elim))
    obtain rfl : v = .notImplemented := ok
    refine wpAny_bind (wpAny_rule (wpAny_bind ?_))
    rw [hs]
    exact wpAny_pure (wpAny_pure ⟨we.trans we₂, rfl⟩)
  split
  · exact wpAny_bind ((hrf.keeps S.stays).here main)
  · exact main
theorem sl_dict_eq : Slot "dict" "__eq__" "dict.__eq__" :=
  .of (owner := "dict") (n := "__eq__") (by rw [typeLookup_type, builtinLookup_eq_fast]; kernel_rfl) (by decide +kernel) (by decide +kernel) (by decide +kernel) (by exact .inl (by decide +kernel)) (by rw [isSubtype_type]; kernel_rfl)
theorem dict_str_eq {a : Addr} {es : Array DictEntry} {ep : Nat} {sl : Array (Option Value)} {x : Str} {t : Tok} (R : Room A l n) (hn : n ≤ 600) (S : Sit B l s) (ha : B.get? a = some ⟨.type "dict", none, .dict es ep, sl⟩) :
    Does w A B l s (compareOp .Eq (.ref a) (.str x t)) (.bool false) := by
  have L : Looks (M0 w) B (typeOf (.ref a)) (.type "dict") := (Looks.ld ha).andThen .now
  refine eq_ni (na := "") (nb := "") R hn S L (Looks.of_pure rfl) (fun op u => rfl) (Looks.of_pure (by rw [isSubtype_type]; kernel_rfl)) (meth_slot sl_dict_eq L) (meth_slot sl_str_eq (Looks.of_pure rfl)) ?_ (fun s' S' => ?_) rfl
  · exact does_kept R hn S (fun h d tk os B0 => dict_eq_ni w h d tk os l a es ep sl x t (B0 _ _ ha)) fun _ _ x => x
  · exact does_kept R hn S' (fun h d tk os B0 => str_eq_ni w h d tk os l a es ep sl x t (B0 _ _ ha)) fun _ _ x => x
end
end Mine
end
section
open PySem PySem.W PySem.W.X PyProof.Rows PySem.Calls PySem.Spec
namespace Mine
set_option maxRecDepth 100000
def dscope : Scope := { kind := .function, names := [("outcome", .local), ("name", .local), ("root", .local), ("isinstance", .globalImplicit), ("str", .globalImplicit)], isGenerator := false, isCoroutine := false, more := [] }
section
variable {w : World} {A : Around} {B : Heap} {l : List Env} {n : Nat} {s : Shared}
theorem due_frame {P : Value → Prop} {a : Addr} {o : Obj} {fd : FuncData} {body : List Stmt} (hl : ∀ P, (KK P).lookup a = some o) (hd : o.data = .func fd) (hb : fd.body = .stmts body) (hsc : fd.scope = dscope) (hg : fd.globals = mainGlobals) (hbl : fd.builtins = builtinsNs)
    (hbind : ∀ x v u, bindArgs fd ⟨[x, v, u], []⟩ = pure [(("outcome" : Str), x), (("name" : Str), v), (("root" : Str), u)]) (hcd : ∀ P, codeIn (KK P) fd.code fd.qualname = true)
    {ov nv rv : Value} (F : Facts w B) (R : Room A l n) (hn : n < 600) (S : Sit B l s)
    (H : ∀ env s₁, InF env B l (fun x => [(("outcome" : Str), ov), (("name" : Str), nv), (("root" : Str), rv)].reverse.lookup x) s₁ → (∀ x, env.kindOf x = dscope.names.lookup x) → Room (A.deeper env) (env :: l) (n + 1) →
      wpAny (M0 w) (A.deeper env) (execs body env) (fun fl s' => Wf B (env :: l) env.locals s₁ s' ∧ P (match fl with | .ret v => v | _ => .none)) (fun _ _ => False) s₁) :
    wpAny (M0 w) A (call (.ref a) [ov, nv, rv]) (fun v s' => Went B l s s' ∧ P v) (fun _ _ => False) s := by
  have hsn : fd.scope.names = dscope.names := by rw [hsc]
  refine fn_call R hn S F.lim (F.K _ _ (hl _)) hd hb (codeRec_of F.K (hcd _)) (hbind ov nv rv) (by rw [hsc]; rfl) (by rw [hsc]; rfl) (by rw [hsc]; rfl) (by rw [hsn]; decide) (by rw [hsn]; exact locs (scope := dscope) rfl) fun L env s₁ henv S₁ ns₁ _ _ _ => ?_
  have hk : ∀ x, env.kindOf x = dscope.names.lookup x := fun x => by rw [henv]; show fd.scope.names.lookup x = _; rw [hsn]
  have I : InF env B l (fun x => [(("outcome" : Str), ov), (("name" : Str), nv), (("root" : Str), rv)].reverse.lookup x) s₁ := ⟨by rw [henv]; show fd.scope.kind = _; rw [hsc]; rfl, by rw [henv], by rw [henv]; exact hg, by rw [henv]; exact hbl, S₁, by rw [henv]; exact ns₁⟩
  have hloc : env.locals = L := by rw [henv]
  rw [← hloc]
  exact wpAny_mono (H env s₁ I hk (R.deeper env)) (fun fl s' ⟨wf, p⟩ => ⟨wf, fun we => ⟨we, p⟩⟩) fun _ _ x => x.elim
theorem due_msg_body {env : Env} {m rt : Str} {t t2 : Tok} {nv : Value} {rest : List Stmt} {p0 p1 p2 p3 p4 p5 p6 p7 p8 p9 p10 p11 p12 p13 p14 p15 p16 p17 p18 p19 p20 : Pos} {k0 k1 k2 : Nat} (F : Facts w B)
    (I : InF env B l (fun x => [(("outcome" : Str), Value.str m t), (("name" : Str), nv), (("root" : Str), Value.str rt t2)].reverse.lookup x) s) (hk : ∀ x, env.kindOf x = dscope.names.lookup x)
    (h1 : (m.cps.toList == ("no key" : Str).cps.toList) = false) (h2 : (m.cps.toList == ("handed on" : Str).cps.toList) = false) (hm0 : (m.length == 0) = false) (hr0 : (rt.length == 0) = false) (hm : m.length ≤ 300) (hr : rt.length ≤ 2) :
    wpAny (M0 w) A (execs (.If (.BoolOp .Or [.Compare (.Name "outcome" p0) [.Eq] [.Constant (.str "no key") k0 p1] p2, .Compare (.Name "outcome" p3) [.Eq] [.Constant (.str "handed on") k1 p4] p5] p6) [.Return (some (.Name "outcome" p7)) p8] [] p9 ::
      .If (.Call (.Name "isinstance" p10) [.Name "outcome" p11, .Name "str" p12] [] p13) [.Return (some (.BinOp (.BinOp (.Constant (.str "'") k2 p14) .Add (.Name "root" p15) p16) .Add (.Name "outcome" p17) p18)) p19] [] p20 :: rest) env)
      (fun fl s' => Wf B (env :: l) env.locals s s' ∧ ∃ tk : Tok, (match fl with | .ret v => v | _ => Value.none) = Value.str ("'" ++ rt ++ m) tk) (fun _ _ => False) s := by
  have ko : env.kindOf "outcome" = some .local := by rw [hk]; decide
  refine wpAny_execs_cons (wpAny_If (isTrue_or (wpAny_isTrue_Compare1 (ev_loc I.kind ko I.ns (v := .str m t) rfl (wpAny_Constant_str (P.eq_str ?_))))))
  rw [h1]
  refine wpAny_truthy_bool ?_
  rw [if_neg (by decide)]
  refine isTrue_or (wpAny_isTrue_Compare1 (ev_loc I.kind ko (by exact I.ns) (v := .str m t) rfl (wpAny_Constant_str (P.eq_str ?_))))
  rw [h2]
  refine wpAny_truthy_bool ?_
  rw [if_neg (by decide)]
  refine isTrue_or_nil ?_
  rw [if_neg (by decide)]
  refine wpAny_execs_nil ?_
  refine wpAny_execs_cons (wpAny_If (isTrue_plain (wpAny_Call_ofName (ev_bltn F (by exact I.sit.stays) I.kind I.g I.b (by rw [hk]; decide) (v := .builtin "isinstance") (by kernel_rfl) (by kernel_rfl) ?_))))
  refine callWith_any (P := fun _ => True) (fun h _ => keep_plain (fun a q => by cases q) h) rfl ?_
  refine spliced_cons (ev_loc I.kind ko (by exact I.ns) (v := .str m t) rfl (spliced_cons (ev_bltn F (by exact I.sit.stays) I.kind I.g I.b (by rw [hk]; decide) (v := .type "str") (by kernel_rfl) (by kernel_rfl) (spliced_nil ⟨trivial, ?_⟩))))
  refine IsiPair.str_str (wpAny_truthy_bool ?_)
  rw [if_pos rfl]
  refine wpAny_execs_cons (wpAny_Return_some (wpAny_BinOp (wpAny_BinOp (wpAny_Constant_str (ev_loc I.kind (by rw [hk]; decide) (by exact I.ns) (v := .str rt t2) rfl (P.add_str ?_))))))
  rw [if_neg (by decide), if_neg (by rw [hr0]; decide)]
  have lr : (("'" : Str) ++ rt).length = 1 + rt.length := by rw [strLen_append, PySem.ofString_length]; rfl
  refine ⟨by rw [lr, sizeLine_eq]; omega, ?_⟩
  refine ev_loc I.kind ko (by exact I.ns) (v := .str m t) rfl (P.add_str ?_)
  rw [if_neg (by rw [lr]; simp), if_neg (by rw [hm0]; decide)]
  refine ⟨by rw [strLen_append, lr, sizeLine_eq]; omega, ?_⟩
  exact ⟨(Wf.refl I.sit).toks _, _, rfl⟩
theorem due_txt_body {env : Env} {m : Str} {t : Tok} {nv rv : Value} {rest : List Stmt} {p0 p1 p2 p3 p4 p5 p6 p7 p8 p9 : Pos} {k0 k1 : Nat}
    (I : InF env B l (fun x => [(("outcome" : Str), Value.str m t), (("name" : Str), nv), (("root" : Str), rv)].reverse.lookup x) s) (hk : ∀ x, env.kindOf x = dscope.names.lookup x)
    (h2 : (m.cps.toList == ("no key" : Str).cps.toList) = false → (m.cps.toList == ("handed on" : Str).cps.toList) = true) :
    wpAny (M0 w) A (execs (.If (.BoolOp .Or [.Compare (.Name "outcome" p0) [.Eq] [.Constant (.str "no key") k0 p1] p2, .Compare (.Name "outcome" p3) [.Eq] [.Constant (.str "handed on") k1 p4] p5] p6) [.Return (some (.Name "outcome" p7)) p8] [] p9 :: rest) env)
      (fun fl s' => Wf B (env :: l) env.locals s s' ∧ (match fl with | .ret v => v | _ => Value.none) = Value.str m t) (fun _ _ => False) s := by
  have ko : env.kindOf "outcome" = some .local := by rw [hk]; decide
  refine wpAny_execs_cons (wpAny_If (isTrue_or (wpAny_isTrue_Compare1 (ev_loc I.kind ko I.ns (v := .str m t) rfl (wpAny_Constant_str (P.eq_str ?_))))))
  cases h1 : (m.cps.toList == ("no key" : Str).cps.toList) with
  | true =>
    refine wpAny_truthy_bool ?_
    rw [if_pos rfl, if_pos rfl]
    exact wpAny_execs_cons (wpAny_Return_some (ev_loc I.kind ko (by exact I.ns) (v := .str m t) rfl ⟨(Wf.refl I.sit).toks _, rfl⟩))
  | false =>
    refine wpAny_truthy_bool ?_
    rw [if_neg (by decide)]
    refine isTrue_or (wpAny_isTrue_Compare1 (ev_loc I.kind ko (by exact I.ns) (v := .str m t) rfl (wpAny_Constant_str (P.eq_str ?_))))
    rw [h2 h1]
    refine wpAny_truthy_bool ?_
    rw [if_pos rfl, if_pos rfl]
    exact wpAny_execs_cons (wpAny_Return_some (ev_loc I.kind ko (by exact I.ns) (v := .str m t) rfl ⟨(Wf.refl I.sit).toks _, rfl⟩))
end
end Mine
end
section
open PySem PySem.W PySem.W.X PyProof.Rows PySem.Calls PySem.Spec
namespace Mine
set_option maxRecDepth 100000
section
variable {w : World} {A : Around} {B : Heap} {l : List Env} {n : Nat} {s : Shared}
def O4.chr : O4 → Nat
  | .lt => 60
  | .le => 60
  | _ => 62
def kvT (wi ho : Bool) : List (Str × Value) := [("<", .bool (wi && !ho)), ("<=", .bool wi), (">", .bool (ho && !wi)), (">=", .bool ho)]
theorem first_chr {o : O4} {t u : Tok} {Q E : Value → Shared → Prop} (h : Q (.str ⟨#[o.chr]⟩ s.toks) { s with toks := s.toks + 1 }) : wpAny (M0 w) A (getItem (.str (Str.ofString o.sym) t) (.int 0 u)) Q E s := by
  cases o
  · exact P.getItem_str (by decide) (c := 60) (by decide +kernel) h
  · exact P.getItem_str (by decide) (c := 60) (by decide +kernel) h
  · exact P.getItem_str (by decide) (c := 62) (by decide +kernel) h
  · exact P.getItem_str (by decide) (c := 62) (by decide +kernel) h
theorem kv_at {wi ho : Bool} (o : O4) : valueAt (kvT wi ho) (Str.ofString o.sym) = some (.bool (tabAt wi ho o)) := by
  cases o <;> rfl
theorem chr_eq (a b : O4) : ((⟨#[a.chr]⟩ : Str).cps.toList == (⟨#[b.chr]⟩ : Str).cps.toList) = (a.up == b.up) := by cases a <;> cases b <;> rfl
theorem item_kv {env : Env} {a : Addr} {wi ho : Bool} {o : O4} {t : Tok} {value slice : Expr} {Q E : Value → Shared → Prop} (hd : s.heap.DictOf (strKind P0 w) a (kvT wi ho)) (h : Q (.bool (tabAt wi ho o)) { s with toks := s.toks + 1 })
    (hs : subscripted slice false (.ref a) (.str (Str.ofString o.sym) t) = operate [.ref a, .str (Str.ofString o.sym) t] (getItem (.ref a) (.str (Str.ofString o.sym) t))) :
    wpAny (M0 w) A (subscriptTail value slice (.ref a) (.str (Str.ofString o.sym) t)) Q E s :=
  subscriptTail_builtin_flat hd.typeIs slot_dict_getitem.lookup (wpAny_getItem_of (strKind_is P0 w _ t) hd.mapOf (kv_at o) ⟨(fun a e => by cases e), h⟩) hs
def tkAt (v1 v2 v3 v4 : Tok) : O4 → Tok
  | .lt => v1
  | .le => v2
  | .gt => v3
  | .ge => v4
theorem comp_at (v1 v2 v3 v4 : Tok) (o : O4) : valueAt (merged [] [(("<" : Str), Value.str ">=" v1), (("<=" : Str), Value.str ">" v2), ((">" : Str), Value.str "<=" v3), ((">=" : Str), Value.str "<" v4)]) (Str.ofString o.sym) = some (.str (Str.ofString o.comp.sym) (tkAt v1 v2 v3 v4 o)) := by
  cases o <;> rfl
theorem item_comp {a : Addr} {o : O4} {v1 v2 v3 v4 t : Tok} {value slice : Expr} {Q E : Value → Shared → Prop} (hd : s.heap.DictOf (strKind P0 w) a (merged [] [(("<" : Str), Value.str ">=" v1), (("<=" : Str), Value.str ">" v2), ((">" : Str), Value.str "<=" v3), ((">=" : Str), Value.str "<" v4)])) (h : Q (.str (Str.ofString o.comp.sym) (tkAt v1 v2 v3 v4 o)) { s with toks := s.toks + 1 })
    (hs : subscripted slice false (.ref a) (.str (Str.ofString o.sym) t) = operate [.ref a, .str (Str.ofString o.sym) t] (getItem (.ref a) (.str (Str.ofString o.sym) t))) :
    wpAny (M0 w) A (subscriptTail value slice (.ref a) (.str (Str.ofString o.sym) t)) Q E s :=
  subscriptTail_builtin_flat hd.typeIs slot_dict_getitem.lookup (wpAny_getItem_of (strKind_is P0 w _ t) hd.mapOf (comp_at v1 v2 v3 v4 o) ⟨(fun a e => by cases e), h⟩) hs
theorem carries4 {k1 k2 k3 k4 v1 v2 v3 v4 : Tok} : Carries (strKind P0 w) [(.str ("<" : Str) k1, .str (">=" : Str) v1), (.str ("<=" : Str) k2, .str (">" : Str) v2), (.str (">" : Str) k3, .str ("<=" : Str) v3), (.str (">=" : Str) k4, .str ("<" : Str) v4)]
    [(("<" : Str), Value.str ">=" v1), (("<=" : Str), Value.str ">" v2), ((">" : Str), Value.str "<=" v3), ((">=" : Str), Value.str "<" v4)] :=
  ⟨strKind_is P0 w _ _, rfl, strKind_is P0 w _ _, rfl, strKind_is P0 w _ _, rfl, strKind_is P0 w _ _, rfl, trivial⟩
theorem due_tab_body {env : Env} {a : Addr} {es : Array DictEntry} {ep : Nat} {sl : Array (Option Value)} {wi ho : Bool} {nm rt : O4} {t1 t2 : Tok} {p0 p1 p2 p3 p4 p5 p6 p7 p8 p9 p10 p11 p12 p13 p14 p15 p16 p17 p18 p19 p20 p21 p22 p23 p24 p25 p26 p27 p28 p29 p30 p31 p32 p33 p34 p35 p36 p37 p38 p39 p40 p41 p42 p43 p44 p45 p46 p47 : Pos} {k0 k1 k2 k3 k4 j0 j1 j2 j3 j4 j5 j6 j7 : Nat} (F : Facts w B) (R : Room A (env :: l) n) (hn : n ≤ 600)
    (ha : B.get? a = some ⟨.type "dict", none, .dict es ep, sl⟩) (hdo : B.DictOf (strKind P0 w) a (kvT wi ho))
    (I : InF env B l (fun x => [(("outcome" : Str), Value.ref a), (("name" : Str), Value.str (Str.ofString nm.sym) t1), (("root" : Str), Value.str (Str.ofString rt.sym) t2)].reverse.lookup x) s) (hk : ∀ x, env.kindOf x = dscope.names.lookup x) :
    wpAny (M0 w) A (execs [.If (.BoolOp .Or [.Compare (.Name "outcome" p0) [.Eq] [.Constant (.str "no key") k0 p1] p2, .Compare (.Name "outcome" p3) [.Eq] [.Constant (.str "handed on") k1 p4] p5] p6) [.Return (some (.Name "outcome" p7)) p8] [] p9,
      .If (.Call (.Name "isinstance" p10) [.Name "outcome" p11, .Name "str" p12] [] p13) [.Return (some (.BinOp (.BinOp (.Constant (.str "'") k2 p14) .Add (.Name "root" p15) p16) .Add (.Name "outcome" p17) p18)) p19] [] p20,
      .If (.Compare (.Subscript (.Name "name" p21) (.Constant (.int 0) k3 p22) p23) [.Eq] [.Subscript (.Name "root" p24) (.Constant (.int 0) k4 p25) p26] p27) [.Return (some (.Subscript (.Name "outcome" p28) (.Name "name" p29) p30)) p31] [] p32,
      .Return (some (.UnaryOp .Not (.Subscript (.Name "outcome" p33) (.Subscript (.Dict [some (.Constant (.str "<") j0 p34), some (.Constant (.str "<=") j1 p35), some (.Constant (.str ">") j2 p36), some (.Constant (.str ">=") j3 p37)] [.Constant (.str ">=") j4 p38, .Constant (.str ">") j5 p39, .Constant (.str "<=") j6 p40, .Constant (.str "<") j7 p41] p42) (.Name "name" p43) p44) p45) p46)) p47] env)
      (fun fl s' => Wf B (env :: l) env.locals s s' ∧ (match fl with | .ret v => v | _ => Value.none) = .bool (dueB nm rt wi ho)) (fun _ _ => False) s := by
  have ko : env.kindOf "outcome" = some .local := by rw [hk]; decide
  have kn : env.kindOf "name" = some .local := by rw [hk]; decide
  have kr : env.kindOf "root" = some .local := by rw [hk]; decide
  refine wpAny_execs_cons (wpAny_If (isTrue_or (wpAny_isTrue_Compare1 (ev_loc I.kind ko I.ns (v := .ref a) rfl (wpAny_Constant_str (wpAny_mono (dict_str_eq R hn (I.sit.toks _) ha) (fun v s₁ ⟨we, ok⟩ => ?_) fun _ _ ⟨_, x⟩ => x.elim))))))
  obtain rfl : v = .bool false := ok
  have we₁ : Went B (env :: l) s s₁ := ⟨we.sit, we.slots, we.os⟩
  have I₁ := I.went we₁
  refine wpAny_truthy_bool ?_
  rw [if_neg (by decide)]
  refine isTrue_or (wpAny_isTrue_Compare1 (ev_loc I.kind ko I₁.ns (v := .ref a) rfl (wpAny_Constant_str (wpAny_mono (dict_str_eq R hn (I₁.sit.toks _) ha) (fun v s₂ ⟨we, ok⟩ => ?_) fun _ _ ⟨_, x⟩ => x.elim))))
  obtain rfl : v = .bool false := ok
  have we₂ : Went B (env :: l) s s₂ := we₁.trans ⟨we.sit, we.slots, we.os⟩
  have I₂ := I.went we₂
  refine wpAny_truthy_bool ?_
  rw [if_neg (by decide)]
  refine isTrue_or_nil ?_
  rw [if_neg (by decide)]
  refine wpAny_execs_nil ?_
  refine wpAny_execs_cons (wpAny_If (isTrue_plain (wpAny_Call_ofName (ev_bltn F I₂.sit.stays I.kind I.g I.b (by rw [hk]; decide) (v := .builtin "isinstance") (by kernel_rfl) (by kernel_rfl) ?_))))
  refine callWith_any (P := fun _ => True) (fun h _ => keep_plain (fun a q => by cases q) h) rfl ?_
  refine spliced_cons (ev_loc I.kind ko I₂.ns (v := .ref a) rfl (spliced_cons (ev_bltn F I₂.sit.stays I.kind I.g I.b (by rw [hk]; decide) (v := .type "str") (by kernel_rfl) (by kernel_rfl) (spliced_nil ⟨trivial, ?_⟩))))
  refine IsiPair.dict_str (I₂.sit.stays _ _ ha) rfl (wpAny_truthy_bool ?_)
  rw [if_neg (by decide)]
  refine wpAny_execs_nil ?_
  have D₂ := hdo.keep I₂.sit.stays
  refine wpAny_execs_cons (wpAny_If (wpAny_isTrue_Compare1 (Subscript_ (ev_loc I.kind kn (by exact I₂.ns) (v := .str (Str.ofString nm.sym) t1) rfl (ev_int (subscriptTail_builtin (typeIs_str _ _ _) PySem.F.slot_str_getitem.lookup (first_chr ?_)))))))
  refine Subscript_ (ev_loc I.kind kr (by exact I₂.ns) (v := .str (Str.ofString rt.sym) t2) rfl (ev_int (subscriptTail_builtin (typeIs_str _ _ _) PySem.F.slot_str_getitem.lookup (first_chr (P.eq_str ?_)))))
  rw [chr_eq]
  refine wpAny_truthy_bool ?_
  have wf₂ : Wf B (env :: l) env.locals s s₂ := we₂.wf
  cases hup : nm.up == rt.up with
  | true =>
    rw [if_pos rfl]
    refine wpAny_execs_cons (wpAny_Return_some (Subscript_ (ev_loc I.kind ko (by exact I₂.ns) (v := .ref a) rfl (ev_loc I.kind kn (by exact I₂.ns) (v := .str (Str.ofString nm.sym) t1) rfl (item_kv (env := env) (by exact D₂) ?_ (by with_unfolding_all rfl))))))
    refine ⟨wf₂.toks _, ?_⟩
    show Value.bool _ = _
    unfold dueB
    rw [hup, if_pos rfl]
  | false =>
    rw [if_neg (by decide)]
    refine wpAny_execs_nil ?_
    refine wpAny_execs_cons (wpAny_Return_some (wpAny_UnaryOp (Subscript_ (ev_loc I.kind ko (by exact I₂.ns) (v := .ref a) rfl (Subscript_ ?_)))))
    refine wpAny_Dict_walk (knd := strKind P0 w) (by rfl) (by rfl) (by simp) (by simp) ?_
    refine pairTrees_cons_walk ?_
    refine wpAny_Constant_str ?_
    refine wpAny_Constant_str ?_
    refine pairTrees_cons_walk ?_
    refine wpAny_Constant_str ?_
    refine wpAny_Constant_str ?_
    refine pairTrees_cons_walk ?_
    refine wpAny_Constant_str ?_
    refine wpAny_Constant_str ?_
    refine pairTrees_cons_walk ?_
    refine wpAny_Constant_str ?_
    refine wpAny_Constant_str ?_
    refine pairTrees_nil_walk ?_
    refine ⟨[(("<" : Str), Value.str ">=" _), (("<=" : Str), Value.str ">" _), ((">" : Str), Value.str "<=" _), ((">=" : Str), Value.str "<" _)], carries4, Heap.DictOf.new _, fun h' hd' hs' => ?_⟩
    have hkeep : ∀ b o, s₂.heap.get? b = some o → h'.get? b = some o := fun b o e => hs'.extBut b o (Nat.ne_of_lt (Heap.lt_size e)) (Heap.get?_push_of_some _ e)
    refine ev_loc I.kind kn (I₂.ns.keeps hkeep) (v := .str (Str.ofString nm.sym) t1) rfl ?_
    refine item_comp hd' ?_ (by with_unfolding_all rfl)
    refine item_kv (env := env) (hdo.keep fun b o e => hkeep b o (I₂.sit.stays b o e)) (not_of (wpAny_truthy_bool ?_)) (by with_unfolding_all rfl)
    have wf₃ : Wf B (env :: l) env.locals s₂ { s₂ with heap := h' } := Went.wf (Went.of_keeps (s' := { s₂ with heap := h' }) I₂.sit hkeep rfl rfl)
    refine ⟨(wf₂.trans wf₃).toks _, ?_⟩
    show Value.bool _ = _
    unfold dueB
    rw [hup, if_neg (by decide)]
end
end Mine
end
section
open PySem PySem.W PySem.W.X PyProof.Rows PySem.Calls PySem.Spec
namespace Mine
set_option maxRecDepth 100000
def msgOf (na nb : String) : Str := Str.ofString ("' not supported between instances of '" ++ na ++ "' and '" ++ nb ++ "'")
def OutIs (w : World) (B : Heap) (v : Value) : OutV → Prop
  | .nokey => ∃ t, v = .str "no key" t
  | .handed => ∃ t, v = .str "handed on" t
  | .msg na nb => (∃ t, v = .str (msgOf na nb) t) ∧ ∃ k k2, na = kn k ∧ nb = kn k2
  | .tab wi ho => ∃ a es ep sl, v = .ref a ∧ B.get? a = some ⟨.type "dict", none, .dict es ep, sl⟩ ∧ B.DictOf (strKind P0 w) a (kvT wi ho)
def names4 : List String := ["int", "str", "set", "NoneType"]
theorem kn_mem (k : Nat) : kn k ∈ names4 := by
  unfold kn names4
  split <;> decide
def msgOk (na nb : String) (rt : O4) : Bool := !((msgOf na nb).cps.toList == ("no key" : Str).cps.toList) && !((msgOf na nb).cps.toList == ("handed on" : Str).cps.toList) && !((msgOf na nb).length == 0) && decide ((msgOf na nb).length ≤ 300) && !((Str.ofString rt.sym).length == 0) && decide ((Str.ofString rt.sym).length ≤ 2) && (("'" ++ Str.ofString rt.sym ++ msgOf na nb).cps.toList == (cmpMsg rt.sym na nb).cps.toList)
theorem msgOk_all : ∀ na ∈ names4, ∀ nb ∈ names4, ∀ rt ∈ [O4.lt, O4.le, O4.gt, O4.ge], msgOk na nb rt = true := by decide +kernel
theorem mem4 (o : O4) : o ∈ [O4.lt, O4.le, O4.gt, O4.ge] := by cases o <;> simp
theorem msg_facts (k k2 : Nat) (rt : O4) : ((msgOf (kn k) (kn k2)).cps.toList == ("no key" : Str).cps.toList) = false ∧ ((msgOf (kn k) (kn k2)).cps.toList == ("handed on" : Str).cps.toList) = false ∧ ((msgOf (kn k) (kn k2)).length == 0) = false ∧ (msgOf (kn k) (kn k2)).length ≤ 300 ∧ ((Str.ofString rt.sym).length == 0) = false ∧ (Str.ofString rt.sym).length ≤ 2 ∧ ("'" ++ Str.ofString rt.sym ++ msgOf (kn k) (kn k2)) = cmpMsg rt.sym (kn k) (kn k2) := by
  have h := msgOk_all _ (kn_mem k) _ (kn_mem k2) rt (mem4 rt)
  revert h
  generalize kn k = na
  generalize kn k2 = nb
  generalize e : rt.sym = sy
  unfold msgOk
  rw [e]
  generalize msgOf na nb = m
  generalize cmpMsg sy na nb = c
  generalize Str.ofString sy = r
  intro h
  simp only [Bool.and_eq_true, Bool.not_eq_true', decide_eq_true_eq] at h
  obtain ⟨⟨⟨⟨⟨⟨h1, h2⟩, h3⟩, h4⟩, h5⟩, h6⟩, h7⟩ := h
  refine ⟨h1, h2, h3, h4, h5, h6, ?_⟩
  have h8 := beq_iff_eq.mp h7
  generalize ("'" ++ r ++ m : Str) = q at h8 ⊢
  obtain ⟨⟨q⟩⟩ := q
  obtain ⟨⟨c⟩⟩ := c
  cases h8
  rfl
section
variable {w : World} {A : Around} {B : Heap} {l : List Env} {n : Nat} {s : Shared}
theorem due_call {v : Value} {ov : OutV} {nm rt : O4} {t1 t2 : Tok} (F : Facts w B) (R : Room A l n) (hn : n < 599) (S : Sit B l s) (ho : OutIs w B v ov) :
    wpAny (M0 w) A (call (.ref 216) [v, .str (Str.ofString nm.sym) t1, .str (Str.ofString rt.sym) t2]) (fun v s' => Went B l s s' ∧ SaidOk (dueR nm rt ov) v) (fun _ _ => False) s := by
  cases ov with
  | nokey =>
    obtain ⟨t, rfl⟩ := ho
    refine due_frame (a := 216) (fun _ => rfl) rfl rfl rfl rfl rfl (fun _ _ _ => rfl) (fun _ => by kernel_rfl) F R (by omega) S fun env s₁ I hk R₁ => ?_
    refine wpAny_mono (due_txt_body I hk (fun e => absurd e (by decide +kernel))) (fun fl s' ⟨wf, e⟩ => ⟨wf, ?_⟩) fun _ _ x => x
    rw [e]
    exact ⟨t, rfl⟩
  | handed =>
    obtain ⟨t, rfl⟩ := ho
    refine due_frame (a := 216) (fun _ => rfl) rfl rfl rfl rfl rfl (fun _ _ _ => rfl) (fun _ => by kernel_rfl) F R (by omega) S fun env s₁ I hk R₁ => ?_
    refine wpAny_mono (due_txt_body I hk (fun _ => by decide +kernel)) (fun fl s' ⟨wf, e⟩ => ⟨wf, ?_⟩) fun _ _ x => x
    rw [e]
    exact ⟨t, rfl⟩
  | msg na nb =>
    obtain ⟨⟨t, rfl⟩, k, k2, rfl, rfl⟩ := ho
    obtain ⟨h1, h2, h3, h4, h5, h6, h7⟩ := msg_facts k k2 rt
    refine due_frame (a := 216) (fun _ => rfl) rfl rfl rfl rfl rfl (fun _ _ _ => rfl) (fun _ => by kernel_rfl) F R (by omega) S fun env s₁ I hk R₁ => ?_
    refine wpAny_mono (due_msg_body F I hk h1 h2 h3 h5 h4 h6) (fun fl s' ⟨wf, tk, e⟩ => ⟨wf, ?_⟩) fun _ _ x => x
    rw [e, h7]
    exact ⟨tk, rfl⟩
  | tab wi ho' =>
    obtain ⟨a, es, ep, sl, rfl, ha, hd⟩ := ho
    refine due_frame (a := 216) (fun _ => rfl) rfl rfl rfl rfl rfl (fun _ _ _ => rfl) (fun _ => by kernel_rfl) F R (by omega) S fun env s₁ I hk R₁ => ?_
    exact due_tab_body F R₁ (by omega) ha hd I hk
end
end Mine
end
section
open PySem PySem.W PySem.W.X PyProof.Rows PySem.Calls PySem.Spec
namespace Mine
set_option maxRecDepth 100000
section
variable {w : World} {A : Around} {B : Heap} {l : List Env} {n : Nat} {s : Shared}
/-- a function of the text's own that turns nothing old and raises nothing: its body over the heap of the call -/
theorem pure_call {P : Value → Heap → Prop} {a : Addr} {o : Obj} {fd : FuncData} {body : List Stmt} {args : List Value} {binds : List (Str × Value)}
    (hdp : A.depth < 1000) (hlim : s.heap.NoLimit) (ho : s.heap.get? a = some o) (hd : o.data = .func fd) (hbody : fd.body = .stmts body) (hcd : s.heap.CodeRec fd.code fd.qualname)
    (hbind : bindArgs fd ⟨args, []⟩ = pure binds) (hco : fd.scope.isCoroutine = false) (hgen : fd.scope.isGenerator = false) (hk : fd.scope.kind = .function)
    (hcell : ∀ x ∈ fd.scope.names, x.2 ≠ .cell) (hloc : ∀ x ∈ binds, fd.scope.names.lookup x.1 = some .local)
    (h : ∀ (L : Addr) (env : Env) (s₁ : Shared), env = { scope := fd.scope, locals := L, globals := fd.globals, cells := fd.closure, qual := fd.qualname ++ ".<locals>.", func := some a, code := fd.code, frame := some L, builtins := fd.builtins } →
      Fr s.heap L s₁.heap (fun x => binds.reverse.lookup x) → s₁.gens = s.gens → s₁.os = s.os →
      wpAny (M0 w) (A.deeper env) (execs body env) (fun fl s' => (∃ m, Fr s.heap L s'.heap m) ∧ s'.gens = s.gens ∧ s'.os = s.os ∧ P (match fl with | .ret v => v | _ => .none) s'.heap) (fun _ _ => False) s₁) :
    wpAny (M0 w) A (call (.ref a) args) (Kept s P) (fun _ _ => False) s := by
  refine wpAny_call (codeAny_call_function (fd := fd) hdp ho hd hco hgen hbody hcd ?_)
  rw [hbind]
  refine wpAny_pure (wpAny_newFunctionEnv hcell hloc (fun h₁ hns hsb => ⟨hlim.fresh _ hsb, ?_⟩) hk)
  have hkeep : ∀ b o, s.heap.get? b = some o → h₁.get? b = some o := fun b o e => (hsb.extBut b o (Nat.ne_of_lt (Heap.lt_size e)) (Heap.get?_push_of_some _ e))
  refine codeAny_func (wpAny_mono (h s.heap.objs.size _ { s with heap := h₁, toks := s.toks + binds.length } rfl ⟨hns, hkeep, Nat.le_refl _⟩ rfl rfl) ?_ fun _ _ x => x.elim)
  rintro fl s' ⟨⟨m, f⟩, hg, hos, hp⟩
  exact ⟨f.keep, hg, hos, hp⟩
theorem store_fr {M : Model} {E : Value → Shared → Prop} {Q : Unit → Shared → Prop} {h₀ : Heap} {L : Addr} {env : Env} {m : Str → Option Value} {x : Str} {v : Value} (hk : env.scope.kind = .function) (hl : env.kindOf x = some .local) (hL : env.locals = L) (f : Fr h₀ L s.heap m)
    (h : ∀ h', Fr h₀ L h' (fun y => if y = x then some v else m y) → Heap.SameBut L s.heap h' → Q () { s with heap := h', toks := s.toks + 1 }) : wpAny M A (storeName env x v) Q E s := by
  subst hL
  exact wpAny_storeName_local hl f.ns (fun h' hn' hs => h h' (f.set hn' hs) hs) (by rw [hk]; rfl)
end
end Mine
end
section
open PySem PySem.W PySem.W.X PyProof.Rows PySem.Calls PySem.Spec
namespace Mine
set_option maxRecDepth 100000
theorem sl_bool_ne : Slot "bool" (cmpInfo .NotEq).2.1 "int.__ne__" :=
  .of (owner := "int") (n := "__ne__") (by rw [typeLookup_type, builtinLookup_eq_fast]; kernel_rfl) (by decide +kernel) (by decide +kernel) (by decide +kernel) (by exact .inl (by decide +kernel)) (by rw [isSubtype_type]; kernel_rfl)
section
variable {w : World} {A : Around} {B : Heap} {l : List Env} {n : Nat} {s : Shared}
theorem ne_bools {p q : Bool} {Q E : Value → Shared → Prop} (h : Q (.bool (p != q)) s) : wpAny (M0 w) A (compareOp .NotEq (.bool p) (.bool q)) Q E s := by
  refine compareOp_gives (op := .NotEq) (m := .val (.bool (p != q))) (T := "bool") (by rfl) (by rfl) sl_bool_ne PySem.F.entry_int_ne (PySem.F.args_int_ne_2 _ _) ?_ (fun x => nomatch x) h
  cases p <;> cases q <;> exact .of_eq rfl
/-- other[i] -/
theorem ev_item {env : Env} {m : Str → Option Value} {h₀ : Heap} {L q : Addr} {items : Array Value} {i : Int} {j : Nat} {v : Value} {x : Str} {k : Nat} {p1 p2 p3 : Pos} {Q E : Value → Shared → Prop} (hk : env.scope.kind = .function) (hl : env.kindOf x = some .local) (hL : env.locals = L) (f : Fr h₀ L s.heap m) (hx : m x = some (.ref q)) (ht : IsTup h₀ q items)
    (hlo : -(2 ^ 63) ≤ i) (hhi : i < 2 ^ 63) (hj : seqIndex? i items.size = some j) (hv : items[j]? = some v) (h : Q v { s with toks := s.toks + 1 }) (hd : (x == ("__debug__" : Str)) = false := by decide) : wpAny (M0 w) A (eval (.Subscript (.Name x p1) (.Constant (.int i) k p2) p3) env) Q E s := by
  subst hL
  have ht' : IsTup s.heap q items := ht.keeps f.keep
  exact Subscript_ (ev_loc hk hl f.ns hx (ev_int (subscriptTail_builtin (s := { s with toks := s.toks + 1 }) ht'.typeIs slot_tuple_getitem.lookup (getItem_tuple ht' hlo hhi hj hv h))) hd)
end
end Mine
end
section
open PySem PySem.W PySem.W.X PyProof.Rows PySem.Calls PySem.Spec
namespace Mine
set_option maxRecDepth 100000
section
variable {w : World} {A : Around} {h₀ : Heap} {L q : Addr} {env : Env} {s : Shared} {m : Str → Option Value}
/-- what the body of `_law_outcome` has at hand behind its first line -/
structure OF (h₀ : Heap) (L q : Addr) (env : Env) (m : Str → Option Value) (k y : Int) (wr : Bool) (k2 z : Int) (w2 : Bool) : Prop where
  kind : env.scope.kind = .function
  loc : env.locals = L
  kk : env.kindOf "kind" = some .local
  ka : env.kindOf "a" = some .local
  kw : env.kindOf "wrapped" = some .local
  ko : env.kindOf "other" = some .local
  vk : ∃ t, m "kind" = some (.int k t)
  va : ∃ t, m "a" = some (.int y t)
  vw : m "wrapped" = some (.bool wr)
  vo : m "other" = some (.ref q)
  tup : ∃ t t', IsTup h₀ q #[.int k2 t, .int z t', .bool w2]
variable {k y k2 z : Int} {wr w2 : Bool}
theorem OF.item0 {p1 p2 p3 : Pos} {kd : Nat} {Q E : Value → Shared → Prop} (O : OF h₀ L q env m k y wr k2 z w2) (f : Fr h₀ L s.heap m) (h : ∀ t tk, Q (.int k2 t) { s with toks := tk }) : wpAny (M0 w) A (eval (.Subscript (.Name "other" p1) (.Constant (.int 0) kd p2) p3) env) Q E s := by
  obtain ⟨t, t', ht⟩ := O.tup
  exact ev_item O.kind O.ko O.loc f O.vo ht (by decide) (by decide) (j := 0) rfl rfl (h _ _)
theorem OF.item1 {p1 p2 p3 : Pos} {kd : Nat} {Q E : Value → Shared → Prop} (O : OF h₀ L q env m k y wr k2 z w2) (f : Fr h₀ L s.heap m) (h : ∀ t tk, Q (.int z t) { s with toks := tk }) : wpAny (M0 w) A (eval (.Subscript (.Name "other" p1) (.Constant (.int 1) kd p2) p3) env) Q E s := by
  obtain ⟨t, t', ht⟩ := O.tup
  exact ev_item O.kind O.ko O.loc f O.vo ht (by decide) (by decide) (j := 1) rfl rfl (h _ _)
theorem OF.item2 {p1 p2 p3 : Pos} {kd : Nat} {Q E : Value → Shared → Prop} (O : OF h₀ L q env m k y wr k2 z w2) (f : Fr h₀ L s.heap m) (h : ∀ tk, Q (.bool w2) { s with toks := tk }) : wpAny (M0 w) A (eval (.Subscript (.Name "other" p1) (.Constant (.int 2) kd p2) p3) env) Q E s := by
  obtain ⟨t, t', ht⟩ := O.tup
  exact ev_item O.kind O.ko O.loc f O.vo ht (by decide) (by decide) (j := 2) rfl rfl (h _)
theorem OF.kindv {p : Pos} {Q E : Value → Shared → Prop} (O : OF h₀ L q env m k y wr k2 z w2) (f : Fr h₀ L s.heap m) (h : ∀ t, Q (.int k t) s) : wpAny (M0 w) A (eval (.Name "kind" p) env) Q E s := by
  obtain ⟨t, e⟩ := O.vk
  have hl := O.loc
  subst hl
  exact ev_loc O.kind O.kk f.ns e (h t)
theorem OF.test1 {p1 p2 p3 p4 p5 p6 p7 p8 p9 p10 p11 : Pos} {d1 d2 d3 : Nat} {whole : Sem Value} {Q : Bool → Shared → Prop} {E : Value → Shared → Prop} (O : OF h₀ L q env m k y wr k2 z w2) (f : Fr h₀ L s.heap m) (h : ∀ tk, Q (wr && ((k == 4) != (k2 == 4))) { s with toks := tk }) :
    wpAny (M0 w) A (isTrue (.BoolOp .And [.Name "wrapped" p1, .Compare (.Compare (.Name "kind" p2) [.Eq] [.Constant (.int 4) d1 p3] p4) [.NotEq] [.Compare (.Subscript (.Name "other" p5) (.Constant (.int 0) d2 p6) p7) [.Eq] [.Constant (.int 4) d3 p8] p9] p10] p11) env whole) Q E s := by
  have hl := O.loc
  subst hl
  refine isTrue_and (isTrue_plain (ev_loc O.kind O.kw f.ns O.vw (wpAny_truthy_bool ?_)))
  cases wr with
  | false => rw [if_neg (by decide)]; exact h s.toks
  | true =>
    rw [if_pos rfl]
    refine isTrue_and (wpAny_isTrue_Compare1 (wpAny_Compare1 (O.kindv f fun t => ev_int (P.eq_int ?_))))
    refine wpAny_Compare1 (O.item0 f fun t tk => ev_int (P.eq_int (ne_bools (wpAny_truthy_bool ?_))))
    have h' := h
    simp only [Bool.true_and] at h'
    split
    · rename_i e; refine isTrue_and_nil ?_; have := h' (tk + 1); rw [e] at this; exact this
    · rename_i e; have := h' (tk + 1); rw [Bool.eq_false_iff.mpr e] at this; exact this
theorem OF.or2 {p2 p3 p4 p5 p6 p7 p8 p9 p10 p11 : Pos} {d1 d2 d3 : Nat} {rest : List Expr} {whole : Sem Value} {Q : Bool → Shared → Prop} {E : Value → Shared → Prop} (O : OF h₀ L q env m k y wr k2 z w2) (f : Fr h₀ L s.heap m)
    (h1 : ∀ tk, (k != k2 || k == 3) = true → Q true { s with toks := tk }) (h2 : ∀ tk, (k != k2 || k == 3) = false → wpAny (M0 w) A (isTrue (.BoolOp .Or rest p11) env whole) Q E { s with toks := tk }) :
    wpAny (M0 w) A (isTrue (.BoolOp .Or (.Compare (.Name "kind" p2) [.NotEq] [.Subscript (.Name "other" p5) (.Constant (.int 0) d2 p6) p7] p4 :: .Compare (.Name "kind" p8) [.Eq] [.Constant (.int 3) d3 p9] p10 :: rest) p11) env whole) Q E s := by
  refine isTrue_or (wpAny_isTrue_Compare1 (O.kindv f fun t => O.item0 f fun t' tk => P.ne_int (wpAny_truthy_bool ?_)))
  split
  · rename_i e; exact h1 _ (by rw [e]; rfl)
  · rename_i e
    have e := Bool.eq_false_iff.mpr e
    refine isTrue_or (wpAny_isTrue_Compare1 (O.kindv f fun t => ev_int (P.eq_int (wpAny_truthy_bool ?_))))
    split
    · rename_i e'; exact h1 _ (by rw [e, e']; rfl)
    · rename_i e'; exact h2 _ (by rw [e, Bool.eq_false_iff.mpr e']; rfl)
theorem OF.test2 {p1 p2 p3 p4 p5 p6 p7 p8 p9 p10 p11 p12 : Pos} {d1 d2 d3 : Nat} {whole : Sem Value} {Q : Bool → Shared → Prop} {E : Value → Shared → Prop} (O : OF h₀ L q env m k y wr k2 z w2) (f : Fr h₀ L s.heap m) (h : ∀ tk, Q (wr && (k != k2 || k == 3)) { s with toks := tk }) :
    wpAny (M0 w) A (isTrue (.BoolOp .And [.Name "wrapped" p1, .BoolOp .Or [.Compare (.Name "kind" p2) [.NotEq] [.Subscript (.Name "other" p5) (.Constant (.int 0) d2 p6) p7] p4, .Compare (.Name "kind" p8) [.Eq] [.Constant (.int 3) d3 p9] p10] p11] p12) env whole) Q E s := by
  have hl := O.loc
  subst hl
  refine isTrue_and (isTrue_plain (ev_loc O.kind O.kw f.ns O.vw (wpAny_truthy_bool ?_)))
  cases wr with
  | false => rw [if_neg (by decide)]; exact h s.toks
  | true =>
    rw [if_pos rfl]
    simp only [Bool.true_and] at h
    refine isTrue_and (O.or2 (d1 := d1) (p3 := p3) f (fun tk e => ?_) fun tk e => isTrue_or_nil ?_)
    · rw [if_pos rfl]; refine isTrue_and_nil ?_; have := h tk; rw [e] at this; exact this
    · rw [if_neg (by decide)]; have := h tk; rw [e] at this; exact this
theorem OF.test3 {p0 p1 p2 p3 p4 p5 p6 p7 p8 p9 p10 p11 p12 p13 p14 p15 : Pos} {d1 d2 d3 d4 : Nat} {whole : Sem Value} {Q : Bool → Shared → Prop} {E : Value → Shared → Prop} (O : OF h₀ L q env m k y wr k2 z w2) (f : Fr h₀ L s.heap m) (h : ∀ tk, Q (!wr && (k != k2 || k == 3 || w2)) { s with toks := tk }) :
    wpAny (M0 w) A (isTrue (.BoolOp .And [.UnaryOp .Not (.Name "wrapped" p1) p0, .BoolOp .Or [.Compare (.Name "kind" p2) [.NotEq] [.Subscript (.Name "other" p5) (.Constant (.int 0) d2 p6) p7] p4, .Compare (.Name "kind" p8) [.Eq] [.Constant (.int 3) d3 p9] p10, .Subscript (.Name "other" p13) (.Constant (.int 2) d4 p14) p15] p11] p12) env whole) Q E s := by
  have hl := O.loc
  subst hl
  refine isTrue_and (wpAny_isTrue_Not (isTrue_plain (ev_loc O.kind O.kw f.ns O.vw (wpAny_truthy_bool ?_))))
  cases wr with
  | true => rw [if_neg (by decide)]; exact h s.toks
  | false =>
    rw [if_pos (by decide)]
    simp only [Bool.not_false, Bool.true_and] at h
    refine isTrue_and (O.or2 (d1 := d1) (p3 := p3) f (fun tk e => ?_) fun tk e => isTrue_or (isTrue_plain (O.item2 f fun tk' => wpAny_truthy_bool ?_)))
    · rw [if_pos rfl]; refine isTrue_and_nil ?_; have := h tk; rw [e] at this; exact this
    · cases w2 with
      | true => rw [if_pos rfl, if_pos rfl]; refine isTrue_and_nil ?_; have := h tk'; rw [e] at this; exact this
      | false => rw [if_neg (by decide)]; refine isTrue_or_nil ?_; rw [if_neg (by decide)]; have := h tk'; rw [e] at this; exact this
end
end Mine
end
section
open PySem PySem.W PySem.W.X PyProof.Rows PySem.Calls PySem.Spec
namespace Mine
set_option maxRecDepth 100000
section
variable {w : World} {A : Around} {h₀ : Heap} {L : Addr} {env : Env} {s : Shared} {m : Str → Option Value}
theorem and_not {x y : Str} {a b : Bool} {p1 p2 p3 p4 : Pos} {Q E : Value → Shared → Prop} (hk : env.scope.kind = .function) (kx : env.kindOf x = some .local) (ky : env.kindOf y = some .local) (f : s.heap.Ns env.locals m) (hx : m x = some (.bool a)) (hy : m y = some (.bool b)) (h : Q (.bool (a && !b)) s) (hd : (x == ("__debug__" : Str)) = false) (hd' : (y == ("__debug__" : Str)) = false) :
    wpAny (M0 w) A (eval (.BoolOp .And [.Name x p1, .UnaryOp .Not (.Name y p2) p3] p4) env) Q E s := by
  refine wpAny_And2 (ev_loc hk kx f hx (wpAny_truthy_bool ?_) hd)
  cases a with
  | false => exact h
  | true => exact wpAny_UnaryOp (ev_loc hk ky f hy (not_of (wpAny_truthy_bool h)) hd')
theorem dict_shape {K : Type} [DecidableEq K] {knd : KeyKind P0 w K} {h : Heap} {a : Addr} {kvs : List (K × Value)} (hd : h.DictOf knd a kvs) : ∃ es ep sl, h.get? a = some ⟨.type "dict", none, .dict es ep, sl⟩ := by
  obtain ⟨o, es, ep, ho, ⟨hc, hdd⟩, hdat, _⟩ := hd
  obtain ⟨c, d, dat, sl⟩ := o
  cases hc
  cases hdat
  obtain ⟨e1, e2⟩ := hdd
  cases e1
  exact ⟨es, ep, sl, ho⟩
/-- the table that `_law_outcome` hands out -/
theorem out_dict {wi ho : Bool} {p1 p2 p3 p4 p5 p6 p7 p8 p9 p10 p11 p12 p13 p14 p15 : Pos} {j0 j1 j2 j3 : Nat} {Q E : Value → Shared → Prop} (hk : env.scope.kind = .function) (kw : env.kindOf "within" = some .local) (kh : env.kindOf "holding" = some .local) (hL : env.locals = L) (f : Fr h₀ L s.heap m) (hw : m "within" = some (.bool wi)) (hh : m "holding" = some (.bool ho))
    (h : ∀ a h' tk, Fr h₀ L h' m → h'.DictOf (strKind P0 w) a (kvT wi ho) → Q (.ref a) { s with heap := h', toks := tk }) :
    wpAny (M0 w) A (eval (.Dict [some (.Constant (.str "<") j0 p1), some (.Constant (.str "<=") j1 p2), some (.Constant (.str ">") j2 p3), some (.Constant (.str ">=") j3 p4)] [.BoolOp .And [.Name "within" p5, .UnaryOp .Not (.Name "holding" p6) p7] p8, .Name "within" p9, .BoolOp .And [.Name "holding" p10, .UnaryOp .Not (.Name "within" p11) p12] p13, .Name "holding" p14] p15) env) Q E s := by
  subst hL
  have f' := f.push { cls := .type "dict", data := .dict #[] }
  refine wpAny_Dict_walk (knd := strKind P0 w) (by rfl) (by rfl) (by simp) (by simp) ?_
  refine pairTrees_cons_walk ?_
  refine wpAny_Constant_str ?_
  refine and_not hk kw kh f'.ns hw hh ?_ (by decide) (by decide)
  refine pairTrees_cons_walk ?_
  refine wpAny_Constant_str ?_
  refine ev_loc hk kw f'.ns hw ?_
  refine pairTrees_cons_walk ?_
  refine wpAny_Constant_str ?_
  refine and_not hk kh kw f'.ns hh hw ?_ (by decide) (by decide)
  refine pairTrees_cons_walk ?_
  refine wpAny_Constant_str ?_
  refine ev_loc hk kh f'.ns hh ?_
  refine pairTrees_nil_walk ?_
  refine ⟨kvT wi ho, ⟨strKind_is P0 w _ _, rfl, strKind_is P0 w _ _, rfl, strKind_is P0 w _ _, rfl, strKind_is P0 w _ _, rfl, trivial⟩, Heap.DictOf.new _, fun h' hd' hs' => ?_⟩
  refine h _ h' _ ?_ (by exact hd')
  exact f.extBut (b := s.heap.objs.size) (fun c x hc e => hs'.extBut c x hc (Heap.get?_push_of_some _ e)) (Nat.le_refl _)
end
end Mine
end
section
open PySem PySem.W PySem.W.X PyProof.Rows PySem.Calls PySem.Spec
namespace Mine
set_option maxRecDepth 100000
theorem or_small : ∀ a ∈ [(0 : Int), 1, 2, 3, 4, 5, 6, 7], ∀ b ∈ [(0 : Int), 1, 2, 3, 4, 5, 6, 7], Builtin.bitOr a b = orr a b := by decide +kernel
theorem or8_eq (y z : Int) : Builtin.bitOr (y % 8) (z % 8) = or8 y z := or_small _ (mem8 y) _ (mem8 z)
section
variable {w : World} {A : Around} {s : Shared} {env : Env} {m : Str → Option Value}
theorem mod_c {y c : Int} {t u : Tok} {E Q : Value → Shared → Prop} (hc : 0 < c) (h : Q (.int (y % c) s.toks) { s with toks := s.toks + 1 }) : wpAny (M0 w) A (binaryOp .Mod (.int y t) (.int c u)) Q E s :=
  mod_int (by omega) (by rw [Int.fmod_eq_emod_of_nonneg _ (by omega)]; exact h)
/-- x % c, of a name -/
theorem ev_mod {x : Str} {y c : Int} {t : Tok} {k : Nat} {p1 p2 p3 : Pos} {E Q : Value → Shared → Prop} (hk : env.scope.kind = .function) (kx : env.kindOf x = some .local) (f : s.heap.Ns env.locals m) (hx : m x = some (.int y t)) (hc : 0 < c) (h : ∀ t tk, Q (.int (y % c) t) { s with toks := tk }) (hd : (x == ("__debug__" : Str)) = false) :
    wpAny (M0 w) A (eval (.BinOp (.Name x p1) .Mod (.Constant (.int c) k p2) p3) env) Q E s :=
  wpAny_BinOp (ev_loc hk kx f hx (ev_int (mod_c hc (h _ _))) hd)
end
end Mine
end
section
open PySem PySem.W PySem.W.X PyProof.Rows PySem.Calls PySem.Spec
namespace Mine
set_option maxRecDepth 100000
section
variable {w : World} {A : Around} {h₀ : Heap} {L : Addr} {s : Shared} {env : Env} {m : Str → Option Value}
/-- x1, x2 = (e1, e2), where neither expression turns the heap -/
theorem assign_two {x1 x2 : Str} {e1 e2 : Expr} {v1 v2 : Value} {p1 p2 p3 p4 p5 : Pos} {k k' : Nat} {Q : Flow → Shared → Prop} {E : Value → Shared → Prop} (hA : A.handled = none) (hk : env.scope.kind = .function) (k1 : env.kindOf x1 = some .local) (k2 : env.kindOf x2 = some .local) (hL : env.locals = L) (f : Fr h₀ L s.heap m)
    (he : wpAny (M0 w) A (spliced (backTo p4 (starEach [e1, e2] env))) (fun vs s' => vs = [v1, v2] ∧ s'.heap = s.heap ∧ s'.gens = s.gens ∧ s'.os = s.os) E s)
    (h : ∀ s', Fr h₀ L s'.heap (fun y => if y = x1 then some v1 else if y = x2 then some v2 else m y) → s'.gens = s.gens → s'.os = s.os → Q .next s')
    (hs : swapsWithSole [.Tuple [.Name x1 p1, .Name x2 p2] k p3] (.Tuple [e1, e2] k' p4) p5.line env = pure false) (hw : swappedStores [.Tuple [.Name x1 p1, .Name x2 p2] k p3] (.Tuple [e1, e2] k' p4) env = pure (some [x1, x2])) :
    wpAny (M0 w) A (exec (.Assign [.Tuple [.Name x1 p1, .Name x2 p2] k p3] (.Tuple [e1, e2] k' p4) p5) env) Q E s := by
  refine Assign_Tuple_swapped (names := [x1, x2]) (Tuple_ (wpAny_mono he (fun vs s' hq => ?_) fun _ _ x => x)) hs hw
  obtain ⟨rfl, h1, h2, h3⟩ := hq
  obtain ⟨hp, g, d, tk, os⟩ := s'
  dsimp only at h1 h2 h3
  subst h1 h2 h3
  refine wpAny_newTuple ?_ (by rw [sizeLine_eq]; simp)
  have f' := f.push { cls := .type "tuple", data := .seq #[v1, v2] }
  have ht : IsTup (s.heap.push { cls := .type "tuple", data := .seq #[v1, v2] }) s.heap.objs.size #[v1, v2] := ⟨_, Heap.get?_push_size _ rfl, rfl, 0, rfl⟩
  refine unpackItems_ f' ht hA rfl fun h' f'' => ?_
  show wpAny _ _ (assignInOrder [bindName env x2, bindName env x1] [v2, v1]) _ _ _
  refine assignInOrder_cons (bindName_ (store_fr hk k2 hL (by exact f'') fun h₂ f₂ _ => ?_))
  refine assignInOrder_cons (bindName_ (store_fr hk k1 hL (by exact f₂) fun h₃ f₃ _ => ?_))
  exact assignInOrder_nil (h _ f₃ rfl rfl)
end
end Mine
end
section
open PySem PySem.W PySem.W.X PyProof.Rows PySem.Calls PySem.Spec
namespace Mine
set_option maxRecDepth 100000
section
variable {w : World} {A : Around} {h₀ : Heap} {L : Addr} {s : Shared} {env : Env} {m : Str → Option Value}
/-- ((x % 8) | (y % 8)) == (z % 8) -/
theorem ev_or8 {x y z : Str} {a b c : Int} {ta tb tc : Tok} {k1 k2 k3 : Nat} {p1 p2 p3 p4 p5 p6 p7 p8 p9 p10 p11 : Pos} {Q E : Value → Shared → Prop} (hk : env.scope.kind = .function) (kx : env.kindOf x = some .local) (ky : env.kindOf y = some .local) (kz : env.kindOf z = some .local) (f : s.heap.Ns env.locals m) (hx : m x = some (.int a ta)) (hy : m y = some (.int b tb)) (hz : m z = some (.int c tc))
    (dx : (x == ("__debug__" : Str)) = false) (dy : (y == ("__debug__" : Str)) = false) (dz : (z == ("__debug__" : Str)) = false) (h : ∀ tk, Q (.bool (decide (or8 a b = c % 8))) { s with toks := tk }) :
    wpAny (M0 w) A (eval (.Compare (.BinOp (.BinOp (.Name x p1) .Mod (.Constant (.int 8) k1 p2) p3) .BitOr (.BinOp (.Name y p4) .Mod (.Constant (.int 8) k2 p5) p6) p7) [.Eq] [.BinOp (.Name z p8) .Mod (.Constant (.int 8) k3 p9) p10] p11) env) Q E s := by
  refine wpAny_Compare1 (wpAny_BinOp (ev_mod hk kx f hx (by decide) (fun t tk => ?_) dx))
  refine ev_mod hk ky (by exact f) hy (by decide) (fun t' tk' => or_int ?_) dy
  refine ev_mod hk kz (by exact f) hz (by decide) (fun t'' tk'' => P.eq_int ?_) dz
  rw [or8_eq]
  exact h _
end
end Mine
end
section
open PySem PySem.W PySem.W.X PyProof.Rows PySem.Calls PySem.Spec
namespace Mine
set_option maxRecDepth 100000
section
variable {w : World} {A : Around} {h₀ : Heap} {L : Addr} {s : Shared} {env : Env} {m : Str → Option Value}
/-- x1, x2, x3 = x, where x is a tuple -/
theorem assign_three {x x1 x2 x3 : Str} {t : Addr} {v1 v2 v3 : Value} {p1 p2 p3 p4 p5 p6 : Pos} {k : Nat} {Q : Flow → Shared → Prop} {E : Value → Shared → Prop} (hA : A.handled = none) (hk : env.scope.kind = .function) (kx : env.kindOf x = some .local) (k1 : env.kindOf x1 = some .local) (k2 : env.kindOf x2 = some .local) (k3 : env.kindOf x3 = some .local) (hL : env.locals = L) (f : Fr h₀ L s.heap m)
    (hx : m x = some (.ref t)) (ht : IsTup s.heap t #[v1, v2, v3]) (dx : (x == ("__debug__" : Str)) = false)
    (h : ∀ s', Fr h₀ L s'.heap (fun y => if y = x3 then some v3 else if y = x2 then some v2 else if y = x1 then some v1 else m y) → s'.gens = s.gens → s'.os = s.os → Q .next s')
    (hs : swapsWithSole [.Tuple [.Name x1 p1, .Name x2 p2, .Name x3 p3] k p4] (.Name x p5) p6.line env = pure false) (hw : swappedStores [.Tuple [.Name x1 p1, .Name x2 p2, .Name x3 p3] k p4] (.Name x p5) env = pure none) :
    wpAny (M0 w) A (exec (.Assign [.Tuple [.Name x1 p1, .Name x2 p2, .Name x3 p3] k p4] (.Name x p5) p6) env) Q E s := by
  subst hL
  refine Assign_Tuple (ev_loc hk kx f.ns hx ?_ dx) hs hw
  refine unpack_ f ht hA rfl rfl fun h' f' => ?_
  show wpAny _ _ (assignInOrder [assign (.Name x1 p1) env, assign (.Name x2 p2) env, assign (.Name x3 p3) env] [v1, v2, v3]) _ _ _
  refine assignInOrder_cons (wpAny_assign_Name (store_fr hk k1 rfl (by exact f') fun h₁ f₁ _ => ?_))
  refine assignInOrder_cons (wpAny_assign_Name (store_fr hk k2 rfl (by exact f₁) fun h₂ f₂ _ => ?_))
  refine assignInOrder_cons (wpAny_assign_Name (store_fr hk k3 rfl (by exact f₂) fun h₃ f₃ _ => ?_))
  exact assignInOrder_nil (h _ f₃ rfl rfl)
end
end Mine
end
section
open PySem PySem.W PySem.W.X PyProof.Rows PySem.Calls PySem.Spec
namespace Mine
set_option maxRecDepth 100000
section
variable {w : World} {A : Around} {h₀ : Heap} {L q : Addr} {s : Shared} {env : Env} {m : Str → Option Value}
theorem sub_tail {value slice : Expr} {o i : Value} {T id : String} {Q E : Value → Shared → Prop} (hT : s.TypeIs o T) (hl : typeLookup (.type T) "__getitem__" = pure (some (.builtin id))) (h : wpAny (M0 w) A (getItem o i) Q E s)
    (hs : subscripted slice false o i = operate [o, i] (getItem o i)) : wpAny (M0 w) A (subscriptTail value slice o i) Q E s := by
  unfold subscriptTail
  refine wpAny_bind ?_
  rw [getitemInPython_of_ne hT.not_modules]
  refine wpAny_bind (wpAny_specialOf hT hl ?_)
  have fin : wpAny (M0 w) A (subscripted slice false o i) (fun r s₃ => wpAny (M0 w) A (letTemporaryGo value o r >>= fun _ => pure r) Q E s₃) E s := by
    rw [hs]
    exact wpAny_operating (wpAny_mono h (fun r s₃ h₃ => wpAny_bind (wpAny_letTemporaryGo (wpAny_pure h₃))) fun _ _ x => x)
  first
    | exact wpAny_pure (wpAny_bind fin)
    | exact wpAny_bind (wpAny_pure (wpAny_bind fin))
    | exact wpAny_bind fin
theorem kn_at {k : Nat} (hk : k < 4) (t1 t2 t3 t4 : Tok) : ∃ t, (#[Value.str "int" t1, .str "str" t2, .str "set" t3, .str "NoneType" t4] : Array Value)[(k : Int).toNat]? = some (.str (Str.ofString (kn k)) t) := by
  match k, hk with
  | 0, _ => exact ⟨_, rfl⟩
  | 1, _ => exact ⟨_, rfl⟩
  | 2, _ => exact ⟨_, rfl⟩
  | 3, _ => exact ⟨_, rfl⟩
def msgs (k k2 : Nat) : Bool := let m1 := ("' not supported between instances of '" : Str) ++ Str.ofString (kn k); let m2 := m1 ++ ("' and '" : Str); let m3 := m2 ++ Str.ofString (kn k2); let m4 := m3 ++ ("'" : Str); (m4.cps.toList == (msgOf (kn k) (kn k2)).cps.toList) && decide (m4.length ≤ 300)
theorem msgs_all : ∀ k ∈ [0, 1, 2, 3], ∀ k2 ∈ [0, 1, 2, 3], msgs k k2 = true := by decide +kernel
theorem add_ne {x y : Str} {t u : Tok} {Q E : Value → Shared → Prop} (h1 : (x.length == 0) = false) (h2 : (y.length == 0) = false) (h3 : (x ++ y).length ≤ 300) (h : ∀ t tk, Q (.str (x ++ y) t) { s with toks := tk }) : wpAny (M0 w) A (binaryOp .Add (.str x t) (.str y u)) Q E s := by
  refine P.add_str ?_
  rw [if_neg (by rw [h1]; decide), if_neg (by rw [h2]; decide)]
  exact ⟨by rw [sizeLine_eq]; omega, h _ _⟩
end
end Mine
end
section
open PySem PySem.W PySem.W.X PyProof.Rows PySem.Calls PySem.Spec
namespace Mine
set_option maxRecDepth 100000
def msg0 : Str := "' not supported between instances of '"
def msgs2 (k k2 : Nat) : Bool := !(msg0.length == 0) && !((Str.ofString (kn k)).length == 0) && decide ((msg0 ++ Str.ofString (kn k)).length ≤ 300) && !((msg0 ++ Str.ofString (kn k)).length == 0) && decide ((msg0 ++ Str.ofString (kn k) ++ ("' and '" : Str)).length ≤ 300) && !((msg0 ++ Str.ofString (kn k) ++ ("' and '" : Str)).length == 0) &&
  !((Str.ofString (kn k2)).length == 0) && decide ((msg0 ++ Str.ofString (kn k) ++ ("' and '" : Str) ++ Str.ofString (kn k2)).length ≤ 300) && !((msg0 ++ Str.ofString (kn k) ++ ("' and '" : Str) ++ Str.ofString (kn k2)).length == 0) && decide ((msg0 ++ Str.ofString (kn k) ++ ("' and '" : Str) ++ Str.ofString (kn k2) ++ ("'" : Str)).length ≤ 300) && ((msg0 ++ Str.ofString (kn k) ++ ("' and '" : Str) ++ Str.ofString (kn k2) ++ ("'" : Str)).cps.toList == (msgOf (kn k) (kn k2)).cps.toList)
theorem msgs2_all : ∀ k ∈ [0, 1, 2, 3], ∀ k2 ∈ [0, 1, 2, 3], msgs2 k k2 = true := by decide +kernel
theorem mem03 {k : Nat} (h : k < 4) : k ∈ [0, 1, 2, 3] := by
  match k, h with
  | 0, _ | 1, _ | 2, _ | 3, _ => simp
theorem str_ext {a b : Str} (h : a.cps.toList = b.cps.toList) : a = b := by
  obtain ⟨⟨a⟩⟩ := a
  obtain ⟨⟨b⟩⟩ := b
  cases h
  rfl
section
variable {w : World} {A : Around} {h₀ : Heap} {L q : Addr} {s : Shared} {env : Env} {m : Str → Option Value}
theorem OF.set {k y k2 z : Int} {wr w2 : Bool} {x : Str} {v : Value} (O : OF h₀ L q env m k y wr k2 z w2) (h1 : x ≠ "kind") (h2 : x ≠ "a") (h3 : x ≠ "wrapped") (h4 : x ≠ "other") : OF h₀ L q env (fun y => if y = x then some v else m y) k y wr k2 z w2 :=
  { O with
    vk := by obtain ⟨t, e⟩ := O.vk; exact ⟨t, by show (if _ then _ else _) = _; rw [if_neg (Ne.symm h1)]; exact e⟩
    va := by obtain ⟨t, e⟩ := O.va; exact ⟨t, by show (if _ then _ else _) = _; rw [if_neg (Ne.symm h2)]; exact e⟩
    vw := by show (if _ then _ else _) = _; rw [if_neg (Ne.symm h3)]; exact O.vw
    vo := by show (if _ then _ else _) = _; rw [if_neg (Ne.symm h4)]; exact O.vo }
theorem Fr.ltL {h : Heap} (f : Fr h₀ L h m) : L < h.objs.size := by
  obtain ⟨o, _, _, ho, _⟩ := f.ns
  exact Heap.lt_size ho
theorem OF.msg {k k2 : Nat} {y z : Int} {wr w2 : Bool} {d1 d2 d3 d4 d5 d6 d7 d8 : Nat} {p0 p1 p2 p3 p4 p5 p6 p7 p8 p9 p10 p11 p12 p13 p14 p15 p16 p17 p18 p19 p20 p21 p22 : Pos} {Q : Flow → Shared → Prop} {E : Value → Shared → Prop} (O : OF h₀ L q env m k y wr k2 z w2) (f : Fr h₀ L s.heap m) (hk : k < 4) (hk2 : k2 < 4) (kks : env.kindOf "kinds" = some .local)
    (hsw : swapsWith (.List [.Constant (.str "int") d1 p1, .Constant (.str "str") d2 p2, .Constant (.str "set") d3 p3, .Constant (.str "NoneType") d4 p4] p5) (some (.Name "kinds" p0)) p6.line env = pure false)
    (h : ∀ s' t, (∃ m', Fr h₀ L s'.heap m') → s'.gens = s.gens → s'.os = s.os → Q (.ret (.str (msgOf (kn k) (kn k2)) t)) s') :
    wpAny (M0 w) A (execs [.Assign [.Name "kinds" p0] (.List [.Constant (.str "int") d1 p1, .Constant (.str "str") d2 p2, .Constant (.str "set") d3 p3, .Constant (.str "NoneType") d4 p4] p5) p6,
      .Return (some (.BinOp (.BinOp (.BinOp (.BinOp (.Constant (.str "' not supported between instances of '") d5 p7) .Add (.Subscript (.Name "kinds" p8) (.Name "kind" p9) p10) p11) .Add (.Constant (.str "' and '") d6 p12) p13) .Add (.Subscript (.Name "kinds" p14) (.Subscript (.Name "other" p15) (.Constant (.int 0) d7 p16) p17) p18) p19) .Add (.Constant (.str "'") d8 p20) p21)) p22] env) Q E s := by
  have hh := msgs2_all _ (mem03 hk) _ (mem03 hk2)
  unfold msgs2 at hh
  simp only [Bool.and_eq_true, Bool.not_eq_true', decide_eq_true_eq] at hh
  obtain ⟨⟨⟨⟨⟨⟨⟨⟨⟨⟨e1, e2⟩, e3⟩, e4⟩, e5⟩, e6⟩, e7⟩, e8⟩, e9⟩, e10⟩, e11⟩ := hh
  have hl := O.loc
  subst hl
  refine wpAny_execs_cons (wpAny_Assign_Name (List_ ?_) hsw)
  refine args_cons (wpAny_Constant_str ?_)
  refine args_cons (wpAny_Constant_str ?_)
  refine args_cons (wpAny_Constant_str ?_)
  refine args_cons (wpAny_Constant_str ?_)
  refine args_nil ?_
  refine wpAny_newList ?_ (by rw [sizeLine_eq]; simp)
  refine store_fr O.kind kks rfl (f.push _) fun h' f' sb => ?_
  have ltL := Fr.ltL f
  have isl : h'.IsList s.heap.objs.size _ := ⟨_, (sb.2 _ (Nat.ne_of_gt ltL)).trans (Heap.get?_push_size _ rfl), rfl, 0, rfl⟩
  have O' := O.set (x := "kinds") (v := .ref s.heap.objs.size) (by decide) (by decide) (by decide) (by decide)
  obtain ⟨ta, ea⟩ := kn_at hk s.toks (s.toks + 1) (s.toks + 1 + 1) (s.toks + 1 + 1 + 1)
  obtain ⟨tb, eb⟩ := kn_at hk2 s.toks (s.toks + 1) (s.toks + 1 + 1) (s.toks + 1 + 1 + 1)
  refine wpAny_execs_cons (wpAny_Return_some (wpAny_BinOp (wpAny_BinOp (wpAny_BinOp (wpAny_BinOp (wpAny_Constant_str ?_))))))
  refine Subscript_ (ev_loc O.kind kks (by exact f'.ns) (v := .ref s.heap.objs.size) rfl (O'.kindv (by exact f') fun t => ?_))
  refine sub_tail (Heap.IsList.typeIs (by exact isl)) slot_list_getitem.lookup (wpAny_getItem_list (by exact isl) (by omega) (by omega) ea ?_) (by with_unfolding_all rfl)
  refine add_ne e1 e2 e3 fun t₁ tk₁ => ?_
  refine wpAny_Constant_str (add_ne e4 (by decide +kernel) e5 fun t₂ tk₂ => ?_)
  refine Subscript_ (ev_loc O.kind kks (by exact f'.ns) (v := .ref s.heap.objs.size) rfl (O'.item0 (by exact f') fun t tk => ?_))
  refine sub_tail (Heap.IsList.typeIs (by exact isl)) slot_list_getitem.lookup (wpAny_getItem_list (by exact isl) (by omega) (by omega) eb ?_) (by with_unfolding_all rfl)
  refine add_ne e6 e7 e8 fun t₃ tk₃ => ?_
  refine wpAny_Constant_str (add_ne e9 (by decide +kernel) e10 fun t₄ tk₄ => ?_)
  rw [← str_ext (beq_iff_eq.mp e11)] at h
  exact h _ _ ⟨_, f'⟩ rfl rfl
end
end Mine
end
section
open PySem PySem.W PySem.W.X PyProof.Rows PySem.Calls PySem.Spec
namespace Mine
set_option maxRecDepth 100000
section
variable {w : World} {A : Around} {s : Shared}
/-- pure_call for a function of the written heap -/
theorem pure_frame {P : Value → Heap → Prop} {a : Addr} {o : Obj} {fd : FuncData} {body : List Stmt} {args : List Value} {binds : List (Str × Value)} (sc : Scope) (hl : ∀ P, (KK P).lookup a = some o) (hd : o.data = .func fd) (hb : fd.body = .stmts body) (hsc : fd.scope = sc) (hg : fd.globals = mainGlobals) (hbl : fd.builtins = builtinsNs)
    (hbind : bindArgs fd ⟨args, []⟩ = pure binds) (hcd : ∀ P, codeIn (KK P) fd.code fd.qualname = true) (hco : sc.isCoroutine = false) (hgen : sc.isGenerator = false) (hkd : sc.kind = .function) (hcell : ∀ x ∈ sc.names, x.2 ≠ .cell) (hloc : ∀ x ∈ binds, sc.names.lookup x.1 = some .local)
    (hdp : A.depth < 1000) (X : (KK w.params).In s.heap) (hlim : s.heap.NoLimit)
    (H : ∀ (L : Addr) (env : Env) (s₁ : Shared), env = { scope := sc, locals := L, globals := mainGlobals, cells := fd.closure, qual := fd.qualname ++ ".<locals>.", func := some a, code := fd.code, frame := some L, builtins := builtinsNs } → Fr s.heap L s₁.heap (fun x => binds.reverse.lookup x) → s₁.gens = s.gens → s₁.os = s.os →
      wpAny (M0 w) (A.deeper env) (execs body env) (fun fl s' => (∃ m, Fr s.heap L s'.heap m) ∧ s'.gens = s.gens ∧ s'.os = s.os ∧ P (match fl with | .ret v => v | _ => .none) s'.heap) (fun _ _ => False) s₁) :
    wpAny (M0 w) A (call (.ref a) args) (Kept s P) (fun _ _ => False) s := by
  subst hsc
  rw [← hg, ← hbl] at H
  exact pure_call hdp hlim (X _ _ (hl _)) hd hb (codeRec_of X (hcd _)) hbind hco hgen hkd hcell hloc H
def oscope : Scope := { kind := .function, names := [("one", .local), ("other", .local), ("kind", .local), ("a", .local), ("wrapped", .local), ("kinds", .local), ("b", .local), ("within", .local), ("holding", .local), ("first", .local), ("second", .local)], isGenerator := false, isCoroutine := false, more := [] }
def pairA (k : Nat) (y : Int) : Int := match k with
  | 0 => y
  | 1 => y % 4
  | _ => y / 2
theorem within_pair {k : Nat} {y z : Int} (h : k ≠ 2) : within k y z = decide (pairA k y ≤ pairA k z) := by
  match k, h with
  | 0, _ | 1, _ | n + 3, _ => rfl
theorem holding_pair {k : Nat} {y z : Int} (h : k ≠ 2) : holding' k y z = decide (pairA k y ≥ pairA k z) := by
  match k, h with
  | 0, _ | 1, _ | n + 3, _ => rfl
theorem beq_cast (k k2 : Nat) : ((k : Int) == (k2 : Int)) = (k == k2) := by
  rw [Bool.eq_iff_iff, beq_iff_eq, beq_iff_eq]; omega
theorem new_tup {M : Model} {h₀ : Heap} {L : Addr} {m : Str → Option Value} {vs : List Value} {Q E : Value → Shared → Prop} (f : Fr h₀ L s.heap m) (hsz : vs.length ≤ 10) (h : ∀ a h', Fr h₀ L h' m → IsTup h' a vs.toArray → (∀ b o, s.heap.get? b = some o → h'.get? b = some o) → Q (.ref a) { s with heap := h' }) : wpAny M A (newTuple vs) Q E s :=
  wpAny_newTuple (h _ _ (f.push _) ⟨_, Heap.get?_push_size _ rfl, rfl, 0, rfl⟩ fun b o e => Heap.get?_push_of_some _ e) (by rw [sizeLine_eq]; omega)
theorem new_list {M : Model} {h₀ : Heap} {L : Addr} {m : Str → Option Value} {vs : List Value} {Q E : Value → Shared → Prop} (f : Fr h₀ L s.heap m) (hsz : vs.length ≤ 100) (h : ∀ a h', Fr h₀ L h' m → h'.IsList a vs.toArray → (∀ b o, s.heap.get? b = some o → h'.get? b = some o) → Q (.ref a) { s with heap := h' }) : wpAny M A (newList vs) Q E s :=
  wpAny_newList (h _ _ (f.push _) ⟨_, Heap.get?_push_size _ rfl, rfl, 0, rfl⟩ fun b o e => Heap.get?_push_of_some _ e) (by rw [sizeLine_eq]; omega)
theorem pair_cmp {env : Env} {m : Str → Option Value} {a b : Int} {u v : Tok} {p0 p1 p2 p3 p4 p5 p6 : Pos} {E : Value → Shared → Prop} (hkd : env.scope.kind = .function) (k_f : env.kindOf "first" = some .local) (k_s : env.kindOf "second" = some .local) (ns : s.heap.Ns env.locals m) (ef : m "first" = some (.int a u)) (es : m "second" = some (.int b v)) :
    wpAny (M0 w) A (spliced (backTo p0 (starEach [.Compare (.Name "first" p1) [.LtE] [.Name "second" p2] p3, .Compare (.Name "first" p4) [.GtE] [.Name "second" p5] p6] env))) (fun vs s' => vs = [.bool (decide (a ≤ b)), .bool (decide (a ≥ b))] ∧ s'.heap = s.heap ∧ s'.gens = s.gens ∧ s'.os = s.os) E s := by
  refine args_cons (wpAny_Compare1 (ev_loc hkd k_f ns ef (ev_loc hkd k_s ns es (P.le_int ?_))))
  refine args_cons (wpAny_Compare1 (ev_loc hkd k_f ns ef (ev_loc hkd k_s ns es (P.ge_int ?_))))
  exact args_nil ⟨rfl, rfl, rfl, rfl⟩
theorem pick_pair {k : Nat} {y z : Int} {h : Heap} {a₄ a₅ a₆ : Addr} {u1 u2 u3 u4 u5 u6 : Tok} (hk : k < 5) (h2 : k ≠ 2) (h3 : k ≠ 3) (T₄ : IsTup h a₄ #[.int y u1, .int z u2]) (T₅ : IsTup h a₅ #[.int (y % 4) u3, .int (z % 4) u4]) (T₆ : IsTup h a₆ #[.int (y / 2) u5, .int (z / 2) u6]) :
    ∃ a u v, (#[Value.ref a₄, .ref a₅, .none, .none, .ref a₆] : Array Value)[((k : Nat) : Int).toNat]? = some (.ref a) ∧ IsTup h a #[.int (pairA k y) u, .int (pairA k z) v] := by
  rw [Int.toNat_natCast]
  match k, hk, h2, h3 with
  | 0, _, _, _ => exact ⟨_, _, _, rfl, T₄⟩
  | 1, _, _, _ => exact ⟨_, _, _, rfl, T₅⟩
  | 4, _, _, _ => exact ⟨_, _, _, rfl, T₆⟩
  | 2, _, h, _ => exact (h rfl).elim
  | 3, _, _, h => exact (h rfl).elim
set_option maxHeartbeats 1000000 in
theorem out_call {p q : Addr} {k k2 : Nat} {y z : Int} {wr w2 : Bool} {t1 t2 t3 t4 : Tok} (hA : A.handled = none) (hdp : A.depth < 1000) (X : (KK w.params).In s.heap) (hlim : s.heap.NoLimit) (hp : IsTup s.heap p #[.int k t1, .int y t2, .bool wr]) (hq : IsTup s.heap q #[.int k2 t3, .int z t4, .bool w2]) (hk : k < 5) (hk2 : k2 < 5) :
    wpAny (M0 w) A (call (.ref 209) [.ref p, .ref q]) (Kept s fun v h => OutIs w h v (outV k y wr k2 z w2)) (fun _ _ => False) s := by
  refine pure_frame (a := 209) oscope (fun _ => rfl) rfl rfl rfl rfl rfl (binds := [(("one" : Str), .ref p), (("other" : Str), .ref q)]) rfl (fun _ => by kernel_rfl) rfl rfl rfl (by decide) (locs (scope := oscope) rfl) hdp X hlim fun L env s₁ henv F₁ hg ho => ?_
  have hA' : (A.deeper env).handled = none := hA
  have hkd : env.scope.kind = .function := by rw [henv]; rfl
  have hK : ∀ x, env.kindOf x = oscope.names.lookup x := fun x => by rw [henv]; rfl
  have hL : env.locals = L := by rw [henv]
  have k_one : env.kindOf "one" = some .local := by rw [hK]; decide
  have k_kind : env.kindOf "kind" = some .local := by rw [hK]; decide
  have k_a : env.kindOf "a" = some .local := by rw [hK]; decide
  have k_wr : env.kindOf "wrapped" = some .local := by rw [hK]; decide
  have k_other : env.kindOf "other" = some .local := by rw [hK]; decide
  have k_kinds : env.kindOf "kinds" = some .local := by rw [hK]; decide
  have k_b : env.kindOf "b" = some .local := by rw [hK]; decide
  have k_wi : env.kindOf "within" = some .local := by rw [hK]; decide
  have k_ho : env.kindOf "holding" = some .local := by rw [hK]; decide
  have k_f : env.kindOf "first" = some .local := by rw [hK]; decide
  have k_s : env.kindOf "second" = some .local := by rw [hK]; decide
  refine wpAny_execs_cons (assign_three hA' hkd k_one k_kind k_a k_wr hL F₁ rfl (hp.keeps F₁.keep) (by decide) (fun s₂ F₂ hg₂ ho₂ => ?_) rfl rfl)
  have O : ∃ m₂, Fr s.heap L s₂.heap m₂ ∧ OF s.heap L q env m₂ (k : Int) y wr (k2 : Int) z w2 := ⟨_, F₂, hkd, hL, k_kind, k_a, k_wr, k_other, ⟨_, rfl⟩, ⟨_, rfl⟩, rfl, rfl, ⟨_, _, hq⟩⟩
  clear F₂
  obtain ⟨m₂, F₂, O⟩ := O
  have fin : ∀ {s' : Shared} {v : Value}, s'.gens = s₂.gens → s'.os = s₂.os → (∃ m', Fr s.heap L s'.heap m') → OutIs w s'.heap v (outV k y wr k2 z w2) → (∃ m, Fr s.heap L s'.heap m) ∧ s'.gens = s.gens ∧ s'.os = s.os ∧ OutIs w s'.heap v (outV k y wr k2 z w2) := fun e1 e2 f o => ⟨f, by rw [e1, hg₂, hg], by rw [e2, ho₂, ho], o⟩
  refine wpAny_execs_cons (wpAny_If (O.test1 F₂ fun tk₃ => ?_))
  rw [show ((k : Int) == 4) = (k == 4) from beq_cast k 4, show ((k2 : Int) == 4) = (k2 == 4) from beq_cast k2 4]
  cases c1 : (wr && ((k == 4) != (k2 == 4))) with
  | true =>
    rw [if_pos rfl]
    refine wpAny_execs_cons (wpAny_Return_some (wpAny_Constant_str (fin rfl rfl ⟨_, F₂⟩ ?_)))
    unfold outV
    rw [if_pos c1]
    exact ⟨_, rfl⟩
  | false =>
  rw [if_neg (by decide)]
  refine wpAny_execs_nil ?_
  refine wpAny_execs_cons (wpAny_If (O.test2 (d1 := 0) (p3 := default) (by exact F₂) fun tk₄ => ?_))
  rw [show ((k : Int) != (k2 : Int)) = (k != k2) by unfold bne; rw [beq_cast], show ((k : Int) == 3) = (k == 3) from beq_cast k 3]
  cases c2 : (wr && (k != k2 || k == 3)) with
  | true =>
    rw [if_pos rfl]
    have h4 : k < 4 ∧ k2 < 4 := by
      have hw : wr = true := by cases wr <;> simp_all
      subst hw
      have c1' : (k == 4) = (k2 == 4) := by
        revert c1; cases (k == 4) <;> cases (k2 == 4) <;> simp
      have c2' : k ≠ k2 ∨ k = 3 := by simpa using c2
      have c1'' : k = 4 ↔ k2 = 4 := by rw [← beq_iff_eq (a := k), ← beq_iff_eq (a := k2), c1']
      omega
    refine O.msg (by exact F₂) h4.1 h4.2 k_kinds rfl fun s' t f e1 e2 => fin e1 e2 f ?_
    unfold outV
    rw [if_neg (by rw [c1]; decide), if_pos c2]
    exact ⟨⟨_, rfl⟩, k, k2, rfl, rfl⟩
  | false =>
  rw [if_neg (by decide)]
  refine wpAny_execs_nil ?_
  refine wpAny_execs_cons (wpAny_If (O.test3 (d1 := 0) (p3 := default) (by exact F₂) fun tk₅ => ?_))
  rw [show ((k : Int) != (k2 : Int)) = (k != k2) by unfold bne; rw [beq_cast], show ((k : Int) == 3) = (k == 3) from beq_cast k 3]
  cases c3 : (!wr && (k != k2 || k == 3 || w2)) with
  | true =>
    rw [if_pos rfl]
    refine wpAny_execs_cons (wpAny_Return_some (wpAny_IfExp (wpAny_isTrue_Compare1 (O.kindv (by exact F₂) fun t => ev_int (P.eq_int (wpAny_truthy_bool ?_))))))
    rw [show ((k : Int) == 4) = (k == 4) from beq_cast k 4]
    have ho : outV k y wr k2 z w2 = if (k == 4) = true then .nokey else .handed := by
      unfold outV
      rw [if_neg (by rw [c1]; decide), if_neg (by rw [c2]; decide), if_pos c3]
    cases c4 : (k == 4) with
    | true =>
      rw [if_pos rfl]
      refine wpAny_Constant_str (fin rfl rfl ⟨_, F₂⟩ ?_)
      rw [ho, if_pos c4]
      exact ⟨_, rfl⟩
    | false =>
      rw [if_neg (by decide)]
      refine wpAny_Constant_str (fin rfl rfl ⟨_, F₂⟩ ?_)
      rw [ho, if_neg (by rw [c4]; decide)]
      exact ⟨_, rfl⟩
  | false =>
  rw [if_neg (by decide)]
  refine wpAny_execs_nil ?_
  have ho : outV k y wr k2 z w2 = .tab (within k y z) (holding' k y z) := by
    unfold outV
    rw [if_neg (by rw [c1]; decide), if_neg (by rw [c2]; decide), if_neg (by rw [c3]; decide)]
  have h3 : k ≠ 3 := by
    rintro rfl
    cases wr <;> simp at c2 c3
  rw [ho] at fin ⊢
  refine wpAny_execs_cons (wpAny_Assign_Name (O.item1 (by exact F₂) fun t tk => ?_) rfl)
  refine store_fr hkd k_b hL (by exact F₂) fun h₃ F₃ _ => ?_
  have O₃ : ∃ m₃ : Str → Option Value, Fr s.heap L h₃ m₃ ∧ OF s.heap L q env m₃ (k : Int) y wr (k2 : Int) z w2 ∧ m₃ "b" = some (.int z t) := ⟨_, F₃, O.set (x := "b") (v := .int z t) (by decide) (by decide) (by decide) (by decide), rfl⟩
  clear F₃
  obtain ⟨m₃, F₃, O₃, eb⟩ := O₃
  obtain ⟨ta, ea⟩ := O₃.va
  have last : ∀ {s' : Shared} {m' : Str → Option Value}, s'.gens = s₂.gens → s'.os = s₂.os → Fr s.heap L s'.heap m' → m' "within" = some (.bool (within k y z)) → m' "holding" = some (.bool (holding' k y z)) → ∀ {p1 p2 p3 p4 p5 p6 p7 p8 p9 p10 p11 p12 p13 p14 p15 p16 : Pos} {j0 j1 j2 j3 : Nat},
      wpAny (M0 w) (A.deeper env) (execs [.Return (some (.Dict [some (.Constant (.str "<") j0 p1), some (.Constant (.str "<=") j1 p2), some (.Constant (.str ">") j2 p3), some (.Constant (.str ">=") j3 p4)] [.BoolOp .And [.Name "within" p5, .UnaryOp .Not (.Name "holding" p6) p7] p8, .Name "within" p9, .BoolOp .And [.Name "holding" p10, .UnaryOp .Not (.Name "within" p11) p12] p13, .Name "holding" p14] p15)) p16] env)
        (fun fl s' => (∃ m, Fr s.heap L s'.heap m) ∧ s'.gens = s.gens ∧ s'.os = s.os ∧ OutIs w s'.heap (match fl with | .ret v => v | _ => .none) (.tab (within k y z) (holding' k y z))) (fun _ _ => False) s' := by
    intro s' m' e1 e2 F' hw hh
    intros
    refine wpAny_execs_cons (wpAny_Return_some (out_dict hkd k_wi k_ho hL F' hw hh fun a h' tk F'' hd => fin e1 e2 ⟨_, F''⟩ ?_))
    obtain ⟨es, ep, sl, hx⟩ := dict_shape hd
    exact ⟨a, es, ep, sl, rfl, hx, hd⟩
  refine wpAny_execs_cons (wpAny_If (wpAny_isTrue_Compare1 (O₃.kindv (by exact F₃) fun t => ev_int (P.eq_int (wpAny_truthy_bool ?_)))))
  rw [show ((k : Int) == 2) = (k == 2) from beq_cast k 2]
  cases c5 : (k == 2) with
  | true =>
    obtain rfl := beq_iff_eq.mp c5
    rw [if_pos rfl]
    refine wpAny_execs_cons (assign_two (v1 := .bool (within 2 y z)) (v2 := .bool (holding' 2 y z)) hA' hkd k_wi k_ho hL (by exact F₃) ?he (fun s' F' e1 e2 => ?_) rfl (by rw [henv]; rfl))
    case he =>
      refine args_cons (ev_or8 hkd k_a k_b k_b (by rw [hL]; exact F₃.ns) ea eb eb (by decide) (by decide) (by decide) fun tk => ?_)
      refine args_cons (ev_or8 hkd k_a k_b k_a (by rw [hL]; exact F₃.ns) ea eb ea (by decide) (by decide) (by decide) fun tk => ?_)
      exact args_nil ⟨rfl, rfl, rfl, rfl⟩
    refine wpAny_execs_nil ?_
    exact last e1 e2 F' rfl rfl
  | false =>
    have h2 : k ≠ 2 := fun e => by rw [e] at c5; cases c5
    rw [if_neg (by decide)]
    have nsv : ∀ {s' : Shared}, Fr s.heap L s'.heap m₃ → s'.heap.Ns env.locals m₃ := fun f => by rw [hL]; exact f.ns
    refine wpAny_execs_cons (Assign_Tuple (Subscript_ (List_ ?_)) rfl rfl)
    refine args_cons (Tuple_ (args_cons (ev_loc hkd k_a (nsv (by exact F₃)) ea (args_cons (ev_loc hkd k_b (nsv (by exact F₃)) eb (args_nil ?_))))))
    refine new_tup (by exact F₃) (by simp) fun a₄ h₄ F₄ T₄ K₄ => ?_
    refine args_cons (Tuple_ (args_cons (ev_mod hkd k_a (nsv (by exact F₄)) ea (by decide) (fun u₁ tk₁ => ?_) (by decide))))
    refine args_cons (ev_mod hkd k_b (nsv (by exact F₄)) eb (by decide) (fun u₂ tk₂ => args_nil ?_) (by decide))
    refine new_tup (by exact F₄) (by simp) fun a₅ h₅ F₅ T₅ K₅ => ?_
    refine args_cons (wpAny_Constant_none ?_)
    refine args_cons (wpAny_Constant_none ?_)
    refine args_cons (Tuple_ (args_cons (wpAny_BinOp (ev_loc hkd k_a (nsv (by exact F₅)) ea (ev_int (div_two (M := M0 w) ?_))))))
    refine args_cons (wpAny_BinOp (ev_loc hkd k_b (nsv (by exact F₅)) eb (ev_int (div_two (M := M0 w) (args_nil ?_)))))
    refine new_tup (by exact F₅) (by simp) fun a₆ h₆ F₆ T₆ K₆ => ?_
    refine args_nil ?_
    refine new_list (by exact F₆) (by simp) fun a₇ h₇ F₇ T₇ K₇ => ?_
    refine O₃.kindv (by exact F₇) fun tq => ?_
    have pick := pick_pair hk h2 h3 ((T₄.keeps K₅).keeps K₆ |>.keeps K₇) (T₅.keeps K₆ |>.keeps K₇) (T₆.keeps K₇)
    obtain ⟨a₈, u, v, ep, Tp⟩ := pick
    refine sub_tail (Heap.IsList.typeIs (by exact T₇)) slot_list_getitem.lookup (wpAny_getItem_list (by exact T₇) (by omega) (by omega) ep ?_) (by with_unfolding_all rfl)
    refine unpack_ (by exact F₇) (by exact Tp) hA' rfl rfl fun h₉ F₉ => ?_
    refine assignInOrder_cons (wpAny_assign_Name (store_fr hkd k_f hL (by exact F₉) fun h₁₀ F₁₀ _ => ?_))
    refine assignInOrder_cons (wpAny_assign_Name (store_fr hkd k_s hL (by exact F₁₀) fun h₁₁ F₁₁ _ => ?_))
    refine assignInOrder_nil ?_
    have O₄ : ∃ m₄ : Str → Option Value, Fr s.heap L h₁₁ m₄ ∧ m₄ "first" = some (.int (pairA k y) u) ∧ m₄ "second" = some (.int (pairA k z) v) := ⟨_, F₁₁, rfl, rfl⟩
    clear F₁₁
    obtain ⟨m₄, F₁₁, ef, es⟩ := O₄
    have ns : h₁₁.Ns env.locals m₄ := by rw [hL]; exact F₁₁.ns
    have hwi := within_pair (y := y) (z := z) h2
    have hho := holding_pair (y := y) (z := z) h2
    refine wpAny_execs_cons (assign_two (v1 := .bool (decide (pairA k y ≤ pairA k z))) (v2 := .bool (decide (pairA k y ≥ pairA k z))) hA' hkd k_wi k_ho hL (by exact F₁₁) ?he (fun s' F' e1 e2 => ?_) rfl (by rw [henv]; rfl))
    case he =>
      exact pair_cmp hkd k_f k_s (by exact ns) ef es
    refine wpAny_execs_nil ?_
    exact last e1 e2 F' (congrArg (fun b => some (Value.bool b)) hwi).symm (congrArg (fun b => some (Value.bool b)) hho).symm
end
end Mine
end
section
open PySem PySem.W PySem.W.X PyProof.Rows PySem.Calls PySem.Spec
namespace Mine
set_option maxRecDepth 100000
section
variable {w : World} {A : Around} {E : Value → Shared → Prop} {R : Result → Shared → Prop} {s : Shared}
theorem setc_turn (elt target iter : Expr) (ifs : List Expr) (scope : Scope) (pos : Pos) (it acc : Value) (env : Env) :
    compTurn (.SetComp elt [⟨target, iter, ifs, 0⟩] scope pos) 0 it acc env = (do
      standAt iter.pos
      match ← pyNext it with
      | none => pure (.done .next)
      | some v =>
        letOwnedTupleGo target it v
        assign target env v
        let mut ok := true
        for c in ifs do
          if ok then ok ← isTrue c env (eval c env)
        if ok then
          (do let v ← eval elt env; standAt elt.pos; let _ ← call (.builtin "set.add") [acc, v])
        again (.compLoop (.SetComp elt [⟨target, iter, ifs, 0⟩] scope pos) 0 it acc env)) := by rfl
theorem setc_start {elt target iter : Expr} {ifs : List Expr} {scope : Scope} {pos : Pos} {it acc : Value} {env : Env}
    (h0 : codeAny (M0 w) A (.compLoop (.SetComp elt [⟨target, iter, ifs, 0⟩] scope pos) 0 it acc env) R s)
    (h : wpAny (M0 w) A (pyIter it) (fun it' s' => codeAny (M0 w) A (.compLoop (.SetComp elt [⟨target, iter, ifs, 0⟩] scope pos) 0 it' acc env) R s') (notedBy (M0 w) A env fun x s' => R (.error x) s') s) :
    codeAny (M0 w) A (.compStart (.SetComp elt [⟨target, iter, ifs, 0⟩] scope pos) 0 it acc env) R s := by
  refine codeAny_of_tree ?_
  show wpAny _ A ((compStart (.SetComp elt [⟨target, iter, ifs, 0⟩] scope pos) 0 it acc env).onRaise (fun x => do noteFrame x env; standAt theWindowsPlace)) _ _ s
  refine wpAny_notedAt ?_
  unfold compStart
  show wpAny _ A (ask >>= _) _ _ s
  refine wpAny_bind (wpAny_askSetting (wpAny_ite ?_))
  split
  · first
      | exact wpAny_bind (wpAny_pure (wpAny_pure (And.intro rfl h0)))
      | exact wpAny_pure (And.intro rfl h0)
  · first
      | exact wpAny_bind (wpAny_rule (wpAny_bind (wpAny_standAt (wpAny_bind (wpAny_mono h (fun it' s' h' => wpAny_pure (And.intro rfl h')) fun _ _ x => x)))))
      | (refine wpAny_bind (wpAny_rule ?_); show wpAny _ _ (standAt iter.pos >>= _) _ _ s; exact wpAny_bind (wpAny_standAt (wpAny_bind (wpAny_mono h (fun it' s' h' => wpAny_pure (And.intro rfl h')) fun _ _ x => x))))
theorem setc_loop {elt target iter : Expr} {ifs : List Expr} {scope : Scope} {pos : Pos} {it acc : Value} {env : Env} (I : Nat → Shared → Prop)
    (turn : ∀ n s (E' : Value → Shared → Prop), I n s → wpAny (M0 w) A (pyNext it) (fun r s₁ => match r with
      | none => R (.ok .next) s₁
      | some v => wpAny (M0 w) A (assign target env v) (fun _ s₂ =>
          wpAny (M0 w) A (forIn ifs true fun c r => if r = true then do let ok ← isTrue c env (eval c env); pure (ForInStep.yield ok) else pure (ForInStep.yield r)) (fun ok s₃ =>
            if ok = true then wpAny (M0 w) A (eval elt env) (fun x s₄ =>
              wpAny (M0 w) A (call (.builtin "set.add") [acc, x]) (fun _ s₅ => ∃ m, m < n ∧ I m s₅) E' s₄) E' s₃
            else ∃ m, m < n ∧ I m s₃) E' s₂) E' s₁) E' s)
    (n : Nat) (h : I n s) (ht : ∀ v, letOwnedTupleGo target it v = pure () := by intro _; rfl) :
    codeAny (M0 w) A (.compLoop (.SetComp elt [⟨target, iter, ifs, 0⟩] scope pos) 0 it acc env) R s := by
  refine codeAny_loop rfl I (fun n s hI => ?_) n h
  show wpAny _ A ((compTurn (.SetComp elt [⟨target, iter, ifs, 0⟩] scope pos) 0 it acc env).onRaise (fun x => do noteFrame x env; theTreesLotGoes x)) _ _ s
  refine wpAny_noted ?_
  rw [setc_turn]
  refine wpAny_bind (wpAny_standAt (wpAny_bind (wpAny_mono (turn n s _ hI) (fun r s₁ h₁ => ?_) fun _ _ h' => h')))
  cases r with
  | none => exact wpAny_pure h₁
  | some v =>
    refine wpAny_bind (wpAny_of_eq (ht v) ?_)
    refine wpAny_bind (wpAny_mono h₁ (fun _ s₂ h₂ => wpAny_bind (wpAny_mono h₂ (fun ok s₃ h₃ => ?_) fun _ _ h' => h')) fun _ _ h' => h')
    cases ok with
    | false => exact wpAny_pure ⟨rfl, h₃⟩
    | true =>
      exact wpAny_bind (wpAny_bind (wpAny_mono h₃ (fun x s₄ h₄ => wpAny_bind (wpAny_standAt (wpAny_bind (wpAny_mono h₄ (fun _ s₅ h₅ => wpAny_pure (wpAny_pure ⟨rfl, h₅⟩)) fun _ _ h' => h')))) fun _ _ h' => h'))
/-- // by a small number -/
theorem div_c {y c : Int} {t u : Tok} {Q : Value → Shared → Prop} (hc : 0 < c) (hs : c < 1000) (h : Q (.int (y / c) s.toks) { s with toks := s.toks + 1 }) : wpAny (M0 w) A (binaryOp .FloorDiv (.int y t) (.int c u)) Q E s := by
  refine AutoIntOps.floordiv_1 (by simp; omega) ?_ ?_
  · unfold Builtin.divisionGoesByPylong
    have h1 : c.natAbs.log2 < 10 := (Nat.log2_lt (by omega)).mpr (by omega)
    have h2 : ¬ (c == 0) = true := by simp; omega
    simp only [if_neg h2, Bool.and_eq_true, decide_eq_true_eq, not_and]
    omega
  · rw [Int.fdiv_eq_ediv_of_nonneg _ (by omega)]; exact h
theorem pow_two {i : Nat} {t u : Tok} {Q : Value → Shared → Prop} (hi : i < 3) (h : ∀ t tk, Q (.int (2 ^ i) t) { s with toks := tk }) : wpAny (M0 w) A (binaryOp .Pow (.int 2 t) (.int (i : Int) u)) Q E s := by
  match i, hi with
  | 0, _ => exact AutoIntOps.pow_0 (by decide) (by decide) (h _ _)
  | 1, _ => exact AutoIntOps.pow_4 (by decide) (by decide) (by decide) (by decide) (by decide +kernel) (h _ _)
  | 2, _ => exact AutoIntOps.pow_4 (by decide) (by decide) (by decide) (by decide) (by decide +kernel) (h _ _)
end
end Mine
end
section
open PySem PySem.W PySem.W.X PyProof.Rows PySem.Calls PySem.Spec
namespace Mine
set_option maxRecDepth 100000
def bitsN : Nat → Int → List Int
  | 0, _ => []
  | i + 1, y => bitsN i y ++ (if (y / 2 ^ i % 2 == 1) = true then [(i : Int)] else [])
theorem bitsN3 (y : Int) : bitsN 3 y = bits y := by
  unfold bitsN bitsN bitsN bitsN bits
  simp only [Int.pow_zero, Int.ediv_one, beq_iff_eq, List.nil_append, List.append_assoc]
  rfl
theorem bitsN_lt : ∀ (i : Nat) (y k : Int), k ∈ bitsN i y → k < i
  | 0, _, _, h => by simp [bitsN] at h
  | i + 1, y, k, h => by
    unfold bitsN at h
    rcases List.mem_append.mp h with h | h
    · have := bitsN_lt i y k h; omega
    · split at h
      · have : k = i := by simpa using h
        omega
      · simp at h
theorem bitsN_len : ∀ (i : Nat) (y : Int), (bitsN i y).length ≤ i
  | 0, _ => by simp [bitsN]
  | i + 1, y => by
    have := bitsN_len i y
    unfold bitsN
    rw [List.length_append]
    split <;> simp <;> omega
theorem pow_small {i : Nat} (h : i < 3) : (0 : Int) < 2 ^ i ∧ (2 : Int) ^ i < 1000 := by
  match i, h with
  | 0, _ | 1, _ | 2, _ => decide
structure FC (h₀ : Heap) (L c : Addr) (h : Heap) (m : Str → Option Value) (v : Option Value) : Prop where
  fr : Fr h₀ L h m
  cell : h.IsCell c v
  ne : c ≠ L
  fresh : h₀.objs.size ≤ c
def cscope : Scope := { kind := .function, names := [(".0", .local), ("place", .local), ("y", .free)], isGenerator := false, isCoroutine := false, more := [] }
theorem setOf_at {w : World} {h h' : Heap} {a : Addr} {S : Int → Bool} {n : Nat} (x : h.SetOf (intKind P0 w) a S n) (e : ∀ o, h.get? a = some o → h'.get? a = some o) : h'.SetOf (intKind P0 w) a S n := by
  obtain ⟨o, es, ep, t, ho, r⟩ := x
  exact ⟨o, es, ep, t, e _ ho, r⟩
section
variable {w : World} {A : Around} {E : Value → Shared → Prop} {s : Shared} {h₀ : Heap} {L c : Addr} {m : Str → Option Value} {env : Env}
set_option maxHeartbeats 2000000 in
theorem set_assign {y : Int} {ty : Tok} {p0 p1 p2 p3 p4 p5 p6 p7 p8 p9 p10 p11 p12 p13 p14 p15 p16 : Pos} {d1 d2 d3 d4 : Nat} {Q : Flow → Shared → Prop} (hh : A.handled = none) (F : Facts w h₀) (fc : FC h₀ L c s.heap m (some (.int y ty))) (hk : env.scope.kind = .function) (hL : env.locals = L) (hg : env.globals = mainGlobals) (hb : env.builtins = builtinsNs)
    (hcl : env.cells.lookup ("y" : Str) = some c) (kr : env.kindOf "range" = some .globalImplicit) (kt : env.kindOf "thing" = some .local) (ky : env.kindOf "y" = some .cell)
    (hsw : swapsWith (.SetComp (.Name "place" p1) [⟨.Name "place" p2, .Call (.Name "range" p3) [.Constant (.int 3) d1 p4] [] p5, [.Compare (.BinOp (.BinOp (.Name "y" p6) .FloorDiv (.BinOp (.Constant (.int 2) d2 p7) .Pow (.Name "place" p8) p9) p10) .Mod (.Constant (.int 2) d3 p11) p12) [.Eq] [.Constant (.int 1) d4 p13] p14], 0⟩] cscope p15) (some (.Name "thing" p0)) p16.line env = pure true)
    (hclos : closureFor cscope env = pure [(("y" : Str), c)])
    (h : ∀ s' a, s'.gens = s.gens → s'.os = s.os → FC h₀ L c s'.heap (fun z => if z = "thing" then some (.ref a) else m z) (some (.int y ty)) → h₀.get? a = none → s'.heap.SetOf (intKind P0 w) a (fun k => (bits y).contains k) (bits y).length → Q .next s') :
    wpAny (M0 w) A (exec (.Assign [.Name "thing" p0] (.SetComp (.Name "place" p1) [⟨.Name "place" p2, .Call (.Name "range" p3) [.Constant (.int 3) d1 p4] [] p5, [.Compare (.BinOp (.BinOp (.Name "y" p6) .FloorDiv (.BinOp (.Constant (.int 2) d2 p7) .Pow (.Name "place" p8) p9) p10) .Mod (.Constant (.int 2) d3 p11) p12) [.Eq] [.Constant (.int 1) d4 p13] p14], 0⟩] cscope p15) p16) env) Q E s := by
  rw [exec_Assign_Name_used _ _ _ _ hsw]
  refine wpAny_bind (wpAny_standAt (wpAny_bind ?_))
  show wpAny _ A (do let _ ← comprehension (.SetComp _ [⟨_, .Call (.Name "range" p3) [.Constant (.int 3) d1 p4] [] p5, _, 0⟩] cscope p15) cscope env _ (newSet (.type "set")) false (eval (.Call (.Name "range" p3) [.Constant (.int 3) d1 p4] [] p5) env) (some (assign (.Name "thing" p0) env))) _ _ s
  refine wpAny_bind (wpAny_mono (wpAny_comprehension_free (use := some (assign (.Name "thing" p0) env)) (Q := fun _ s' => Q .next s') rfl (fun _ => rfl) hclos rfl (by decide) ?_) (fun _ s' hq => wpAny_pure (wpAny_pure hq)) fun _ _ e => e)
  refine wpAny_Call_ofName (ev_bltn F fc.fr.keep hk hg hb kr (v := .type "range") (by kernel_rfl) (by kernel_rfl) ?_)
  refine callWith_any (P := fun _ => True) (fun h _ => keep_plain (fun a q => by cases q) h) rfl ?_
  show wpAny _ _ (spliced (backTo p5 (starEach [.Constant (.int 3) d1 p4] env))) _ _ _
  refine args_cons (ev_int (args_nil ⟨trivial, call_range_1 ?_⟩))
  refine wpAny_pyIter_range (IsRange.new ..) (by decide +kernel) ?_
  refine wpAny_newSet_of (knd := intKind P0 w) fun led hS => ?_
  refine wpAny_newFunctionEnv (by decide) (by intro y hy; simp at hy) (fun h₁ ns₁ sb₁ => ?_) rfl
  have up : ∀ {h : Heap} {o : Obj} b x, h.get? b = some x → (h.push o).get? b = some x := fun b x e => Heap.get?_push_of_some _ e
  dsimp only at hS ns₁ sb₁ ⊢
  generalize eA : s.heap.push { cls := .type "range", data := .fields #[.int 0 (s.toks + 1), .int 3 s.toks, .int 1 (s.toks + 1 + 1)] } = hA at *
  generalize eB : hA.push { cls := .type "range_iterator", data := .fields #[rawInt 0, rawInt (Builtin.Range.rangeSize 0 3 1), rawInt 1] } = hB at *
  generalize eC : hB.push { cls := .type "set", data := .set #[] 0 (.fresh 0 0 led) } = hC at *
  have zA : hA.objs.size = s.heap.objs.size + 1 := by rw [← eA, Heap.size_push]
  have zB : hB.objs.size = s.heap.objs.size + 2 := by rw [← eB, Heap.size_push, zA]
  have zC : hC.objs.size = s.heap.objs.size + 3 := by rw [← eC, Heap.size_push, zB]
  have kBC : ∀ b o, hB.get? b = some o → h₁.get? b = some o := fun b o e => sb₁.extBut b o (Nat.ne_of_lt (Nat.lt_of_lt_of_le (Heap.lt_size e) (by omega))) (up _ _ (eC ▸ up _ _ e))
  have kp₁ : ∀ b o, s.heap.get? b = some o → h₁.get? b = some o := fun b o e => kBC b o (eB ▸ up _ _ (eA ▸ up _ _ e))
  have hI : IsRangeIter h₁ hA.objs.size 0 3 1 := kBC _ _ (by rw [← eB]; exact Heap.get?_push_size _ rfl)
  have hS₁ : h₁.SetOf (intKind P0 w) hB.objs.size (fun z => (bitsN 0 y).contains z) (bitsN 0 y).length := setOf_at hS fun o e => sb₁.extBut _ _ (show (hB.objs.size : Nat) ≠ hC.objs.size by omega) (up _ _ e)
  have nI : s.heap.objs.size ≤ hA.objs.size := by omega
  have nD : s.heap.objs.size ≤ hB.objs.size := by omega
  have nC : s.heap.objs.size ≤ hC.objs.size := by omega
  have eID : hA.objs.size ≠ hB.objs.size := by omega
  have eIC : hA.objs.size ≠ hC.objs.size := by omega
  have eDC : hB.objs.size ≠ hC.objs.size := by omega
  clear eA eB eC zA zB zC kBC sb₁ hS
  generalize hA.objs.size = I at *
  generalize hB.objs.size = D at *
  generalize hC.objs.size = C at *
  have W := LCg.range_walks (prog := P0) (w := w) (A := A) (I := I) hh 0 3
  have kc : (compEnvC cscope [(("y" : Str), c)] C env).kindOf "y" = some .cell := by
    show ((relabel cscope env).names.lookup ("y" : Str)) = _
    unfold relabel cscope
    simp only [List.map, hk, ky]
    rfl
  have kpl : (compEnvC cscope [(("y" : Str), c)] C env).kindOf "place" = some .local := lookup_relabel_local (names := cscope.names) (by decide)
  have kfn : (compEnvC cscope [(("y" : Str), c)] C env).scope.kind = .function := rfl
  have ltc : c < s.heap.objs.size := fc.cell.lt
  have ltL : L < s.heap.objs.size := Fr.ltL fc.fr
  have bI : ∀ {b : Addr}, b < s.heap.objs.size → b ≠ I := fun h => Nat.ne_of_lt (Nat.lt_of_lt_of_le h nI)
  have bD : ∀ {b : Addr}, b < s.heap.objs.size → b ≠ D := fun h => Nat.ne_of_lt (Nat.lt_of_lt_of_le h nD)
  have bC : ∀ {b : Addr}, b < s.heap.objs.size → b ≠ C := fun h => Nat.ne_of_lt (Nat.lt_of_lt_of_le h nC)
  have loop : codeAny (M0 w) A (.compLoop (.SetComp (.Name "place" p1) [⟨.Name "place" p2, .Call (.Name "range" p3) [.Constant (.int 3) d1 p4] [] p5, [.Compare (.BinOp (.BinOp (.Name "y" p6) .FloorDiv (.BinOp (.Constant (.int 2) d2 p7) .Pow (.Name "place" p8) p9) p10) .Mod (.Constant (.int 2) d3 p11) p12) [.Eq] [.Constant (.int 1) d4 p13] p14], 0⟩] cscope p15) 0 (.ref I) (.ref D) (compEnvC cscope [(("y" : Str), c)] C env))
      (compPost (M0 w) A E (some (assign (.Name "thing" p0) env)) (fun _ s' => Q .next s') (.ref D) C) { s with heap := h₁, toks := s.toks + 1 + 1 + 1 + 0 } := by
    refine setc_loop (fun k s' => ∃ h' tk i m', s' = { s with heap := h', toks := tk } ∧ i ≤ 3 ∧ k = 4 - i ∧ IsRangeIter h' I (0 + (i : Nat) * 1) (((3 : Nat) : Int) - (i : Nat)) 1 ∧ h'.Ns C m' ∧ h'.SetOf (intKind P0 w) D (fun z => (bitsN i y).contains z) (bitsN i y).length ∧ (∀ b o, s.heap.get? b = some o → h'.get? b = some o)) ?_ 4
      ⟨h₁, _, 0, _, rfl, by omega, rfl, hI, ns₁, hS₁, kp₁⟩
    rintro n s' E' ⟨h', tk, i, m', rfl, hi, rfl, hst, hn, hS', kp⟩
    by_cases hlt : i < 3
    · refine W.item i _ _ _ hlt hst fun v h₂ tk₂ hP hst₂ hk₂ => ?_
      obtain ⟨t, ev⟩ := hP
      rw [Int.zero_add] at ev
      subst ev
      have one : ∀ {b : Addr} {o : Obj}, b ≠ I → h'.get? b = some o → h₂.get? b = some o := fun ne e => hk₂ _ _ (by simpa using ne) e
      refine wpAny_assign_Name (wpAny_storeName_local kpl (hn.at' fun o e => one (Ne.symm eIC) e) (fun h₃ hn₃ hs₃ => ?_) rfl)
      have c₃ : h₃.IsCell c (some (.int y ty)) := by
        obtain ⟨o, ho, hd⟩ := fc.cell
        exact ⟨o, hs₃.extBut _ _ (bC ltc) (one (bI ltc) (kp _ _ ho)), hd⟩
      have S₃ : h₃.SetOf (intKind P0 w) D (fun z => (bitsN i y).contains z) (bitsN i y).length := setOf_at hS' fun o e => hs₃.extBut _ _ eDC (one (Ne.symm eID) e)
      have kp₃ : ∀ b o, s.heap.get? b = some o → h₃.get? b = some o := fun b o e => by
        have q := Heap.lt_size e
        exact hs₃.extBut _ _ (bC q) (one (bI q) (kp _ _ e))
      have st₃ : IsRangeIter h₃ I (0 + ((i + 1 : Nat) : Int) * 1) (((3 : Nat) : Int) - ((i + 1 : Nat) : Int)) 1 := hs₃.extBut _ _ eIC hst₂
      have pos2 := pow_small hlt
      refine wpAny_tests_one (wpAny_isTrue_Compare1 (wpAny_BinOp (wpAny_BinOp (wpAny_Name (wpAny_loadName_cell kfn kc (by rfl) (by exact c₃) ?_) (by decide)))))
      refine wpAny_BinOp (ev_int (ev_loc kfn kpl (by exact hn₃) (v := .int (i : Int) t) rfl (pow_two hlt fun t₁ tk₁ => ?_)))
      refine div_c pos2.1 pos2.2 (ev_int (mod_c (by decide) (ev_int (P.eq_int (wpAny_truthy_bool ?_)))))
      have hbn : bitsN (i + 1) y = bitsN i y ++ (if (y / 2 ^ i % 2 == 1) = true then [(i : Int)] else []) := rfl
      cases hb : (y / 2 ^ i % 2 == 1) with
      | false =>
        rw [if_neg (by decide)]
        rw [hb, if_neg (by decide), List.append_nil] at hbn
        refine ⟨4 - (i + 1), by omega, h₃, _, i + 1, _, rfl, hlt, rfl, st₃, hn₃, by rw [hbn]; exact S₃, kp₃⟩
      | true =>
        rw [if_pos rfl]
        rw [hb, if_pos rfl] at hbn
        have hno : (bitsN i y).contains (i : Int) = false := by
          rw [List.contains_eq_mem, decide_eq_false_iff_not]
          intro hm
          have := bitsN_lt i y _ hm
          omega
        have hlen := bitsN_len i y
        refine ev_loc kfn kpl (by exact hn₃) (v := .int (i : Int) t) rfl ?_
        refine call_set_add (knd := intKind P0 w) (k := (i : Int)) (by show Value.isInt (i : Int) (.int (i : Int) t) = true; simp [Value.isInt]) rfl (by exact S₃) (by show _ < 4096; omega) fun h₄ sb₄ S₄ => ?_
        refine ⟨4 - (i + 1), by omega, h₄, _, i + 1, _, rfl, hlt, rfl, sb₄.extBut _ _ eID st₃, hn₃.sameBut sb₄ (Ne.symm eDC), ?_, fun b o e => ?_⟩
        · rw [hno] at S₄
          refine SetOf_congr S₄ (fun k => ?_) (by rw [hbn]; simp)
          rw [hbn]
          simp [List.contains_eq_mem]
        · exact sb₄.extBut _ _ (bD (Heap.lt_size e)) (kp₃ _ _ e)
    · obtain rfl : i = 3 := by omega
      refine W.done _ _ _ hst fun h₂ tk₂ hk₂ => ?_
      have one : ∀ {b : Addr} {o : Obj}, b ≠ I → h'.get? b = some o → h₂.get? b = some o := fun ne e => hk₂ _ _ (by simpa using ne) e
      show wpAny _ A (assign (.Name "thing" p0) env (.ref D)) _ _ _
      have kp₂ : ∀ b o, s.heap.get? b = some o → h₂.get? b = some o := fun b o e => by
        exact one (bI (Heap.lt_size e)) (kp _ _ e)
      refine wpAny_assign_Name (store_fr (h₀ := h₀) hk kt hL (m := m) (fc.fr.keeps kp₂) fun h₃ F₃ sb₃ => ?_)
      refine ⟨m', (hn.at' fun o e => one (Ne.symm eIC) e).sameBut sb₃ (Ne.symm (bC ltL)), fun h₄ sb₄ => h _ D rfl rfl ⟨⟨?_, fun b o e => ?_, F₃.above⟩, ?_, fc.ne, fc.fresh⟩ ?_ ?_⟩
      · obtain ⟨o, es, ep, ho, r⟩ := F₃.ns
        exact ⟨o, es, ep, sb₄.extBut _ _ (bC ltL) ho, r⟩
      · exact sb₄.extBut _ _ (bC (Heap.lt_size (fc.fr.keep _ _ e))) (F₃.keep _ _ e)
      · obtain ⟨o, ho, hd⟩ := fc.cell
        exact ⟨o, sb₄.extBut _ _ (bC ltc) (sb₃.extBut _ _ fc.ne (kp₂ _ _ ho)), hd⟩
      · cases q : h₀.get? D with
        | none => rfl
        | some o => exact absurd rfl (bD (Heap.lt_size (fc.fr.keep _ _ q)))
      · rw [← bitsN3]
        exact setOf_at hS' fun o e => sb₄.extBut _ _ eDC (sb₃.extBut _ _ (Ne.symm (bD ltL)) (one (Ne.symm eID) e))
  exact setc_start loop (W.self 0 _ _ _ hI loop)
end
end Mine
end
section
open PySem PySem.W PySem.W.X PyProof.Rows PySem.Calls PySem.Spec
namespace Mine
set_option maxRecDepth 100000
theorem sText_eq : Str.ofString "text" = sText := by decide +kernel
theorem qc_makes (P : Params) : makesIn (KK P) 179 = true := by kernel_rfl
theorem qc_init (P : Params) : findIn (KK P) (.ref 179) "__init__" = some (some (.ref 120)) := by kernel_rfl
theorem qc_ift (P : Params) : typeIn (KK P) (.ref 120) = some (.type "function") := by kernel_rfl
theorem qc_sa (P : Params) : findIn (KK P) (.ref 179) "__setattr__" = some (some (.builtin "object.__setattr__")) := by kernel_rfl
theorem qc_po (P : Params) : plainOver (KK P) 179 = true := by kernel_rfl
theorem qc_tk (P : Params) : takerIn (KK P) 179 "text" = some none := by kernel_rfl
theorem qc_hd (P : Params) : hasDictIn (KK P) 179 = true := by kernel_rfl
def qiscope : Scope := { kind := .function, names := [("self", .local), ("text_or_uri", .local), ("tag", .local)], isGenerator := false, isCoroutine := false, more := [] }
theorem qc_fn (P : Params) : ∃ o fd blk p0 p1 p2 p3 p4 p5, (KK P).lookup 120 = some o ∧ o.data = .func fd ∧ fd.body = .stmts [.If (.Name "tag" p0) blk [] p1, .Assign [.Attribute (.Name "self" p2) "text" p3] (.Name "text_or_uri" p4) p5] ∧ fd.scope = qiscope ∧
    (∀ v u S, peek (KK P) S (bindArgs fd ⟨[v, u], []⟩) = some [(("self" : Str), v), (("text_or_uri" : Str), u), (("tag" : Str), .none)]) ∧ codeIn (KK P) fd.code fd.qualname = true := ⟨_, _, _, _, _, _, _, _, _, rfl, rfl, rfl, rfl, fun _ _ _ => by kernel_rfl, by kernel_rfl⟩
section
variable {w : World} {A : Around} {s : Shared}
set_option maxHeartbeats 1000000 in
/-- QName(v): its one attribute is v -/
theorem q_make {v : Value} (ht : handedIn v = true) (X : (KK w.params).In s.heap) (hlim : s.heap.NoLimit) (hdp : A.depth < 900) : wpAny (M0 w) A (call (.ref 179) [v]) (Kept s fun u h' => QInst h' u v) (fun _ _ => False) s := by
  obtain ⟨h, g, d, tk, os⟩ := s
  refine wpAny_call (make_core (makes_of X (qc_makes _)) (looks_findIn X (qc_init _)) (fun self => bind_fn X self (qc_ift _)) (.inl rfl) ?_)
  have k2 : ∀ b o, h.get? b = some o → ((h.push emptyDict).push (instObj 179 h.objs.size)).get? b = some o := fun b o e => Heap.get?_push_of_some _ (Heap.get?_push_of_some _ e)
  have hx : ((h.push emptyDict).push (instObj 179 h.objs.size)).get? (h.objs.size + 1) = some (instObj 179 h.objs.size) := by have := Heap.get?_push_size (o := instObj 179 h.objs.size) (h.push emptyDict) rfl; rwa [Heap.size_push] at this
  have hdx : ((h.push emptyDict).push (instObj 179 h.objs.size)).get? h.objs.size = some (dictOf [] 0) := Heap.get?_push_of_some _ (Heap.get?_push_size _ rfl)
  have z2 : ((h.push emptyDict).push (instObj 179 h.objs.size)).objs.size = h.objs.size + 2 := by rw [Heap.size_push, Heap.size_push]
  generalize (h.push emptyDict).push (instObj 179 h.objs.size) = h2 at k2 hx hdx z2 ⊢
  obtain ⟨o, fd, blk, p0, p1, p2, p3, p4, p5, ho, hd, hb, hsc, hbind, hcd⟩ := qc_fn w.params
  have hsn : fd.scope.names = qiscope.names := by rw [hsc]
  refine codeAny_call_function (fd := fd) (by show _ < 1000; rw [depth_under_kw]; omega) (k2 _ _ (X _ _ ho)) hd (by rw [hsc]; rfl) (by rw [hsc]; rfl) hb ((codeRec_of X hcd).keeps k2) ?_
  refine kp_binds (K := KK w.params) (X.keeps k2) (hbind (.ref (h.objs.size + 1)) v) _ _ _ _ ?_
  refine (wpAny_newFunctionEnv (by rw [hsn]; decide) (by rw [hsn]; exact locs (scope := qiscope) rfl) (fun h₁ hns hsb => ⟨(hlim.keeps k2).fresh _ hsb, ?_⟩) (by rw [hsc]; rfl))
  dsimp only at hns hsb ⊢
  have k3 : ∀ b o, h2.get? b = some o → h₁.get? b = some o := fun b o e => hsb.extBut b o (Nat.ne_of_lt (Heap.lt_size e)) (Heap.get?_push_of_some _ e)
  refine codeAny_func ?_
  generalize henv : newEnv _ h2.objs.size _ _ _ _ _ _ _ = env
  have hk : ∀ x, env.kindOf x = qiscope.names.lookup x := fun x => by rw [← henv]; show fd.scope.names.lookup x = _; rw [hsn]
  have kind : env.scope.kind = .function := by rw [← henv]; show fd.scope.kind = _; rw [hsc]; rfl
  have hL : env.locals = h2.objs.size := by rw [← henv]; rfl
  clear henv
  have none₀ : ∀ b, h.objs.size ≤ b → h.get? b = none := fun b hb => Heap.get?_none_of_le hb
  have F : Fr h h2.objs.size h₁ (fun z => [(("self" : Str), Value.ref (h.objs.size + 1)), (("text_or_uri" : Str), v), (("tag" : Str), Value.none)].reverse.lookup z) := ⟨hns, fun b o e => k3 _ _ (k2 _ _ e), by rw [z2]; exact Nat.le_add_right _ _⟩
  have N : News h h2.objs.size h₁ [(h.objs.size + 1, instObj 179 h.objs.size), (h.objs.size, dictOf [] 0)] := by
    intro p hp
    rcases List.mem_cons.mp hp with rfl | hp
    · exact ⟨k3 _ _ hx, by rw [z2]; exact Nat.ne_of_lt (Nat.lt_succ_self _), none₀ _ (Nat.le_succ _)⟩
    · rw [List.mem_singleton.mp hp]
      exact ⟨k3 _ _ hdx, by rw [z2]; exact Nat.ne_of_lt (by omega), none₀ _ (Nat.le_refl _)⟩
  have ns : h₁.Ns env.locals (fun z => [(("self" : Str), Value.ref (h.objs.size + 1)), (("text_or_uri" : Str), v), (("tag" : Str), Value.none)].reverse.lookup z) := by rw [hL]; exact F.ns
  refine wpAny_execs_cons (wpAny_If (isTrue_plain (ev_loc kind (by rw [hk]; decide) (by exact ns) (v := .none) rfl (wpAny_pure ?_))))
  rw [if_neg (by decide)]
  refine wpAny_execs_nil ?_
  refine wpAny_execs_cons (plainObj_wpAny_Assign_Attribute (ev_loc kind (by rw [hk]; decide) (by exact ns) (v := v) rfl (ev_loc kind (by rw [hk]; decide) (by exact ns) (v := .ref (h.objs.size + 1)) rfl ?_)) rfl)
  have I : InstAt h₁ (h.objs.size + 1) (instObj 179 h.objs.size) 179 (some (dictOf [] 0)) := ⟨k3 _ _ hx, rfl, rfl, k3 _ _ hdx⟩
  refine set_dict (F := by exact F) X N I rfl (qc_sa _) (qc_po _) (qc_tk _) (qc_hd _) rfl (es' := [⟨_, _, v⟩]) (n' := 1) rfl (.tail (Nat.ne_of_gt (Nat.lt_succ_self _)) (.head (by intro p hp; cases hp))) (Nat.le_of_ble_eq_true rfl) fun h' F' N' => ?_
  refine wpAny_execs_nil ?_
  have hd' := (N' _ (.tail _ (.head _))).1
  dsimp only at hd'
  rw [sText_eq] at hd'
  exact ⟨rfl, F'.keep, rfl, rfl, ht, _, _, _, _, rfl, (N' _ (.head _)).1, hd'⟩
end
end Mine
end
section
open PySem PySem.W PySem.W.X PyProof.Rows PySem.Calls PySem.Spec
namespace Mine
set_option maxRecDepth 100000
structure SameSet (xs ys : List Int) : Prop where
  mem : ∀ k, k ∈ xs ↔ k ∈ ys
  len : xs.length = ys.length
def BEqv : Bare → Bare → Prop
  | .set xs, .set ys => SameSet xs ys
  | a, b => a = b
theorem BEqv.refl (b : Bare) : BEqv b b := by
  cases b <;> first | rfl | exact ⟨fun _ => Iff.rfl, rfl⟩
def TEqv : Thg → Thg → Prop
  | .bare a, .bare b => BEqv a b
  | .q a, .q b => BEqv a b
  | _, _ => False
theorem TEqv.refl (b : Thg) : TEqv b b := by cases b <;> exact BEqv.refl _
theorem subl_same {xs xs' ys ys' : List Int} (h : SameSet xs xs') (g : SameSet ys ys') : subl xs ys = subl xs' ys' := by
  unfold subl
  rw [Bool.eq_iff_iff, List.all_eq_true, List.all_eq_true]
  simp only [List.contains_eq_mem, decide_eq_true_eq]
  exact ⟨fun a k hk => (g.mem k).mp (a k ((h.mem k).mpr hk)), fun a k hk => (g.mem k).mpr (a k ((h.mem k).mp hk))⟩
theorem setOp_same {xs xs' ys ys' : List Int} (c : CmpOp) (h : SameSet xs xs') (g : SameSet ys ys') : setOp c xs ys = setOp c xs' ys' := by
  unfold setOp
  cases c <;> simp only [subl_same h g, subl_same g h, h.len, g.len]
theorem BEqv.or {a a' : Bare} (h : BEqv a a') : a = a' ∨ ∃ xs xs', a = .set xs ∧ a' = .set xs' ∧ SameSet xs xs' := by
  cases a with
  | set xs =>
    cases a' with
    | set xs' => exact .inr ⟨xs, xs', rfl, rfl, h⟩
    | _ => exact .inl h
  | _ => exact .inl h
theorem R4_same {o : O4} {a a' b b' : Bare} (h : BEqv a a') (g : BEqv b b') : R4 o a b = R4 o a' b' := by
  rcases h.or with rfl | ⟨xs, xs', rfl, rfl, h⟩
  · rcases g.or with rfl | ⟨ys, ys', rfl, rfl, g⟩
    · rfl
    · cases a with
      | set xs => show Res.bool _ = Res.bool _; rw [setOp_same _ ⟨fun _ => Iff.rfl, rfl⟩ g]
      | _ => rfl
  · rcases g.or with rfl | ⟨ys, ys', rfl, rfl, g⟩
    · cases b with
      | set ys => show Res.bool _ = Res.bool _; rw [setOp_same _ h ⟨fun _ => Iff.rfl, rfl⟩]
      | _ => rfl
    · show Res.bool _ = Res.bool _; rw [setOp_same _ h g]
theorem EB_same {a a' b b' : Bare} (h : BEqv a a') (g : BEqv b b') : EB a b = EB a' b' := by
  rcases h.or with rfl | ⟨xs, xs', rfl, rfl, h⟩
  · rcases g.or with rfl | ⟨ys, ys', rfl, rfl, g⟩
    · rfl
    · cases a with
      | set xs => show some _ = some _; rw [setOp_same _ ⟨fun _ => Iff.rfl, rfl⟩ g]
      | _ => rfl
  · rcases g.or with rfl | ⟨ys, ys', rfl, rfl, g⟩
    · cases b with
      | set ys => show some _ = some _; rw [setOp_same _ h ⟨fun _ => Iff.rfl, rfl⟩]
      | _ => rfl
    · show some _ = some _; rw [setOp_same _ h g]
theorem bn_same {a a' : Bare} (h : BEqv a a') : bn a = bn a' := by
  rcases h.or with rfl | ⟨xs, xs', rfl, rfl, h⟩ <;> rfl
theorem RQ_same {a a' : Bare} (h : BEqv a a') : RQ a = RQ a' := by
  rcases h.or with rfl | ⟨xs, xs', rfl, rfl, h⟩ <;> rfl
theorem core_same {a a' : Thg} (h : TEqv a a') : BEqv a.core a'.core := by
  cases a <;> cases a' <;> first | exact h.elim | exact h
theorem R0_same {o : O4} {a a' b b' : Thg} (h : TEqv a a') (g : TEqv b b') : R0 o a b = R0 o a' b' := by
  cases a <;> cases a' <;> first | exact h.elim | skip
  · cases b <;> cases b' <;> first | exact g.elim | skip
    · exact R4_same h g
    · exact RQ_same h
  · rename_i x x'
    show RC o x b.core = RC o x' b'.core
    have c := core_same g
    unfold RC
    rw [bn_same h, bn_same c, R4_same h c, R4_same c h]
theorem E0_same {a a' b b' : Thg} (h : TEqv a a') (g : TEqv b b') : E0 a b = E0 a' b' := by
  unfold E0
  rw [EB_same (core_same h) (core_same g)]
theorem mem_bits {y k : Int} (h : k ∈ bits y) : k = 0 ∨ k = 1 ∨ k = 2 := by
  unfold bits at h
  simp only [List.mem_append] at h
  rcases h with h | h | h <;> split at h <;> simp at h <;> omega
theorem setIs_of {w : World} {h : Heap} {a : Addr} {y : Int} (S : h.SetOf (intKind P0 w) a (fun k => (bits y).contains k) (bits y).length) : ∃ xs, SetIs h (.ref a) xs ∧ SameSet xs (bits y) := by
  obtain ⟨⟨c, d, dat, sl⟩, es, ep, t, ho, ⟨h1, h2, h3⟩, hd, he, hm, hb, hf, hz⟩ := S
  dsimp only at h1 h2 h3 hd
  subst h1 h2 h3 hd
  have inn : ∀ k, k ∈ bits y ↔ ∃ e ∈ es.toList, Value.isInt k e.2 = true := fun k => by
    have := hm k
    simp only [List.contains_eq_mem, decide_eq_true_eq] at this
    exact this
  have el : ∀ e ∈ es.toList, ∃ k tk, e = (k, Value.int k tk) ∧ (k = 0 ∨ k = 1 ∨ k = 2) := fun e hm' => by
    obtain ⟨k, hk, hh⟩ := (he e hm').1
    have hk : Value.isInt k e.2 = true := hk
    have sm := mem_bits ((inn k).mpr ⟨e, hm', hk⟩)
    obtain ⟨e1, e2⟩ := e
    dsimp only at hk hh
    cases e2 <;> first | cases hk | skip
    rename_i i tk _
    obtain rfl : i = k := by simpa [Value.isInt] using hk
    have : e1 = i := by rw [hh]; exact small_hash sm
    exact ⟨i, tk, by rw [this], sm⟩
  have le3 : (bits y).length ≤ 3 := by rw [← bitsN3]; exact bitsN_len 3 y
  refine ⟨_, ⟨a, es, ep, t, rfl, ho, el, rfl, hf, by omega⟩, fun k => ?_, by rw [List.length_map, ← hz]; simp⟩
  rw [inn, List.mem_map]
  constructor
  · rintro ⟨e, hm', rfl⟩
    obtain ⟨k, tk, rfl, _⟩ := el e hm'
    exact ⟨_, hm', by show Value.isInt k (.int k tk) = true; simp [Value.isInt]⟩
  · rintro ⟨e, hm', hi⟩
    obtain ⟨k', tk, rfl, _⟩ := el e hm'
    exact ⟨_, hm', by have hi : Value.isInt k (.int k' tk) = true := hi; simpa [Value.isInt] using hi⟩
end Mine
end
section
open PySem PySem.W PySem.W.X PyProof.Rows PySem.Calls PySem.Spec
namespace Mine
set_option maxRecDepth 100000
section
variable {w : World} {A : Around} {l : List Env} {n : Nat} {E : Value → Shared → Prop} {s : Shared} {h₀ : Heap} {L c : Addr} {m : Str → Option Value} {env : Env}
theorem FC.keeps {h h' : Heap} {v : Option Value} (x : FC h₀ L c h m v) (k : ∀ b o, h.get? b = some o → h'.get? b = some o) : FC h₀ L c h' m v := ⟨x.fr.keeps k, x.cell.keeps k, x.ne, x.fresh⟩
theorem store_fc {v : Option Value} {x : Str} {u : Value} {Q : Unit → Shared → Prop} (hk : env.scope.kind = .function) (hl : env.kindOf x = some .local) (hL : env.locals = L) (f : FC h₀ L c s.heap m v)
    (h : ∀ h' tk, FC h₀ L c h' (fun y => if y = x then some u else m y) v → Heap.SameBut L s.heap h' → Q () { s with heap := h', toks := tk }) : wpAny (M0 w) A (storeName env x u) Q E s :=
  store_fr hk hl hL f.fr fun h' f' sb => h _ _ ⟨f', f.cell.sameBut sb f.ne, f.ne, f.fresh⟩ sb
theorem store_cell {v : Option Value} {x : Str} {u : Value} {Q : Unit → Shared → Prop} (hk : env.scope.kind = .function) (hl : env.kindOf x = some .cell) (hc : env.cells.lookup x = some c) (f : FC h₀ L c s.heap m v)
    (h : ∀ h', FC h₀ L c h' m (some u) → Heap.SameBut c s.heap h' → Q () { s with heap := h' }) : wpAny (M0 w) A (storeName env x u) Q E s := by
  refine wpAny_storeName_cell hk hl hc f.cell fun h' hc' sb => h h' ⟨⟨f.fr.ns.sameBut sb (Ne.symm f.ne), fun b o e => sb.extBut b o (Nat.ne_of_lt (Nat.lt_of_lt_of_le (Heap.lt_size e) f.fresh)) (f.fr.keep b o e), f.fr.above⟩, hc', f.ne, f.fresh⟩ sb
theorem ev_fc {v : Option Value} {x : Str} {pos : Pos} {u : Value} {Q : Value → Shared → Prop} (hk : env.scope.kind = .function) (hl : env.kindOf x = some .local) (hL : env.locals = L) (f : FC h₀ L c s.heap m v) (hv : m x = some u) (h : Q u s) (hd : (x == ("__debug__" : Str)) = false := by decide) : wpAny (M0 w) A (eval (.Name x pos) env) Q E s := by
  subst hL
  exact ev_loc hk hl f.fr.ns hv h hd
/-- QName(v), in the frame of `_law_thing` -/
theorem ev_qname {v : Option Value} {x : Value} {p1 p2 p3 : Pos} {Q : Value → Shared → Prop} (F : Facts w h₀) (R : Room A l n) (hn : n ≤ 600) (hx : handedIn x = true) (hk : env.scope.kind = .function) (hg : env.globals = mainGlobals) (kq : env.kindOf "QName" = some .globalImplicit) (kt : env.kindOf "thing" = some .local) (hL : env.locals = L) (f : FC h₀ L c s.heap m v) (hv : m "thing" = some x)
    (h : ∀ u s', FC h₀ L c s'.heap m v → s'.gens = s.gens → s'.os = s.os → (∀ b o, s.heap.get? b = some o → s'.heap.get? b = some o) → QInst s'.heap u x → Q u s') : wpAny (M0 w) A (eval (.Call (.Name "QName" p1) [.Name "thing" p2] [] p3) env) Q E s := by
  refine wpAny_Call_ofName (ev_glob F f.fr.keep hk hg kq (v := .ref 179) (by kernel_rfl) ?_)
  refine callWith_any (P := fun h => h₀.StaysIn h) (fun h e => keeps_K (K := KK w.params) (by kernel_rfl) h (F.K.keeps e)) rfl ?_
  show wpAny _ _ (spliced (backTo p3 (starEach [.Name "thing" p2] env))) _ _ _
  refine args_cons (ev_fc hk kt hL f hv (args_nil ⟨f.fr.keep, ?_⟩))
  exact wpAny_mono (q_make hx (F.K.keeps f.fr.keep) (F.lim.keeps f.fr.keep) (by have := R.depth; omega)) (fun u s' z => h u s' (f.keeps z.keep) z.gens z.os z.keep z.val) fun _ _ z => z.elim
end
def tscope : Scope := { kind := .function, names := [("key", .local), ("mark", .local), ("kind", .local), ("y", .cell), ("wrapped", .local), ("thing", .local), ("range", .globalImplicit), ("QName", .globalImplicit)], isGenerator := false, isCoroutine := false, more := [("fast", .str "key"), ("fast", .str "mark"), ("fast", .str "kind"), ("fast", .str "y"), ("fast", .str "wrapped"), ("fast", .str "thing"), ("fast", .str "place")] }
section
variable {w : World} {A : Around} {l : List Env} {n : Nat} {s : Shared}
theorem isB_keeps {h h' : Heap} {v : Value} {b : Bare} (k : ∀ b o, h.get? b = some o → h'.get? b = some o) (x : IsB h v b) : IsB h' v b := by
  cases b with
  | set xs => obtain ⟨a, es, ep, t, e, ha, r⟩ := x; exact ⟨a, es, ep, t, e, k _ _ ha, r⟩
  | key y => exact kinst_keeps x k
  | int y => exact x
  | str y => exact x
  | none => exact x
def IsTh (h : Heap) (v : Value) (k : Nat) (y : Int) (wr : Bool) : Prop := ∃ x, IsT h v x ∧ TEqv x (thg k y wr)
theorem four_at (y : Int) (a b c d : Tok) : ∃ tt, (#[Value.str "" a, .str "a" b, .str "ab" c, .str "b" d] : Array Value)[(y % 4).toNat]? = some (.str (strAt (y % 4)) tt) := by
  have h : y % 4 = 0 ∨ y % 4 = 1 ∨ y % 4 = 2 ∨ y % 4 = 3 := by omega
  generalize y % 4 = z at h
  rcases h with rfl | rfl | rfl | rfl <;> exact ⟨_, rfl⟩
set_option maxHeartbeats 1000000 in
theorem th_hand {p : Addr} {kv : Value} {k : Nat} {y : Int} {wr : Bool} {t1 t2 : Tok} (F : Facts w s.heap) (R : Room A l n) (hn : n < 590) (hgn : s.gens = #[]) (hp : IsTup s.heap p #[.int k t1, .int y t2, .bool wr]) (hk : k < 5)
    (kp : ∀ h, s.heap.StaysIn h → ∃ k, (k = Keeper.frame ∨ k = Keeper.machine ∨ k = Keeper.boundFrame) ∧ Looks (M0 w) h (keeperOf kv) k)
    (mk : ∀ {A' : Around} {l' : List Env} {s' : Shared} {t : Tok}, Room A' l' (n + 1) → s.heap.StaysIn s'.heap → s'.gens = #[] → wpAny (M0 w) A' (call kv [.int y t]) (Kept s' fun v h' => KInst h' v y) (fun _ _ => False) s') :
    wpAny (M0 w) A (call (.ref 195) [kv, .ref p]) (Kept s fun v h => IsTh h v k y wr) (fun _ _ => False) s := by
  have hA : A.handled = none := R.handled
  refine wpAny_call (codeAny_call_cells (binds := [(("key" : Str), kv), (("mark" : Str), .ref p)]) (by have := R.depth; show _ < 1000; omega) (F.K _ _ rfl) rfl F.lim (codeRec_of F.K (by kernel_rfl)) rfl rfl rfl (by intro x hx; simp at hx; rcases hx with rfl | rfl <;> exact .inl rfl) (fun s₁ x => ?_))
  generalize hLs : s.heap.objs.size = L at x ⊢
  generalize henv : callEnvC _ L 195 = env at x ⊢
  have hA' : (A.deeper env).handled = none := hA
  have R' := R.deeper env
  have hkd : env.scope.kind = .function := by rw [← henv]; rfl
  have e_loc : env.locals = L := by rw [← henv]; rfl
  have e_gl : env.globals = mainGlobals := by rw [← henv]; rfl
  have e_bl : env.builtins = builtinsNs := by rw [← henv]; rfl
  have e_c : env.cells = [(("y" : Str), L + 1)] := by rw [← henv]; rfl
  have hK : ∀ x, env.kindOf x = tscope.names.lookup x := fun x => by rw [← henv]; rfl
  have hc : env.cells.lookup ("y" : Str) = some (L + 1) := by rw [e_c]; rfl
  have k_mark : env.kindOf "mark" = some .local := by rw [hK]; decide
  have k_key : env.kindOf "key" = some .local := by rw [hK]; decide
  have k_kind : env.kindOf "kind" = some .local := by rw [hK]; decide
  have k_wr : env.kindOf "wrapped" = some .local := by rw [hK]; decide
  have k_th : env.kindOf "thing" = some .local := by rw [hK]; decide
  have k_y : env.kindOf "y" = some .cell := by rw [hK]; decide
  have k_r : env.kindOf "range" = some .globalImplicit := by rw [hK]; decide
  have k_q : env.kindOf "QName" = some .globalImplicit := by rw [hK]; decide
  have f₁ : ∃ m₁ : Str → Option Value, FC s.heap L (L + 1) s₁.heap m₁ none ∧ m₁ "mark" = some (.ref p) ∧ m₁ "key" = some kv := by
    have xc := x.cell "y" (L + 1) hc
    have xn := x.toInCall.ns
    rw [e_loc] at xn
    refine ⟨_, ⟨⟨xn, x.toInCall.keep, by rw [hLs]; exact Nat.le_refl _⟩, ?_, Nat.succ_ne_self L, by rw [hLs]; exact Nat.le_succ _⟩, by rw [← henv]; rfl, by rw [← henv]; rfl⟩
    have : bindC env.kindOf [(("key" : Str), kv), (("mark" : Str), .ref p)] (fun _ => none) "y" = none := by rw [← henv]; rfl
    rw [this] at xc
    exact xc
  have hs₁ : s₁.gens = s.gens ∧ s₁.os = s.os := by
    obtain ⟨h', tk, e⟩ := x.toInCall.same
    rw [e]
    exact ⟨rfl, rfl⟩
  clear x
  obtain ⟨m₁, f₁, em, ekey⟩ := f₁
  refine wpAny_execs_cons (Assign_Tuple (ev_fc hkd k_mark e_loc f₁ em ?_) rfl rfl)
  refine assign_Tuple_tuple hA' (hp.keeps f₁.fr.keep) rfl rfl fun h₂ he₂ => ?_
  have f₂ := f₁.keeps fun b o e => he₂ b o (Nat.ne_of_lt (Heap.lt_size e)) e
  show wpAny _ _ (assignInOrder [assign (.Name _ _) env, assign (.Name _ _) env, assign (.Name _ _) env] [_, _, _]) _ _ _
  refine assignInOrder_cons (wpAny_assign_Name (store_fc hkd k_kind e_loc (by exact f₂) fun h₃ tk₃ f₃ _ => ?_))
  refine assignInOrder_cons (wpAny_assign_Name (store_cell hkd k_y hc (by exact f₃) fun h₄ f₄ _ => ?_))
  refine assignInOrder_cons (wpAny_assign_Name (store_fc hkd k_wr e_loc (by exact f₄) fun h₅ tk₅ f₅ _ => ?_))
  refine assignInOrder_nil ?_
  have f₆ : ∃ m₆ : Str → Option Value, FC s.heap L (L + 1) h₅ m₆ (some (.int y t2)) ∧ m₆ "kind" = some (.int k t1) ∧ m₆ "wrapped" = some (.bool wr) ∧ m₆ "key" = some kv := ⟨_, f₅, rfl, rfl, by show (if _ then _ else if _ then _ else _) = _; rw [if_neg (by decide), if_neg (by decide)]; exact ekey⟩
  clear f₅
  obtain ⟨m₆, f₆, ek, ew, ekey'⟩ := f₆
  have ret : ∀ {s' : Shared} {m' : Str → Option Value} {tv : Value} {b : Bare}, s'.gens = s₁.gens → s'.os = s₁.os → FC s.heap L (L + 1) s'.heap m' (some (.int y t2)) → m' "thing" = some tv → m' "wrapped" = some (.bool wr) → handedIn tv = true → IsB s'.heap tv b → BEqv b (core k y) → ∀ {p1 p2 p3 p4 p5 p6 p7 : Pos} {E : Value → Shared → Prop},
      wpAny (M0 w) (A.deeper env) (execs [.Return (some (.IfExp (.Name "wrapped" p1) (.Call (.Name "QName" p2) [.Name "thing" p3] [] p4) (.Name "thing" p5) p6)) p7] env)
        (fun fl s' => Kept s (fun v h => IsTh h v k y wr) (match fl with | .ret v => v | _ => .none) s') E s' := by
    intro s' m' tv b e1 e2 f' et ew' hin hb hv
    intros
    refine wpAny_execs_cons (wpAny_Return_some (wpAny_IfExp (isTrue_plain (ev_fc hkd k_wr e_loc f' ew' (wpAny_truthy_bool ?_)))))
    cases wr with
    | false =>
      rw [if_neg (by decide)]
      exact ev_fc hkd k_th e_loc f' et ⟨f'.fr.keep, by rw [e1, hs₁.1], by rw [e2, hs₁.2], .bare b, hb, hv⟩
    | true =>
      rw [if_pos rfl]
      refine ev_qname F R' (by omega) hin hkd e_gl k_q k_th e_loc f' et fun u s'' f'' e3 e4 kk hq => ?_
      exact ⟨f''.fr.keep, by rw [e3, e1, hs₁.1], by rw [e4, e2, hs₁.2], .q b, ⟨_, hq, isB_keeps kk hb⟩, hv⟩
  have evy : ∀ {s' : Shared} {pos : Pos} {Q E : Value → Shared → Prop}, FC s.heap L (L + 1) s'.heap m₆ (some (.int y t2)) → Q (.int y t2) s' → wpAny (M0 w) (A.deeper env) (eval (.Name "y" pos) env) Q E s' := fun f' h => wpAny_Name (wpAny_loadName_cell hkd k_y hc (by exact f'.cell) h) (by decide)
  have kc : k = 0 ∨ k = 1 ∨ k = 2 ∨ k = 3 ∨ k = 4 := by omega
  clear hk
  rcases kc with rfl | rfl | rfl | rfl | rfl
  · refine wpAny_execs_cons (wpAny_If (wpAny_isTrue_Compare1 (ev_fc hkd k_kind e_loc (by exact f₆) ek (ev_int (P.eq_int (wpAny_truthy_bool ?_))))))
    rw [if_pos (by decide)]
    refine wpAny_execs_cons (wpAny_Assign_Name (evy (by exact f₆) ?_) rfl)
    refine store_fc hkd k_th e_loc (by exact f₆) fun h₈ tk₈ f₈ sb => ?_
    exact wpAny_execs_nil (ret (m' := fun z => if z = ("thing" : Str) then some (Value.int y t2) else m₆ z) (by rfl) (by rfl) f₈ rfl ew rfl (b := .int y) ⟨_, rfl⟩ rfl)
  · refine wpAny_execs_cons (wpAny_If (wpAny_isTrue_Compare1 (ev_fc hkd k_kind e_loc (by exact f₆) ek (ev_int (P.eq_int (wpAny_truthy_bool ?_))))))
    rw [if_neg (by decide)]
    refine wpAny_execs_cons (wpAny_If (wpAny_isTrue_Compare1 (ev_fc hkd k_kind e_loc (by exact f₆) ek (ev_int (P.eq_int (wpAny_truthy_bool ?_))))))
    rw [if_pos (by decide)]
    refine wpAny_execs_cons (wpAny_Assign_Name (Subscript_ (List_ ?_)) rfl)
    refine args_cons (wpAny_Constant_str (args_cons (wpAny_Constant_str (args_cons (wpAny_Constant_str (args_cons (wpAny_Constant_str (args_nil ?_))))))))
    refine wpAny_newList ?_ (by rw [sizeLine_eq]; simp)
    dsimp only
    generalize hTT : Heap.push _ _ = TT
    have kpT : ∀ b o, h₅.get? b = some o → TT.get? b = some o := fun b o e => by rw [← hTT]; exact Heap.get?_push_of_some _ e
    obtain ⟨ta, tb, tc, td, isl⟩ : ∃ ta tb tc td : Tok, TT.IsList h₅.objs.size #[Value.str "" ta, .str "a" tb, .str "ab" tc, .str "b" td] := ⟨_, _, _, _, _, by rw [← hTT]; exact Heap.get?_push_size _ rfl, rfl, _, rfl⟩
    clear hTT
    have fT : FC s.heap L (L + 1) TT m₆ (some (.int y t2)) := f₆.keeps kpT
    refine wpAny_BinOp (evy (by exact fT) (ev_int (mod_c (by decide) ?_)))
    obtain ⟨tt, ht⟩ := four_at y ta tb tc td
    refine sub_tail (Heap.IsList.typeIs (by exact isl)) slot_list_getitem.lookup (wpAny_getItem_list (by exact isl) (by omega) (by omega) ht ?_) (by with_unfolding_all rfl)
    refine store_fc hkd k_th e_loc (by exact fT) fun h₈ tk₈ f₈ sb => ?_
    exact wpAny_execs_nil (wpAny_execs_nil (ret (m' := fun z => if z = ("thing" : Str) then some (Value.str (strAt (y % 4)) tt) else m₆ z) (by rfl) (by rfl) f₈ rfl ew rfl (b := .str (strAt (y % 4))) ⟨_, rfl⟩ rfl))
  · refine wpAny_execs_cons (wpAny_If (wpAny_isTrue_Compare1 (ev_fc hkd k_kind e_loc (by exact f₆) ek (ev_int (P.eq_int (wpAny_truthy_bool ?_))))))
    rw [if_neg (by decide)]
    refine wpAny_execs_cons (wpAny_If (wpAny_isTrue_Compare1 (ev_fc hkd k_kind e_loc (by exact f₆) ek (ev_int (P.eq_int (wpAny_truthy_bool ?_))))))
    rw [if_neg (by decide)]
    refine wpAny_execs_cons (wpAny_If (wpAny_isTrue_Compare1 (ev_fc hkd k_kind e_loc (by exact f₆) ek (ev_int (P.eq_int (wpAny_truthy_bool ?_))))))
    rw [if_pos (by decide)]
    refine wpAny_execs_cons (set_assign hA' F (by exact f₆) hkd e_loc e_gl e_bl hc k_r k_th k_y ?sw ?cl (fun s' a e1 e2 f' hnone hS => ?_))
    case sw => rw [← henv]; rfl
    case cl => rw [← henv]; rfl
    refine wpAny_execs_nil (wpAny_execs_nil (wpAny_execs_nil ?_))
    obtain ⟨xs, hx, hsm⟩ := setIs_of hS
    exact ret e1 e2 f' rfl ew rfl (b := .set xs) hx hsm
  · refine wpAny_execs_cons (wpAny_If (wpAny_isTrue_Compare1 (ev_fc hkd k_kind e_loc (by exact f₆) ek (ev_int (P.eq_int (wpAny_truthy_bool ?_))))))
    rw [if_neg (by decide)]
    refine wpAny_execs_cons (wpAny_If (wpAny_isTrue_Compare1 (ev_fc hkd k_kind e_loc (by exact f₆) ek (ev_int (P.eq_int (wpAny_truthy_bool ?_))))))
    rw [if_neg (by decide)]
    refine wpAny_execs_cons (wpAny_If (wpAny_isTrue_Compare1 (ev_fc hkd k_kind e_loc (by exact f₆) ek (ev_int (P.eq_int (wpAny_truthy_bool ?_))))))
    rw [if_neg (by decide)]
    refine wpAny_execs_cons (wpAny_Assign_Name (wpAny_IfExp (wpAny_isTrue_Compare1 (ev_fc hkd k_kind e_loc (by exact f₆) ek (ev_int (P.eq_int (wpAny_truthy_bool ?_)))))) rfl)
    rw [if_pos (by decide)]
    refine wpAny_Constant_none ?_
    refine store_fc hkd k_th e_loc (by exact f₆) fun h₈ tk₈ f₈ sb => ?_
    exact wpAny_execs_nil (wpAny_execs_nil (wpAny_execs_nil (ret (m' := fun z => if z = ("thing" : Str) then some Value.none else m₆ z) (by rfl) (by rfl) f₈ rfl ew rfl (b := .none) rfl rfl)))
  · refine wpAny_execs_cons (wpAny_If (wpAny_isTrue_Compare1 (ev_fc hkd k_kind e_loc (by exact f₆) ek (ev_int (P.eq_int (wpAny_truthy_bool ?_))))))
    rw [if_neg (by decide)]
    refine wpAny_execs_cons (wpAny_If (wpAny_isTrue_Compare1 (ev_fc hkd k_kind e_loc (by exact f₆) ek (ev_int (P.eq_int (wpAny_truthy_bool ?_))))))
    rw [if_neg (by decide)]
    refine wpAny_execs_cons (wpAny_If (wpAny_isTrue_Compare1 (ev_fc hkd k_kind e_loc (by exact f₆) ek (ev_int (P.eq_int (wpAny_truthy_bool ?_))))))
    rw [if_neg (by decide)]
    refine wpAny_execs_cons (wpAny_Assign_Name (wpAny_IfExp (wpAny_isTrue_Compare1 (ev_fc hkd k_kind e_loc (by exact f₆) ek (ev_int (P.eq_int (wpAny_truthy_bool ?_)))))) rfl)
    rw [if_neg (by decide)]
    refine wpAny_Call_ofName (ev_fc hkd k_key e_loc (by exact f₆) ekey' ?_)
    refine callWith_any (P := fun h => s.heap.StaysIn h) kp rfl ?_
    refine spliced_cons (wpAny_Name (wpAny_loadName_cell hkd k_y hc (by exact f₆.cell) (spliced_nil ⟨f₆.fr.keep, ?_⟩)) (by decide))
    refine wpAny_mono (mk R' (by exact f₆.fr.keep) (by show s₁.gens = _; rw [hs₁.1, hgn])) (fun v s' z => ?_) fun _ _ z => z.elim
    obtain ⟨a, t, dx, rfl, ha, hdx⟩ := z.val
    have f₇ := f₆.keeps z.keep
    refine store_fc hkd k_th e_loc f₇ fun h₈ tk₈ f₈ sb => ?_
    refine wpAny_execs_nil (wpAny_execs_nil (wpAny_execs_nil ?_))
    obtain ⟨oL, es, ep, hoL, hdL, hcL⟩ := f₇.fr.ns
    refine ret (m' := fun z => if z = ("thing" : Str) then some (Value.ref a) else m₆ z) (by show s'.gens = _; rw [z.gens]) (by show s'.os = _; rw [z.os]) f₈ rfl ew rfl (b := .key y) ⟨a, t, dx, rfl, sb.extBut _ _ (fun q => ?_) ha, sb.extBut _ _ (fun q => ?_) hdx⟩ rfl
    · rw [q, hoL] at ha
      cases ha
      cases hdL
    · rw [q, hoL] at hdx
      cases hdx
      cases hdL
      have e1 := hcL.2 "kind"
      rw [ek] at e1
      have e0 : nsFind #[] ("kind" : Str) = none := rfl
      rw [e0] at e1
      cases e1
end
end Mine
end
section
open PySem PySem.W PySem.W.X PyProof.Rows PySem.Calls PySem.Spec
namespace Mine
set_option maxRecDepth 100000
section
variable {w : World} {A : Around} {l : List Env} {n : Nat} {s : Shared}
theorem thing_call {p : Addr} {kv : Value} {k : Nat} {y : Int} {wr : Bool} {t1 t2 : Tok} (F : Facts w s.heap) (R : Room A l n) (hn : n < 590) (hgn : s.gens = #[]) (hp : IsTup s.heap p #[.int k t1, .int y t2, .bool wr]) (hk : k < 5)
    (kp : ∀ h, s.heap.StaysIn h → ∃ k, (k = Keeper.frame ∨ k = Keeper.machine ∨ k = Keeper.boundFrame) ∧ Looks (M0 w) h (keeperOf kv) k)
    (mk : ∀ {A' : Around} {l' : List Env} {s' : Shared} {t : Tok}, Room A' l' (n + 1) → s.heap.StaysIn s'.heap → s'.gens = #[] → wpAny (M0 w) A' (call kv [.int y t]) (Kept s' fun v h' => KInst h' v y) (fun _ _ => False) s') :
    wpAny (M0 w) A (call (.ref 195) [kv, .ref p]) (Kept s fun v h => IsTh h v k y wr) (fun _ _ => False) s := by
  exact th_hand F R hn hgn hp hk kp mk
end
end Mine
end
section
open PySem PySem.W PySem.W.X PyProof.Rows PySem.Calls PySem.Spec
namespace Mine
set_option maxRecDepth 100000
def lawScope : Scope := { kind := .function, names := [("script", .local), ("numbers", .local), ("key", .local), ("marks", .local), ("twelve", .local), ("j", .local), ("kind", .local), ("y", .local), ("wrapped", .local), ("others", .local), ("other", .local), ("left", .local), ("right", .local), ("outcome", .local), ("made", .local), ("name", .local), ("root", .local), ("said", .local), ("due", .local), ("cmp_to_key", .globalImplicit), ("_law_twelve", .globalImplicit), ("range", .globalImplicit), ("len", .globalImplicit), ("_law_thing", .globalImplicit), ("_law_outcome", .globalImplicit), ("_law_said", .globalImplicit), ("_law_due", .globalImplicit), ("isinstance", .globalImplicit), ("bool", .globalImplicit)], isGenerator := false, isCoroutine := false, more := [("fast", .str "script"), ("fast", .str "numbers"), ("fast", .str "key"), ("fast", .str "x"), ("fast", .str "marks"), ("fast", .str "twelve"), ("fast", .str "j"), ("fast", .str "kind"), ("fast", .str "y"), ("fast", .str "wrapped"), ("fast", .str "others"), ("fast", .str "other"), ("fast", .str "left"), ("fast", .str "right"), ("fast", .str "outcome"), ("fast", .str "made"), ("fast", .str "name"), ("fast", .str "root"), ("fast", .str "said"), ("fast", .str "due")] }
section
variable {w : World} {A : Around} {B : Heap} {l : List Env} {n : Nat} {s : Shared}
theorem ent_does {x : Ent} {v lv rv : Value} {X Y : Thg} (hx : x ∈ ents) (F : Facts w B) (KL : KLaw w B) (L : LamTo B v x.f) (R : Room A l n) (hn : n < 580) (S : Sit B l s) (hl : IsT B lv X) (hr : IsT B rv Y) :
    Does w A B l s (call v [lv, rv]) (outR x.form (R0 x.root X Y) (E0 X Y)) := by
  have go : ∀ {o : Obj} {fd : FuncData} {a : Addr} {f : Str} {root : O4} {form : Bool → Bool → Bool}, LamTo B v f → (KK w.params).lookup a = some o → o.data = .func fd → Twelve a root.attr form → nsIn (KK w.params) mainGlobals f = some (some (.ref a)) → f ≠ "a" ∧ f ≠ "b" → (f == ("__debug__" : Str)) = false →
      Does w A B l s (call v [lv, rv]) (outR form (R0 root X Y) (E0 X Y)) := fun L ho hd T hf hne hdb =>
    lam_call F L R (by omega) S hf ho hd hne hdb fun A' l' s' R' S' => twelve_thg T F KL R' (by omega) S' hl hr
  simp only [ents, List.mem_cons, List.mem_nil_iff, or_false] at hx
  rcases hx with rfl | rfl | rfl | rfl | rfl | rfl | rfl | rfl | rfl | rfl | rfl | rfl
  · exact go L rfl rfl (root := .lt) f_21 (by kernel_rfl) (by decide) (by decide)
  · exact go L rfl rfl (root := .lt) f_28 (by kernel_rfl) (by decide) (by decide)
  · exact go L rfl rfl (root := .lt) f_35 (by kernel_rfl) (by decide) (by decide)
  · exact go L rfl rfl (root := .le) f_42 (by kernel_rfl) (by decide) (by decide)
  · exact go L rfl rfl (root := .le) f_49 (by kernel_rfl) (by decide) (by decide)
  · exact go L rfl rfl (root := .le) f_56 (by kernel_rfl) (by decide) (by decide)
  · exact go L rfl rfl (root := .gt) f_63 (by kernel_rfl) (by decide) (by decide)
  · exact go L rfl rfl (root := .gt) f_70 (by kernel_rfl) (by decide) (by decide)
  · exact go L rfl rfl (root := .gt) f_77 (by kernel_rfl) (by decide) (by decide)
  · exact go L rfl rfl (root := .ge) f_84 (by kernel_rfl) (by decide) (by decide)
  · exact go L rfl rfl (root := .ge) f_91 (by kernel_rfl) (by decide) (by decide)
  · exact go L rfl rfl (root := .ge) f_98 (by kernel_rfl) (by decide) (by decide)
/-- what the law compares: both sides say r -/
theorem same_test {r : Res} {u v : Value} {Q : Bool → Shared → Prop} {E : Value → Shared → Prop} (hu : SaidOk r u) (hv : SaidOk r v) (h : Q false s) : wpAny (M0 w) A (compareOp .NotEq u v) (fun x s' => wpAny (M0 w) A (truthy x) Q E s') E s := by
  have st : ∀ {m : Str} {t t' : Tok}, wpAny (M0 w) A (compareOp .NotEq (.str m t) (.str m t')) (fun x s' => wpAny (M0 w) A (truthy x) Q E s') E s := fun {m t t'} => P.ne_str (wpAny_truthy_bool (by rw [show (m.cps.toList != m.cps.toList) = false by simp]; exact h))
  cases r with
  | bool b =>
    obtain rfl : u = .bool b := hu
    obtain rfl : v = .bool b := hv
    refine ne_bools (wpAny_truthy_bool ?_)
    rw [show (b != b) = false by cases b <;> rfl]
    exact h
  | ni => obtain ⟨t, rfl⟩ := hu; obtain ⟨t', rfl⟩ := hv; exact st
  | at_ => obtain ⟨t, rfl⟩ := hu; obtain ⟨t', rfl⟩ := hv; exact st
  | ty m => obtain ⟨t, rfl⟩ := hu; obtain ⟨t', rfl⟩ := hv; exact st
def isBool : Res → Bool
  | .bool _ => true
  | _ => false
theorem isi_said {r : Res} {u : Value} {Q E : Value → Shared → Prop} (hu : SaidOk r u) (h : ∀ tk, Q (.bool (isBool r)) { s with toks := tk }) : wpAny (M0 w) A (call (.builtin "isinstance") [u, .type "bool"]) Q E s := by
  cases r with
  | bool b => obtain rfl : u = .bool b := hu; exact IsiPair.bool_bool (h s.toks)
  | ni => obtain ⟨t, rfl⟩ := hu; exact IsiPair.str_bool (h _)
  | at_ => obtain ⟨t, rfl⟩ := hu; exact IsiPair.str_bool (h _)
  | ty m => obtain ⟨t, rfl⟩ := hu; exact IsiPair.str_bool (h _)
/-- what the innermost turn has at hand -/
structure Turn (w : World) (B : Heap) (env : Env) (m : Str → Option Value) (x : Ent) (k : Nat) (y : Int) (wr : Bool) (k2 : Nat) (z : Int) (w2 : Bool) : Prop where
  mem : x ∈ ents
  hk1 : k < 5
  hk2 : k2 < 5
  made : ∃ v, m "made" = some v ∧ LamTo B v x.f
  name : ∃ t, m "name" = some (.str (Str.ofString x.nm.sym) t)
  root : ∃ t, m "root" = some (.str (Str.ofString x.root.sym) t)
  left : ∃ v X, m "left" = some v ∧ IsT B v X ∧ TEqv X (thg k y wr)
  right : ∃ v X, m "right" = some v ∧ IsT B v X ∧ TEqv X (thg k2 z w2)
  out : ∃ v, m "outcome" = some v ∧ OutIs w B v (outV k y wr k2 z w2)
theorem turn_body {env : Env} {m : Str → Option Value} {x : Ent} {k k2 : Nat} {y z : Int} {wr w2 : Bool} {p0 p1 p2 p3 p4 p5 p6 p7 p8 p9 p10 p11 p12 p13 p14 p15 p16 p17 p18 p19 p20 p21 p22 p23 p24 p25 p26 p27 p28 p29 : Pos} {d1 : Nat}
    (hK : ∀ x, env.kindOf x = lawScope.names.lookup x) (F : Facts w B) (KL : KLaw w B) (R : Room A (env :: l) n) (hn : n < 570) (I : InF env B l m s) (T : Turn w B env m x k y wr k2 z w2) :
    wpAny (M0 w) A (execs [.Assign [.Name "said" p0] (.Call (.Name "_law_said" p1) [.Name "made" p2, .Name "left" p3, .Name "right" p4] [] p5) p6,
      .Assign [.Name "due" p7] (.Call (.Name "_law_due" p8) [.Name "outcome" p9, .Name "name" p10, .Name "root" p11] [] p12) p13,
      .If (.BoolOp .Or [.Compare (.Name "said" p14) [.NotEq] [.Name "due" p15] p16, .Compare (.Call (.Name "isinstance" p17) [.Name "said" p18, .Name "bool" p19] [] p20) [.NotEq] [.Call (.Name "isinstance" p21) [.Name "due" p22, .Name "bool" p23] [] p24] p25] p26) [.Return (some (.Constant (.bool false) d1 p27)) p28] [] p29] env)
      (fun fl s' => fl = .next ∧ Wf B (env :: l) env.locals s s' ∧ ∃ u v, s'.heap.Ns env.locals (fun z => if z = ("due" : Str) then some v else if z = ("said" : Str) then some u else m z)) (fun _ _ => False) s := by
  obtain ⟨hx, hk, hk2, ⟨mv, em, Lm⟩, ⟨tn, en⟩, ⟨tr, er⟩, ⟨lv, X, el, hX, eX⟩, ⟨rv, Y, erg, hY, eY⟩, ⟨ov, eo, hO⟩⟩ := T
  have hr : outR x.form (R0 x.root X Y) (E0 X Y) = dueR x.nm x.root (outV k y wr k2 z w2) := by rw [R0_same eX eY, E0_same eX eY]; exact (plain_law hk hk2 x hx).symm
  have ks : env.kindOf "said" = some .local := by rw [hK]; decide
  have kd : env.kindOf "due" = some .local := by rw [hK]; decide
  have km : env.kindOf "made" = some .local := by rw [hK]; decide
  have kl : env.kindOf "left" = some .local := by rw [hK]; decide
  have kr : env.kindOf "right" = some .local := by rw [hK]; decide
  have ko : env.kindOf "outcome" = some .local := by rw [hK]; decide
  have kn : env.kindOf "name" = some .local := by rw [hK]; decide
  have kro : env.kindOf "root" = some .local := by rw [hK]; decide
  have ki : env.kindOf "isinstance" = some .globalImplicit := by rw [hK]; decide
  have kb : env.kindOf "bool" = some .globalImplicit := by rw [hK]; decide
  refine wpAny_execs_cons (wpAny_Assign_Name (wpAny_Call_ofName (ev_glob F I.sit.stays I.kind I.g (by rw [hK]; decide) (v := .ref 202) (by kernel_rfl) ?_)) rfl)
  refine callWith_any (P := fun h => B.StaysIn h) (fun h e => keep_fn (e _ _ (F.K 202 _ rfl)) rfl) rfl ?_
  refine spliced_cons (ev_loc I.kind km I.ns em (spliced_cons (ev_loc I.kind kl I.ns el (spliced_cons (ev_loc I.kind kr I.ns erg (spliced_nil ⟨I.sit.stays, ?_⟩))))))
  refine wpAny_mono (said_call F R (by omega) I.sit Lm.keep (fun A' l' s' R' S' => ent_does hx F KL Lm R' (by omega) S' hX hY)) (fun u s₁ ⟨we, hu⟩ => ?_) (fun _ _ z => z.elim)
  rw [hr] at hu
  have I₁ := I.went we
  refine store_loc I.kind ks I.fr I₁.sit I₁.ns fun s₂ wf₂ ns₂ => ?_
  have M₂ : ∃ m₂ : Str → Option Value, s₂.heap.Ns env.locals m₂ ∧ m₂ "outcome" = some ov ∧ m₂ "name" = some (.str (Str.ofString x.nm.sym) tn) ∧ m₂ "root" = some (.str (Str.ofString x.root.sym) tr) ∧ m₂ "said" = some u ∧ m₂ = (fun z => if z = ("said" : Str) then some u else m z) :=
    ⟨_, ns₂, by show (if _ then _ else _) = _; rw [if_neg (by decide)]; exact eo, by show (if _ then _ else _) = _; rw [if_neg (by decide)]; exact en, by show (if _ then _ else _) = _; rw [if_neg (by decide)]; exact er, rfl, rfl⟩
  clear ns₂
  obtain ⟨m₂, ns₂, eo₂, en₂, er₂, es₂, hm₂⟩ := M₂
  refine wpAny_execs_cons (wpAny_Assign_Name (wpAny_Call_ofName (ev_glob F wf₂.sit.stays I.kind I.g (by rw [hK]; decide) (v := .ref 216) (by kernel_rfl) ?_)) rfl)
  refine callWith_any (P := fun h => B.StaysIn h) (fun h e => keep_fn (e _ _ (F.K 216 _ rfl)) rfl) rfl ?_
  refine spliced_cons (ev_loc I.kind ko ns₂ eo₂ (spliced_cons (ev_loc I.kind kn ns₂ en₂ (spliced_cons (ev_loc I.kind kro ns₂ er₂ (spliced_nil ⟨wf₂.sit.stays, ?_⟩))))))
  refine wpAny_mono (due_call F R (by omega) wf₂.sit hO) (fun v s₃ ⟨we₃, hv⟩ => ?_) (fun _ _ z => z.elim)
  refine store_loc I.kind kd I.fr we₃.sit (we₃.slots.ns ns₂) fun s₄ wf₄ ns₄ => ?_
  have M₄ : ∃ m₄ : Str → Option Value, s₄.heap.Ns env.locals m₄ ∧ m₄ "said" = some u ∧ m₄ "due" = some v ∧ m₄ = (fun z => if z = ("due" : Str) then some v else m₂ z) :=
    ⟨_, ns₄, by show (if _ then _ else _) = _; rw [if_neg (by decide)]; exact es₂, rfl, rfl⟩
  clear ns₄
  obtain ⟨m₄, ns₄, es₄, ed₄, hm₄⟩ := M₄
  have wf : Wf B (env :: l) env.locals s s₄ := (we.wf.trans wf₂).trans (we₃.wf.trans wf₄)
  refine wpAny_execs_cons (wpAny_If (isTrue_or (wpAny_isTrue_Compare1 (ev_loc I.kind ks ns₄ es₄ (ev_loc I.kind kd ns₄ ed₄ (same_test hu hv ?_))))))
  rw [if_neg (by decide)]
  refine isTrue_or (wpAny_isTrue_Compare1 (wpAny_Call_ofName (ev_bltn F wf.sit.stays I.kind I.g I.b ki (v := .builtin "isinstance") (by kernel_rfl) (by kernel_rfl) ?_)))
  refine callWith_any (P := fun _ => True) (fun h _ => keep_plain (fun a q => by cases q) h) rfl ?_
  refine spliced_cons (ev_loc I.kind ks ns₄ es₄ (spliced_cons (ev_bltn F wf.sit.stays I.kind I.g I.b kb (v := .type "bool") (by kernel_rfl) (by kernel_rfl) (spliced_nil ⟨trivial, ?_⟩))))
  refine isi_said hu fun tk => ?_
  refine wpAny_Call_ofName (ev_bltn F (by exact wf.sit.stays) I.kind I.g I.b ki (v := .builtin "isinstance") (by kernel_rfl) (by kernel_rfl) ?_)
  refine callWith_any (P := fun _ => True) (fun h _ => keep_plain (fun a q => by cases q) h) rfl ?_
  refine spliced_cons (ev_loc I.kind kd (by exact ns₄) ed₄ (spliced_cons (ev_bltn F (by exact wf.sit.stays) I.kind I.g I.b kb (v := .type "bool") (by kernel_rfl) (by kernel_rfl) (spliced_nil ⟨trivial, ?_⟩))))
  refine isi_said hv fun tk' => ne_bools (wpAny_truthy_bool ?_)
  rw [show ∀ b : Bool, (b != b) = false from fun b => by cases b <;> rfl, if_neg (by decide)]
  refine isTrue_or_nil ?_
  rw [if_neg (by decide)]
  refine wpAny_execs_nil (wpAny_execs_nil ⟨rfl, wf.toks _, u, v, ?_⟩)
  rw [hm₂] at hm₄
  rw [hm₄] at ns₄
  exact ns₄
end
end Mine
end
section
open PySem PySem.W PySem.W.X PyProof.Rows PySem.Calls PySem.Spec
namespace Mine
set_option maxRecDepth 100000
def frs (l : List Env) : List Addr := l.filterMap (·.frame)
/-- the heap without the frames of the stack -/
def hideF (l : List Env) (h : Heap) : Heap := hideAll h (frs l)
theorem frames_hide {B B' h : Heap} : ∀ {l : List Env}, h.FunFrames B l → (∀ a ∈ frs l, B'.get? a = none) → h.FunFrames B' l
  | [], _, _ => trivial
  | env :: rest, ⟨hk, ⟨L', o, hf, hn, ho, hd⟩, hr⟩, hb => by
    have e : frs (env :: rest) = L' :: frs rest := by show List.filterMap _ (env :: rest) = _; rw [List.filterMap_cons, hf]; rfl
    rw [e] at hb
    exact ⟨hk, ⟨L', o, hf, hb _ List.mem_cons_self, ho, hd⟩, frames_hide hr fun a ha => hb a (List.mem_cons_of_mem _ ha)⟩
theorem frames_none {B h : Heap} : ∀ {l : List Env}, h.FunFrames B l → ∀ a ∈ frs l, B.get? a = none
  | [], _, _, h => nomatch h
  | env :: rest, ⟨hk, ⟨L', o, hf, hn, ho, hd⟩, hr⟩, a, ha => by
    have e : frs (env :: rest) = L' :: frs rest := by show List.filterMap _ (env :: rest) = _; rw [List.filterMap_cons, hf]; rfl
    rw [e] at ha
    rcases List.mem_cons.mp ha with rfl | ha
    · exact hn
    · exact frames_none hr a ha
theorem frames_turn {B h h' : Heap} {a : Addr} (hs : Heap.ExtBut a h h') : ∀ {l : List Env}, h.FunFrames B l → a ∉ frs l → h'.FunFrames B l
  | [], _, _ => trivial
  | env :: rest, ⟨hk, ⟨L', o, hf, hn, ho, hd⟩, hr⟩, hb => by
    have e : frs (env :: rest) = L' :: frs rest := by show List.filterMap _ (env :: rest) = _; rw [List.filterMap_cons, hf]; rfl
    rw [e] at hb
    exact ⟨hk, ⟨L', o, hf, hn, hs _ _ (fun q => hb (by rw [← q]; exact List.mem_cons_self)) ho, hd⟩, frames_turn hs hr fun ha => hb (List.mem_cons_of_mem _ ha)⟩
section
variable {w : World} {B B' : Heap} {l : List Env} {s s' : Shared}
theorem Sit.rebase (S : Sit B l s) : Sit (hideF l s.heap) l s := ⟨fun b o e => of_hideAll _ e, frames_hide S.frames fun a ha => hideAll_none _ ha, S.gens⟩
theorem Sit.under (S : Sit B l s) : B.StaysIn (hideF l s.heap) := fun b o e => hideAll_get _ (S.stays b o e) fun hm => by
  rw [frames_none S.frames b hm] at e; cases e
theorem Sit.down (h : B.StaysIn B') (S : Sit B' l s) : Sit B l s := by
  refine ⟨fun b o e => S.stays b o (h b o e), frames_hide S.frames fun a ha => ?_, S.gens⟩
  cases q : B.get? a with
  | none => rfl
  | some o => have := h _ _ q; rw [frames_none S.frames a ha] at this; cases this
theorem Wf.down {L : Addr} (h : B.StaysIn B') (x : Wf B' l L s s') : Wf B l L s s' := ⟨x.sit.down h, x.up, x.os⟩
theorem hidden_get {a : Addr} {o : Obj} (e : s.heap.get? a = some o) (hn : a ∉ frs l) : (hideF l s.heap).get? a = some o := hideAll_get _ e hn
theorem Facts.keeps (F : Facts w B) (h : B.StaysIn B') : Facts w B' := ⟨F.K.keeps h, let ⟨m, g⟩ := F.g; ⟨m, g.keeps h⟩, let ⟨m, g⟩ := F.b; ⟨m, g.keeps h⟩, F.lim.keeps h⟩
theorem LamTo.keeps {v : Value} {f : Str} (L : LamTo B v f) (h : B.StaysIn B') : LamTo B' v f := by
  obtain ⟨a, o, fd, p0, p1, p2, p3, e, ho, r1, r2, r3, r4, r5, r6, r7⟩ := L.at_
  exact ⟨a, o, fd, p0, p1, p2, p3, e, h _ _ ho, r1, r2, r3, r4, r5, r6, r7.keeps h⟩
theorem MyCmp.keeps {v : Value} (L : MyCmp B v) (h : B.StaysIn B') : MyCmp B' v := by
  obtain ⟨a, o, fd, p0, p1, p2, p3, p4, p5, p6, p7, p8, k0, k1, k2, e, ho, r1, r2, r3, r4, r5⟩ := L
  exact ⟨a, o, fd, p0, p1, p2, p3, p4, p5, p6, p7, p8, k0, k1, k2, e, h _ _ ho, r1, r2, r3, r4, r5.keeps h⟩
theorem isT_keeps {v : Value} {x : Thg} (hx : IsT B v x) (h : B.StaysIn B') : IsT B' v x := by
  cases x with
  | bare b => exact isB_keeps h hx
  | q b =>
    obtain ⟨t, ⟨ht, x, d, hs, tk, e, hx, hd⟩, hb⟩ := hx
    exact ⟨t, ⟨ht, x, d, hs, tk, e, h _ _ hx, h _ _ hd⟩, isB_keeps h hb⟩
theorem outIs_keeps {v : Value} {o : OutV} (hx : OutIs w B v o) (h : B.StaysIn B') : OutIs w B' v o := by
  cases o with
  | nokey => exact hx
  | handed => exact hx
  | msg a b => exact hx
  | tab a b => obtain ⟨a, es, ep, sl, e, ha, hd⟩ := hx; exact ⟨a, es, ep, sl, e, h _ _ ha, hd.keep h⟩
/-- one object that is neither the base's nor a frame is turned -/
theorem Sit.turned {a : Addr} {h' : Heap} (S : Sit B l s) (hB : B.get? a = none) (hs : Heap.ExtBut a s.heap h') (hf : a ∉ frs l) : Sit B l { s with heap := h' } :=
  ⟨fun b o e => hs b o (fun q => by rw [q, hB] at e; cases e) (S.stays b o e), frames_turn hs S.frames hf, S.gens⟩
end
end Mine
end
section
open PySem PySem.W PySem.W.X PyProof.Rows PySem.Calls PySem.Spec
namespace Mine
set_option maxRecDepth 100000
theorem frames_some {B h : Heap} : ∀ {l : List Env}, h.FunFrames B l → ∀ a ∈ frs l, ∃ o, h.get? a = some o
  | [], _, _, h => nomatch h
  | env :: rest, ⟨hk, ⟨L', o, hf, hn, ho, hd⟩, hr⟩, a, ha => by
    have e : frs (env :: rest) = L' :: frs rest := by show List.filterMap _ (env :: rest) = _; rw [List.filterMap_cons, hf]; rfl
    rw [e] at ha
    rcases List.mem_cons.mp ha with rfl | ha
    · exact ⟨o, ho⟩
    · exact frames_some hr a ha
structure Twelves (B : Heap) (T : Addr) (items : Array Value) : Prop where
  list : B.IsList T items
  size : items.size = 12
  at_ : ∀ (i : Nat) (x : Ent), ents[i]? = some x → ∃ (p : Addr) (v : Value) (tn tr : Tok), items[i]? = some (.ref p) ∧ IsTup B p #[v, .str (Str.ofString x.nm.sym) tn, .str (Str.ofString x.root.sym) tr] ∧ LamTo B v x.f
section
variable {w : World} {A : Around} {B : Heap} {l : List Env} {n : Nat} {s : Shared}
/-- an iterator (a record) that is neither the base's nor a frame is turned, or things are made -/
theorem Wf.turned {L a : Addr} {s s' : Shared} {h' : Heap} (x : Wf B l L s s') (hB : B.get? a = none) (hs : Heap.ExtBut a s'.heap h') (hf : a ∉ frs l) (hr : ∀ o, s'.heap.get? a = some o → ∃ vs, o.data = .fields vs) (ha : s.heap.get? a = none) : Wf B l L s { s' with heap := h' } := by
  refine ⟨x.sit.turned hB hs hf, fun b o ne e hn => ?_, x.os⟩
  obtain ⟨sl, e'⟩ := x.up b o ne e hn
  refine ⟨sl, hs _ _ (fun q => ?_) e'⟩
  rw [q, ha] at e
  cases e
structure TurnB (w : World) (B : Heap) (m : Str → Option Value) (k : Nat) (y : Int) (wr : Bool) (k2 : Nat) (z : Int) (w2 : Bool) : Prop where
  hk1 : k < 5
  hk2 : k2 < 5
  left : ∃ v X, m "left" = some v ∧ IsT B v X ∧ TEqv X (thg k y wr)
  right : ∃ v X, m "right" = some v ∧ IsT B v X ∧ TEqv X (thg k2 z w2)
  out : ∃ v, m "outcome" = some v ∧ OutIs w B v (outV k y wr k2 z w2)
def five : List Str := ["made", "name", "root", "said", "due"]
set_option maxHeartbeats 1000000 in
theorem for12 {env : Env} {m : Str → Option Value} {T : Addr} {items : Array Value} {k k2 : Nat} {y z : Int} {wr w2 : Bool} {q1 q2 q3 q4 q5 q6 p0 p1 p2 p3 p4 p5 p6 p7 p8 p9 p10 p11 p12 p13 p14 p15 p16 p17 p18 p19 p20 p21 p22 p23 p24 p25 p26 p27 p28 p29 : Pos} {d0 d1 : Nat}
    (hK : ∀ x, env.kindOf x = lawScope.names.lookup x) (F : Facts w B) (KB : ∀ B', B.StaysIn B' → KLaw w B') (R : Room A (env :: l) n) (hn : n < 570) (I : InF env B l m s) (hT : m "twelve" = some (.ref T)) (C : Twelves B T items) (TB : TurnB w B m k y wr k2 z w2) :
    wpAny (M0 w) A (exec (.For (.Tuple [.Name "made" q1, .Name "name" q2, .Name "root" q3] d0 q4) (.Name "twelve" q5) [.Assign [.Name "said" p0] (.Call (.Name "_law_said" p1) [.Name "made" p2, .Name "left" p3, .Name "right" p4] [] p5) p6,
      .Assign [.Name "due" p7] (.Call (.Name "_law_due" p8) [.Name "outcome" p9, .Name "name" p10, .Name "root" p11] [] p12) p13,
      .If (.BoolOp .Or [.Compare (.Name "said" p14) [.NotEq] [.Name "due" p15] p16, .Compare (.Call (.Name "isinstance" p17) [.Name "said" p18, .Name "bool" p19] [] p20) [.NotEq] [.Call (.Name "isinstance" p21) [.Name "due" p22, .Name "bool" p23] [] p24] p25] p26) [.Return (some (.Constant (.bool false) d1 p27)) p28] [] p29] [] q6) env)
      (fun fl s' => fl = .next ∧ Wf B (env :: l) env.locals s s' ∧ ∃ m', s'.heap.Ns env.locals m' ∧ ∀ z, z ∉ five → m' z = m z) (fun _ _ => False) s := by
  have kT : env.kindOf "twelve" = some .local := by rw [hK]; decide
  have km : env.kindOf "made" = some .local := by rw [hK]; decide
  have kn : env.kindOf "name" = some .local := by rw [hK]; decide
  have kr : env.kindOf "root" = some .local := by rw [hK]; decide
  refine wpAny_For (ev_loc I.kind kT I.ns hT ?_)
  have isl : ∀ {h : Heap}, B.StaysIn h → h.IsList T items := fun e => C.list.at fun o q => e _ _ q
  refine wpAny_pyIter_list (isl I.sit.stays) ?_
  have kp : ∀ b o, s.heap.get? b = some o → (s.heap.push { cls := .type "list_iterator", data := .fields #[.ref T, .int 0 0] }).get? b = some o := fun b o e => Heap.get?_push_of_some _ e
  have it₁ : (s.heap.push { cls := .type "list_iterator", data := .fields #[.ref T, .int 0 0] }).IsListIter s.heap.objs.size T 0 := ⟨_, Heap.get?_push_size _ rfl, rfl, rfl⟩
  generalize s.heap.push { cls := .type "list_iterator", data := .fields #[.ref T, .int 0 0] } = h₁ at kp it₁ ⊢
  have hItB : B.get? s.heap.objs.size = none := I.sit.stays.fresh
  have hIt₀ : s.heap.get? s.heap.objs.size = none := Heap.get?_none_of_le (Nat.le_refl _)
  have hItF : s.heap.objs.size ∉ frs (env :: l) := fun hm => by
    obtain ⟨o, ho⟩ := frames_some I.sit.frames _ hm
    rw [hIt₀] at ho; cases ho
  generalize s.heap.objs.size = It at it₁ hItB hItF hIt₀ ⊢
  have wf₁ : Wf B (env :: l) env.locals s { s with heap := h₁ } := (Went.of_keeps (s' := { s with heap := h₁ }) I.sit kp rfl rfl).wf
  have ns₁ : h₁.Ns env.locals m := I.ns.keeps kp
  refine codeAny_forLoop_any (fun k s' => ∃ i m', k = 13 - i ∧ i ≤ 12 ∧ Wf B (env :: l) env.locals s s' ∧ s'.heap.Ns env.locals m' ∧ s'.heap.IsListIter It T i ∧ (∀ z, z ∉ five → m' z = m z)) ?_ 13 ⟨0, m, rfl, by omega, wf₁, ns₁, it₁, fun _ _ => rfl⟩
  rintro k' s' ⟨i, m', rfl, hi, wf, ns, hit, hm⟩
  have rec_ : ∀ o, s'.heap.get? It = some o → ∃ vs, o.data = .fields vs := fun o e => by
    obtain ⟨o', e', _, hd⟩ := hit
    rw [e] at e'; cases e'; exact ⟨_, hd⟩
  by_cases hlt : i < 12
  · obtain ⟨x, hx⟩ : ∃ x, ents[i]? = some x := ⟨_, List.getElem?_eq_getElem (by exact hlt)⟩
    obtain ⟨p, v, tn, tr, hip, htup, hlam⟩ := C.at_ i x hx
    refine wpAny_pyNext_list_item hit (isl wf.sit.stays) hip fun h₂ it₂ sb₂ => ?_
    have wf₂ := wf.turned hItB sb₂.extBut hItF rec_ hIt₀
    have ns₂ : h₂.Ns env.locals m' := ns.extBut sb₂.extBut (fun q => by
      have : env.locals ∈ frs (env :: l) := by show _ ∈ List.filterMap _ (env :: l); rw [List.filterMap_cons, I.fr]; exact List.mem_cons_self
      rw [q] at this; exact hItF this)
    refine wpAny_letOwnedTupleGo_listiter (by exact it₂) ?_
    refine assign_Tuple_tuple R.handled (htup.keeps wf₂.sit.stays) rfl rfl fun h₃ he₃ => ?_
    have kk₃ : ∀ b o, h₂.get? b = some o → h₃.get? b = some o := fun b o e => he₃ b o (Nat.ne_of_lt (Heap.lt_size e)) e
    have wf₃ : Wf B (env :: l) env.locals s { s' with heap := h₃ } := wf₂.trans (Went.of_keeps (s' := { s' with heap := h₃ }) wf₂.sit kk₃ rfl rfl).wf
    have ns₃ : h₃.Ns env.locals m' := ns₂.keeps kk₃
    have u : B.StaysIn (hideF (env :: l) h₃) := wf₃.sit.under
    have S' : Sit (hideF (env :: l) h₃) (env :: l) { s' with heap := h₃ } := wf₃.sit.rebase
    have hItB' : (hideF (env :: l) h₃).IsListIter It T (i + 1) := by
      obtain ⟨o, ho, r⟩ := it₂
      exact ⟨o, hideAll_get _ (kk₃ _ _ ho) hItF, r⟩
    generalize hideF (env :: l) h₃ = B' at u S' hItB'
    show wpAny _ _ (assignInOrder [assign (.Name "made" q1) env, assign (.Name "name" q2) env, assign (.Name "root" q3) env] [v, _, _]) _ _ _
    refine assignInOrder_cons (wpAny_assign_Name (store_loc I.kind km I.fr S' ns₃ fun s₄ wf₄ ns₄ => ?_))
    refine assignInOrder_cons (wpAny_assign_Name (store_loc I.kind kn I.fr wf₄.sit ns₄ fun s₅ wf₅ ns₅ => ?_))
    refine assignInOrder_cons (wpAny_assign_Name (store_loc I.kind kr I.fr wf₅.sit ns₅ fun s₆ wf₆ ns₆ => ?_))
    refine assignInOrder_nil ?_
    have M₆ : ∃ m₆ : Str → Option Value, s₆.heap.Ns env.locals m₆ ∧ m₆ "made" = some v ∧ m₆ "name" = some (.str (Str.ofString x.nm.sym) tn) ∧ m₆ "root" = some (.str (Str.ofString x.root.sym) tr) ∧ ∀ z, z ∉ five → m₆ z = m z := by
      refine ⟨_, ns₆, rfl, rfl, rfl, fun z hz => ?_⟩
      have h1 : z ≠ "made" := fun q => hz (by rw [q]; decide)
      have h2 : z ≠ "name" := fun q => hz (by rw [q]; decide)
      have h3 : z ≠ "root" := fun q => hz (by rw [q]; decide)
      show (if _ then _ else if _ then _ else if _ then _ else _) = _
      rw [if_neg h3, if_neg h2, if_neg h1]
      exact hm z hz
    clear ns₆
    obtain ⟨m₆, ns₆, em, en, er, hm₆⟩ := M₆
    have I₆ : InF env B' l m₆ s₆ := ⟨I.kind, I.fr, I.g, I.b, wf₆.sit, ns₆⟩
    have T₆ : Turn w B' env m₆ x k y wr k2 z w2 := by
      obtain ⟨lv, X, el, hX, eX⟩ := TB.left
      obtain ⟨rv, Y, erg, hY, eY⟩ := TB.right
      obtain ⟨ov, eo, hO⟩ := TB.out
      refine ⟨List.mem_of_getElem? hx, TB.hk1, TB.hk2, ⟨v, em, hlam.keeps u⟩, ⟨tn, en⟩, ⟨tr, er⟩, ⟨lv, X, ?_, isT_keeps hX u, eX⟩, ⟨rv, Y, ?_, isT_keeps hY u, eY⟩, ⟨ov, ?_, outIs_keeps hO u⟩⟩
      · rw [hm₆ _ (by decide)]; exact el
      · rw [hm₆ _ (by decide)]; exact erg
      · rw [hm₆ _ (by decide)]; exact eo
    refine wpAny_mono (turn_body hK (F.keeps u) (KB _ u) R hn I₆ T₆) (fun fl s₇ ⟨e, wf₇, a, b, ns₇⟩ => ?_) fun _ _ z => z.elim
    subst e
    have wfB : Wf B' (env :: l) env.locals { s' with heap := h₃ } s₇ := ((wf₄.trans wf₅).trans wf₆).trans wf₇
    refine ⟨13 - (i + 1), by omega, i + 1, _, rfl, hlt, wf₃.trans (wfB.down u), ns₇, hItB'.at fun o e => wfB.sit.stays _ _ e, fun z hz => ?_⟩
    have h1 : z ≠ "said" := fun q => hz (by rw [q]; decide)
    have h2 : z ≠ "due" := fun q => hz (by rw [q]; decide)
    show (if _ then _ else if _ then _ else _) = _
    rw [if_neg h2, if_neg h1]
    exact hm₆ z hz
  · obtain rfl : i = 12 := by omega
    refine wpAny_pyNext_list_end R.handled hit (isl wf.sit.stays) (by rw [Array.getElem?_eq_none_iff, C.size]; exact Nat.le_refl _) fun h₂ he₂ => ?_
    have wf₂ := wf.turned hItB he₂ hItF rec_ hIt₀
    refine wpAny_execs_nil ⟨rfl, wf₂, m', ns.extBut he₂ (fun q => ?_), hm⟩
    have : env.locals ∈ frs (env :: l) := by show _ ∈ List.filterMap _ (env :: l); rw [List.filterMap_cons, I.fr]; exact List.mem_cons_self
    rw [q] at this; exact hItF this
/-- a statement that does what the innermost loop does -/
def Loop12 (w : World) (A : Around) (env : Env) (loop : Stmt) : Prop := ∀ {B : Heap} {m : Str → Option Value} {T : Addr} {items : Array Value} {k k2 : Nat} {y z : Int} {wr w2 : Bool} {s : Shared}, Facts w B → (∀ B', B.StaysIn B' → KLaw w B') → InF env B [] m s → m "twelve" = some (.ref T) → Twelves B T items → TurnB w B m k y wr k2 z w2 →
  wpAny (M0 w) A (exec loop env) (fun fl s' => fl = .next ∧ Wf B [env] env.locals s s' ∧ ∃ m', s'.heap.Ns env.locals m' ∧ ∀ z, z ∉ five → m' z = m z) (fun _ _ => False) s
end
end Mine
end
section
open PySem PySem.W PySem.W.X PyProof.Rows PySem.Calls PySem.Spec
namespace Mine
set_option maxRecDepth 100000
section
variable {w : World} {A : Around} {B : Heap} {l : List Env} {n : Nat} {s : Shared}
/-- what the law's loops stand on -/
structure Law (w : World) (B : Heap) (m : Str → Option Value) : Prop where
  F : Facts w B
  KB : ∀ B', B.StaysIn B' → KLaw w B'
  key : ∃ kv, m "key" = some kv ∧ (∀ h, B.StaysIn h → ∃ k, (k = Keeper.frame ∨ k = Keeper.machine ∨ k = Keeper.boundFrame) ∧ Looks (M0 w) h (keeperOf kv) k) ∧
    ∀ {A' : Around} {l' : List Env} {n' : Nat} {s' : Shared} {y : Int} {t : Tok}, Room A' l' n' → n' < 800 → B.StaysIn s'.heap → s'.gens = #[] → wpAny (M0 w) A' (call kv [.int y t]) (Kept s' fun v h' => KInst h' v y) (fun _ _ => False) s'
  twelve : ∃ T items, m "twelve" = some (.ref T) ∧ Twelves B T items
def lawNames : List Str := ["key", "twelve"]
theorem ns_text {h : Heap} {L : Addr} {m : Str → Option Value} {kv : Value} {o : Obj} (ns : h.Ns L m) (ek : m "key" = some kv) (ho : h.get? L = some o) : ∃ es ep, o.data = .dict es ep ∧ nsFind es "key" = some kv := by
  obtain ⟨o', es, ep, e, hd, _, hf⟩ := ns
  rw [ho] at e; cases e
  exact ⟨es, ep, hd, by rw [hf]; exact ek⟩
theorem isB_hide {h : Heap} {L : Addr} {m : Str → Option Value} {kv v : Value} {b : Bare} (ns : h.Ns L m) (ek : m "key" = some kv) (x : IsB h v b) : IsB (hideAll h [L]) v b := by
  have ne : ∀ {a : Addr} {o : Obj}, h.get? a = some o → (∀ es ep, o.data = .dict es ep → nsFind es "key" = none) → (hideAll h [L]).get? a = some o := fun {a o} e hn => hideAll_get _ e fun q => by
    obtain rfl : a = L := List.mem_singleton.mp q
    obtain ⟨es, ep, hd, hf⟩ := ns_text ns ek e
    rw [hn _ _ hd] at hf; cases hf
  cases b with
  | set xs => obtain ⟨a, es, ep, t, e, ha, r⟩ := x; exact ⟨a, es, ep, t, e, ne ha (fun _ _ q => by cases q), r⟩
  | key y => obtain ⟨a, t, dx, e, ha, hd⟩ := x; exact ⟨a, t, dx, e, ne ha (fun _ _ q => by cases q), ne hd (fun _ _ q => by cases q; rfl)⟩
  | int y => exact x
  | str y => exact x
  | none => exact x
theorem isT_hide {h : Heap} {L : Addr} {m : Str → Option Value} {kv v : Value} {x : Thg} (ns : h.Ns L m) (ek : m "key" = some kv) (hx : IsT h v x) : IsT (hideAll h [L]) v x := by
  have ne : ∀ {a : Addr} {o : Obj}, h.get? a = some o → (∀ es ep, o.data = .dict es ep → nsFind es "key" = none) → (hideAll h [L]).get? a = some o := fun {a o} e hn => hideAll_get _ e fun q => by
    obtain rfl : a = L := List.mem_singleton.mp q
    obtain ⟨es, ep, hd, hf⟩ := ns_text ns ek e
    rw [hn _ _ hd] at hf; cases hf
  cases x with
  | bare b => exact isB_hide ns ek hx
  | q b =>
    obtain ⟨t, ⟨ht, x, d, hs, tk, e, hx, hd⟩, hb⟩ := hx
    exact ⟨t, ⟨ht, x, d, hs, tk, e, ne hx (fun _ _ q => by cases q), ne hd (fun _ _ q => by cases q; rfl)⟩, isB_hide ns ek hb⟩
/-- marks[j] -/
theorem ev_mark {env : Env} {m : Str → Option Value} {M : Addr} {items : Array Value} {j : Int} {tj : Tok} {v : Value} {p1 p2 p3 : Pos} {Q E : Value → Shared → Prop} (hK : ∀ x, env.kindOf x = lawScope.names.lookup x) (I : InF env B l m s) (hM : m "marks" = some (.ref M)) (hl : B.IsList M items) (hj : m "j" = some (.int j tj)) (h0 : 0 ≤ j) (h1 : j < 2 ^ 63) (hv : items[j.toNat]? = some v) (h : Q v s) :
    wpAny (M0 w) A (eval (.Subscript (.Name "marks" p1) (.Name "j" p2) p3) env) Q E s := by
  have isl : s.heap.IsList M items := hl.at fun o q => I.sit.stays _ _ q
  exact Subscript_ (ev_loc I.kind (by rw [hK]; decide) I.ns hM (ev_loc I.kind (by rw [hK]; decide) I.ns hj (sub_tail isl.typeIs slot_list_getitem.lookup (wpAny_getItem_list isl h0 h1 hv h) (by with_unfolding_all rfl))))
theorem InF.kept {env : Env} {m : Str → Option Value} {P : Value → Heap → Prop} {v : Value} {s s' : Shared} (I : InF env B l m s) (z : Kept s P v s') : InF env B l m s' := I.went (Went.of_keeps I.sit z.keep z.gens z.os)
/-- left, right = (_law_thing(key, marks[j]), _law_thing(key, other)) -/
theorem things {env : Env} {m : Str → Option Value} {M p q : Addr} {items : Array Value} {j : Int} {tj : Tok} {k k2 : Nat} {y z : Int} {wr w2 : Bool} {t1 t2 t3 t4 : Tok} {p0 p1 p2 p3 p4 p5 p6 p7 p8 p9 p10 p11 p12 p13 p14 : Pos} {d0 d1 : Nat} {Q : Flow → Shared → Prop} {E : Value → Shared → Prop}
    (hK : ∀ x, env.kindOf x = lawScope.names.lookup x) (hb : env.blockKind = .function) (W : Law w B m) (R : Room A [env] n) (hn : n < 500) (I : InF env B [] m s) (hM : m "marks" = some (.ref M)) (hl : B.IsList M items) (hj : m "j" = some (.int j tj)) (h0 : 0 ≤ j) (h1 : j < 2 ^ 63) (hv : items[j.toNat]? = some (.ref p))
    (hp : IsTup B p #[.int k t1, .int y t2, .bool wr]) (ho : m "other" = some (.ref q)) (hq : IsTup B q #[.int k2 t3, .int z t4, .bool w2]) (hk : k < 5) (hk2 : k2 < 5)
    (hsw : swapsWithSole [.Tuple [.Name "left" p0, .Name "right" p1] d0 p2] (.Tuple [.Call (.Name "_law_thing" p3) [.Name "key" p4, .Subscript (.Name "marks" p5) (.Name "j" p6) p7] [] p8, .Call (.Name "_law_thing" p9) [.Name "key" p10, .Name "other" p11] [] p12] d1 p13) p14.line env = pure false)
    (hss : swappedStores [.Tuple [.Name "left" p0, .Name "right" p1] d0 p2] (.Tuple [.Call (.Name "_law_thing" p3) [.Name "key" p4, .Subscript (.Name "marks" p5) (.Name "j" p6) p7] [] p8, .Call (.Name "_law_thing" p9) [.Name "key" p10, .Name "other" p11] [] p12] d1 p13) env = pure (some [("left" : Str), ("right" : Str)]))
    (h : ∀ s' B' v1 v2, B.StaysIn B' → (∀ b o, s.heap.get? b = some o → b ∉ frs [env] → B'.get? b = some o) → InF env B' [] (fun x => if x = ("left" : Str) then some v1 else if x = ("right" : Str) then some v2 else m x) s' → IsTh B' v1 k y wr → IsTh B' v2 k2 z w2 → s'.os = s.os → Q .next s') :
    wpAny (M0 w) A (exec (.Assign [.Tuple [.Name "left" p0, .Name "right" p1] d0 p2] (.Tuple [.Call (.Name "_law_thing" p3) [.Name "key" p4, .Subscript (.Name "marks" p5) (.Name "j" p6) p7] [] p8, .Call (.Name "_law_thing" p9) [.Name "key" p10, .Name "other" p11] [] p12] d1 p13) p14) env) Q E s := by
  obtain ⟨kv, ekey, kpk, mk⟩ := W.key
  have kk : env.kindOf "key" = some .local := by rw [hK]; decide
  have ko : env.kindOf "other" = some .local := by rw [hK]; decide
  have kl : env.kindOf "left" = some .local := by rw [hK]; decide
  have kr : env.kindOf "right" = some .local := by rw [hK]; decide
  have kt : env.kindOf "_law_thing" = some .globalImplicit := by rw [hK]; decide
  refine Assign_Tuple_swapped (names := [("left" : Str), ("right" : Str)]) (Tuple_ ?_) hsw hss
  refine args_cons (wpAny_Call_ofName (ev_glob W.F I.sit.stays I.kind I.g kt (v := .ref 195) (by kernel_rfl) ?_))
  refine callWith_any (P := fun h => B.StaysIn h) (fun h e => keep_fn (e _ _ (W.F.K 195 _ rfl)) rfl) rfl ?_
  refine spliced_cons (ev_loc I.kind kk I.ns ekey (spliced_cons (ev_mark hK I hM hl hj h0 h1 hv (spliced_nil ⟨I.sit.stays, ?_⟩))))
  refine wpAny_mono (thing_call (W.F.keeps I.sit.stays) R (by omega) I.sit.gens (hp.keeps I.sit.stays) hk (fun h e => kpk h fun b o q => e b o (I.sit.stays b o q)) fun {A' l' s' t} R' e g => mk R' (by omega) (fun b o q => e b o (I.sit.stays b o q)) g) (fun v1 s₁ z₁ => ?_) fun _ _ z => z.elim
  have I₁ := I.kept z₁
  refine args_cons (wpAny_Call_ofName (ev_glob W.F I₁.sit.stays I.kind I.g kt (v := .ref 195) (by kernel_rfl) ?_))
  refine callWith_any (P := fun h => B.StaysIn h) (fun h e => keep_fn (e _ _ (W.F.K 195 _ rfl)) rfl) rfl ?_
  refine spliced_cons (ev_loc I.kind kk I₁.ns ekey (spliced_cons (ev_loc I.kind ko I₁.ns ho (spliced_nil ⟨I₁.sit.stays, ?_⟩))))
  refine wpAny_mono (thing_call (W.F.keeps I₁.sit.stays) R (by omega) I₁.sit.gens (hq.keeps I₁.sit.stays) hk2 (fun h e => kpk h fun b o q => e b o (I₁.sit.stays b o q)) fun {A' l' s' t} R' e g => mk R' (by omega) (fun b o q => e b o (I₁.sit.stays b o q)) g) (fun v2 s₂ z₂ => ?_) fun _ _ z => z.elim
  have I₂ := I₁.kept z₂
  refine args_nil ?_
  refine wpAny_newTuple ?_ (by rw [sizeLine_eq]; simp)
  have kp₃ : ∀ b o, s₂.heap.get? b = some o → (s₂.heap.push { cls := .type "tuple", data := .seq [v1, v2].toArray }).get? b = some o := fun b o e => Heap.get?_push_of_some _ e
  refine unpackItems_tuple (items := #[v1, v2]) R.handled ⟨_, Heap.get?_push_size _ rfl, rfl, 0, rfl⟩ fun h₄ he₄ => ?_
  have kp₄ : ∀ b o, s₂.heap.get? b = some o → h₄.get? b = some o := fun b o e => he₄ b o (Nat.ne_of_lt (Heap.lt_size (kp₃ b o e))) (kp₃ b o e)
  have I₄ : InF env B [] m { s₂ with heap := h₄ } := I₂.went (Went.of_keeps (s' := { s₂ with heap := h₄ }) I₂.sit kp₄ rfl rfl)
  have ef : frs [env] = [env.locals] := by show List.filterMap _ [env] = _; rw [List.filterMap_cons, I.fr]; rfl
  have u : B.StaysIn (hideF [env] h₄) := I₄.sit.under
  have S' : Sit (hideF [env] h₄) [env] { s₂ with heap := h₄ } := I₄.sit.rebase
  have th1 : IsTh (hideF [env] h₄) v1 k y wr := by
    obtain ⟨X, hX, eX⟩ := z₁.val
    refine ⟨X, ?_, eX⟩
    unfold hideF
    rw [ef]
    exact isT_hide I₄.ns ekey (isT_keeps (isT_keeps hX z₂.keep) kp₄)
  have th2 : IsTh (hideF [env] h₄) v2 k2 z w2 := by
    obtain ⟨X, hX, eX⟩ := z₂.val
    refine ⟨X, ?_, eX⟩
    unfold hideF
    rw [ef]
    exact isT_hide I₄.ns ekey (isT_keeps hX kp₄)
  have old : ∀ b o, s.heap.get? b = some o → b ∉ frs [env] → (hideF [env] h₄).get? b = some o := fun b o e hn => hideAll_get _ (kp₄ _ _ (z₂.keep _ _ (z₁.keep _ _ e))) hn
  show wpAny _ _ (assignInOrder [bindName env "right", bindName env "left"] [v2, v1]) _ _ _
  refine assignInOrder_cons (bindName_ (store_loc I.kind kr I.fr S' I₄.ns fun s₅ wf₅ ns₅ => ?_))
  refine assignInOrder_cons (bindName_ (store_loc I.kind kl I.fr wf₅.sit ns₅ fun s₆ wf₆ ns₆ => ?_))
  refine assignInOrder_nil (h s₆ _ v1 v2 u old ⟨I.kind, I.fr, I.g, I.b, wf₆.sit, ns₆⟩ th1 th2 ?_)
  rw [wf₆.os, wf₅.os]
  show s₂.os = _
  rw [z₂.os, z₁.os]
end
end Mine
end
section
open PySem PySem.W PySem.W.X PyProof.Rows PySem.Calls PySem.Spec
namespace Mine
set_option maxRecDepth 100000
section
variable {w : World} {A : Around} {B : Heap} {n : Nat} {s : Shared}
theorem outIs_hide {h : Heap} {L : Addr} {m : Str → Option Value} {kv v : Value} {o : OutV} (ns : h.Ns L m) (ek : m "key" = some kv) (x : OutIs w h v o) : OutIs w (hideAll h [L]) v o := by
  cases o with
  | nokey => exact x
  | handed => exact x
  | msg a b => exact x
  | tab wi hd =>
    obtain ⟨a, es, ep, sl, e, ha, hdo⟩ := x
    have ne : a ≠ L := fun q => by
      subst q
      obtain ⟨o', es', ep', ho', _, hd', _, hf⟩ := hdo.mapOf
      obtain ⟨es2, ep2, hd2, hf2⟩ := ns_text ns ek ho'
      rw [hd'] at hd2
      cases hd2
      have h1 : nsFind es' "key" = none := by
        have h0 : valueAt (kvT wi hd) "key" = none := rfl
        have h2 := hf "key"
        rw [h0] at h2
        have h3 : (fun (n : Str) (v : Value) => v.isStr n) = (PySem.strKind P0 w).is := by
          funext n v
          cases v <;> first | rfl | (show (_ == _) = _; simp [PySem.strKind, Value.isStrOf, eq_comm])
        show findBy (fun (n : Str) (v : Value) => v.isStr n) es' "key" = none
        rw [h3]
        exact h2
      rw [h1] at hf2
      cases hf2
    have ha' : (hideAll h [L]).get? a = some ⟨.type "dict", none, .dict es ep, sl⟩ := hideAll_get _ ha (by simpa using ne)
    obtain ⟨o', es', ep', ho', r⟩ := hdo
    rw [ha] at ho'
    cases ho'
    exact ⟨a, es, ep, sl, e, ha', _, es', ep', ha', r⟩
def names8 : List Str := ["left", "right", "outcome", "made", "name", "root", "said", "due"]
theorem not_five {z : Str} (h : z ∉ names8) : z ∉ five := fun q => h (List.mem_append_right [("left" : Str), "right", "outcome"] q)
theorem Law.keeps {B' : Heap} {m m' : Str → Option Value} (W : Law w B m) (u : B.StaysIn B') (e1 : m' "key" = m "key") (e2 : m' "twelve" = m "twelve") : Law w B' m' := by
  obtain ⟨kv, ek, kp, mk⟩ := W.key
  obtain ⟨T, items, eT, C⟩ := W.twelve
  refine ⟨W.F.keeps u, fun B'' v => W.KB _ fun b o e => v b o (u b o e), ⟨kv, by rw [e1]; exact ek, fun h e => kp h fun b o q => e b o (u b o q), fun R hn e g => mk R hn (fun b o q => e b o (u b o q)) g⟩, T, items, by rw [e2]; exact eT, C.list.at fun o q => u _ _ q, C.size, fun i x hx => ?_⟩
  obtain ⟨p, v, tn, tr, h1, h2, h3⟩ := C.at_ i x hx
  exact ⟨p, v, tn, tr, h1, h2.keeps u, h3.keeps u⟩
set_option maxHeartbeats 1000000 in
theorem other_body {env : Env} {m : Str → Option Value} {M p q : Addr} {items : Array Value} {j : Int} {tj : Tok} {k k2 : Nat} {y z : Int} {wr w2 : Bool} {t1 t2 t3 t4 : Tok} {a0 a1 a2 a3 a4 a5 a6 a7 a8 a9 a10 a11 a12 a13 a14 b0 b1 b2 b3 b4 b5 b6 b7 : Pos} {d0 d1 : Nat} {loop : Stmt}
    (hK : ∀ x, env.kindOf x = lawScope.names.lookup x) (hb : env.blockKind = .function) (W : Law w B m) (R : Room A [env] n) (hn : n < 500) (I : InF env B [] m s) (hM : m "marks" = some (.ref M)) (hl : B.IsList M items) (hj : m "j" = some (.int j tj)) (h0 : 0 ≤ j) (h1 : j < 2 ^ 63) (hv : items[j.toNat]? = some (.ref p))
    (hp : IsTup B p #[.int k t1, .int y t2, .bool wr]) (ho : m "other" = some (.ref q)) (hq : IsTup B q #[.int k2 t3, .int z t4, .bool w2]) (hk : k < 5) (hk2 : k2 < 5) (hloop : Loop12 w A env loop)
    (hsw : swapsWithSole [.Tuple [.Name "left" a0, .Name "right" a1] d0 a2] (.Tuple [.Call (.Name "_law_thing" a3) [.Name "key" a4, .Subscript (.Name "marks" a5) (.Name "j" a6) a7] [] a8, .Call (.Name "_law_thing" a9) [.Name "key" a10, .Name "other" a11] [] a12] d1 a13) a14.line env = pure false)
    (hss : swappedStores [.Tuple [.Name "left" a0, .Name "right" a1] d0 a2] (.Tuple [.Call (.Name "_law_thing" a3) [.Name "key" a4, .Subscript (.Name "marks" a5) (.Name "j" a6) a7] [] a8, .Call (.Name "_law_thing" a9) [.Name "key" a10, .Name "other" a11] [] a12] d1 a13) env = pure (some [("left" : Str), ("right" : Str)])) :
    wpAny (M0 w) A (execs [.Assign [.Tuple [.Name "left" a0, .Name "right" a1] d0 a2] (.Tuple [.Call (.Name "_law_thing" a3) [.Name "key" a4, .Subscript (.Name "marks" a5) (.Name "j" a6) a7] [] a8, .Call (.Name "_law_thing" a9) [.Name "key" a10, .Name "other" a11] [] a12] d1 a13) a14,
      .Assign [.Name "outcome" b0] (.Call (.Name "_law_outcome" b1) [.Subscript (.Name "marks" b2) (.Name "j" b3) b4, .Name "other" b5] [] b6) b7,
      loop] env)
      (fun fl s' => fl = .next ∧ Wf B [env] env.locals s s' ∧ ∃ m', s'.heap.Ns env.locals m' ∧ ∀ z, z ∉ names8 → m' z = m z) (fun _ _ => False) s := by
  have ef : frs [env] = [env.locals] := by show List.filterMap _ [env] = _; rw [List.filterMap_cons, I.fr]; rfl
  have kou : env.kindOf "outcome" = some .local := by rw [hK]; decide
  have kot : env.kindOf "other" = some .local := by rw [hK]; decide
  refine wpAny_execs_cons (things hK hb W R hn I hM hl hj h0 h1 hv hp ho hq hk hk2 hsw hss fun s₁ B₁ v1 v2 u₁ old₁ I₁ th1 th2 os₁ => ?_)
  have wf₁ : Wf B [env] env.locals s s₁ := ⟨I₁.sit.down u₁, fun b o ne e _ => ⟨o.slots, I₁.sit.stays _ _ (old₁ b o e (by rw [ef]; simpa using ne))⟩, os₁⟩
  have M₁ : ∃ m₁ : Str → Option Value, InF env B₁ [] m₁ s₁ ∧ m₁ "left" = some v1 ∧ m₁ "right" = some v2 ∧ ∀ z, z ∉ names8 → m₁ z = m z := by
    refine ⟨_, I₁, rfl, rfl, fun z hz => ?_⟩
    have h1 : z ≠ "left" := fun q => hz (by rw [q]; decide)
    have h2 : z ≠ "right" := fun q => hz (by rw [q]; decide)
    show (if _ then _ else if _ then _ else _) = _
    rw [if_neg h1, if_neg h2]
  clear I₁
  obtain ⟨m₁, I₁, el, er, hm₁⟩ := M₁
  have W₁ : Law w B₁ m₁ := W.keeps u₁ (hm₁ _ (by decide)) (hm₁ _ (by decide))
  have ek : ∃ kv, m₁ "key" = some kv := let ⟨kv, e, _⟩ := W₁.key; ⟨kv, e⟩
  obtain ⟨kv, ek⟩ := ek
  refine wpAny_execs_cons (wpAny_Assign_Name (wpAny_Call_ofName (ev_glob W₁.F I₁.sit.stays I₁.kind I₁.g (by rw [hK]; decide) (v := .ref 209) (by kernel_rfl) ?_)) rfl)
  refine callWith_any (P := fun h => B₁.StaysIn h) (fun h e => keep_fn (e _ _ (W₁.F.K 209 _ rfl)) rfl) rfl ?_
  refine spliced_cons (ev_mark hK I₁ (by rw [hm₁ _ (by decide)]; exact hM) (hl.at fun o q => u₁ _ _ q) (by rw [hm₁ _ (by decide)]; exact hj) h0 h1 hv (spliced_cons (ev_loc I₁.kind kot I₁.ns (by rw [hm₁ _ (by decide)]; exact ho) (spliced_nil ⟨I₁.sit.stays, ?_⟩))))
  refine wpAny_mono (out_call R.handled (by have := R.depth; omega) (W₁.F.K.keeps I₁.sit.stays) (W₁.F.lim.keeps I₁.sit.stays) ((hp.keeps u₁).keeps I₁.sit.stays) ((hq.keeps u₁).keeps I₁.sit.stays) hk hk2) (fun v s₂ z₂ => ?_) fun _ _ z => z.elim
  have I₂ := I₁.kept z₂
  have u₂ : B₁.StaysIn (hideF [env] s₂.heap) := I₂.sit.under
  have S₂ := I₂.sit.rebase
  have out₂ : OutIs w (hideF [env] s₂.heap) v (outV k y wr k2 z w2) := by
    unfold hideF
    rw [ef]
    exact outIs_hide I₂.ns ek z₂.val
  have old₂ : ∀ b o, s₁.heap.get? b = some o → b ∉ frs [env] → (hideF [env] s₂.heap).get? b = some o := fun b o e hn => hideAll_get _ (z₂.keep _ _ e) hn
  generalize hideF [env] s₂.heap = B₂ at u₂ S₂ out₂ old₂
  refine store_loc I₁.kind kou I₁.fr S₂ I₂.ns fun s₃ wf₃ ns₃ => ?_
  have wf₂ : Wf B₁ [env] env.locals s₁ s₃ := ⟨wf₃.sit.down u₂, fun b o ne e _ => ⟨o.slots, wf₃.sit.stays _ _ (old₂ b o e (by rw [ef]; simpa using ne))⟩, by rw [wf₃.os, z₂.os]⟩
  have M₃ : ∃ m₃ : Str → Option Value, InF env B₂ [] m₃ s₃ ∧ m₃ "left" = some v1 ∧ m₃ "right" = some v2 ∧ m₃ "outcome" = some v ∧ ∀ z, z ∉ names8 → m₃ z = m z := by
    refine ⟨_, ⟨I₁.kind, I₁.fr, I₁.g, I₁.b, wf₃.sit, ns₃⟩, ?_, ?_, rfl, fun z hz => ?_⟩
    · show (if _ then _ else _) = _; rw [if_neg (by decide)]; exact el
    · show (if _ then _ else _) = _; rw [if_neg (by decide)]; exact er
    · have h1 : z ≠ "outcome" := fun q => hz (by rw [q]; decide)
      show (if _ then _ else _) = _
      rw [if_neg h1]
      exact hm₁ z hz
  clear ns₃
  obtain ⟨m₃, I₃, el₃, er₃, eo₃, hm₃⟩ := M₃
  have W₃ : Law w B₂ m₃ := W.keeps (fun b o e => u₂ b o (u₁ b o e)) (hm₃ _ (by decide)) (hm₃ _ (by decide))
  obtain ⟨T, its, eT, C⟩ := W₃.twelve
  obtain ⟨X, hX, eX⟩ := th1
  obtain ⟨Y, hY, eY⟩ := th2
  refine wpAny_execs_cons (wpAny_mono (hloop W₃.F W₃.KB I₃ eT C ⟨hk, hk2, ⟨v1, X, el₃, isT_keeps hX u₂, eX⟩, ⟨v2, Y, er₃, isT_keeps hY u₂, eY⟩, ⟨v, eo₃, out₂⟩⟩) (fun fl s₄ ⟨e, wf₄, m₄, ns₄, hm₄⟩ => ?_) fun _ _ z => z.elim)
  subst e
  refine wpAny_execs_nil ⟨rfl, (wf₁.trans (wf₂.down u₁)).trans (wf₄.down fun b o e => u₂ b o (u₁ b o e)), m₄, ns₄, fun z hz => ?_⟩
  rw [hm₄ z (not_five hz)]
  exact hm₃ z hz
/-- statements that do what the body of the loop over others does -/
def BodyOk (w : World) (A : Around) (env : Env) (body : List Stmt) : Prop := ∀ {B : Heap} {m : Str → Option Value} {M p q : Addr} {items : Array Value} {j : Int} {tj : Tok} {k k2 : Nat} {y z : Int} {wr w2 : Bool} {t1 t2 t3 t4 : Tok} {s : Shared}, Law w B m → InF env B [] m s → m "marks" = some (.ref M) → B.IsList M items → m "j" = some (.int j tj) → 0 ≤ j → j < 2 ^ 63 → items[j.toNat]? = some (.ref p) →
  IsTup B p #[.int k t1, .int y t2, .bool wr] → m "other" = some (.ref q) → IsTup B q #[.int k2 t3, .int z t4, .bool w2] → k < 5 → k2 < 5 → wpAny (M0 w) A (execs body env) (fun fl s' => fl = .next ∧ Wf B [env] env.locals s s' ∧ ∃ m', s'.heap.Ns env.locals m' ∧ ∀ z, z ∉ names8 → m' z = m z) (fun _ _ => False) s
end
end Mine
end
section
open PySem PySem.W PySem.W.X PyProof.Rows PySem.Calls PySem.Spec
namespace Mine
set_option maxRecDepth 100000
section
variable {w : World} {A : Around} {B : Heap} {n : Nat} {s : Shared}
def names9 : List Str := "other" :: names8
theorem not_8 {z : Str} (h : z ∉ names9) : z ∉ names8 := fun q => h (List.mem_cons_of_mem _ q)
structure MarkAt (B : Heap) (m : Str → Option Value) (M : Addr) (items : Array Value) (j : Int) (k : Nat) (y : Int) (wr : Bool) : Prop where
  hM : m "marks" = some (.ref M)
  hl : B.IsList M items
  hj : ∃ tj, m "j" = some (.int j tj)
  h0 : 0 ≤ j
  h1 : j < 2 ^ 63
  hk : k < 5
  at_ : ∃ p t1 t2, items[j.toNat]? = some (.ref p) ∧ IsTup B p #[.int k t1, .int y t2, .bool wr]
theorem MarkAt.keeps {B' : Heap} {m m' : Str → Option Value} {M : Addr} {items : Array Value} {j : Int} {k : Nat} {y : Int} {wr : Bool} (x : MarkAt B m M items j k y wr) (u : B.StaysIn B') (e1 : m' "marks" = m "marks") (e2 : m' "j" = m "j") : MarkAt B' m' M items j k y wr :=
  ⟨by rw [e1]; exact x.hM, x.hl.at fun o q => u _ _ q, by rw [e2]; exact x.hj, x.h0, x.h1, x.hk, let ⟨p, t1, t2, h1, h2⟩ := x.at_; ⟨p, t1, t2, h1, h2.keeps u⟩⟩
def Others (B : Heap) (its : Array Value) : Prop := ∀ (i : Nat) v, its[i]? = some v → ∃ (q : Addr) (k2 : Nat) (z : Int) (w2 : Bool) (t3 t4 : Tok), v = .ref q ∧ k2 < 5 ∧ IsTup B q #[.int k2 t3, .int z t4, .bool w2]
set_option maxHeartbeats 1000000 in
theorem for_others {env : Env} {m : Str → Option Value} {M O : Addr} {items its : Array Value} {j : Int} {k : Nat} {y : Int} {wr : Bool} {c1 c2 c3 : Pos} {body : List Stmt}
    (hK : ∀ x, env.kindOf x = lawScope.names.lookup x) (W : Law w B m) (R : Room A [env] n) (hn : n < 500) (I : InF env B [] m s) (MA : MarkAt B m M items j k y wr) (hO : m "others" = some (.ref O)) (hol : B.IsList O its) (hoo : Others B its) (hbody : BodyOk w A env body) :
    wpAny (M0 w) A (exec (.For (.Name "other" c1) (.Name "others" c2) body [] c3) env)
      (fun fl s' => fl = .next ∧ Wf B [env] env.locals s s' ∧ ∃ m', s'.heap.Ns env.locals m' ∧ ∀ z, z ∉ names9 → m' z = m z) (fun _ _ => False) s := by
  have kO : env.kindOf "others" = some .local := by rw [hK]; decide
  have ko : env.kindOf "other" = some .local := by rw [hK]; decide
  have ef : frs [env] = [env.locals] := by show List.filterMap _ [env] = _; rw [List.filterMap_cons, I.fr]; rfl
  refine wpAny_For (ev_loc I.kind kO I.ns hO ?_)
  have isl : ∀ {h : Heap}, B.StaysIn h → h.IsList O its := fun e => hol.at fun o q => e _ _ q
  refine wpAny_pyIter_list (isl I.sit.stays) ?_
  have kp : ∀ b o, s.heap.get? b = some o → (s.heap.push { cls := .type "list_iterator", data := .fields #[.ref O, .int 0 0] }).get? b = some o := fun b o e => Heap.get?_push_of_some _ e
  have it₁ : (s.heap.push { cls := .type "list_iterator", data := .fields #[.ref O, .int 0 0] }).IsListIter s.heap.objs.size O 0 := ⟨_, Heap.get?_push_size _ rfl, rfl, rfl⟩
  generalize s.heap.push { cls := .type "list_iterator", data := .fields #[.ref O, .int 0 0] } = h₁ at kp it₁ ⊢
  have hItB : B.get? s.heap.objs.size = none := I.sit.stays.fresh
  have hIt₀ : s.heap.get? s.heap.objs.size = none := Heap.get?_none_of_le (Nat.le_refl _)
  have hItF : s.heap.objs.size ∉ frs [env] := fun hm => by
    obtain ⟨o, ho⟩ := frames_some I.sit.frames _ hm
    rw [hIt₀] at ho; cases ho
  generalize s.heap.objs.size = It at it₁ hItB hItF hIt₀ ⊢
  have hItL : env.locals ≠ It := fun q => hItF (by rw [ef, q]; exact List.mem_cons_self)
  have wf₁ : Wf B [env] env.locals s { s with heap := h₁ } := (Went.of_keeps (s' := { s with heap := h₁ }) I.sit kp rfl rfl).wf
  have ns₁ : h₁.Ns env.locals m := I.ns.keeps kp
  refine codeAny_forLoop_any (fun k s' => ∃ i m', k = its.size + 1 - i ∧ i ≤ its.size ∧ Wf B [env] env.locals s s' ∧ s'.heap.Ns env.locals m' ∧ s'.heap.IsListIter It O i ∧ (∀ z, z ∉ names9 → m' z = m z)) ?_ (its.size + 1) ⟨0, m, rfl, by omega, wf₁, ns₁, it₁, fun _ _ => rfl⟩
  rintro k' s' ⟨i, m', rfl, hi, wf, ns, hit, hm⟩
  have rec_ : ∀ o, s'.heap.get? It = some o → ∃ vs, o.data = .fields vs := fun o e => by
    obtain ⟨o', e', _, hd⟩ := hit
    rw [e] at e'; cases e'; exact ⟨_, hd⟩
  by_cases hlt : i < its.size
  · have hiv : its[i]? = some its[i] := Array.getElem?_eq_getElem hlt
    obtain ⟨q, k2, z, w2, t3, t4, ev, hk2, hq⟩ := hoo i _ hiv
    rw [ev] at hiv
    refine wpAny_pyNext_list_item hit (isl wf.sit.stays) hiv fun h₂ it₂ sb₂ => ?_
    have wf₂ := wf.turned hItB sb₂.extBut hItF rec_ hIt₀
    have ns₂ : h₂.Ns env.locals m' := ns.extBut sb₂.extBut hItL
    refine wpAny_pure ?_
    have u : B.StaysIn (hideF [env] h₂) := wf₂.sit.under
    have S' : Sit (hideF [env] h₂) [env] { s' with heap := h₂ } := wf₂.sit.rebase
    have hItB' : (hideF [env] h₂).IsListIter It O (i + 1) := by
      obtain ⟨o, ho, r⟩ := it₂
      exact ⟨o, hideAll_get _ ho hItF, r⟩
    generalize hideF [env] h₂ = B' at u S' hItB'
    refine wpAny_assign_Name (store_loc I.kind ko I.fr S' ns₂ fun s₄ wf₄ ns₄ => ?_)
    have M₄ : ∃ m₄ : Str → Option Value, s₄.heap.Ns env.locals m₄ ∧ m₄ "other" = some (.ref q) ∧ ∀ z, z ∉ names9 → m₄ z = m z := by
      refine ⟨_, ns₄, rfl, fun z hz => ?_⟩
      have h1 : z ≠ "other" := fun q => hz (by rw [q]; decide)
      show (if _ then _ else _) = _
      rw [if_neg h1]
      exact hm z hz
    clear ns₄
    obtain ⟨m₄, ns₄, eo, hm₄⟩ := M₄
    have I₄ : InF env B' [] m₄ s₄ := ⟨I.kind, I.fr, I.g, I.b, wf₄.sit, ns₄⟩
    have MA₄ := MA.keeps u (hm₄ _ (by decide)) (hm₄ _ (by decide))
    obtain ⟨tj, ej⟩ := MA₄.hj
    obtain ⟨p, t1, t2, hv, hp⟩ := MA₄.at_
    refine wpAny_mono (hbody (W.keeps u (hm₄ _ (by decide)) (hm₄ _ (by decide))) I₄ MA₄.hM MA₄.hl ej MA₄.h0 MA₄.h1 hv hp eo (hq.keeps u) MA₄.hk hk2) (fun fl s₇ ⟨e, wf₇, m₇, ns₇, hm₇⟩ => ?_) fun _ _ z => z.elim
    subst e
    have wfB : Wf B' [env] env.locals { s' with heap := h₂ } s₇ := wf₄.trans wf₇
    refine ⟨its.size + 1 - (i + 1), by omega, i + 1, _, rfl, hlt, wf₂.trans (wfB.down u), ns₇, hItB'.at fun o e => wfB.sit.stays _ _ e, fun z hz => ?_⟩
    rw [hm₇ z (not_8 hz)]
    exact hm₄ z hz
  · obtain rfl : i = its.size := by omega
    refine wpAny_pyNext_list_end R.handled hit (isl wf.sit.stays) (by rw [Array.getElem?_eq_none_iff]; exact Nat.le_refl _) fun h₂ he₂ => ?_
    have wf₂ := wf.turned hItB he₂ hItF rec_ hIt₀
    exact wpAny_execs_nil ⟨rfl, wf₂, m', ns.extBut he₂ hItL, hm⟩
/-- a statement that does what the loop over others does -/
def OthersOk (w : World) (A : Around) (env : Env) (loop : Stmt) : Prop := ∀ {B : Heap} {m : Str → Option Value} {M O : Addr} {items its : Array Value} {j : Int} {k : Nat} {y : Int} {wr : Bool} {s : Shared}, Law w B m → InF env B [] m s → MarkAt B m M items j k y wr → m "others" = some (.ref O) → B.IsList O its → Others B its →
  wpAny (M0 w) A (exec loop env) (fun fl s' => fl = .next ∧ Wf B [env] env.locals s s' ∧ ∃ m', s'.heap.Ns env.locals m' ∧ ∀ z, z ∉ names9 → m' z = m z) (fun _ _ => False) s
end
end Mine
end
section
open PySem PySem.W PySem.W.X PyProof.Rows PySem.Calls PySem.Spec
namespace Mine
set_option maxRecDepth 100000
section
variable {w : World} {A : Around} {B : Heap} {n : Nat} {s : Shared}
def names13 : List Str := "kind" :: "y" :: "wrapped" :: "others" :: names9
theorem not_9 {z : Str} (h : z ∉ names13) : z ∉ names9 := fun q => h (List.mem_cons_of_mem _ (List.mem_cons_of_mem _ (List.mem_cons_of_mem _ (List.mem_cons_of_mem _ q))))
def Marks (B : Heap) (items : Array Value) : Prop := ∀ (i : Nat) v, items[i]? = some v → ∃ (p : Addr) (k : Nat) (y : Int) (wr : Bool) (t1 t2 : Tok), v = .ref p ∧ k < 5 ∧ IsTup B p #[.int k t1, .int y t2, .bool wr]
theorem get_prev {M : Addr} {items : Array Value} {j : Int} (h0 : 0 ≤ j) (h1 : j < items.size) (hs : items.size ≤ 1000) : ∃ (i : Nat) (v : Value), items[i]? = some v ∧ ∀ {A : Around} {s : Shared} {t : Tok} {Q E : Value → Shared → Prop}, s.heap.IsList M items → Q v s → wpAny (M0 w) A (getItem (.ref M) (.int (j - 1) t)) Q E s := by
  by_cases hj : j = 0
  · have e : (j - 1 + (items.size : Int)).toNat < items.size := by omega
    exact ⟨_, _, Array.getElem?_eq_getElem e, fun hl h => wpAny_getItem_list_neg hl (by omega) (by omega) (by omega) (Array.getElem?_eq_getElem e) h⟩
  · have e : (j - 1).toNat < items.size := by omega
    exact ⟨_, _, Array.getElem?_eq_getElem e, fun hl h => wpAny_getItem_list hl (by omega) (by omega) (Array.getElem?_eq_getElem e) h⟩
/-- the loop over others, from a state behind the turn's beginning -/
theorem turn_rest {env : Env} {m m₅ : Str → Option Value} {M O : Addr} {items its : Array Value} {j : Int} {k : Nat} {y : Int} {wr : Bool} {B₂ : Heap} {s₅ : Shared} {loop : Stmt}
    (W : Law w B m) (u : B.StaysIn B₂) (wf : Wf B [env] env.locals s s₅) (I₅ : InF env B₂ [] m₅ s₅) (hm : ∀ z, z ∉ names13 → m₅ z = m z) (MA : MarkAt B m M items j k y wr) (hO : m₅ "others" = some (.ref O)) (hol : B₂.IsList O its) (hoo : Others B₂ its) (hloop : OthersOk w A env loop) :
    wpAny (M0 w) A (execs [loop] env)
      (fun fl s' => fl = .next ∧ Wf B [env] env.locals s s' ∧ ∃ m', s'.heap.Ns env.locals m' ∧ ∀ z, z ∉ names13 → m' z = m z) (fun _ _ => False) s₅ := by
  refine wpAny_execs_cons (wpAny_mono (hloop (W.keeps u (hm _ (by decide)) (hm _ (by decide))) I₅ (MA.keeps u (hm _ (by decide)) (hm _ (by decide))) hO hol hoo) (fun fl s₆ ⟨e, wf₆, m₆, ns₆, hm₆⟩ => ?_) fun _ _ z => z.elim)
  subst e
  refine wpAny_execs_nil ⟨rfl, wf.trans (wf₆.down u), m₆, ns₆, fun z hz => ?_⟩
  rw [hm₆ z (not_9 hz)]
  exact hm z hz
end
end Mine
end
section
open PySem PySem.W PySem.W.X PyProof.Rows PySem.Calls PySem.Spec
namespace Mine
set_option maxRecDepth 100000
section
variable {w : World} {A : Around} {B : Heap} {n : Nat} {s : Shared}
set_option maxHeartbeats 1000000 in
theorem turn_j {env : Env} {m : Str → Option Value} {M : Addr} {items : Array Value} {j : Int} {tj : Tok} {e0 e1 e2 e3 e4 e5 e6 e7 e8 e9 e10 e11 e12 e13 e14 e15 e16 e17 e18 e19 e20 e21 e22 e23 e24 e25 e26 e27 e28 e29 e30 e31 e32 e33 e34 e35 e36 : Pos} {g0 g1 g2 g3 g4 g5 : Nat} {loop : Stmt}
    (hK : ∀ x, env.kindOf x = lawScope.names.lookup x) (W : Law w B m) (R : Room A [env] n) (I : InF env B [] m s) (hM : m "marks" = some (.ref M)) (hl : B.IsList M items) (hmk : Marks B items) (hz : items.size ≤ 1000) (hj : m "j" = some (.int j tj)) (h0 : 0 ≤ j) (h1 : j < items.size) (hline : (e24.endLine == e33.line) = true) (hint : interactive env = false) (hloop : OthersOk w A env loop) :
    wpAny (M0 w) A (execs [.Assign [.Tuple [.Name "kind" e0, .Name "y" e1, .Name "wrapped" e2] g0 e3] (.Subscript (.Name "marks" e4) (.BinOp (.Name "j" e5) .Sub (.Constant (.int 1) g1 e6) e7) e8) e9,
      .Assign [.Name "others" e10] (.List [.Tuple [.Name "kind" e11, .Name "y" e12, .Name "wrapped" e13] g2 e14] e15) e16,
      .If (.Compare (.Name "kind" e17) [.NotEq] [.Subscript (.Subscript (.Name "marks" e18) (.Name "j" e19) e20) (.Constant (.int 0) g3 e21) e22] e23)
        [.Expr (.Call (.Attribute (.Name "others" e25) "append" e24) [.Tuple [.Subscript (.Subscript (.Name "marks" e26) (.Name "j" e27) e28) (.Constant (.int 0) g4 e29) e30, .Name "y" e31, .Name "wrapped" e32] g5 e34] [] e33) e35] [] e36,
      loop] env)
      (fun fl s' => fl = .next ∧ Wf B [env] env.locals s s' ∧ ∃ m', s'.heap.Ns env.locals m' ∧ ∀ z, z ∉ names13 → m' z = m z) (fun _ _ => False) s := by
  have ef : frs [env] = [env.locals] := by show List.filterMap _ [env] = _; rw [List.filterMap_cons, I.fr]; rfl
  have kM : env.kindOf "marks" = some .local := by rw [hK]; decide
  have kj : env.kindOf "j" = some .local := by rw [hK]; decide
  have kk : env.kindOf "kind" = some .local := by rw [hK]; decide
  have ky : env.kindOf "y" = some .local := by rw [hK]; decide
  have kw : env.kindOf "wrapped" = some .local := by rw [hK]; decide
  have kO : env.kindOf "others" = some .local := by rw [hK]; decide
  have isl : ∀ {h : Heap}, B.StaysIn h → h.IsList M items := fun e => hl.at fun o q => e _ _ q
  obtain ⟨i0, v0, hi0, get0⟩ := get_prev (w := w) (M := M) h0 h1 hz
  obtain ⟨p0', k0, y0, w0, t1, t2, rfl, hk0, hp0⟩ := hmk i0 v0 hi0
  have jn : j.toNat < items.size := by omega
  obtain ⟨pj, k, y, wr, t3, t4, ej, hk, hpj⟩ := hmk j.toNat _ (Array.getElem?_eq_getElem jn)
  have hvj : items[j.toNat]? = some (.ref pj) := by rw [Array.getElem?_eq_getElem jn, ej]
  have MA : MarkAt B m M items j k y wr := ⟨hM, hl, ⟨tj, hj⟩, h0, by omega, hk, pj, t3, t4, hvj, hpj⟩
  refine wpAny_execs_cons (Assign_Tuple (Subscript_ (ev_loc I.kind kM I.ns hM (wpAny_BinOp (ev_loc I.kind kj I.ns hj (ev_int (P.sub_int ?_)))))) rfl rfl)
  refine sub_tail (Heap.IsList.typeIs (isl I.sit.stays)) slot_list_getitem.lookup (get0 (isl I.sit.stays) ?_) (by with_unfolding_all rfl)
  refine assign_Tuple_tuple R.handled (hp0.keeps I.sit.stays) rfl rfl fun h₁ he₁ => ?_
  have kp₁ : ∀ b o, s.heap.get? b = some o → h₁.get? b = some o := fun b o e => he₁ b o (Nat.ne_of_lt (Heap.lt_size e)) e
  have wf₁ : Wf B [env] env.locals s { s with heap := h₁, toks := s.toks + 1 + 1 } := (Went.of_keeps (s' := { s with heap := h₁, toks := s.toks + 1 + 1 }) I.sit kp₁ rfl rfl).wf
  show wpAny _ _ (assignInOrder [assign (.Name "kind" e0) env, assign (.Name "y" e1) env, assign (.Name "wrapped" e2) env] [_, _, _]) _ _ _
  refine assignInOrder_cons (wpAny_assign_Name (store_loc I.kind kk I.fr wf₁.sit (I.ns.keeps kp₁) fun s₂ wf₂ ns₂ => ?_))
  refine assignInOrder_cons (wpAny_assign_Name (store_loc I.kind ky I.fr wf₂.sit ns₂ fun s₃ wf₃ ns₃ => ?_))
  refine assignInOrder_cons (wpAny_assign_Name (store_loc I.kind kw I.fr wf₃.sit ns₃ fun s₄ wf₄ ns₄ => ?_))
  refine assignInOrder_nil ?_
  have wfA : Wf B [env] env.locals s s₄ := ((wf₁.trans wf₂).trans wf₃).trans wf₄
  have M₄ : ∃ m₄ : Str → Option Value, s₄.heap.Ns env.locals m₄ ∧ m₄ "kind" = some (.int k0 t1) ∧ m₄ "y" = some (.int y0 t2) ∧ m₄ "wrapped" = some (.bool w0) ∧ ∀ z, z ∉ names13 → m₄ z = m z := by
    refine ⟨_, ns₄, rfl, rfl, rfl, fun z hz => ?_⟩
    have h1 : z ≠ "kind" := fun q => hz (by rw [q]; decide)
    have h2 : z ≠ "y" := fun q => hz (by rw [q]; decide)
    have h3 : z ≠ "wrapped" := fun q => hz (by rw [q]; decide)
    show (if _ then _ else if _ then _ else if _ then _ else _) = _
    rw [if_neg h3, if_neg h2, if_neg h1]
  clear ns₄
  obtain ⟨m₄, ns₄, ek, ey, ew, hm₄⟩ := M₄
  refine wpAny_execs_cons (wpAny_Assign_Name (List_ (args_cons (Tuple_ (args_cons (ev_loc I.kind kk ns₄ ek (args_cons (ev_loc I.kind ky ns₄ ey (args_cons (ev_loc I.kind kw ns₄ ew (args_nil ?_)))))))))) rfl)
  refine wpAny_newTuple ?_ (by rw [sizeLine_eq]; simp)
  refine args_nil (wpAny_newList ?_ (by rw [sizeLine_eq]; simp))
  have hxA : (s₄.heap.push { cls := .type "tuple", data := .seq [Value.int k0 t1, .int y0 t2, .bool w0].toArray }).get? s₄.heap.objs.size = some { cls := .type "tuple", data := .seq [Value.int k0 t1, .int y0 t2, .bool w0].toArray } := Heap.get?_push_size _ rfl
  have kpA : ∀ b o, s₄.heap.get? b = some o → (s₄.heap.push { cls := .type "tuple", data := .seq [Value.int k0 t1, .int y0 t2, .bool w0].toArray }).get? b = some o := fun b o e => Heap.get?_push_of_some _ e
  have zA : (s₄.heap.push { cls := .type "tuple", data := .seq [Value.int k0 t1, .int y0 t2, .bool w0].toArray }).objs.size = s₄.heap.objs.size + 1 := Heap.size_push ..
  generalize s₄.heap.push { cls := .type "tuple", data := .seq [Value.int k0 t1, .int y0 t2, .bool w0].toArray } = hA at hxA kpA zA ⊢
  have hxB : (hA.push { cls := .type "list", data := .seq [Value.ref s₄.heap.objs.size].toArray }).get? hA.objs.size = some { cls := .type "list", data := .seq [Value.ref s₄.heap.objs.size].toArray } := Heap.get?_push_size _ rfl
  have kpB : ∀ b o, hA.get? b = some o → (hA.push { cls := .type "list", data := .seq [Value.ref s₄.heap.objs.size].toArray }).get? b = some o := fun b o e => Heap.get?_push_of_some _ e
  generalize hA.push { cls := .type "list", data := .seq [Value.ref s₄.heap.objs.size].toArray } = hB at hxB kpB ⊢
  have none₄ : ∀ a : Addr, s₄.heap.objs.size ≤ a → s₄.heap.get? a = none := fun a ha => Heap.get?_none_of_le ha
  have freshB : ∀ a : Addr, s₄.heap.objs.size ≤ a → B.get? a = none := fun a ha => by
    cases q : B.get? a with
    | none => rfl
    | some o => have := wfA.sit.stays _ _ q; rw [none₄ a ha] at this; cases this
  have freshF : ∀ a : Addr, s₄.heap.objs.size ≤ a → a ∉ frs [env] := fun a ha hm => by
    obtain ⟨o, ho⟩ := frames_some wfA.sit.frames _ hm
    rw [none₄ a ha] at ho; cases ho
  have le1 : s₄.heap.objs.size ≤ s₄.heap.objs.size := Nat.le_refl _
  have leO : s₄.heap.objs.size ≤ hA.objs.size := by rw [zA]; exact Nat.le_succ _
  have neO : s₄.heap.objs.size ≠ hA.objs.size := by rw [zA]; exact Nat.ne_of_lt (Nat.lt_succ_self _)
  generalize s₄.heap.objs.size = a1 at hxA hxB none₄ freshB freshF le1 leO neO ⊢
  generalize hA.objs.size = O at hxB leO neO ⊢
  have kpAB : ∀ b o, s₄.heap.get? b = some o → hB.get? b = some o := fun b o e => kpB _ _ (kpA _ _ e)
  have wfB : Wf B [env] env.locals s { s₄ with heap := hB } := wfA.trans (Went.of_keeps (s' := { s₄ with heap := hB }) wfA.sit kpAB rfl rfl).wf
  have u₁ : B.StaysIn (hideF [env] hB) := wfB.sit.under
  have S₁ : Sit (hideF [env] hB) [env] { s₄ with heap := hB } := wfB.sit.rebase
  have old₁ : ∀ b o, hB.get? b = some o → b ∉ frs [env] → (hideF [env] hB).get? b = some o := fun b o e hn => hideAll_get _ e hn
  have tup₁ : IsTup (hideF [env] hB) a1 #[.int k0 t1, .int y0 t2, .bool w0] := ⟨_, old₁ _ _ (kpB _ _ hxA) (freshF _ le1), rfl, 0, rfl⟩
  have lst₁ : (hideF [env] hB).get? O = some { cls := .type "list", data := .seq #[.ref a1] } := old₁ _ _ hxB (freshF _ leO)
  have back₁ : ∀ b o, (hideF [env] hB).get? b = some o → hB.get? b = some o := fun b o e => of_hideAll _ e
  generalize hideF [env] hB = B₁ at u₁ S₁ old₁ tup₁ lst₁ back₁
  refine store_loc I.kind kO I.fr S₁ (ns₄.keeps kpAB) fun s₅ wf₅ ns₅ => ?_
  have wfC : Wf B [env] env.locals s s₅ := wfB.trans (wf₅.down u₁)
  have M₅ : ∃ m₅ : Str → Option Value, s₅.heap.Ns env.locals m₅ ∧ m₅ "kind" = some (.int k0 t1) ∧ m₅ "y" = some (.int y0 t2) ∧ m₅ "wrapped" = some (.bool w0) ∧ m₅ "others" = some (.ref O) ∧ ∀ z, z ∉ names13 → m₅ z = m z := by
    refine ⟨_, ns₅, ?_, ?_, ?_, rfl, fun z hz => ?_⟩
    · show (if _ then _ else _) = _; rw [if_neg (by decide)]; exact ek
    · show (if _ then _ else _) = _; rw [if_neg (by decide)]; exact ey
    · show (if _ then _ else _) = _; rw [if_neg (by decide)]; exact ew
    · have h1 : z ≠ "others" := fun q => hz (by rw [q]; decide)
      show (if _ then _ else _) = _
      rw [if_neg h1]
      exact hm₄ z hz
  clear ns₅ ek ey ew
  obtain ⟨m₅, ns₅, ek, ey, ew, eO, hm₅⟩ := M₅
  have I₅ : InF env B₁ [] m₅ s₅ := ⟨I.kind, I.fr, I.g, I.b, wf₅.sit, ns₅⟩
  have MA₅ := MA.keeps u₁ (hm₅ _ (by decide)) (hm₅ _ (by decide))
  have mark0 : ∀ {A : Around} {s₆ : Shared} {Q E : Value → Shared → Prop} {x1 x2 x3 x4 x5 : Pos} {g : Nat}, InF env B₁ [] m₅ s₆ → (∀ t tk, Q (.int k t) { s₆ with toks := tk }) → wpAny (M0 w) A (eval (.Subscript (.Subscript (.Name "marks" x1) (.Name "j" x2) x3) (.Constant (.int 0) g x4) x5) env) Q E s₆ := fun {A s₆ Q E x1 x2 x3 x4 x5 g} I₆ h => by
    obtain ⟨tj', ej'⟩ := MA₅.hj
    have ht : IsTup s₆.heap pj #[.int k t3, .int y t4, .bool wr] := (hpj.keeps u₁).keeps I₆.sit.stays
    exact Subscript_ (ev_mark hK I₆ MA₅.hM MA₅.hl ej' MA₅.h0 MA₅.h1 hvj (ev_int (sub_tail (s := { s₆ with toks := s₆.toks + 1 }) ht.typeIs slot_tuple_getitem.lookup (getItem_tuple ht (by decide) (by decide) (j := 0) rfl rfl (h _ _)) (by with_unfolding_all rfl))))
  refine wpAny_execs_cons (wpAny_If (wpAny_isTrue_Compare1 (ev_loc I.kind kk ns₅ ek (mark0 I₅ fun t tk => P.ne_int (wpAny_truthy_bool ?_)))))
  cases hne : ((k0 : Int) != (k : Int)) with
  | false =>
    rw [if_neg (by decide)]
    refine wpAny_execs_nil (turn_rest W u₁ (wfC.toks _) (I₅.toks _) hm₅ MA eO ⟨_, lst₁, rfl, 0, rfl⟩ (fun i v hv => ?_) hloop)
    match i with
    | 0 => cases hv; exact ⟨a1, k0, y0, w0, t1, t2, rfl, hk0, tup₁⟩
    | i + 1 => cases hv
  | true =>
    rw [if_pos rfl]
    have I₆ : InF env B₁ [] m₅ { s₅ with toks := tk } := I₅.toks _
    refine wpAny_execs_cons (wpAny_Expr_any (wpAny_Call_append rfl rfl hline rfl (ev_loc I.kind kO I₆.ns eO ⟨O, #[.ref a1], rfl, ⟨_, 0, I₆.sit.stays _ _ lst₁, rfl, rfl, rfl⟩, ?_⟩)) hint rfl)
    refine Tuple_ (args_cons (mark0 I₆ fun t' tk' => ?_))
    refine args_cons (ev_loc I.kind ky (by exact ns₅) ey (args_cons (ev_loc I.kind kw (by exact ns₅) ew (args_nil ?_))))
    refine wpAny_newTuple ?_ (by rw [sizeLine_eq]; simp)
    have hxD : (s₅.heap.push { cls := .type "tuple", data := .seq [Value.int k t', .int y0 t2, .bool w0].toArray }).get? s₅.heap.objs.size = some { cls := .type "tuple", data := .seq [Value.int k t', .int y0 t2, .bool w0].toArray } := Heap.get?_push_size _ rfl
    have kpD : ∀ b o, s₅.heap.get? b = some o → (s₅.heap.push { cls := .type "tuple", data := .seq [Value.int k t', .int y0 t2, .bool w0].toArray }).get? b = some o := fun b o e => Heap.get?_push_of_some _ e
    generalize s₅.heap.push { cls := .type "tuple", data := .seq [Value.int k t', .int y0 t2, .bool w0].toArray } = hD at hxD kpD ⊢
    have none₅ : s₅.heap.get? s₅.heap.objs.size = none := Heap.get?_none_of_le (Nat.le_refl _)
    generalize s₅.heap.objs.size = a2' at hxD none₅ ⊢
    have lstD : hD.get? O = some { cls := .type "list", data := .seq #[.ref a1] } := kpD _ _ (wf₅.sit.stays _ _ lst₁)
    refine append_at (s := { s₅ with heap := hD, toks := tk' }) lstD (fun h₈ sb₈ lst₈ => ?_) (by rw [sizeLine_eq]; simp)
    refine wpAny_execs_nil ?_
    have wfD : Wf B [env] env.locals s { s₅ with heap := hD, toks := tk' } := wfC.trans (Went.of_keeps (s' := { s₅ with heap := hD, toks := tk' }) wfC.sit kpD rfl rfl).wf
    have wfE : Wf B [env] env.locals s { s₅ with heap := h₈, toks := tk' } := by
      refine ⟨wfD.sit.turned (s := { s₅ with heap := hD, toks := tk' }) (freshB _ leO) sb₈.extBut (freshF _ leO), fun b o ne e hn => ?_, wfD.os⟩
      obtain ⟨sl, e'⟩ := wfD.up b o ne e hn
      refine ⟨sl, sb₈.extBut _ _ (fun q => ?_) e'⟩
      rw [q] at e
      obtain ⟨sl', e''⟩ := wfA.up O o (fun q => freshF _ leO (by rw [ef, ← q]; exact List.mem_cons_self)) e hn
      rw [none₄ _ leO] at e''
      cases e''
    have nsE : h₈.Ns env.locals m₅ := (ns₅.keeps kpD).extBut sb₈.extBut (fun q => freshF _ leO (by rw [ef, ← q]; exact List.mem_cons_self))
    have u₈ : B.StaysIn (hideF [env] h₈) := wfE.sit.under
    have S₈ : Sit (hideF [env] h₈) [env] { s₅ with heap := h₈, toks := tk' } := wfE.sit.rebase
    have lst₂ : (hideF [env] h₈).get? O = some { cls := .type "list", data := .seq #[.ref a1, .ref a2'] 1 } := hideAll_get _ lst₈ (freshF _ leO)
    have tupA : IsTup (hideF [env] h₈) a1 #[.int k0 t1, .int y0 t2, .bool w0] := by
      obtain ⟨o, ho, r⟩ := tup₁
      exact ⟨o, hideAll_get _ (sb₈.extBut _ _ neO (kpD _ _ (wf₅.sit.stays _ _ ho))) (freshF _ le1), r⟩
    have tupB : IsTup (hideF [env] h₈) a2' #[.int k t', .int y0 t2, .bool w0] := by
      refine ⟨_, hideAll_get _ (sb₈.extBut _ _ (fun q => ?_) hxD) (fun hm => ?_), rfl, 0, rfl⟩
      · have := wf₅.sit.stays _ _ lst₁
        rw [← q, none₅] at this; cases this
      · obtain ⟨o, ho⟩ := frames_some wf₅.sit.frames _ hm
        rw [none₅] at ho; cases ho
    refine turn_rest W u₈ wfE ⟨I.kind, I.fr, I.g, I.b, S₈, nsE⟩ hm₅ MA eO ⟨_, lst₂, rfl, 1, rfl⟩ (fun i v hv => ?_) hloop
    match i with
    | 0 => cases hv; exact ⟨a1, k0, y0, w0, t1, t2, rfl, hk0, tupA⟩
    | 1 => cases hv; exact ⟨a2', k, y0, w0, t', t2, rfl, hk, tupB⟩
    | i + 2 => cases hv
/-- statements that do what a turn of the outer loop does -/
def TurnOk (w : World) (A : Around) (env : Env) (body : List Stmt) : Prop := ∀ {B : Heap} {m : Str → Option Value} {M : Addr} {items : Array Value} {j : Int} {tj : Tok} {s : Shared}, Law w B m → InF env B [] m s → m "marks" = some (.ref M) → B.IsList M items → Marks B items → items.size ≤ 1000 → m "j" = some (.int j tj) → 0 ≤ j → j < items.size →
  wpAny (M0 w) A (execs body env) (fun fl s' => fl = .next ∧ Wf B [env] env.locals s s' ∧ ∃ m', s'.heap.Ns env.locals m' ∧ ∀ z, z ∉ names13 → m' z = m z) (fun _ _ => False) s
end
end Mine
end
section
open PySem PySem.W PySem.W.X PyProof.Rows PySem.Calls PySem.Spec
namespace Mine
set_option maxRecDepth 100000
section
variable {w : World} {A : Around} {B : Heap} {n : Nat} {s : Shared}
def names14 : List Str := "j" :: names13
theorem not_13 {z : Str} (h : z ∉ names14) : z ∉ names13 := fun q => h (List.mem_cons_of_mem _ q)
theorem marks_keeps {B' : Heap} {items : Array Value} (x : Marks B items) (u : B.StaysIn B') : Marks B' items := fun i v h => by
  obtain ⟨p, k, y, wr, t1, t2, e, hk, ht⟩ := x i v h
  exact ⟨p, k, y, wr, t1, t2, e, hk, ht.keeps u⟩
set_option maxHeartbeats 1000000 in
theorem for_j {env : Env} {m : Str → Option Value} {M : Addr} {items : Array Value} {f0 f1 f2 f3 f4 f5 f6 : Pos} {body : List Stmt}
    (hK : ∀ x, env.kindOf x = lawScope.names.lookup x) (W : Law w B m) (R : Room A [env] n) (I : InF env B [] m s) (hM : m "marks" = some (.ref M)) (hl : B.IsList M items) (hmk : Marks B items) (hz : items.size ≤ 1000) (hturn : TurnOk w A env body) :
    wpAny (M0 w) A (exec (.For (.Name "j" f0) (.Call (.Name "range" f1) [.Call (.Name "len" f2) [.Name "marks" f3] [] f4] [] f5) body [] f6) env)
      (fun fl s' => fl = .next ∧ Wf B [env] env.locals s s' ∧ ∃ m', s'.heap.Ns env.locals m' ∧ ∀ z, z ∉ names14 → m' z = m z) (fun _ _ => False) s := by
  have ef : frs [env] = [env.locals] := by show List.filterMap _ [env] = _; rw [List.filterMap_cons, I.fr]; rfl
  have kM : env.kindOf "marks" = some .local := by rw [hK]; decide
  have kj : env.kindOf "j" = some .local := by rw [hK]; decide
  have isl : ∀ {h : Heap}, B.StaysIn h → h.IsList M items := fun e => hl.at fun o q => e _ _ q
  refine wpAny_For ?_
  refine wpAny_Call_ofName (ev_bltn W.F I.sit.stays I.kind I.g I.b (by rw [hK]; decide) (v := .type "range") (by kernel_rfl) (by kernel_rfl) ?_)
  refine callWith_any (P := fun _ => True) (fun h _ => keep_plain (fun a q => by cases q) h) rfl ?_
  show wpAny _ _ (spliced (backTo f5 (starEach [.Call (.Name "len" f2) [.Name "marks" f3] [] f4] env))) _ _ _
  refine args_cons (wpAny_Call_ofName (ev_bltn W.F I.sit.stays I.kind I.g I.b (by rw [hK]; decide) (v := .builtin "len") (by kernel_rfl) (by kernel_rfl) ?_))
  refine callWith_any (P := fun _ => True) (fun h _ => keep_plain (fun a q => by cases q) h) rfl ?_
  refine spliced_cons (ev_loc I.kind kM I.ns hM (spliced_nil ⟨trivial, ?_⟩))
  refine call_len_list (isl I.sit.stays) (by omega) ?_
  refine args_nil ⟨trivial, call_range_1 ?_⟩
  refine wpAny_pyIter_range (IsRange.new ..) (small_one (by decide) (by decide) (by omega) (by omega)) ?_
  have rs : Builtin.Range.rangeSize 0 (items.size : Int) 1 = (items.size : Int) := by rw [rangeSize_one]; split <;> omega
  rw [rs]
  dsimp only
  generalize hrg : ({ cls := .type "range", data := .fields #[.int 0 (s.toks + 1 + 1), .int (items.size : Int) (s.toks + 1), .int 1 (s.toks + 1 + 1 + 1)] } : Obj) = rg
  have kp : ∀ b o, s.heap.get? b = some o → ((s.heap.push rg).push { cls := .type "range_iterator", data := .fields #[rawInt 0, rawInt (items.size : Int), rawInt 1] }).get? b = some o := fun b o e => Heap.get?_push_of_some _ (Heap.get?_push_of_some _ e)
  have it₁ : IsRangeIter ((s.heap.push rg).push { cls := .type "range_iterator", data := .fields #[rawInt 0, rawInt (items.size : Int), rawInt 1] }) (s.heap.push rg).objs.size 0 (items.size : Int) 1 := Heap.get?_push_size _ rfl
  have leI : s.heap.objs.size ≤ (s.heap.push rg).objs.size := by rw [Heap.size_push]; exact Nat.le_succ _
  generalize (s.heap.push rg).push { cls := .type "range_iterator", data := .fields #[rawInt 0, rawInt (items.size : Int), rawInt 1] } = h₁ at kp it₁ ⊢
  generalize (s.heap.push rg).objs.size = It at it₁ leI ⊢
  have hIt₀ : s.heap.get? It = none := Heap.get?_none_of_le leI
  have hItB : B.get? It = none := by
    cases q : B.get? It with
    | none => rfl
    | some o => have := I.sit.stays _ _ q; rw [hIt₀] at this; cases this
  have hItF : It ∉ frs [env] := fun hm => by
    obtain ⟨o, ho⟩ := frames_some I.sit.frames _ hm
    rw [hIt₀] at ho; cases ho
  have hItL : env.locals ≠ It := fun q => hItF (by rw [ef, q]; exact List.mem_cons_self)
  have Wk := LCg.range_walks (prog := P0) (w := w) (A := A) (I := It) R.handled 0 items.size
  have wf₁ : ∀ tk, Wf B [env] env.locals s { s with heap := h₁, toks := tk } := fun tk => (Went.of_keeps (s' := { s with heap := h₁, toks := tk }) I.sit kp rfl rfl).wf
  refine codeAny_forLoop_any (fun k s' => ∃ i m', k = items.size + 1 - i ∧ i ≤ items.size ∧ Wf B [env] env.locals s s' ∧ s'.heap.Ns env.locals m' ∧ IsRangeIter s'.heap It (0 + (i : Nat) * 1) ((items.size : Int) - (i : Nat)) 1 ∧ (∀ z, z ∉ names14 → m' z = m z)) ?_ (items.size + 1) ⟨0, m, rfl, by omega, wf₁ _, I.ns.keeps kp, by simpa using it₁, fun _ _ => rfl⟩
  rintro k' s' ⟨i, m', rfl, hi, wf, ns, hit, hm⟩
  have rec_ : ∀ o, s'.heap.get? It = some o → ∃ vs, o.data = .fields vs := fun o e => by
    have h2 : s'.heap.get? It = some _ := hit
    rw [e] at h2; cases h2; exact ⟨_, rfl⟩
  by_cases hlt : i < items.size
  · refine Wk.item i _ _ _ hlt hit fun v h₂ tk₂ hP hit₂ hk₂ => ?_
    obtain ⟨t, ev⟩ := hP
    rw [Int.zero_add] at ev
    subst ev
    have ext₂ : Heap.ExtBut It s'.heap h₂ := fun b o ne e => hk₂ b o (by simpa using ne) e
    have wf₂ : Wf B [env] env.locals s { s' with heap := h₂, toks := tk₂ } := (wf.turned hItB ext₂ hItF rec_ hIt₀).toks _
    have ns₂ : h₂.Ns env.locals m' := ns.extBut ext₂ hItL
    refine wpAny_pure ?_
    have u : B.StaysIn (hideF [env] h₂) := wf₂.sit.under
    have S' : Sit (hideF [env] h₂) [env] { s' with heap := h₂, toks := tk₂ } := wf₂.sit.rebase
    have hItB' : IsRangeIter (hideF [env] h₂) It (0 + ((i + 1 : Nat) : Int) * 1) ((items.size : Int) - ((i + 1 : Nat) : Int)) 1 := hideAll_get _ hit₂ hItF
    generalize hideF [env] h₂ = B' at u S' hItB'
    refine wpAny_assign_Name (store_loc I.kind kj I.fr S' ns₂ fun s₄ wf₄ ns₄ => ?_)
    have M₄ : ∃ m₄ : Str → Option Value, s₄.heap.Ns env.locals m₄ ∧ m₄ "j" = some (.int (i : Int) t) ∧ ∀ z, z ∉ names14 → m₄ z = m z := by
      refine ⟨_, ns₄, rfl, fun z hz => ?_⟩
      have h1 : z ≠ "j" := fun q => hz (by rw [q]; decide)
      show (if _ then _ else _) = _
      rw [if_neg h1]
      exact hm z hz
    clear ns₄
    obtain ⟨m₄, ns₄, ej, hm₄⟩ := M₄
    have I₄ : InF env B' [] m₄ s₄ := ⟨I.kind, I.fr, I.g, I.b, wf₄.sit, ns₄⟩
    refine wpAny_mono (hturn (W.keeps u (hm₄ _ (by decide)) (hm₄ _ (by decide))) I₄ (by rw [hm₄ _ (by decide)]; exact hM) (hl.at fun o q => u _ _ q) (marks_keeps hmk u) hz ej (by omega) (by omega)) (fun fl s₇ ⟨e, wf₇, m₇, ns₇, hm₇⟩ => ?_) fun _ _ z => z.elim
    subst e
    have wfB : Wf B' [env] env.locals { s' with heap := h₂, toks := tk₂ } s₇ := wf₄.trans wf₇
    refine ⟨items.size + 1 - (i + 1), by omega, i + 1, _, rfl, hlt, wf₂.trans (wfB.down u), ns₇, wfB.sit.stays _ _ hItB', fun z hz => ?_⟩
    rw [hm₇ z (not_13 hz)]
    exact hm₄ z hz
  · obtain rfl : i = items.size := by omega
    refine Wk.done _ _ _ hit fun h₂ tk₂ hk₂ => ?_
    have ext₂ : Heap.ExtBut It s'.heap h₂ := fun b o ne e => hk₂ b o (by simpa using ne) e
    exact wpAny_execs_nil ⟨rfl, (wf.turned hItB ext₂ hItF rec_ hIt₀).toks _, m', ns.extBut ext₂ hItL, hm⟩
end
end Mine
end
section
open PySem PySem.W PySem.W.X PyProof.Rows PySem.Calls PySem.Spec
namespace Mine
set_option maxRecDepth 100000
section
variable {M : Model} {A : Around} {E : Value → Shared → Prop} {s : Shared}
/-- a new code object, with the heap's size -/
theorem newCode_sz {ctx : CodeContext} {name qualname : Str} {firstLine argc posonly kwonly flags : Nat} {free : List Str} {isFunction : Bool} {parse : Option Nat} {l : List Str × List Str} {fd : FuncData} {Q : Value → Shared → Prop}
    (hQ : ∀ h' tk, (∀ b o, s.heap.get? b = some o → h'.get? b = some o) → h'.objs.size = s.heap.objs.size + 6 → h'.CodeRec (.ref (s.heap.objs.size + 5)) qualname → Q (.ref (s.heap.objs.size + 5)) { s with heap := h', toks := tk }) :
    wpAny M A (newCode ctx name qualname firstLine argc posonly kwonly flags free isFunction parse (some l) (some fd)) Q E s := by
  unfold newCode
  refine wpAny_bind (wpAny_mkText (wpAny_bind (wpAny_mkText (wpAny_bind (wpAny_mkText (wpAny_bind (wpAny_mkStrs fun fs => wpAny_bind (wpAny_newObjAsIs_type (wpAny_bind (wpAny_alloc ?_))))))))))
  refine wpAny_bind (wpAny_mkStrs fun a => wpAny_bind (wpAny_newObjAsIs_type (wpAny_bind (wpAny_mkStrs fun b => wpAny_bind (wpAny_newObjAsIs_type (wpAny_bind (wpAny_bind (wpAny_alloc (wpAny_pure (wpAny_bind (wpAny_fresh (wpAny_bind (wpAny_mkText (wpAny_newObj_type ?_ (by size_fits)))))))))))))))
  have up : ∀ {h : Heap} {o : Obj} b x, h.get? b = some x → (h.push o).get? b = some x := fun b x e => Heap.get?_push_of_some _ e
  dsimp only
  have key : ∀ (H : Heap) (vs : Array Value) (t : Tok) (tk : Nat), (∀ b o, s.heap.get? b = some o → H.get? b = some o) → H.objs.size = s.heap.objs.size + 5 → vs[1]? = some (.str qualname t) → Q (.ref H.objs.size) { s with heap := H.push { cls := .type "code", data := .fields vs }, toks := tk } := fun H vs t tk hk hz hv => by
    rw [hz]
    have hg : (H.push { cls := .type "code", data := .fields vs }).get? (s.heap.objs.size + 5) = some { cls := .type "code", data := .fields vs } := by rw [← hz]; exact Heap.get?_push_size _ rfl
    exact hQ _ _ (fun b o e => up _ _ (hk b o e)) (by rw [Heap.size_push, hz]) ⟨_, _, vs, t, rfl, hg, rfl, hv⟩
  exact key _ _ _ _ (fun b o e => up _ _ (up _ _ (up _ _ (up _ _ (up _ _ e))))) (by simp only [Heap.size_push]) rfl
end
end Mine
end
section
open PySem PySem.W PySem.W.X PyProof.Rows PySem.Calls PySem.Spec
namespace Mine
set_option maxRecDepth 100000
section
variable {M : Model} {A : Around} {E : Value → Shared → Prop} {s : Shared}
/-- the code of a function that is made for the first time, with the heap's size -/
theorem functionCode_sz {env : Env} {c P : Addr} {ps : Array Value} {pos : Pos} {firstLine : Nat} {name qualname : Str} {p : Arguments} {scope : Scope} {body : FuncBody} {l : List Str × List Str}
    {Q : Value → Shared → Prop} (hc : env.code = .ref c) (hok : s.heap.IsCode c P ps) (htP : s.heap.get? P = some (tabObj ps)) (hnf : codeAmong pos ps.toList = none) (hloc : localNames p scope body = some l)
    (hQ : ∀ h' tk, Heap.ExtBut P s.heap h' → h'.objs.size = s.heap.objs.size + 6 → h'.CodeRec (.ref (s.heap.objs.size + 5)) qualname → h'.get? P = some (tabObj (ps ++ #[rawInt pos.line, rawInt pos.col, .ref (s.heap.objs.size + 5)])) →
      Q (.ref (s.heap.objs.size + 5)) { s with heap := h', toks := tk }) :
    wpAny M A (functionCode env pos firstLine name qualname p scope body) Q E s := by
  obtain ⟨o, vs, file, tf, flags, tg, inF, text, tt, op, ho, hd, h11, h2, h7, h9, h10, hop, hpd, htr, hne⟩ := id hok
  unfold functionCode codeAt
  rw [hc, if_neg (show ¬ ((Value.ref c == Value.none) = true) from Bool.false_ne_true)]
  refine wpAny_bind (wpAny_fieldsOf ho hd ?_)
  rw [h11]
  refine wpAny_bind (wpAny_fieldsOf hop hpd ?_)
  rw [hnf, h2, h7, h9, h10, hloc]
  refine wpAny_bind (newCode_sz fun h' tk hk hz hrec => ?_)
  have hop' := hk _ _ hop
  refine wpAny_bind (wpAny_updateFieldsOfTheText hop' hpd ?_)
  have hnew : (Obj.mapFields (fun vs => if (codeAmong pos vs.toList).isSome = true then vs else vs ++ #[rawInt pos.line, rawInt pos.col, .ref (s.heap.objs.size + 5)]) op).data = .fields (ps ++ #[rawInt pos.line, rawInt pos.col, .ref (s.heap.objs.size + 5)]) := by
    rw [Obj.data_mapFields hpd, hnf]; rfl
  have hget := Heap.get?_update_self (h := h') (fun o => Obj.mapFields (fun vs => if (codeAmong pos vs.toList).isSome = true then vs else vs ++ #[rawInt pos.line, rawInt pos.col, .ref (s.heap.objs.size + 5)]) o) hop' (Obj.isFreed_of_fields hnew)
  refine wpAny_bind (wpAny_fieldsOf hget hnew ?_)
  have hl : (ps ++ #[rawInt pos.line, rawInt pos.col, Value.ref (s.heap.objs.size + 5)]).toList = ps.toList ++ [rawInt pos.line, rawInt pos.col, .ref (s.heap.objs.size + 5)] := by simp
  rw [hl, codeAmong_snoc _ htr hnf]
  have hcP : s.heap.objs.size + 5 ≠ P := Nat.ne_of_gt (Nat.lt_of_lt_of_le (Heap.lt_size hop) (Nat.le_add_right _ _))
  refine wpAny_pure (hQ _ _ (fun b o' hb e => ((Heap.SameBut.update ..).extBut b o' hb (hk b o' e))) (by rw [Heap.size_after_update]; exact hz) ?_ ?_)
  · obtain ⟨c₂, o₂, vs₂, t₂, e₂, g₂, r₂⟩ := hrec
    cases e₂
    exact ⟨_, o₂, vs₂, t₂, rfl, (Heap.SameBut.update ..).extBut _ _ hcP g₂, r₂⟩
  · have e1 : op = tabObj ps := Option.some.inj (hop.symm.trans htP)
    rw [hget, e1]
    simp only [Obj.mapFields, hnf]
    rfl
/-- a lambda that closes over nothing, met for the first time -/
theorem lam_sz {env : Env} {c P : Addr} {ps : Array Value} {pos : Pos} {params : Arguments} {body : Expr} {scope : Scope} {l : List Str × List Str} {mg : Str → Option Value} {Q : Value → Shared → Prop} (hdef : defaultsOf params env = ([], []))
    (hcl : closureFor scope env = pure []) (hge0 : env.globals = mainGlobals) (hg : s.heap.Ns mainGlobals mg) (hcode : env.code = .ref c) (C : CodeHd s.heap c P) (hP : s.heap.get? P = some (tabObj ps)) (ht : TriplesOk ps.toList)
    (hnf : codeAmong pos ps.toList = none) (hgP : mainGlobals ≠ P) (hb : s.heap.BuiltinsAt mg P) (hloc : localNames params scope (.expr body) = some l)
    (h : ∀ h' tk, Heap.ExtBut P s.heap h' → h'.objs.size = s.heap.objs.size + 6 → h'.CodeRec (.ref (s.heap.objs.size + 5)) (env.qual ++ "<lambda>") → h'.get? P = some (tabObj (ps ++ #[rawInt pos.line, rawInt pos.col, .ref (s.heap.objs.size + 5)])) →
      Q (.ref (s.heap.objs.size + 6)) { s with heap := h'.push (kla_obj "<lambda>" (env.qual ++ "<lambda>") params body scope [] ((mg "__name__").getD .none) (s.heap.objs.size + 5) .none), toks := tk }) :
    wpAny M A (eval (.Lambda params body scope pos) env) Q E s := by
  refine kla_eval hdef ?_
  rw [makeFunction_eq]
  simp only [List.zip_nil_right, List.filterMap_nil, List.isEmpty_nil, if_true, pure_bind]
  obtain ⟨bm, ob, hbm, hne0, _, hneP, hbo, hcls, hdict, hdata⟩ := hb
  unfold makeTail
  rw [hcl, hge0]
  refine wpAny_bind (wpAny_pure ?_)
  simp only [List.isEmpty_nil, if_true]
  refine wpAny_bind (wpAny_pure ?_)
  refine wpAny_bind (functionCode_sz hcode (C.code hP ht) hP hnf hloc fun h' tk hx hz hrec htb => ?_)
  have hg' := hg.extBut hx hgP
  refine wpAny_bind (wpAny_builtinsFor hg' hbm hne0 (hx _ _ hneP hbo) hcls hdict hdata ?_)
  refine wpAny_bind (wpAny_nsGet hg' ?_)
  have q := h h' tk hx hz hrec htb
  rw [← hz] at q
  exact wpAny_bind (wpAny_pure (wpAny_newObj_type q (by size_fits)))
end
end Mine
end
section
open PySem PySem.W PySem.W.X PyProof.Rows PySem.Calls PySem.Spec
namespace Mine
set_option maxRecDepth 100000
/-- what `_law_twelve` has made so far -/
structure Inv12 (h₀ h : Heap) (ps : Array Value) (vs : List Value) : Prop where
  keep : ∀ b o, b ≠ 185 → h₀.get? b = some o → h.get? b = some o
  tab : h.get? 185 = some (tabObj ps)
  tri : TriplesOk ps.toList
  len : vs.length ≤ 12
  at_ : ∀ (i : Nat) (x : Ent), i < vs.length → ents[i]? = some x → ∃ (p : Addr) (v : Value) (tn tr : Tok), vs[i]? = some (.ref p) ∧ p ≠ 185 ∧ IsTup h p #[v, .str (Str.ofString x.nm.sym) tn, .str (Str.ofString x.root.sym) tr] ∧ LamTo h v x.f ∧ (∀ a, v = .ref a → a ≠ 185)
theorem tri_one {l : List Value} {x : Value} (h : TriplesOk l) (e : l[1]? = some x) : ∃ i t, x = .int i t := by
  unfold TriplesOk at h
  split at h
  · cases e
  · cases e; exact ⟨_, _, rfl⟩
  · exact h.elim
section
variable {w : World} {A : Around} {s : Shared}
theorem lamTo_but {h h' : Heap} {v : Value} {f : Str} {ps : Array Value} (L : LamTo h v f) (hx : Heap.ExtBut 185 h h') (hv : ∀ a, v = .ref a → a ≠ 185) (ht : h.get? 185 = some (tabObj ps)) (tri : TriplesOk ps.toList) : LamTo h' v f := by
  obtain ⟨a, o, fd, p0, p1, p2, p3, e, ho, r1, r2, r3, r4, r5, r6, r7⟩ := L.at_
  refine ⟨a, o, fd, p0, p1, p2, p3, e, hx _ _ (hv a e) ho, r1, r2, r3, r4, r5, r6, ?_⟩
  obtain ⟨c, oc, vs, tq, hc, hoc, hdc, hq⟩ := r7
  refine ⟨c, oc, vs, tq, hc, hx _ _ (fun q => ?_) hoc, hdc, hq⟩
  subst q
  rw [ht] at hoc
  cases hoc
  cases hdc
  obtain ⟨i, t, e⟩ := tri_one tri (by rw [Array.getElem?_toList]; exact hq)
  cases e
theorem Inv12.step {h₀ h h' : Heap} {ps ps' : Array Value} {vs : List Value} {x : Ent} {p : Addr} {v : Value} {tn tr : Tok} (I : Inv12 h₀ h ps vs) (hx : Heap.ExtBut 185 h h') (ht : h'.get? 185 = some (tabObj ps')) (tri : TriplesOk ps'.toList) (hxx : ents[vs.length]? = some x)
    (hp : p ≠ 185) (tup : IsTup h' p #[v, .str (Str.ofString x.nm.sym) tn, .str (Str.ofString x.root.sym) tr]) (L : LamTo h' v x.f) (hv : ∀ a, v = .ref a → a ≠ 185) : Inv12 h₀ h' ps' (vs ++ [.ref p]) where
  keep b o ne e := hx _ _ ne (I.keep b o ne e)
  tab := ht
  tri := tri
  len := by
    rw [List.length_append, List.length_singleton]
    have : vs.length < ents.length := (List.getElem?_eq_some_iff.mp hxx).1
    exact this
  at_ i y hi hy := by
    rw [List.length_append, List.length_singleton] at hi
    by_cases hlt : i < vs.length
    · obtain ⟨p', v', tn', tr', e1, e2, e3, e4, e5⟩ := I.at_ i y hlt hy
      exact ⟨p', v', tn', tr', by rw [List.getElem?_append_left hlt]; exact e1, e2, e3.extBut hx e2, lamTo_but e4 hx e5 I.tab I.tri, e5⟩
    · obtain rfl : i = vs.length := by omega
      rw [hxx] at hy
      cases hy
      exact ⟨p, v, tn, tr, by rw [List.getElem?_append_right (Nat.le_refl _), Nat.sub_self]; rfl, hp, tup, L, hv⟩
theorem Inv12.done {h₀ h : Heap} {ps : Array Value} {vs : List Value} {T : Addr} (I : Inv12 h₀ h ps vs) (hl : vs.length = 12) (ht : h.IsList T vs.toArray) : Twelves h T vs.toArray :=
  ⟨ht, by rw [List.size_toArray, hl], fun i x hx => by
    have : i < ents.length := (List.getElem?_eq_some_iff.mp hx).1
    have h12 : ents.length = 12 := rfl
    obtain ⟨p, v, tn, tr, e1, e2, e3, e4, e5⟩ := I.at_ i x (by omega) hx
    exact ⟨p, v, tn, tr, by rw [List.getElem?_toArray]; exact e1, e3, e4⟩⟩
end
end Mine
end
section
open PySem PySem.W PySem.W.X PyProof.Rows PySem.Calls PySem.Spec
namespace Mine
set_option maxRecDepth 100000
def abArgs (x1 x2 : Pos) : Arguments := { posonlyargs := [], args := [{ arg := "a", annotation := none, pos := x1 }, { arg := "b", annotation := none, pos := x2 }], vararg := none, kwonlyargs := [], kw_defaults := [], kwarg := none, defaults := [] }
section
variable {w : World} {A : Around} {s : Shared}
theorem elt12 {env : Env} {h₀ : Heap} {ps : Array Value} {vs : List Value} {x : Ent} {mg : Str → Option Value} {x1 x2 p0 p1 p2 p3 p4 p5 p6 pos : Pos} {d1 d2 d3 : Nat} {l : List Str × List Str} {Q E : Value → Shared → Prop} (I : Inv12 h₀ s.heap ps vs) (hxx : ents[vs.length]? = some x)
    (hgl : env.globals = mainGlobals) (hcode : env.code = .ref 189) (hcl : closureFor (lscope x.f) env = pure []) (hg : h₀.Ns mainGlobals mg) (C : CodeHd h₀ 189 185) (hb : h₀.BuiltinsAt mg 185) (hnf : codeAmong pos ps.toList = none)
    (hloc : localNames (abArgs x1 x2) (lscope x.f) (.expr (.Call (.Name x.f p0) [.Name "a" p1, .Name "b" p2] [] p3)) = some l) (h185 : 185 < s.heap.objs.size)
    (h : ∀ p h' tk, Inv12 h₀ h' (ps ++ #[rawInt pos.line, rawInt pos.col, .ref (s.heap.objs.size + 5)]) (vs ++ [.ref p]) → s.heap.objs.size ≤ h'.objs.size → Q (.ref p) { s with heap := h', toks := tk }) :
    wpAny (M0 w) A (eval (.Tuple [.Lambda (abArgs x1 x2) (.Call (.Name x.f p0) [.Name "a" p1, .Name "b" p2] [] p3) (lscope x.f) pos, .Constant (.str (Str.ofString x.nm.sym)) d1 p4, .Constant (.str (Str.ofString x.root.sym)) d2 p5] d3 p6) env) Q E s := by
  have hg1 : s.heap.Ns mainGlobals mg := hg.at' fun o e => I.keep _ _ (by decide) e
  have C1 : CodeHd s.heap 189 185 := by
    obtain ⟨o, vs, file, tf, flags, tg, inF, text, tt, ho, r⟩ := C
    exact ⟨o, vs, file, tf, flags, tg, inF, text, tt, I.keep _ _ (by decide) ho, r⟩
  have b1 : s.heap.BuiltinsAt mg 185 := by
    obtain ⟨bm, o, e1, e2, e3, e4, e5, r⟩ := hb
    exact ⟨bm, o, e1, e2, e3, e4, I.keep _ _ e4 e5, r⟩
  refine Tuple_ (args_cons (lam_sz rfl hcl hgl hg1 hcode C1 I.tab I.tri hnf (by decide) b1 hloc fun h' tk hx hz hrec htab => ?_))
  refine args_cons (wpAny_Constant_str (args_cons (wpAny_Constant_str (args_nil ?_))))
  refine wpAny_newTuple ?_ (by rw [sizeLine_eq]; simp)
  have up : ∀ {g : Heap} {o : Obj} b y, g.get? b = some y → (g.push o).get? b = some y := fun b y e => Heap.get?_push_of_some _ e
  have hfn := Heap.get?_push_size (o := kla_obj "<lambda>" (env.qual ++ "<lambda>") (abArgs x1 x2) (.Call (.Name x.f p0) [.Name "a" p1, .Name "b" p2] [] p3) (lscope x.f) [] ((mg "__name__").getD .none) (s.heap.objs.size + 5) .none) h' rfl
  rw [hz] at hfn
  have z2 : (h'.push (kla_obj "<lambda>" (env.qual ++ "<lambda>") (abArgs x1 x2) (.Call (.Name x.f p0) [.Name "a" p1, .Name "b" p2] [] p3) (lscope x.f) [] ((mg "__name__").getD .none) (s.heap.objs.size + 5) .none)).objs.size = s.heap.objs.size + 7 := by rw [Heap.size_push, hz]
  have k1 : ∀ b y, h'.get? b = some y → (h'.push (kla_obj "<lambda>" (env.qual ++ "<lambda>") (abArgs x1 x2) (.Call (.Name x.f p0) [.Name "a" p1, .Name "b" p2] [] p3) (lscope x.f) [] ((mg "__name__").getD .none) (s.heap.objs.size + 5) .none)).get? b = some y := fun b y e => up b y e
  generalize hG : h'.push (kla_obj "<lambda>" (env.qual ++ "<lambda>") (abArgs x1 x2) (.Call (.Name x.f p0) [.Name "a" p1, .Name "b" p2] [] p3) (lscope x.f) [] ((mg "__name__").getD .none) (s.heap.objs.size + 5) .none) = G at hfn z2 k1 ⊢
  dsimp only
  refine h _ _ _ (I.step (x := x) (v := .ref (s.heap.objs.size + 6)) (tn := tk) (tr := tk + 1) (fun b o ne e => up _ _ (k1 _ _ (hx b o ne e))) (up _ _ (k1 _ _ htab)) ?_ hxx ?_ ⟨_, Heap.get?_push_size _ rfl, rfl, 0, rfl⟩ ?_ ?_) (by rw [Heap.size_push, z2]; omega)
  · rw [show (ps ++ #[rawInt pos.line, rawInt pos.col, Value.ref (s.heap.objs.size + 5)]).toList = ps.toList ++ [rawInt pos.line, rawInt pos.col, .ref (s.heap.objs.size + 5)] by simp]
    exact TriplesOk_snoc _ _ _ _ I.tri
  · rw [z2]; exact Nat.ne_of_gt (by omega)
  · refine ⟨_, _, _, p0, p1, p2, p3, rfl, up _ _ hfn, rfl, rfl, rfl, rfl, rfl, fun _ _ => rfl, ?_⟩
    exact (hrec.keeps k1).keeps fun b y e => up b y e
  · intro a e
    cases e
    exact Nat.ne_of_gt (by omega)
end
end Mine
end
section
open PySem PySem.W PySem.W.X PyProof.Rows PySem.Calls PySem.Spec
namespace Mine
set_option maxRecDepth 100000
section
variable {w : World} {A : Around} {s : Shared}
theorem elt12s {env : Env} {h₀ : Heap} {ps : Array Value} {vs : List Value} {x : Ent} {mg : Str → Option Value} {x1 x2 p0 p1 p2 p3 p4 p5 p6 pos : Pos} {d1 d2 d3 : Nat} {l : List Str × List Str} {Q E : Value → Shared → Prop} (I : Inv12 h₀ s.heap ps vs) (hxx : ents[vs.length]? = some x)
    (hgl : env.globals = mainGlobals) (hcode : env.code = .ref 189) (hcl : closureFor (lscope x.f) env = pure []) (hg : h₀.Ns mainGlobals mg) (C : CodeHd h₀ 189 185) (hb : h₀.BuiltinsAt mg 185) (hnf : codeAmong pos ps.toList = none)
    (hloc : localNames (abArgs x1 x2) (lscope x.f) (.expr (.Call (.Name x.f p0) [.Name "a" p1, .Name "b" p2] [] p3)) = some l) (h185 : 185 < s.heap.objs.size)
    (h : ∀ p s' c, Inv12 h₀ s'.heap (ps ++ #[rawInt pos.line, rawInt pos.col, .ref c]) (vs ++ [.ref p]) → s.heap.objs.size ≤ s'.heap.objs.size → s'.gens = s.gens → s'.os = s.os → Q (.ref p) s') :
    wpAny (M0 w) A (eval (.Tuple [.Lambda (abArgs x1 x2) (.Call (.Name x.f p0) [.Name "a" p1, .Name "b" p2] [] p3) (lscope x.f) pos, .Constant (.str (Str.ofString x.nm.sym)) d1 p4, .Constant (.str (Str.ofString x.root.sym)) d2 p5] d3 p6) env) Q E s :=
  elt12 I hxx hgl hcode hcl hg C hb hnf hloc h185 fun p h' tk I' le => h p _ _ I' le rfl rfl
/-- all but the code table of `_law_twelve` -/
structure Kept185 (s : Shared) (v : Value) (s' : Shared) : Prop where
  keep : ∀ b o, b ≠ 185 → s.heap.get? b = some o → s'.heap.get? b = some o
  tab : ∃ ps, s'.heap.get? 185 = some (tabObj ps)
  gens : s'.gens = s.gens
  os : s'.os = s.os
  val : ∃ T items, v = .ref T ∧ Twelves s'.heap T items
set_option maxHeartbeats 2000000 in
theorem twelve_call {mg : Str → Option Value} (hdp : A.depth < 900) (X : (KK w.params).In s.heap) (hlim : s.heap.NoLimit) (hg : s.heap.Ns mainGlobals mg) (C : CodeHd s.heap 189 185) (hb : s.heap.BuiltinsAt mg 185) (ht : s.heap.get? 185 = some (tabObj #[])) :
    wpAny (M0 w) A (call (.ref 190) []) (Kept185 s) (fun _ _ => False) s := by
  refine wpAny_call (codeAny_call_function (by show _ < 1000; omega) (X 190 _ rfl) rfl rfl rfl rfl (codeRec_of X (by kernel_rfl)) ?_)
  refine wpAny_pure (wpAny_newFunctionEnv (by decide) (by intro y hy; simp at hy) (fun h₁ hns hsb => ⟨hlim.fresh _ hsb, ?_⟩) rfl)
  have kp : ∀ b o, s.heap.get? b = some o → h₁.get? b = some o := fun b o e => hsb.extBut b o (Nat.ne_of_lt (Heap.lt_size e)) (Heap.get?_push_of_some _ e)
  refine codeAny_func ?_
  have I0 : Inv12 s.heap h₁ ⟨[]⟩ [] := ⟨fun b o _ e => kp b o e, kp _ _ ht, trivial, by decide, fun i x hi => (Nat.not_lt_zero _ hi).elim⟩
  have l0 : 185 < h₁.objs.size := Heap.lt_size (kp _ _ ht)
  refine wpAny_execs_cons (wpAny_Return_some (List_ ?_))
  refine args_cons (elt12s (x := ⟨21, "_gt_from_lt", .gt, .lt, fun o e => !o && !e⟩) I0 rfl rfl rfl rfl hg C hb rfl rfl l0 fun p1 s1 c1 I1 le1 g1 o1 => ?_)
  have l1 : 185 < s1.heap.objs.size := Nat.lt_of_lt_of_le l0 le1
  have I1 : Inv12 s.heap s1.heap ⟨[.int 131 0, .int 0 0, .ref c1]⟩ [.ref p1] := I1
  clear le1
  refine args_cons (elt12s (x := ⟨28, "_le_from_lt", .le, .lt, fun o e => o || e⟩) I1 rfl rfl rfl rfl hg C hb rfl rfl l1 fun p2 s2 c2 I2 le2 g2 o2 => ?_)
  have l2 : 185 < s2.heap.objs.size := Nat.lt_of_lt_of_le l1 le2
  have I2 : Inv12 s.heap s2.heap ⟨[.int 131 0, .int 0 0, .ref c1, .int 132 0, .int 0 0, .ref c2]⟩ [.ref p1, .ref p2] := I2
  clear le2
  refine args_cons (elt12s (x := ⟨35, "_ge_from_lt", .ge, .lt, fun o _ => !o⟩) I2 rfl rfl rfl rfl hg C hb rfl rfl l2 fun p3 s3 c3 I3 le3 g3 o3 => ?_)
  have l3 : 185 < s3.heap.objs.size := Nat.lt_of_lt_of_le l2 le3
  have I3 : Inv12 s.heap s3.heap ⟨[.int 131 0, .int 0 0, .ref c1, .int 132 0, .int 0 0, .ref c2, .int 133 0, .int 0 0, .ref c3]⟩ [.ref p1, .ref p2, .ref p3] := I3
  clear le3
  refine args_cons (elt12s (x := ⟨42, "_ge_from_le", .ge, .le, fun o e => !o || e⟩) I3 rfl rfl rfl rfl hg C hb rfl rfl l3 fun p4 s4 c4 I4 le4 g4 o4 => ?_)
  have l4 : 185 < s4.heap.objs.size := Nat.lt_of_lt_of_le l3 le4
  have I4 : Inv12 s.heap s4.heap ⟨[.int 131 0, .int 0 0, .ref c1, .int 132 0, .int 0 0, .ref c2, .int 133 0, .int 0 0, .ref c3, .int 134 0, .int 0 0, .ref c4]⟩ [.ref p1, .ref p2, .ref p3, .ref p4] := I4
  clear le4
  refine args_cons (elt12s (x := ⟨49, "_lt_from_le", .lt, .le, fun o e => o && !e⟩) I4 rfl rfl rfl rfl hg C hb rfl rfl l4 fun p5 s5 c5 I5 le5 g5 o5 => ?_)
  have l5 : 185 < s5.heap.objs.size := Nat.lt_of_lt_of_le l4 le5
  have I5 : Inv12 s.heap s5.heap ⟨[.int 131 0, .int 0 0, .ref c1, .int 132 0, .int 0 0, .ref c2, .int 133 0, .int 0 0, .ref c3, .int 134 0, .int 0 0, .ref c4, .int 135 0, .int 0 0, .ref c5]⟩ [.ref p1, .ref p2, .ref p3, .ref p4, .ref p5] := I5
  clear le5
  refine args_cons (elt12s (x := ⟨56, "_gt_from_le", .gt, .le, fun o _ => !o⟩) I5 rfl rfl rfl rfl hg C hb rfl rfl l5 fun p6 s6 c6 I6 le6 g6 o6 => ?_)
  have l6 : 185 < s6.heap.objs.size := Nat.lt_of_lt_of_le l5 le6
  have I6 : Inv12 s.heap s6.heap ⟨[.int 131 0, .int 0 0, .ref c1, .int 132 0, .int 0 0, .ref c2, .int 133 0, .int 0 0, .ref c3, .int 134 0, .int 0 0, .ref c4, .int 135 0, .int 0 0, .ref c5, .int 136 0, .int 0 0, .ref c6]⟩ [.ref p1, .ref p2, .ref p3, .ref p4, .ref p5, .ref p6] := I6
  clear le6
  refine args_cons (elt12s (x := ⟨63, "_lt_from_gt", .lt, .gt, fun o e => !o && !e⟩) I6 rfl rfl rfl rfl hg C hb rfl rfl l6 fun p7 s7 c7 I7 le7 g7 o7 => ?_)
  have l7 : 185 < s7.heap.objs.size := Nat.lt_of_lt_of_le l6 le7
  have I7 : Inv12 s.heap s7.heap ⟨[.int 131 0, .int 0 0, .ref c1, .int 132 0, .int 0 0, .ref c2, .int 133 0, .int 0 0, .ref c3, .int 134 0, .int 0 0, .ref c4, .int 135 0, .int 0 0, .ref c5, .int 136 0, .int 0 0, .ref c6, .int 137 0, .int 0 0, .ref c7]⟩ [.ref p1, .ref p2, .ref p3, .ref p4, .ref p5, .ref p6, .ref p7] := I7
  clear le7
  refine args_cons (elt12s (x := ⟨70, "_ge_from_gt", .ge, .gt, fun o e => o || e⟩) I7 rfl rfl rfl rfl hg C hb rfl rfl l7 fun p8 s8 c8 I8 le8 g8 o8 => ?_)
  have l8 : 185 < s8.heap.objs.size := Nat.lt_of_lt_of_le l7 le8
  have I8 : Inv12 s.heap s8.heap ⟨[.int 131 0, .int 0 0, .ref c1, .int 132 0, .int 0 0, .ref c2, .int 133 0, .int 0 0, .ref c3, .int 134 0, .int 0 0, .ref c4, .int 135 0, .int 0 0, .ref c5, .int 136 0, .int 0 0, .ref c6, .int 137 0, .int 0 0, .ref c7, .int 138 0, .int 0 0, .ref c8]⟩ [.ref p1, .ref p2, .ref p3, .ref p4, .ref p5, .ref p6, .ref p7, .ref p8] := I8
  clear le8
  refine args_cons (elt12s (x := ⟨77, "_le_from_gt", .le, .gt, fun o _ => !o⟩) I8 rfl rfl rfl rfl hg C hb rfl rfl l8 fun p9 s9 c9 I9 le9 g9 o9 => ?_)
  have l9 : 185 < s9.heap.objs.size := Nat.lt_of_lt_of_le l8 le9
  have I9 : Inv12 s.heap s9.heap ⟨[.int 131 0, .int 0 0, .ref c1, .int 132 0, .int 0 0, .ref c2, .int 133 0, .int 0 0, .ref c3, .int 134 0, .int 0 0, .ref c4, .int 135 0, .int 0 0, .ref c5, .int 136 0, .int 0 0, .ref c6, .int 137 0, .int 0 0, .ref c7, .int 138 0, .int 0 0, .ref c8, .int 139 0, .int 0 0, .ref c9]⟩ [.ref p1, .ref p2, .ref p3, .ref p4, .ref p5, .ref p6, .ref p7, .ref p8, .ref p9] := I9
  clear le9
  refine args_cons (elt12s (x := ⟨84, "_le_from_ge", .le, .ge, fun o e => !o || e⟩) I9 rfl rfl rfl rfl hg C hb rfl rfl l9 fun p10 s10 c10 I10 le10 g10 o10 => ?_)
  have l10 : 185 < s10.heap.objs.size := Nat.lt_of_lt_of_le l9 le10
  have I10 : Inv12 s.heap s10.heap ⟨[.int 131 0, .int 0 0, .ref c1, .int 132 0, .int 0 0, .ref c2, .int 133 0, .int 0 0, .ref c3, .int 134 0, .int 0 0, .ref c4, .int 135 0, .int 0 0, .ref c5, .int 136 0, .int 0 0, .ref c6, .int 137 0, .int 0 0, .ref c7, .int 138 0, .int 0 0, .ref c8, .int 139 0, .int 0 0, .ref c9, .int 140 0, .int 0 0, .ref c10]⟩ [.ref p1, .ref p2, .ref p3, .ref p4, .ref p5, .ref p6, .ref p7, .ref p8, .ref p9, .ref p10] := I10
  clear le10
  refine args_cons (elt12s (x := ⟨91, "_gt_from_ge", .gt, .ge, fun o e => o && !e⟩) I10 rfl rfl rfl rfl hg C hb rfl rfl l10 fun p11 s11 c11 I11 le11 g11 o11 => ?_)
  have l11 : 185 < s11.heap.objs.size := Nat.lt_of_lt_of_le l10 le11
  have I11 : Inv12 s.heap s11.heap ⟨[.int 131 0, .int 0 0, .ref c1, .int 132 0, .int 0 0, .ref c2, .int 133 0, .int 0 0, .ref c3, .int 134 0, .int 0 0, .ref c4, .int 135 0, .int 0 0, .ref c5, .int 136 0, .int 0 0, .ref c6, .int 137 0, .int 0 0, .ref c7, .int 138 0, .int 0 0, .ref c8, .int 139 0, .int 0 0, .ref c9, .int 140 0, .int 0 0, .ref c10, .int 141 0, .int 0 0, .ref c11]⟩ [.ref p1, .ref p2, .ref p3, .ref p4, .ref p5, .ref p6, .ref p7, .ref p8, .ref p9, .ref p10, .ref p11] := I11
  clear le11
  refine args_cons (elt12s (x := ⟨98, "_lt_from_ge", .lt, .ge, fun o _ => !o⟩) I11 rfl rfl rfl rfl hg C hb rfl rfl l11 fun p12 s12 c12 I12 le12 g12 o12 => ?_)
  have l12 : 185 < s12.heap.objs.size := Nat.lt_of_lt_of_le l11 le12
  have I12 : Inv12 s.heap s12.heap ⟨[.int 131 0, .int 0 0, .ref c1, .int 132 0, .int 0 0, .ref c2, .int 133 0, .int 0 0, .ref c3, .int 134 0, .int 0 0, .ref c4, .int 135 0, .int 0 0, .ref c5, .int 136 0, .int 0 0, .ref c6, .int 137 0, .int 0 0, .ref c7, .int 138 0, .int 0 0, .ref c8, .int 139 0, .int 0 0, .ref c9, .int 140 0, .int 0 0, .ref c10, .int 141 0, .int 0 0, .ref c11, .int 142 0, .int 0 0, .ref c12]⟩ [.ref p1, .ref p2, .ref p3, .ref p4, .ref p5, .ref p6, .ref p7, .ref p8, .ref p9, .ref p10, .ref p11, .ref p12] := I12
  clear le12
  refine args_nil (wpAny_newList ?_ (by rw [sizeLine_eq]; simp))
  have up : ∀ {o : Obj} b y, s12.heap.get? b = some y → (s12.heap.push o).get? b = some y := fun b y e => Heap.get?_push_of_some _ e
  refine ⟨fun b o ne e => up _ _ (I12.keep b o ne e), ⟨_, up _ _ I12.tab⟩, ?_, ?_, _, #[.ref p1, .ref p2, .ref p3, .ref p4, .ref p5, .ref p6, .ref p7, .ref p8, .ref p9, .ref p10, .ref p11, .ref p12], rfl, ⟨_, Heap.get?_push_size _ rfl, rfl, 0, rfl⟩, rfl, fun i x hx => ?_⟩
  · show s12.gens = _; rw [g12, g11, g10, g9, g8, g7, g6, g5, g4, g3, g2, g1]
  · show s12.os = _; rw [o12, o11, o10, o9, o8, o7, o6, o5, o4, o3, o2, o1]
  · have hi : i < ents.length := (List.getElem?_eq_some_iff.mp hx).1
    obtain ⟨p, v, tn, tr, e1, e2, e3, e4, e5⟩ := I12.at_ i x hi hx
    exact ⟨p, v, tn, tr, by rw [← Array.getElem?_toList]; exact e1, e3.push _, e4.keeps fun b y e => up b y e⟩
end
end Mine
end
section
open PySem PySem.W PySem.W.X PyProof.Rows PySem.Calls PySem.Spec
namespace Mine
set_option maxRecDepth 100000
section
variable {prog : Program} {w : World} {A : Around} {E : Value → Shared → Prop} {s : Shared}
/-- a list's iterator at its end, with the heap's size -/
theorem next_end_sz {it l : Addr} {i : Nat} {items : Array Value} {Q : Option Value → Shared → Prop} (hh : A.handled = none) (hit : s.heap.IsListIter it l i) (hl : s.heap.IsList l items) (hx : items[i]? = none)
    (hQ : ∀ h', Heap.ExtBut it s.heap h' → h'.objs.size = s.heap.objs.size + 2 → Q none { s with heap := h' }) : wpAny (model prog w) A (pyNext (.ref it)) Q E s := by
  obtain ⟨o, ho, hc, hd⟩ := id hit
  obtain ⟨ol, hol, _, nl, hdl⟩ := hl
  unfold pyNext
  refine wpAny_bind (wpAny_attempt (wpAny_callSpecial?_slot (name := Str.ofString "__next__") hit.typeIs slot_listiter_next (wpAny_call_entry slot_listiter_next hit.typeIs entry_listiter_next ?_ (args_listiter_next _))))
  show wpAny _ _ (field (.ref it) 0 >>= _) _ _ s
  refine wpAny_bind (wpAny_field ho hd (x := .ref l) rfl ?_)
  show wpAny _ _ (if (Value.ref l == Value.none) = true then _ else _) _ _ s
  rw [if_neg (show ¬ ((Value.ref l == Value.none) = true) from Bool.false_ne_true)]
  show wpAny _ _ (field (.ref it) 1 >>= _) _ _ s
  refine wpAny_bind (wpAny_field ho hd (x := .int i 0) rfl ?_)
  show wpAny _ _ (seqItems? (.ref l) >>= _) _ _ s
  refine wpAny_bind (wpAny_seqItems hol hdl ?_)
  simp only [Int.toNat_natCast, hx]
  refine wpAny_bind (wpAny_rule (wpAny_bind (wpAny_setField ho hd (by simp) ?_)))
  show wpAny _ _ (newExc (.type "StopIteration") [] >>= _) _ _ _
  refine wpAny_bind ?_
  simp only [newExc, newTuple]
  refine wpAny_bind (wpAny_newObj_type ?_ (by size_fits))
  refine wpAny_bind (m := firstArgMember _ _) (wpAny_of_eq (a := Value.none) (by first | rfl | (simp only [firstArgMember]; rfl)) ?_)
  refine wpAny_newObj_type ?_ (by size_fits)
  simp only [raiseNew]
  refine wpAny_bind (wpAny_handled ?_)
  rw [show A.in1.handled = none from hh]
  refine wpAny_bind (wpAny_pure (wpAny_throw ?_))
  refine wpAny_bind (wpAny_isInstance (T := "StopIteration") (b := true) ⟨_, Heap.get?_push_size _ rfl, rfl⟩ isSubtype_stop ?_)
  exact wpAny_pure (hQ _ (((Heap.SameBut.update ..).extBut.push _).push _) (by simp only [Heap.size_push, Heap.size_after_update]))
end
end Mine
end
section
open PySem PySem.W PySem.W.X PyProof.Rows PySem.Calls PySem.Spec
namespace Mine
set_option maxRecDepth 100000
def mscope : Scope := { kind := .function, names := [(".0", .local), ("x", .local)], isGenerator := false, isCoroutine := false, more := [] }
/-- marks, each of them an object made behind address n -/
def MarksFrom (n : Nat) (h : Heap) (ys : List Value) : Prop := ∀ (i : Nat) v, ys[i]? = some v → ∃ (p : Addr) (k : Nat) (y : Int) (wr : Bool) (t1 t2 : Tok), v = .ref p ∧ k < 5 ∧ n < p ∧ IsTup h p #[.int k t1, .int y t2, .bool wr]
theorem MarksFrom.but {n : Nat} {h h' : Heap} {ys : List Value} {a : Addr} (x : MarksFrom n h ys) (e : Heap.ExtBut a h h') (ha : a ≤ n) : MarksFrom n h' ys := fun i v hv => by
  obtain ⟨p, k, y, wr, t1, t2, r1, r2, r3, r4⟩ := x i v hv
  exact ⟨p, k, y, wr, t1, t2, r1, r2, r3, r4.extBut e (Nat.ne_of_gt (Nat.lt_of_le_of_lt ha r3))⟩
theorem MarksFrom.snoc {n : Nat} {h : Heap} {ys : List Value} {p : Addr} {k : Nat} {y : Int} {wr : Bool} {t1 t2 : Tok} (x : MarksFrom n h ys) (hk : k < 5) (hp : n < p) (ht : IsTup h p #[.int k t1, .int y t2, .bool wr]) : MarksFrom n h (ys ++ [.ref p]) := fun i v hv => by
  by_cases hlt : i < ys.length
  · rw [List.getElem?_append_left hlt] at hv
    exact x i v hv
  · rw [List.getElem?_append_right (by omega)] at hv
    cases hi : i - ys.length with
    | zero => rw [hi] at hv; cases hv; exact ⟨p, k, y, wr, t1, t2, rfl, hk, hp, ht⟩
    | succ j => rw [hi] at hv; cases hv
theorem marksFrom_nil {n : Nat} {h : Heap} : MarksFrom n h [] := fun i v hv => by cases hv
theorem MarksFrom.mono {n n' : Nat} {h : Heap} {ys : List Value} (x : MarksFrom n h ys) (e : n' ≤ n) : MarksFrom n' h ys := fun i v hv => by
  obtain ⟨p, k, y, wr, t1, t2, r1, r2, r3, r4⟩ := x i v hv
  exact ⟨p, k, y, wr, t1, t2, r1, r2, Nat.lt_of_le_of_lt e r3, r4⟩
theorem mod5 (x : Int) : ∃ k : Nat, k < 5 ∧ x % 5 = (k : Int) := ⟨(x % 5).toNat, by omega, by omega⟩
section
variable {w : World} {A : Around} {E : Value → Shared → Prop} {s : Shared}
set_option maxHeartbeats 1000000 in
/-- the mark of one number: a new tuple, and nothing else -/
theorem mark_of {env : Env} {m : Str → Option Value} {x : Int} {t : Tok} {p1 p2 p3 p4 p5 p6 p7 p8 p9 p10 p11 p12 p13 p14 : Pos} {d1 d2 d3 d4 d5 d6 : Nat} {Q E : Value → Shared → Prop} (hk : env.scope.kind = .function) (hns : s.heap.Ns env.locals m) (kx : env.kindOf "x" = some .local) (hx : m "x" = some (.int x t))
    (h : ∀ tk (k : Nat) (y : Int) (wr : Bool) (t1 t2 : Tok), k < 5 → Q (.ref s.heap.objs.size) { s with heap := s.heap.push { cls := .type "tuple", data := .seq [.int (k : Int) t1, .int y t2, .bool wr].toArray }, toks := tk }) :
    wpAny (M0 w) A (eval (.Tuple [.BinOp (.Name "x" p1) .Mod (.Constant (.int 5) d1 p2) p3, .BinOp (.Name "x" p4) .FloorDiv (.Constant (.int 10) d2 p5) p6, .Compare (.BinOp (.BinOp (.Name "x" p7) .FloorDiv (.Constant (.int 5) d3 p8) p9) .Mod (.Constant (.int 2) d4 p10) p11) [.Eq] [.Constant (.int 1) d5 p12] p13] d6 p14) env) Q E s := by
  obtain ⟨k, h5, ek⟩ := mod5 x
  refine Tuple_ (args_cons (wpAny_BinOp (ev_loc hk kx hns hx (ev_int (mod_c (by decide) ?_)))))
  refine args_cons (wpAny_BinOp (ev_loc hk kx (by exact hns) hx (ev_int (div_c (by decide) (by decide) ?_))))
  refine args_cons (wpAny_Compare1 (wpAny_BinOp (wpAny_BinOp (ev_loc hk kx (by exact hns) hx (ev_int (div_c (by decide) (by decide) (ev_int (mod_c (by decide) (ev_int (P.eq_int ?_))))))))) (by with_unfolding_all rfl))
  refine args_nil (wpAny_newTuple ?_ (by rw [sizeLine_eq]; simp))
  rw [ek]
  exact h _ k _ _ _ _ h5
set_option maxHeartbeats 2000000 in
theorem marks_assign {env : Env} {m : Str → Option Value} {ax : Addr} {its : Array Value} {elt : Expr} {p0 p1 p2 p3 p4 : Pos} {Q : Flow → Shared → Prop} (hh : A.handled = none) (hk : env.scope.kind = .function) (hns : s.heap.Ns env.locals m) (kn : env.kindOf "numbers" = some .local) (km : env.kindOf "marks" = some .local)
    (hn : m "numbers" = some (.ref ax)) (hl : s.heap.IsList ax its) (hsz : its.size ≤ 100) (hint : ∀ (i : Nat) v, its[i]? = some v → ∃ x t, v = .int x t)
    (helt : ∀ {cenv : Env} {s : Shared} {m' : Str → Option Value} {x : Int} {t : Tok} {Q E : Value → Shared → Prop}, cenv.scope.kind = .function → s.heap.Ns cenv.locals m' → cenv.kindOf "x" = some .local → m' "x" = some (.int x t) → (∀ tk (k : Nat) (y : Int) (wr : Bool) (t1 t2 : Tok), k < 5 → Q (.ref s.heap.objs.size) { s with heap := s.heap.push { cls := .type "tuple", data := .seq [.int (k : Int) t1, .int y t2, .bool wr].toArray }, toks := tk }) → wpAny (M0 w) A (eval elt cenv) Q E s)
    (hsw : swapsWith (.ListComp elt [⟨.Name "x" p1, .Name "numbers" p2, [], 0⟩] mscope p3) (some (.Name "marks" p0)) p4.line env = pure true)
    (hclos : closureFor mscope env = pure [])
    (h : ∀ h' tk D ys, (∀ b o, b ≠ env.locals → s.heap.get? b = some o → h'.get? b = some o) → h'.Ns env.locals (fun z => if z = "marks" then some (.ref D) else m z) → h'.objs.size = s.heap.objs.size + 5 + its.size → h'.IsList D ys.toArray → ys.length = its.size → MarksFrom s.heap.objs.size h' ys → s.heap.objs.size < D → Q .next { s with heap := h', toks := tk }) :
    wpAny (M0 w) A (exec (.Assign [.Name "marks" p0] (.ListComp elt [⟨.Name "x" p1, .Name "numbers" p2, [], 0⟩] mscope p3) p4) env) Q E s := by
  rw [exec_Assign_Name_used _ _ _ _ hsw]
  refine wpAny_bind (wpAny_standAt (wpAny_bind ?_))
  show wpAny _ A (do let _ ← comprehension (.ListComp elt [⟨_, .Name "numbers" p2, [], 0⟩] mscope p3) mscope env _ (newList []) false (eval (.Name "numbers" p2) env) (some (assign (.Name "marks" p0) env))) _ _ s
  refine wpAny_bind (wpAny_mono (wpAny_comprehension_free (use := some (assign (.Name "marks" p0) env)) (Q := fun _ s' => Q .next s') rfl (fun _ => rfl) hclos rfl (by decide) ?_) (fun _ s' hq => wpAny_pure (wpAny_pure hq)) fun _ _ e => e)
  refine ev_loc hk kn hns hn ?_
  refine wpAny_pyIter_list hl ?_
  refine wpAny_newObj_type (hd := by size_fits) (wpAny_newFunctionEnv (by decide) (by intro y hy; simp at hy) (fun h₁ ns₁ sb₁ => ?_) rfl)
  have up : ∀ {h : Heap} {o : Obj} b x, h.get? b = some x → (h.push o).get? b = some x := fun b x e => Heap.get?_push_of_some _ e
  dsimp only at ns₁ sb₁ ⊢
  generalize eA : s.heap.push { cls := .type "list_iterator", data := .fields #[.ref ax, .int 0 0] } = hA at *
  generalize eB : hA.push { cls := .type "list", dict := none, data := .seq ([] : List Value).toArray } = hB at *
  have zA : hA.objs.size = s.heap.objs.size + 1 := by rw [← eA, Heap.size_push]
  have zB : hB.objs.size = s.heap.objs.size + 2 := by rw [← eB, Heap.size_push, zA]
  have z₁ : h₁.objs.size = s.heap.objs.size + 3 := by rw [sb₁.1, Heap.size_push, zB]
  have kB : ∀ b o, hB.get? b = some o → h₁.get? b = some o := fun b o e => sb₁.extBut b o (Nat.ne_of_lt (Heap.lt_size e)) (up _ _ e)
  have kp₁ : ∀ b o, s.heap.get? b = some o → h₁.get? b = some o := fun b o e => kB _ _ (eB ▸ up _ _ (eA ▸ up _ _ e))
  have hI : h₁.IsListIter s.heap.objs.size ax 0 := ⟨_, kB _ _ (eB ▸ up _ _ (eA ▸ Heap.get?_push_size _ rfl)), rfl, rfl⟩
  have hD : h₁.get? hA.objs.size = some (LCg.lst []) := kB _ _ (eB ▸ Heap.get?_push_size _ rfl)
  have old : ∀ b o, s.heap.get? b = some o → b < s.heap.objs.size := fun b o e => Heap.lt_size e
  have ltL : env.locals < s.heap.objs.size := hns.lt
  clear sb₁ kB eA eB
  generalize hA.objs.size = D at *
  generalize hB.objs.size = C at *
  have fin : ∀ h' tk D ys, (∀ b o, b ≠ env.locals → s.heap.get? b = some o → h'.get? b = some o) → h'.Ns env.locals (fun z => if z = "marks" then some (.ref D) else m z) → h'.objs.size = s.heap.objs.size + 5 + its.size → h'.IsList D ys.toArray → ys.length = its.size → MarksFrom s.heap.objs.size h' ys → s.heap.objs.size < D → Q .next { s with heap := h', toks := tk } := h
  clear h
  generalize s.heap.objs.size = I at *
  have ltD : I < D := by omega
  have ltC : D < C := by omega
  have kx : (compEnvC mscope [] C env).kindOf "x" = some .local := lookup_relabel_local (names := mscope.names) (by decide)
  have kfn : (compEnvC mscope [] C env).scope.kind = .function := rfl
  have loop : codeAny (M0 w) A (.compLoop (.ListComp elt [⟨.Name "x" p1, .Name "numbers" p2, [], 0⟩] mscope p3) 0 (.ref I) (.ref D) (compEnvC mscope [] C env))
      (compPost (M0 w) A E (some (assign (.Name "marks" p0) env)) (fun _ s' => Q .next s') (.ref D) C) { s with heap := h₁, toks := s.toks + 0 } := by
    refine codeAny_compLoop_tests (fun k s' => ∃ h' tk i ys m', s' = { s with heap := h', toks := tk } ∧ i ≤ its.size ∧ k = its.size + 1 - i ∧ ys.length = i ∧ h'.objs.size = C + 1 + i ∧ h'.IsListIter I ax i ∧ h'.Ns C m' ∧ h'.get? D = some (LCg.lst ys) ∧ MarksFrom C h' ys ∧ (∀ b o, s.heap.get? b = some o → h'.get? b = some o)) ?_ (its.size + 1)
      ⟨h₁, _, 0, [], _, rfl, Nat.zero_le _, rfl, rfl, by omega, hI, ns₁, hD, marksFrom_nil, kp₁⟩
    rintro n s' ⟨h', tk, i, ys, m', rfl, hi, rfl, hyl, hz, hit, hn', hD', hM, kp⟩
    have hl' : h'.IsList ax its := by obtain ⟨o, ho, r⟩ := hl; exact ⟨o, kp _ _ ho, r⟩
    by_cases hlt : i < its.size
    · have ev : its[i]? = some its[i] := Array.getElem?_eq_getElem hlt
      obtain ⟨x, t, ex⟩ := hint i _ ev
      rw [ex] at ev
      refine wpAny_pyNext_list_item hit hl' ev fun h₂ hit₂ sb₂ => ?_
      refine wpAny_assign_Name (wpAny_storeName_local kx (hn'.sameBut sb₂ (Nat.ne_of_gt (Nat.lt_trans ltD ltC))) (fun h₃ hn₃ sb₃ => ?_) rfl)
      refine wpAny_tests_nil ?_
      rw [if_pos rfl]
      refine helt kfn (by exact hn₃) kx (x := x) (t := t) (by simp) fun tk₄ k y wr t1 t2 hk5 => ?_
      have hp₄ : IsTup (h₃.push { cls := .type "tuple", data := .seq [.int (k : Int) t1, .int y t2, .bool wr].toArray }) h₃.objs.size #[.int k t1, .int y t2, .bool wr] := ⟨_, Heap.get?_push_size _ rfl, rfl, 0, rfl⟩
      have kp₃ : ∀ b o, b ≠ I → b ≠ C → h'.get? b = some o → h₃.get? b = some o := fun b o e1 e2 e => sb₃.extBut _ _ e2 (sb₂.extBut _ _ e1 e)
      have z₃ : h₃.objs.size = C + 1 + i := by rw [sb₃.1, sb₂.1, hz]
      have M₃ : MarksFrom C h₃ ys := (hM.but sb₂.extBut (Nat.le_of_lt (Nat.lt_trans ltD ltC))).but sb₃.extBut (Nat.le_refl _)
      have it₃ : h₃.IsListIter I ax (i + 1) := hit₂.extBut sb₃.extBut (Nat.ne_of_lt (Nat.lt_trans ltD ltC))
      have D₃ : h₃.get? D = some (LCg.lst ys) := kp₃ _ _ (Nat.ne_of_gt ltD) (Nat.ne_of_lt ltC) hD'
      have old₃ : ∀ b o, s.heap.get? b = some o → h₃.get? b = some o := fun b o e => kp₃ _ _ (Nat.ne_of_lt (old _ _ e)) (Nat.ne_of_lt (Nat.lt_trans (old _ _ e) (Nat.lt_trans ltD ltC))) (kp _ _ e)
      have kp₄ : ∀ b o, h₃.get? b = some o → (h₃.push { cls := .type "tuple", data := .seq [.int (k : Int) t1, .int y t2, .bool wr].toArray }).get? b = some o := fun b o e => up _ _ e
      have z₄ : (h₃.push { cls := .type "tuple", data := .seq [.int (k : Int) t1, .int y t2, .bool wr].toArray }).objs.size = C + 1 + (i + 1) := by rw [Heap.size_push, z₃]; omega
      dsimp only
      have lt₄ : C < h₃.objs.size := by omega
      generalize h₃.objs.size = p₄ at hp₄ lt₄ ⊢
      generalize h₃.push { cls := .type "tuple", data := .seq [.int (k : Int) t1, .int y t2, .bool wr].toArray } = h₄ at *
      refine append_at (s := { s with heap := h₄, toks := tk₄ }) (hsz := by show ys.toArray.size ≤ sizeLine; rw [List.size_toArray, hyl, sizeLine_eq]; omega) (kp₄ _ _ D₃) fun h₅ sb₅ D₅ => ?_
      have M₄ : MarksFrom C h₄ (ys ++ [.ref p₄]) := MarksFrom.snoc (fun i v hv => by
        obtain ⟨p, k, y, wr, t1, t2, r1, r2, r3, r4⟩ := M₃ i v hv
        exact ⟨p, k, y, wr, t1, t2, r1, r2, r3, r4.keeps kp₄⟩) hk5 lt₄ hp₄
      have nsC : h₄.Ns C _ := hn₃.keeps kp₄
      exact ⟨its.size + 1 - (i + 1), by omega, h₅, tk₄, i + 1, ys ++ [.ref p₄], _, rfl, hlt, rfl, by rw [List.length_append, List.length_singleton, hyl], by rw [sb₅.1, z₄], (it₃.at fun o e => kp₄ _ _ e).extBut sb₅.extBut (Nat.ne_of_lt ltD), nsC.sameBut sb₅ (Nat.ne_of_gt ltC),
        D₅.trans (congrArg some (LCg.lst_snoc ys _)), M₄.but sb₅.extBut (Nat.le_of_lt ltC), fun b o e => sb₅.extBut _ _ (Nat.ne_of_lt (Nat.lt_trans (old _ _ e) ltD)) (kp₄ _ _ (old₃ _ _ e))⟩
    · obtain rfl : i = its.size := Nat.le_antisymm hi (Nat.not_lt.mp hlt)
      refine next_end_sz hh hit hl' (Array.getElem?_eq_none (Nat.le_refl _)) fun h₂ x₂ z₂ => ?_
      show wpAny _ A (assign (.Name "marks" p0) env (.ref D)) _ _ _
      have old₂ : ∀ b o, s.heap.get? b = some o → h₂.get? b = some o := fun b o e => x₂ _ _ (Nat.ne_of_lt (old _ _ e)) (kp _ _ e)
      have nsC₂ : h₂.Ns C m' := hn'.extBut x₂ (Nat.ne_of_gt (Nat.lt_trans ltD ltC))
      have D₂ : h₂.get? D = some (LCg.lst ys) := x₂ _ _ (Nat.ne_of_gt ltD) hD'
      have M₂ : MarksFrom C h₂ ys := hM.but x₂ (Nat.le_of_lt (Nat.lt_trans ltD ltC))
      refine wpAny_assign_Name (wpAny_storeName_local km (hns.keeps old₂) (fun h₃ ns₃ sb₃ => ?_) (by rw [hk]; rfl))
      have ltLC : env.locals < C := Nat.lt_trans ltL (Nat.lt_trans ltD ltC)
      refine ⟨m', nsC₂.sameBut sb₃ (Nat.ne_of_gt ltLC), fun h₄ sb₄ => fin h₄ _ D ys (fun b o ne e => ?_) (ns₃.sameBut sb₄ (Nat.ne_of_lt ltLC)) ?_ ?_ hyl ?_ ltD⟩
      · exact sb₄.extBut _ _ (Nat.ne_of_lt (Nat.lt_trans (old _ _ e) (Nat.lt_trans ltD ltC))) (sb₃.extBut _ _ ne (old₂ _ _ e))
      · rw [sb₄.1, sb₃.1, z₂]; show h'.objs.size + 2 = _; omega
      · exact ⟨_, sb₄.extBut _ _ (Nat.ne_of_lt ltC) (sb₃.extBut _ _ (Nat.ne_of_gt (Nat.lt_trans ltL ltD)) D₂), rfl, _, rfl⟩
      · exact ((M₂.but sb₃.extBut (Nat.le_of_lt ltLC)).but sb₄.extBut (Nat.le_refl _)).mono (Nat.le_of_lt (Nat.lt_trans ltD ltC))
  exact codeAny_compStart_list loop (wpAny_pyIter_listiter hI loop)
end
end Mine
end
section
open PySem PySem.W PySem.W.X PyProof.Rows PySem.Calls PySem.Spec
namespace Mine
set_option maxRecDepth 100000
theorem ints_at : ∀ {vs : List Value} {ns : List Int}, IntsAre vs ns → ∀ (i : Nat) v, vs[i]? = some v → ∃ x t, v = .int x t
  | _, _, .nil, i, v, h => by cases h
  | _, _, .cons n t r, 0, v, h => by cases h; exact ⟨_, _, rfl⟩
  | _, _, .cons n t r, i + 1, v, h => ints_at r i v h
section
variable {w : World} {A : Around} {E : Value → Shared → Prop} {s : Shared}
theorem add_two {l b : Addr} {vs ws : Array Value} {Q : Value → Shared → Prop} (hl : s.heap.IsList l vs) (hb : s.heap.IsList b ws) (h : Q (.ref s.heap.objs.size) { s with heap := s.heap.push { cls := .type "list", data := .seq (vs ++ ws) } })
    (hsz : vs.size + ws.size ≤ sizeLine) : wpAny (M0 w) A (binaryOp .Add (.ref l) (.ref b)) Q E s := by
  obtain ⟨⟨cls, dd, data, sl⟩, ho, hc, n, hd⟩ := id hl
  obtain ⟨⟨cls2, dd2, data2, sl2⟩, ho2, hc2, n2, hd2⟩ := id hb
  simp only at hc hd hc2 hd2
  subst hc hd hc2 hd2
  exact concat_meets ⟨_, ho, rfl⟩ ⟨_, ho2, rfl⟩ noFill_list_add seq_list_add PySem.F.slot_list_add PySem.F.entry_list_add (PySem.F.args_list_add_2 _ _) (list_addW l b vs ws n n2 dd dd2 sl sl2 hsz) ⟨ho, ho2, h⟩
set_option maxHeartbeats 1000000 in
theorem numbers_assign {env : Env} {m : Str → Option Value} {scr : Addr} {vs : List Value} {ns : List Int} {p0 p1 p2 p3 p4 p5 p6 p7 p8 p9 p10 p11 : Pos} {d0 d1 d2 d3 d4 : Nat} {Q : Flow → Shared → Prop} (hk : env.scope.kind = .function) (hns : s.heap.Ns env.locals m) (ks : env.kindOf "script" = some .local) (kn : env.kindOf "numbers" = some .local)
    (hn : m "script" = some (.ref scr)) (hl : s.heap.IsList scr vs.toArray) (hi : IntsAre vs ns) (hlen : vs.length ≤ 1000)
    (hsw : swapsWith (.BinOp (.Subscript (.Name "script" p1) (.Slice none (some (.Constant (.int 8) d0 p2)) none p3) p4) .Add (.List [.Constant (.int 16) d1 p5, .Constant (.int 32) d2 p6, .Constant (.int 49) d3 p7, .Constant (.int 20) d4 p8] p9) p10) (some (.Name "numbers" p0)) p11.line env = pure false)
    (h : ∀ h' tk its, (∀ b o, b ≠ env.locals → s.heap.get? b = some o → h'.get? b = some o) → h'.Ns env.locals (fun z => if z = "numbers" then some (.ref (s.heap.objs.size + 3)) else m z) → h'.objs.size = s.heap.objs.size + 4 → h'.IsList (s.heap.objs.size + 3) its → 4 ≤ its.size → its.size ≤ 12 → (∀ (i : Nat) v, its[i]? = some v → ∃ x t, v = .int x t) → Q .next { s with heap := h', toks := tk }) :
    wpAny (M0 w) A (exec (.Assign [.Name "numbers" p0] (.BinOp (.Subscript (.Name "script" p1) (.Slice none (some (.Constant (.int 8) d0 p2)) none p3) p4) .Add (.List [.Constant (.int 16) d1 p5, .Constant (.int 32) d2 p6, .Constant (.int 49) d3 p7, .Constant (.int 20) d4 p8] p9) p10) p11) env) Q E s := by
  refine wpAny_Assign_Name (wpAny_BinOp (wpAny_Subscript_list_slice (ev_loc hk ks hns hn ?_))) hsw
  rw [evalPart_none]
  refine wpAny_pure ?_
  rw [evalPart_some]
  refine ev_int ⟨scr, vs.toArray, none, some ((8 : Nat) : Int), rfl, by exact hl, by rw [List.size_toArray, sizeLine_eq]; omega, .none, .int _ _, ?_⟩
  rw [slicePick_upto']
  have hi8 : IntsAre (vs.toArray.toList.take 8) (ns.take 8) := hi.take 8
  have l8 : (vs.toArray.toList.take 8).length ≤ 8 := by rw [List.length_take]; omega
  generalize vs.toArray.toList.take 8 = us at hi8 l8 ⊢
  dsimp only
  have up : ∀ {h : Heap} {o : Obj} b x, h.get? b = some x → (h.push o).get? b = some x := fun b x e => Heap.get?_push_of_some _ e
  generalize eA : s.heap.push { cls := .type "slice", data := .fields #[.none, .int 8 s.toks, .none] } = hA
  have zA : hA.objs.size = s.heap.objs.size + 1 := by rw [← eA, Heap.size_push]
  have kA : ∀ b o, s.heap.get? b = some o → hA.get? b = some o := fun b o e => eA ▸ up _ _ e
  clear eA
  generalize eB : hA.push { cls := .type "list", data := .seq us.toArray } = hB
  have zB : hB.objs.size = s.heap.objs.size + 2 := by rw [← eB, Heap.size_push, zA]
  have lB : hB.IsList (s.heap.objs.size + 1) us.toArray := ⟨_, by rw [← zA, ← eB]; exact Heap.get?_push_size _ rfl, rfl, _, rfl⟩
  have kB : ∀ b o, s.heap.get? b = some o → hB.get? b = some o := fun b o e => eB ▸ up _ _ (kA _ _ e)
  clear eB
  refine List_ (args_cons (ev_int (args_cons (ev_int (args_cons (ev_int (args_cons (ev_int (args_nil ?_)))))))))
  refine wpAny_newList ?_ (by rw [sizeLine_eq]; simp)
  dsimp only
  generalize eC : hB.push _ = hC
  have zC : hC.objs.size = s.heap.objs.size + 3 := by rw [← eC, Heap.size_push, zB]
  have lC : hC.IsList hB.objs.size _ := ⟨_, by rw [← eC]; exact Heap.get?_push_size _ rfl, rfl, _, rfl⟩
  have kC : ∀ b o, hB.get? b = some o → hC.get? b = some o := fun b o e => eC ▸ up _ _ e
  clear eC
  refine add_two (s := { s with heap := hC, toks := _ }) (lB.at fun o e => kC _ _ e) lC ?_ (by rw [sizeLine_eq, List.size_toArray, List.size_toArray]; simp; omega)
  dsimp only
  have hi4 : IntsAre [Value.int 16 (s.toks + 1), Value.int 32 (s.toks + 1 + 1), Value.int 49 (s.toks + 1 + 1 + 1), Value.int 20 (s.toks + 1 + 1 + 1 + 1)] [16, 32, 49, 20] := .cons _ _ (.cons _ _ (.cons _ _ (.cons _ _ .nil)))
  have hi12 := hi8.append hi4
  have l12 : 4 ≤ (us ++ [Value.int 16 (s.toks + 1), Value.int 32 (s.toks + 1 + 1), Value.int 49 (s.toks + 1 + 1 + 1), Value.int 20 (s.toks + 1 + 1 + 1 + 1)]).length ∧ (us ++ [Value.int 16 (s.toks + 1), Value.int 32 (s.toks + 1 + 1), Value.int 49 (s.toks + 1 + 1 + 1), Value.int 20 (s.toks + 1 + 1 + 1 + 1)]).length ≤ 12 := by
    rw [List.length_append]; simp; omega
  rw [List.append_toArray]
  generalize us ++ [Value.int 16 (s.toks + 1), Value.int 32 (s.toks + 1 + 1), Value.int 49 (s.toks + 1 + 1 + 1), Value.int 20 (s.toks + 1 + 1 + 1 + 1)] = xs at hi12 l12 ⊢
  generalize eD : hC.push { cls := .type "list", data := .seq xs.toArray } = hD
  have zD : hD.objs.size = s.heap.objs.size + 4 := by rw [← eD, Heap.size_push, zC]
  have lD : hD.IsList (s.heap.objs.size + 3) xs.toArray := ⟨_, by rw [← zC, ← eD]; exact Heap.get?_push_size _ rfl, rfl, _, rfl⟩
  have kD : ∀ b o, s.heap.get? b = some o → hD.get? b = some o := fun b o e => eD ▸ up _ _ (kC _ _ (kB _ _ e))
  clear eD
  have ltL : env.locals < s.heap.objs.size := hns.lt
  refine wpAny_storeName_local kn (hns.keeps kD) (fun h' ns' sb' => ?_) (by rw [hk]; rfl)
  refine h h' _ xs.toArray (fun b o ne e => sb'.extBut _ _ ne (kD _ _ e)) (by rw [← zC]; exact ns') (by rw [sb'.1, zD]) (lD.extBut sb'.extBut (Nat.ne_of_gt (Nat.lt_of_lt_of_le ltL (Nat.le_add_right _ _)))) (by rw [List.size_toArray]; exact l12.1) (by rw [List.size_toArray]; exact l12.2) fun i v hv => ints_at hi12 i v (by rw [List.getElem?_toArray] at hv; exact hv)
end
end Mine
end
section
open PySem PySem.W PySem.W.X PyProof.Rows PySem.Calls PySem.Spec
namespace Mine
set_option maxRecDepth 100000
/-- what the law's first lines stand on: a heap under the one at hand, without the three code tables and without the frame -/
structure Base (w : World) (B : Heap) : Prop where
  F : Facts w B
  n218 : B.get? 218 = none
  n100 : B.get? 100 = none
  n185 : B.get? 185 = none
  low : ∀ b o, B.get? b = some o → b < 223
  code : CodeHd B 220 218
  mg : ∃ mg, B.Ns mainGlobals mg ∧ B.BuiltinsAt mg 218 ∧ B.BuiltinsAt mg 185
section
variable {w : World} {A : Around} {s : Shared}
/-- cmp_to_key(lambda ..): the lambda is made for the first time, then the call -/
theorem lam_arg {B : Heap} {env : Env} {params : Arguments} {body : Expr} {scope : Scope} {pos p1 p2 : Pos} {ps : Array Value} {l : List Str × List Str} {N : Nat} {Q E : Value → Shared → Prop} (X : Base w B) (S : B.StaysIn s.heap) (hN : s.heap.objs.size = N) (hk : env.scope.kind = .function) (hg : env.globals = mainGlobals) (hcode : env.code = .ref 220) (kc : env.kindOf "cmp_to_key" = some .globalImplicit)
    (hP : s.heap.get? 218 = some (tabObj ps)) (tri : TriplesOk ps.toList) (hnf : codeAmong pos ps.toList = none) (hdef : defaultsOf params env = ([], [])) (hcl : closureFor scope env = pure []) (hloc : localNames params scope (.expr body) = some l)
    (h : ∀ h' tk mn, (∀ b o, b ≠ 218 → s.heap.get? b = some o → h'.get? b = some o) → h'.objs.size = N + 7 → h'.get? 218 = some (tabObj (ps ++ #[rawInt pos.line, rawInt pos.col, .ref (N + 5)])) →
      h'.get? (N + 6) = some (kla_obj "<lambda>" (env.qual ++ "<lambda>") params body scope [] mn (N + 5) .none) → h'.CodeRec (.ref (N + 5)) (env.qual ++ "<lambda>") → wpAny (M0 w) A (call (.ref 105) [.ref (N + 6)]) Q E { s with heap := h', toks := tk }) :
    wpAny (M0 w) A (eval (.Call (.Name "cmp_to_key" p1) [.Lambda params body scope pos] [] p2) env) Q E s := by
  subst hN
  obtain ⟨mg, hmg, hb, _⟩ := X.mg
  have hb1 : s.heap.BuiltinsAt mg 218 := hb.keeps S
  refine wpAny_Call_ofName (ev_glob X.F S hk hg kc (v := .ref 105) (by kernel_rfl) ?_)
  refine callWith_any (P := fun h => B.StaysIn h) (fun h e => keep_fn (e _ _ (X.F.K 105 _ rfl)) rfl) rfl ?_
  refine spliced_cons (lam_sz hdef hcl hg (hmg.keeps S) hcode (X.code.keeps S) hP tri hnf (by decide) hb1 hloc fun h' tk hx hz hrec htab => ?_)
  have up : ∀ {o : Obj} b y, h'.get? b = some y → (h'.push o).get? b = some y := fun b y e => Heap.get?_push_of_some _ e
  have kp : ∀ {o : Obj} b y, b ≠ 218 → s.heap.get? b = some y → (h'.push o).get? b = some y := fun b y ne e => up _ _ (hx _ _ ne e)
  have hfn := Heap.get?_push_size (o := kla_obj "<lambda>" (env.qual ++ "<lambda>") params body scope [] ((mg "__name__").getD .none) (s.heap.objs.size + 5) .none) h' rfl
  rw [hz] at hfn
  refine spliced_nil ⟨fun b o e => kp _ _ (fun q => ?_) (S _ _ e), ?_⟩
  · rw [q, X.n218] at e; cases e
  · exact h _ _ _ (fun b o => kp b o) (by rw [Heap.size_push, hz]) (up _ _ htab) hfn (hrec.keeps fun b y e => up b y e)
end
end Mine
end
section
open PySem PySem.W PySem.W.X PyProof.Rows PySem.Calls PySem.Spec PySem.W.ZRun
namespace Mine
set_option maxRecDepth 100000
theorem lookup_filter {q : Addr → Bool} {a : Addr} {o : Obj} : ∀ {K : Frag}, (K.filter fun p => q p.1).lookup a = some o → q a = true ∧ K.lookup a = some o
  | [], e => nomatch e
  | p :: K, e => by
    rw [List.filter_cons] at e
    rw [List.lookup_cons]
    split at e
    · rename_i hq
      rw [List.lookup_cons] at e
      split at e
      · rename_i h
        rw [beq_iff_eq.mp h]
        exact ⟨hq, e⟩
      · rename_i h
        exact lookup_filter e
    · rename_i hq
      obtain ⟨h1, h2⟩ := lookup_filter e
      refine ⟨h1, ?_⟩
      split
      · rename_i h
        rw [beq_iff_eq.mp h] at h1
        exact absurd h1 hq
      · exact h2
theorem base_of {w : World} {h : Heap} {mg mb : Str → Option Value} (X : (hd.heap_251 w.params).In h) (hz : h.objs.size = 223) (G : h.Ns mainGlobals mg) (Gb : h.Ns builtinsNs mb) (lim : h.NoLimit) : Base w (hideAll h [218, 100, 185]) := by
  have get : ∀ {a : Addr} {o : Obj}, h.get? a = some o → a ≠ 218 → a ≠ 100 → a ≠ 185 → (hideAll h [218, 100, 185]).get? a = some o := fun e h1 h2 h3 => hideAll_get _ e fun q => by
    rcases List.mem_cons.mp q with q | q
    · exact h1 q
    · rcases List.mem_cons.mp q with q | q
      · exact h2 q
      · exact h3 (List.mem_singleton.mp q)
  have K : (KK w.params).In (hideAll h [218, 100, 185]) := fun a o e => by
    obtain ⟨h1, h2⟩ := lookup_filter (q := fun a => !(a == 218 || a == 100 || a == 185)) (show ((hd.heap_251 w.params).filter fun p => !(p.1 == 218 || p.1 == 100 || p.1 == 185)).lookup a = some o from e)
    simp only [Bool.not_eq_true', Bool.or_eq_false_iff, beq_eq_false_iff_ne] at h1
    exact get (X _ _ h2) h1.1.1 h1.1.2 h1.2
  have G1 : (hideAll h [218, 100, 185]).Ns mainGlobals mg := G.at' fun o e => get e (by decide) (by decide) (by decide)
  have bm : ∀ {P : Addr}, P ≠ 4 → (hideAll h [218, 100, 185]).BuiltinsAt mg P := fun ne => ⟨4, _, ns_val K G1 (by kernel_rfl), by decide, by decide, Ne.symm ne, K 4 _ rfl, rfl, rfl, rfl⟩
  exact {
    F := ⟨K, ⟨mg, G1⟩, ⟨mb, Gb.at' fun o e => get e (by decide) (by decide) (by decide)⟩, lim.at fun o e => get e (by decide) (by decide) (by decide)⟩
    n218 := hideAll_none _ (by decide)
    n100 := hideAll_none _ (by decide)
    n185 := hideAll_none _ (by decide)
    low := fun b o e => by rw [← hz]; exact Heap.lt_size (of_hideAll _ e)
    code := ⟨_, _, _, _, _, _, _, _, _, K 220 _ rfl, rfl, rfl, rfl, rfl, rfl, rfl, rfl, rfl, by decide⟩
    mg := ⟨mg, G1, bm (by decide), bm (by decide)⟩ }
theorem code189 {w : World} {B : Heap} (F : Facts w B) : CodeHd B 189 185 := ⟨_, _, _, _, _, _, _, _, _, F.K 189 _ rfl, rfl, rfl, rfl, rfl, rfl, rfl, rfl, rfl, by decide⟩
def SubAt (K K2 : Frag) : Prop := K2.map (fun p => K.lookup p.1) = K2.map fun p => some p.2
def NoAt (no : List Addr) (K2 : Frag) : Prop := (K2.all fun p => !no.contains p.1) = true
def OffAt (h : Heap) (no : List Addr) (K : Frag) : Prop := ∀ a o, a ∉ no → K.lookup a = some o → h.get? a = some o
/-- a head's tree holds where the first head's objects stand, but for those at the addresses of a list that the tree has not -/
theorem holds_sub {h : Heap} {K K2 : Frag} {no : List Addr} (X : OffAt h no K) (e : SubAt K K2) (e2 : NoAt no K2) : KT.Holds h 1 0 (KT.of K2) := by
  refine holds_of ?_
  unfold SubAt at e
  unfold NoAt at e2
  induction K2 with
  | nil => exact trivial
  | cons p r ih =>
    rw [List.map_cons, List.map_cons] at e
    injection e with e1 e3
    rw [List.all_cons, Bool.and_eq_true] at e2
    exact ⟨X _ _ (by simpa [List.contains_eq_mem] using e2.1) e1, ih e3 e2.2⟩
theorem hk2_sub (P : Params) : SubAt (hd.heap_251 P) (hk2.heap_23 P) := by unfold SubAt; kernel_rfl
theorem h4_sub (P : Params) : SubAt (hd.heap_251 P) (h4.heap_23 P) := by unfold SubAt; kernel_rfl
theorem hk2_no (P : Params) : NoAt [218] (hk2.heap_23 P) := by unfold NoAt; kernel_rfl
theorem h4_no (P : Params) : NoAt [218, 100] (h4.heap_23 P) := by unfold NoAt; kernel_rfl
theorem hk2_kt (P : Params) : KT.of (hk2.heap_23 P) = hk2.ktop_59 P := by kernel_rfl
theorem h4_kt (P : Params) : KT.of (h4.heap_23 P) = h4.ktop_66 P := by kernel_rfl
structure HoldsAt (h : Heap) (t : KT) : Prop where
  out : KT.Holds h 1 0 t
theorem holds_at {h : Heap} {K K2 : Frag} {no : List Addr} {t : KT} (X : OffAt h no K) (e : SubAt K K2) (e2 : NoAt no K2) (e3 : KT.of K2 = t) : HoldsAt h t := by subst e3; exact ⟨holds_sub X e e2⟩
theorem hk2_holds {h : Heap} {P : Params} (X : OffAt h [218] (hd.heap_251 P)) : HoldsAt h (hk2.ktop_59 P) := by
  have e := hk2_sub P
  have e2 := hk2_no P
  have e3 := hk2_kt P
  generalize hk2.heap_23 P = K2 at e e2 e3
  generalize hd.heap_251 P = K at X e
  exact holds_at X e e2 e3
theorem h4_holds {h : Heap} {P : Params} (X : OffAt h [218, 100] (hd.heap_251 P)) : HoldsAt h (h4.ktop_66 P) := by
  have e := h4_sub P
  have e2 := h4_no P
  have e3 := h4_kt P
  generalize h4.heap_23 P = K2 at e e2 e3
  generalize hd.heap_251 P = K at X e
  exact holds_at X e e2 e3
theorem key_first {w : World} {s : Shared} {l : List Env} (X : OffAt s.heap [218] (hd.heap_251 w.params)) (hz : s.heap.objs.size = 235) (hg : s.gens = #[]) :
    wpAny (M0 w) (AX l) (call (.ref 105) [.ref 234]) (KeyMade w s) (fun _ _ => False) s := by
  obtain ⟨h, g, d, t, os⟩ := s
  have ZH := (hk2_holds X).out
  exact key_made w h g d t os l ZH hz hg
theorem oK_99 (P : Params) : (KK P).lookup 99 = some ⟨(oK P 99).cls, (oK P 99).dict, (oK P 99).data, (oK P 99).slots⟩ := by kernel_rfl
theorem oK_101 (P : Params) : (KK P).lookup 101 = some ⟨(oK P 101).cls, (oK P 101).dict, (oK P 101).data, (oK P 101).slots⟩ := by kernel_rfl
theorem oK_102 (P : Params) : (KK P).lookup 102 = some ⟨(oK P 102).cls, (oK P 102).dict, (oK P 102).data, (oK P 102).slots⟩ := by kernel_rfl
theorem oK_103 (P : Params) : (KK P).lookup 103 = some ⟨(oK P 103).cls, (oK P 103).dict, (oK P 103).data, (oK P 103).slots⟩ := by kernel_rfl
theorem oK_104 (P : Params) : (KK P).lookup 104 = some ⟨(oK P 104).cls, (oK P 104).dict, (oK P 104).data, (oK P 104).slots⟩ := by kernel_rfl
theorem oK_105 (P : Params) : (KK P).lookup 105 = some ⟨(oK P 105).cls, (oK P 105).dict, (oK P 105).data, (oK P 105).slots⟩ := by kernel_rfl
end Mine
end
section
open PySem PySem.W PySem.W.X PyProof.Rows PySem.Calls PySem.Spec PySem.W.ZRun
namespace Mine
set_option maxRecDepth 100000
theorem sec_any {w : World} {s : Shared} {l : List Env} {bb : Addr} {K1 : Frag} (cd : Codes K1) (X1 : K1.In s.heap) (XK : (KK w.params).In s.heap) (X : OffAt s.heap [218, 100] (hd.heap_251 w.params))
    (t100 : s.heap.get? 100 = some ⟨.none, none, .fields ⟨[.int 64 0, .int 4 0, .ref 242]⟩, #[]⟩) (h1 : 315 ≤ s.heap.objs.size) (h2 : s.heap.objs.size ≤ 323) (hg : s.gens = #[]) : wpAny (M0 w) (AX l) (call (.ref 105) [.ref bb]) (fun v s' => Kept2 s s') (fun _ _ => False) s := by
  obtain ⟨h, g, d, t, os⟩ := s
  dsimp only at X1 XK X t100 h1 h2 hg
  have ZH := (h4_holds X).out
  obtain ⟨t0, c240, c241, c242, c250, c258, c266, c274, c282, c290⟩ := cd
  have hz : h.objs.size = 315 ∨ h.objs.size = 316 ∨ h.objs.size = 317 ∨ h.objs.size = 318 ∨ h.objs.size = 319 ∨ h.objs.size = 320 ∨ h.objs.size = 321 ∨ h.objs.size = 322 ∨ h.objs.size = 323 := by omega
  rcases hz with hz | hz | hz | hz | hz | hz | hz | hz | hz
  · exact sec_made_315 w h g d t os l bb _ _ _ _ _ _ _ _ _ _ _ _ _ _ _ _ _ _ _ _ _ _ _ _ _ _ _ _ _ _ _ _ _ _ _ _ ZH (XK _ _ (oK_99 _)) (XK _ _ (oK_101 _)) (XK _ _ (oK_102 _)) (XK _ _ (oK_103 _)) (XK _ _ (oK_104 _)) (XK _ _ (oK_105 _)) t100 (X1 _ _ c240) (X1 _ _ c241) (X1 _ _ c242) (X1 _ _ c250) (X1 _ _ c258) (X1 _ _ c266) (X1 _ _ c274) (X1 _ _ c282) (X1 _ _ c290) hz hg
  · exact sec_made_316 w h g d t os l bb _ _ _ _ _ _ _ _ _ _ _ _ _ _ _ _ _ _ _ _ _ _ _ _ _ _ _ _ _ _ _ _ _ _ _ _ ZH (XK _ _ (oK_99 _)) (XK _ _ (oK_101 _)) (XK _ _ (oK_102 _)) (XK _ _ (oK_103 _)) (XK _ _ (oK_104 _)) (XK _ _ (oK_105 _)) t100 (X1 _ _ c240) (X1 _ _ c241) (X1 _ _ c242) (X1 _ _ c250) (X1 _ _ c258) (X1 _ _ c266) (X1 _ _ c274) (X1 _ _ c282) (X1 _ _ c290) hz hg
  · exact sec_made_317 w h g d t os l bb _ _ _ _ _ _ _ _ _ _ _ _ _ _ _ _ _ _ _ _ _ _ _ _ _ _ _ _ _ _ _ _ _ _ _ _ ZH (XK _ _ (oK_99 _)) (XK _ _ (oK_101 _)) (XK _ _ (oK_102 _)) (XK _ _ (oK_103 _)) (XK _ _ (oK_104 _)) (XK _ _ (oK_105 _)) t100 (X1 _ _ c240) (X1 _ _ c241) (X1 _ _ c242) (X1 _ _ c250) (X1 _ _ c258) (X1 _ _ c266) (X1 _ _ c274) (X1 _ _ c282) (X1 _ _ c290) hz hg
  · exact sec_made_318 w h g d t os l bb _ _ _ _ _ _ _ _ _ _ _ _ _ _ _ _ _ _ _ _ _ _ _ _ _ _ _ _ _ _ _ _ _ _ _ _ ZH (XK _ _ (oK_99 _)) (XK _ _ (oK_101 _)) (XK _ _ (oK_102 _)) (XK _ _ (oK_103 _)) (XK _ _ (oK_104 _)) (XK _ _ (oK_105 _)) t100 (X1 _ _ c240) (X1 _ _ c241) (X1 _ _ c242) (X1 _ _ c250) (X1 _ _ c258) (X1 _ _ c266) (X1 _ _ c274) (X1 _ _ c282) (X1 _ _ c290) hz hg
  · exact sec_made_319 w h g d t os l bb _ _ _ _ _ _ _ _ _ _ _ _ _ _ _ _ _ _ _ _ _ _ _ _ _ _ _ _ _ _ _ _ _ _ _ _ ZH (XK _ _ (oK_99 _)) (XK _ _ (oK_101 _)) (XK _ _ (oK_102 _)) (XK _ _ (oK_103 _)) (XK _ _ (oK_104 _)) (XK _ _ (oK_105 _)) t100 (X1 _ _ c240) (X1 _ _ c241) (X1 _ _ c242) (X1 _ _ c250) (X1 _ _ c258) (X1 _ _ c266) (X1 _ _ c274) (X1 _ _ c282) (X1 _ _ c290) hz hg
  · exact sec_made_320 w h g d t os l bb _ _ _ _ _ _ _ _ _ _ _ _ _ _ _ _ _ _ _ _ _ _ _ _ _ _ _ _ _ _ _ _ _ _ _ _ ZH (XK _ _ (oK_99 _)) (XK _ _ (oK_101 _)) (XK _ _ (oK_102 _)) (XK _ _ (oK_103 _)) (XK _ _ (oK_104 _)) (XK _ _ (oK_105 _)) t100 (X1 _ _ c240) (X1 _ _ c241) (X1 _ _ c242) (X1 _ _ c250) (X1 _ _ c258) (X1 _ _ c266) (X1 _ _ c274) (X1 _ _ c282) (X1 _ _ c290) hz hg
  · exact sec_made_321 w h g d t os l bb _ _ _ _ _ _ _ _ _ _ _ _ _ _ _ _ _ _ _ _ _ _ _ _ _ _ _ _ _ _ _ _ _ _ _ _ ZH (XK _ _ (oK_99 _)) (XK _ _ (oK_101 _)) (XK _ _ (oK_102 _)) (XK _ _ (oK_103 _)) (XK _ _ (oK_104 _)) (XK _ _ (oK_105 _)) t100 (X1 _ _ c240) (X1 _ _ c241) (X1 _ _ c242) (X1 _ _ c250) (X1 _ _ c258) (X1 _ _ c266) (X1 _ _ c274) (X1 _ _ c282) (X1 _ _ c290) hz hg
  · exact sec_made_322 w h g d t os l bb _ _ _ _ _ _ _ _ _ _ _ _ _ _ _ _ _ _ _ _ _ _ _ _ _ _ _ _ _ _ _ _ _ _ _ _ ZH (XK _ _ (oK_99 _)) (XK _ _ (oK_101 _)) (XK _ _ (oK_102 _)) (XK _ _ (oK_103 _)) (XK _ _ (oK_104 _)) (XK _ _ (oK_105 _)) t100 (X1 _ _ c240) (X1 _ _ c241) (X1 _ _ c242) (X1 _ _ c250) (X1 _ _ c258) (X1 _ _ c266) (X1 _ _ c274) (X1 _ _ c282) (X1 _ _ c290) hz hg
  · exact sec_made_323 w h g d t os l bb _ _ _ _ _ _ _ _ _ _ _ _ _ _ _ _ _ _ _ _ _ _ _ _ _ _ _ _ _ _ _ _ _ _ _ _ ZH (XK _ _ (oK_99 _)) (XK _ _ (oK_101 _)) (XK _ _ (oK_102 _)) (XK _ _ (oK_103 _)) (XK _ _ (oK_104 _)) (XK _ _ (oK_105 _)) t100 (X1 _ _ c240) (X1 _ _ c241) (X1 _ _ c242) (X1 _ _ c250) (X1 _ _ c258) (X1 _ _ c266) (X1 _ _ c274) (X1 _ _ c282) (X1 _ _ c290) hz hg
end Mine
end
section
open PySem PySem.W PySem.W.X PyProof.Rows PySem.Calls PySem.Spec
namespace Mine
set_option maxRecDepth 100000
theorem in_append {K1 K2 : Frag} {h : Heap} (x : K1.In h) (y : K2.In h) : (K1 ++ K2).In h := fun a o e => by
  rw [List.lookup_append] at e
  cases q : K1.lookup a with
  | some o' => rw [q] at e; cases e; exact x _ _ q
  | none => rw [q] at e; exact y _ _ e
section
variable {h h' : Heap} {L : Addr} {m : Str → Option Value}
/-- what is no dict does not stand at the frame's place -/
theorem ne_frame {a : Addr} {o : Obj} (ns : h.Ns L m) (e : h.get? a = some o) (nd : ∀ es ep, o.data ≠ .dict es ep) : a ≠ L := fun q => by
  obtain ⟨o', es, ep, e', hd, _⟩ := ns
  rw [← q, e] at e'
  cases e'
  exact nd _ _ hd
structure Off (L : Addr) (h h' : Heap) : Prop where
  get : ∀ a o, a ≠ L → h.get? a = some o → h'.get? a = some o
theorem off_hide : Off L h (hideAll h [L]) := ⟨fun a o ne e => hideAll_get _ e fun q => ne (List.mem_singleton.mp q)⟩
theorem off_but (x : Heap.ExtBut L h h') : Off L h h' := ⟨fun a o ne e => x _ _ ne e⟩
theorem off_list {a : Addr} {its : Array Value} (ns : h.Ns L m) (k : Off L h h') (x : h.IsList a its) : h'.IsList a its := by
  obtain ⟨o, ho, hc, n, hd⟩ := x
  exact ⟨o, k.get _ _ (ne_frame ns ho fun _ _ q => by rw [hd] at q; cases q) ho, hc, n, hd⟩
theorem off_tup {a : Addr} {its : Array Value} (ns : h.Ns L m) (k : Off L h h') (x : IsTup h a its) : IsTup h' a its := by
  obtain ⟨o, ho, hc, n, hd⟩ := x
  exact ⟨o, k.get _ _ (ne_frame ns ho fun _ _ q => by rw [hd] at q; cases q) ho, hc, n, hd⟩
theorem off_rec {c : Value} {q : Str} (ns : h.Ns L m) (k : Off L h h') (x : h.CodeRec c q) : h'.CodeRec c q := by
  obtain ⟨a, o, vs, t, rfl, ho, hd, hq⟩ := x
  exact ⟨a, o, vs, t, rfl, k.get _ _ (ne_frame ns ho fun _ _ q => by rw [hd] at q; cases q) ho, hd, hq⟩
theorem off_lam {v : Value} {f : Str} (ns : h.Ns L m) (k : Off L h h') (x : LamTo h v f) : LamTo h' v f := by
  obtain ⟨a, o, fd, p0, p1, p2, p3, e, ho, hd, r2, r3, r4, r5, r6, r7⟩ := x.at_
  exact ⟨a, o, fd, p0, p1, p2, p3, e, k.get _ _ (ne_frame ns ho fun _ _ q => by rw [hd] at q; cases q) ho, hd, r2, r3, r4, r5, r6, off_rec ns k r7⟩
theorem off_my {v : Value} (ns : h.Ns L m) (k : Off L h h') (x : MyCmp h v) : MyCmp h' v := by
  obtain ⟨a, o, fd, p0, p1, p2, p3, p4, p5, p6, p7, p8, k0, k1, k2, e, ho, hd, r2, r3, r4, r5⟩ := x
  exact ⟨a, o, fd, p0, p1, p2, p3, p4, p5, p6, p7, p8, k0, k1, k2, e, k.get _ _ (ne_frame ns ho fun _ _ q => by rw [hd] at q; cases q) ho, hd, r2, r3, r4, off_rec ns k r5⟩
theorem off_twelves {T : Addr} {items : Array Value} (ns : h.Ns L m) (k : Off L h h') (x : Twelves h T items) : Twelves h' T items :=
  ⟨off_list ns k x.list, x.size, fun i y hy => by
    obtain ⟨p, v, tn, tr, e1, e2, e3⟩ := x.at_ i y hy
    exact ⟨p, v, tn, tr, e1, off_tup ns k e2, off_lam ns k e3⟩⟩
theorem off_marks {n : Nat} {ys : List Value} (ns : h.Ns L m) (k : Off L h h') (x : MarksFrom n h ys) : MarksFrom n h' ys := fun i v hv => by
  obtain ⟨p, k', y, wr, t1, t2, r1, r2, r3, r4⟩ := x i v hv
  exact ⟨p, k', y, wr, t1, t2, r1, r2, r3, off_tup ns k r4⟩
end
/-- what stands ahead of the loop: h₀ is the heap at the law's call -/
structure Ready (w : World) (h₀ : Heap) (L : Addr) (m : Str → Option Value) (h : Heap) : Prop where
  ns : h.Ns L m
  old : ∀ b o, b ≠ 218 → b ≠ 100 → b ≠ 185 → h₀.get? b = some o → h.get? b = some o
  t218 : ∃ ps, h.get? 218 = some (tabObj ps)
  t100 : ∃ ps, h.get? 100 = some (tabObj ps)
  t185 : ∃ ps, h.get? 185 = some (tabObj ps)
  key : m "key" = some (.ref (nat_lit 295))
  made : ∃ K1 : Frag, (∀ a o, K1.lookup a = some o → 224 ≤ a) ∧ K1.In h ∧ KGood (K1 ++ KK w.params)
  my : MyCmp h (.ref (nat_lit 234))
  marks : ∃ M ys, m "marks" = some (.ref M) ∧ h.IsList M ys.toArray ∧ ys.length ≤ 100 ∧ MarksFrom 223 h ys
  twelve : ∃ T items, m "twelve" = some (.ref T) ∧ Twelves h T items
section
variable {w : World} {A : Around} {s : Shared} {h₀ h : Heap} {m : Str → Option Value}
theorem Ready.law (r : Ready w h₀ 223 m h) (X : Base w (hideAll h₀ [218, 100, 185])) : Law w (hideAll h [223]) m := by
  have st : (hideAll h₀ [218, 100, 185]).StaysIn (hideAll h [223]) := fun b o e => by
    have lt := X.low _ _ e
    refine off_hide.get _ _ (Nat.ne_of_lt lt) (r.old _ _ (fun q => ?_) (fun q => ?_) (fun q => ?_) (of_hideAll _ e))
    · rw [q, X.n218] at e; cases e
    · rw [q, X.n100] at e; cases e
    · rw [q, X.n185] at e; cases e
  have F := X.F.keeps st
  obtain ⟨K1, hlow, hK1, KG⟩ := r.made
  have K1B : K1.In (hideAll h [223]) := fun a o e => off_hide.get _ _ (Nat.ne_of_gt (hlow _ _ e)) (hK1 _ _ e)
  have KB : (K1 ++ KK w.params).In (hideAll h [223]) := in_append K1B F.K
  obtain ⟨T, items, hT, tw⟩ := r.twelve
  have MC := off_my r.ns off_hide r.my
  exact {
    F := F
    KB := fun B' u => klaw_of (F.keeps u) (KB.keeps u) KG.spec (MC.keeps u) KG.cls KG.mro KG.sub KG.q KG.k
    key := ⟨_, r.key, fun h' e => keeps_K KG.makes.keep h' (KB.keeps e), fun {A' l' n' s' y t} R hn e g => key_inst (KB.keeps e) KG.makes (F.lim.keeps e) (by have := R.depth; omega)⟩
    twelve := ⟨T, items, hT, off_twelves r.ns off_hide tw⟩ }
theorem oldK_of (X : Base w (hideAll h₀ [218, 100, 185])) (t1 : h₀.get? 218 = some (tabObj #[])) (t2 : h₀.get? 100 = some (tabObj #[])) (t3 : h₀.get? 185 = some (tabObj #[])) (old : ∀ b o, b ≠ 218 → b ≠ 100 → b ≠ 185 → h₀.get? b = some o → h.get? b = some o)
    (e1 : ∃ ps, h.get? 218 = some (tabObj ps)) (e2 : ∃ ps, h.get? 100 = some (tabObj ps)) (e3 : ∃ ps, h.get? 185 = some (tabObj ps)) : OldK h₀ h := by
  have k : (hideAll h₀ [218, 100, 185]).StaysIn h₀ := fun b o e => of_hideAll _ e
  have c1 : CodeHd h₀ 220 218 := X.code.keeps k
  have c3 : CodeHd h₀ 189 185 := (code189 X.F).keeps k
  have c2 : CodeHd h₀ 104 100 := CodeHd.keeps (h := hideAll h₀ [218, 100, 185]) ⟨_, _, _, _, _, _, _, _, _, X.F.K 104 _ rfl, rfl, rfl, rfl, rfl, rfl, rfl, rfl, rfl, by decide⟩ k
  have one : ∀ {c P : Addr} {o : Obj}, CodeHd h₀ c P → h₀.get? P = some (tabObj #[]) → (∃ ps, h.get? P = some (tabObj ps)) → h₀.get? P = some o → asItWas h₀ h P o := fun {c P o} cd t e q => by
    rw [t] at q
    cases q
    obtain ⟨ps, e⟩ := e
    exact .inr (.inl ⟨(cd.tab t).isCodeTable, rfl, #[], ps, rfl, by rw [e]; simp⟩)
  refine ⟨fun b o e => ?_, fun b o e => ?_⟩
  · by_cases b1 : b = 218
    · subst b1; exact one c1 t1 e1 e
    · by_cases b2 : b = 100
      · subst b2; exact one c2 t2 e2 e
      · by_cases b3 : b = 185
        · subst b3; exact one c3 t3 e3 e
        · exact .inl (old _ _ b1 b2 b3 e)
  · by_cases b1 : b = 218
    · subst b1; exact let ⟨ps, q⟩ := e1; ⟨_, q⟩
    · by_cases b2 : b = 100
      · subst b2; exact let ⟨ps, q⟩ := e2; ⟨_, q⟩
      · by_cases b3 : b = 185
        · subst b3; exact let ⟨ps, q⟩ := e3; ⟨_, q⟩
        · exact ⟨_, old _ _ b1 b2 b3 e⟩
/-- the loop and the last line, from a state that is ready -/
theorem law_loop {env : Env} {loop : Stmt} {d : Nat} {p1 p2 : Pos} (X : Base w (hideAll h₀ [218, 100, 185])) (hz : h₀.objs.size = 223) (t1 : h₀.get? 218 = some (tabObj #[])) (t2 : h₀.get? 100 = some (tabObj #[])) (t3 : h₀.get? 185 = some (tabObj #[]))
    (hL : env.locals = 223) (hk : env.scope.kind = .function) (hfr : env.frame = some env.locals) (hg : env.globals = mainGlobals) (hb : env.builtins = builtinsNs) (hgn : s.gens = #[]) (r : Ready w h₀ 223 m s.heap)
    (hfor : ∀ {B : Heap} {M : Addr} {items : Array Value}, Law w B m → InF env B [] m s → m "marks" = some (.ref M) → B.IsList M items → Marks B items → items.size ≤ 1000 → wpAny (M0 w) A (exec loop env) (fun fl s' => fl = .next ∧ Wf B [env] env.locals s s' ∧ ∃ m', s'.heap.Ns env.locals m' ∧ ∀ z, z ∉ names14 → m' z = m z) (fun _ _ => False) s) :
    wpAny (M0 w) A (execs [loop, .Return (some (.Constant (.bool true) d p1)) p2] env) (fun fl s' => fl = .ret (.bool true) ∧ OldK h₀ s'.heap ∧ s'.os = s.os ∧ s'.gens = #[]) (fun _ _ => False) s := by
  obtain ⟨M, ys, hM, hl, hlen, hm⟩ := r.marks
  have hnone : (hideAll s.heap [223]).get? 223 = none := hideAll_none _ (by decide)
  have hf := hfr
  rw [hL] at hf
  have ns : s.heap.Ns env.locals m := by rw [hL]; exact r.ns
  have I : InF env (hideAll s.heap [223]) [] m s := ⟨hk, hfr, hg, hb, ⟨fun b o e => of_hideAll _ e, .cons (by rw [hk]; decide) hf r.ns hnone trivial, hgn⟩, ns⟩
  refine wpAny_execs_cons (wpAny_mono (hfor (r.law X) I hM (off_list r.ns off_hide hl) (fun i v hv => ?_) (by rw [List.size_toArray]; omega)) (fun fl s' hq => ?_) fun _ _ z => z)
  · obtain ⟨p, k, y, wr, u1, u2, r1, r2, r3, r4⟩ := off_marks r.ns off_hide hm i v (by rw [List.getElem?_toArray] at hv; exact hv)
    exact ⟨p, k, y, wr, u1, u2, r1, r2, r4⟩
  · obtain ⟨rfl, wf, m', ns', hm'⟩ := hq
    refine wpAny_execs_cons (wpAny_Return_some (wpAny_Constant_bool ⟨rfl, ?_, wf.os, wf.sit.gens⟩))
    have keep : ∀ b o, b ≠ 223 → s.heap.get? b = some o → s'.heap.get? b = some o := fun b o ne e => wf.sit.stays _ _ (off_hide.get _ _ ne e)
    refine oldK_of X t1 t2 t3 (fun b o b1 b2 b3 e => keep _ _ (Nat.ne_of_lt (by rw [← hz]; exact Heap.lt_size e)) (r.old _ _ b1 b2 b3 e)) ?_ ?_ ?_
    · obtain ⟨ps, q⟩ := r.t218; exact ⟨ps, keep _ _ (by decide) q⟩
    · obtain ⟨ps, q⟩ := r.t100; exact ⟨ps, keep _ _ (by decide) q⟩
    · obtain ⟨ps, q⟩ := r.t185; exact ⟨ps, keep _ _ (by decide) q⟩
end
end Mine
end
section
open PySem PySem.W PySem.W.X PyProof.Rows PySem.Calls PySem.Spec
namespace Mine
set_option maxRecDepth 100000
section
variable {w : World} {A : Around} {s : Shared}
/-- into a function of the text's own, with the heap's size -/
theorem enter_sz {a : Addr} {o : Obj} {fd : FuncData} {body : List Stmt} {args : List Value} {binds : List (Str × Value)} {N : Nat} {Q E : Value → Shared → Prop}
    (hdp : A.depth < 1000) (hlim : s.heap.NoLimit) (hN : s.heap.objs.size = N) (ho : s.heap.get? a = some o) (hd : o.data = .func fd) (hbody : fd.body = .stmts body) (hcd : s.heap.CodeRec fd.code fd.qualname)
    (hbind : bindArgs fd ⟨args, []⟩ = pure binds) (hco : fd.scope.isCoroutine = false) (hgen : fd.scope.isGenerator = false) (hk : fd.scope.kind = .function)
    (hcell : ∀ x ∈ fd.scope.names, x.2 ≠ .cell) (hloc : ∀ x ∈ binds, fd.scope.names.lookup x.1 = some .local)
    (h : ∀ (env : Env) (h₁ : Heap) (tk : Nat), env = { scope := fd.scope, locals := N, globals := fd.globals, cells := fd.closure, qual := fd.qualname ++ ".<locals>.", func := some a, code := fd.code, frame := some N, builtins := fd.builtins } →
      (∀ b o, s.heap.get? b = some o → h₁.get? b = some o) → h₁.Ns N (fun x => binds.reverse.lookup x) → h₁.objs.size = N + 1 →
      wpAny (M0 w) (A.deeper env) (execs body env) (fun fl s' => Q (match fl with | .ret v => v | _ => .none) s') (fun _ _ => False) { s with heap := h₁, toks := tk }) :
    wpAny (M0 w) A (call (.ref a) args) Q E s := by
  subst hN
  refine wpAny_call (codeAny_call_function (fd := fd) hdp ho hd hco hgen hbody hcd ?_)
  rw [hbind]
  refine wpAny_pure (wpAny_newFunctionEnv hcell hloc (fun h₁ hns hsb => ⟨hlim.fresh _ hsb, ?_⟩) hk)
  have hkeep : ∀ b o, s.heap.get? b = some o → h₁.get? b = some o := fun b o e => (hsb.extBut b o (Nat.ne_of_lt (Heap.lt_size e)) (Heap.get?_push_of_some _ e))
  exact codeAny_func (wpAny_mono (h _ h₁ _ rfl hkeep hns (by rw [hsb.1, Heap.size_push])) (fun _ _ x => x) fun _ _ x => x.elim)
end
end Mine
end
section
open PySem PySem.W PySem.W.X PyProof.Rows PySem.Calls PySem.Spec
namespace Mine
set_option maxRecDepth 100000
theorem lawNames_kind (P : Params) : (fdAt (hd.heap_251 P) 221).scope.names = lawScope.names := by kernel_rfl
theorem my_but {h h' : Heap} {P : Addr} {v : Value} (x : MyCmp h v) (k : ∀ b o, b ≠ P → h.get? b = some o → h'.get? b = some o) {ps : Array Value} (t : h.get? P = some (tabObj ps)) (hp : ∀ x t, ps[1]? ≠ some (.str x t)) : MyCmp h' v := by
  obtain ⟨a, o, fd, p0, p1, p2, p3, p4, p5, p6, p7, p8, k0, k1, k2, e, ho, hd, r2, r3, r4, c, oc, ws, tq, r5, r6, r7, r8⟩ := x
  refine ⟨a, o, fd, p0, p1, p2, p3, p4, p5, p6, p7, p8, k0, k1, k2, e, k _ _ (fun q => ?_) ho, hd, r2, r3, r4, c, oc, ws, tq, r5, k _ _ (fun q => ?_) r6, r7, r8⟩
  · rw [q, t] at ho; cases ho; cases hd
  · rw [q, t] at r6; cases r6; cases r7; exact hp _ _ r8
section
variable {w : World} {A : Around} {s : Shared}
set_option maxHeartbeats 4000000 in
theorem law_call {scr : Addr} {vs : List Value} {ns : List Int} {mg mb : Str → Option Value} (hA : A.handled = none) (hfr : A.frames = some []) (hdp : A.depth ≤ 400) (hu : A.units ≤ 400) (X : (hd.heap_251 w.params).In s.heap) (G : s.heap.Ns mainGlobals mg) (Gb : s.heap.Ns builtinsNs mb) (hlim : s.heap.NoLimit)
    (hz : s.heap.objs.size = 223) (hg : s.gens = #[]) (hl : s.heap.IsList scr vs.toArray) (hi : IntsAre vs ns) (hlen : vs.length ≤ 1000) :
    wpAny (M0 w) A (call (.ref 221) [.ref scr]) (fun v s' => v = .bool true ∧ OldK s.heap s'.heap ∧ s'.os = s.os ∧ s'.gens = #[]) (fun _ _ => False) s := by
  have BX := base_of X hz G Gb hlim
  have t1 : s.heap.get? 218 = some (tabObj #[]) := X 218 _ (by kernel_rfl)
  have t2 : s.heap.get? 100 = some (tabObj #[]) := X 100 _ (by kernel_rfl)
  have t3 : s.heap.get? 185 = some (tabObj #[]) := X 185 _ (by kernel_rfl)
  have Rm : ∀ env, Room (A.deeper env) [env] 402 := fun env => ⟨hA, Around.frames_deeper hfr, by show A.depth + 1 ≤ 402; omega, by show A.units + 3 ≤ 10 * 402; omega⟩
  refine enter_sz (a := 221) (by omega) hlim hz (X 221 _ rfl) rfl rfl (codeRec_of X (by kernel_rfl)) (binds := [(("script" : Str), .ref scr)]) rfl rfl rfl rfl (by decide) (locs (scope := lawScope) rfl) fun env h₁ tk₁ henv k₁ ns₁ z₁ => ?_
  have hkd : env.scope.kind = .function := by rw [henv] <;> rfl
  have hK : ∀ x, env.kindOf x = lawScope.names.lookup x := fun x => by rw [henv] <;> rfl
  have hL : env.locals = 223 := by rw [henv] <;> rfl
  have hef : env.frame = some env.locals := by rw [henv] <;> rfl
  have heg : env.globals = mainGlobals := by rw [henv] <;> rfl
  have heb : env.builtins = builtinsNs := by rw [henv] <;> rfl
  have hec : env.code = .ref 220 := by rw [henv] <;> rfl
  have hbk : env.blockKind = .function := by rw [henv] <;> rfl
  have hint : interactive env = false := by rw [henv] <;> rfl
  have hcl1 : closureFor mscope env = pure [] := rfl
  have hcl2 : closureFor ascope env = pure [] := rfl
  have hA' : (A.deeper env).handled = none := hA
  have RE := Rm env
  clear Rm
  have kS : env.kindOf "script" = some .local := by rw [hK]; decide
  have kN : env.kindOf "numbers" = some .local := by rw [hK]; decide
  have kK : env.kindOf "key" = some .local := by rw [hK]; decide
  have kM : env.kindOf "marks" = some .local := by rw [hK]; decide
  have kT : env.kindOf "twelve" = some .local := by rw [hK]; decide
  have kC : env.kindOf "cmp_to_key" = some .globalImplicit := by rw [hK]; decide
  have kW : env.kindOf "_law_twelve" = some .globalImplicit := by rw [hK]; decide
  have n1 : h₁.Ns env.locals (fun x => [(("script" : Str), Value.ref scr)].reverse.lookup x) := by rw [hL]; exact ns₁
  refine wpAny_execs_cons (numbers_assign hkd (by exact n1) kS kN rfl (hl.at fun o e => k₁ _ _ e) hi hlen rfl fun h₂ tk₂ its k₂ ns₂ z₂ l₂ a4 a12 hits => ?_)
  dsimp only at k₂ z₂ l₂ ns₂
  rw [z₁] at z₂ l₂ ns₂
  rw [hL] at k₂
  have k12 : ∀ b o, s.heap.get? b = some o → h₂.get? b = some o := fun b o e => k₂ _ _ (Nat.ne_of_lt (by rw [← hz]; exact Heap.lt_size e)) (k₁ _ _ e)
  have S₂ : (hideAll s.heap [218, 100, 185]).StaysIn h₂ := fun b o e => k12 _ _ (of_hideAll _ e)
  clear k₂ k₁ n1 ns₁
  obtain ⟨m₂, ns₂, eN₂⟩ : ∃ m₂ : Str → Option Value, h₂.Ns env.locals m₂ ∧ m₂ "numbers" = some (.ref 227) := ⟨_, ns₂, rfl⟩
  refine wpAny_execs_cons (wpAny_Assign_Name (lam_arg (N := 228) BX S₂ z₂ hkd heg hec kC (k12 _ _ t1) trivial rfl rfl hcl2 rfl fun h₃ tk₃ mn k₃ z₃ t218₃ f₃ r₃ => ?_) rfl)
  dsimp only at k₃ z₃ t218₃ f₃ r₃
  rw [Array.empty_append] at t218₃
  have k13 : ∀ b o, b ≠ 218 → s.heap.get? b = some o → h₃.get? b = some o := fun b o ne e => k₃ _ _ ne (k12 _ _ e)
  have O₃ : OffAt h₃ [218] (hd.heap_251 w.params) := fun a o ne e => k13 _ _ (fun q => ne (List.mem_singleton.mpr q)) (X _ _ e)
  have my₃ : MyCmp h₃ (.ref (nat_lit 234)) := ⟨_, _, _, _, _, _, _, _, _, _, _, _, _, _, _, rfl, f₃, rfl, rfl, rfl, fun _ _ => rfl, r₃⟩
  have n₃ : h₃.Ns env.locals m₂ := ns₂.at' fun o e => k₃ _ _ (by rw [hL]; decide) e
  have l₃ : h₃.IsList 227 its := l₂.at fun o e => k₃ _ _ (by decide) e
  clear k12 S₂ k₃ f₃ r₃ ns₂ l₂
  refine room_of RE (by decide) (wpAny_mono (key_first (s := { s with heap := h₃, toks := tk₃ }) O₃ z₃ hg) (fun v s₄ km => ?_) fun _ _ z => z.elim)
  obtain ⟨rfl, g₄, o₄, z₄, t100₄, k₄, K1, K1in, KG, cd, hlow⟩ := km
  dsimp only at g₄ o₄ k₄
  have k14 : ∀ b o, b ≠ 218 → b ≠ 100 → s.heap.get? b = some o → s₄.heap.get? b = some o := fun b o b1 b2 e => k₄ _ _ b2 (k13 _ _ b1 e)
  have my₄ : MyCmp s₄.heap (.ref (nat_lit 234)) := my_but my₃ k₄ (k13 _ _ (by decide) t2) (by intro x t e; cases e)
  have t218₄ := k₄ _ _ (by decide) t218₃
  have n₄ : s₄.heap.Ns env.locals m₂ := n₃.at' fun o e => k₄ _ _ (by rw [hL]; decide) e
  have l₄ : s₄.heap.IsList 227 its := l₃.at fun o e => k₄ _ _ (by decide) e
  clear k13 O₃ my₃ n₃ l₃ k₄ z₃ t218₃
  refine wpAny_storeName_local kK n₄ (fun h₅ ns₅ sb₅ => ?_) (by rw [hkd]; rfl)
  have x₅ : Heap.ExtBut 223 s₄.heap h₅ := by rw [← hL]; exact sb₅.extBut
  have z₅ : h₅.objs.size = 299 := by rw [sb₅.1, z₄]
  have k15 : ∀ b o, b ≠ 218 → b ≠ 100 → s.heap.get? b = some o → h₅.get? b = some o := fun b o b1 b2 e => x₅ _ _ (Nat.ne_of_lt (by rw [← hz]; exact Heap.lt_size e)) (k14 _ _ b1 b2 e)
  have my₅ : MyCmp h₅ (.ref (nat_lit 234)) := off_my (L := 223) (by rw [← hL]; exact n₄) (off_but x₅) my₄
  have t100₅ := x₅ _ _ (by decide) t100₄
  have t218₅ := x₅ _ _ (by decide) t218₄
  have K₅ : K1.In h₅ := fun a o e => x₅ _ _ (Nat.ne_of_gt (hlow _ _ e)) (K1in _ _ e)
  have l₅ : h₅.IsList 227 its := l₄.extBut x₅ (by decide)
  obtain ⟨m₅, n₅, eN₅, eK₅⟩ : ∃ m₅ : Str → Option Value, h₅.Ns env.locals m₅ ∧ m₅ "numbers" = some (.ref 227) ∧ m₅ "key" = some (.ref (nat_lit 295)) := ⟨_, ns₅, by show (if _ then _ else _) = _; rw [if_neg (by decide)]; exact eN₂, rfl⟩
  clear k14 my₄ t100₄ t218₄ K1in l₄ x₅ sb₅ ns₅ n₄ eN₂ z₄
  refine wpAny_execs_cons (marks_assign hA' hkd (by exact n₅) kN kM eN₅ (by exact l₅) (by omega) hits (fun {cenv s' m' x t Q E} c1 c2 c3 c4 c5 => mark_of c1 c2 c3 c4 c5) ?sw hcl1 fun h₆ tk₆ D ys k₆ ns₆ z₆ l₆ len₆ M₆ lt₆ => ?_)
  case sw => rw [henv]; rfl
  dsimp only at k₆ z₆ M₆ lt₆
  rw [z₅] at z₆ M₆ lt₆
  rw [hL] at k₆
  have k16 : ∀ b o, b ≠ 218 → b ≠ 100 → s.heap.get? b = some o → h₆.get? b = some o := fun b o b1 b2 e => k₆ _ _ (Nat.ne_of_lt (by rw [← hz]; exact Heap.lt_size e)) (k15 _ _ b1 b2 e)
  have my₆ : MyCmp h₆ (.ref (nat_lit 234)) := off_my (L := 223) (by rw [← hL]; exact n₅) ⟨k₆⟩ my₅
  have t100₆ := k₆ _ _ (by decide) t100₅
  have t218₆ := k₆ _ _ (by decide) t218₅
  have K₆ : K1.In h₆ := fun a o e => k₆ _ _ (Nat.ne_of_gt (hlow _ _ e)) (K₅ _ _ e)
  obtain ⟨m₆, n₆, eK₆, eM₆⟩ : ∃ m₆ : Str → Option Value, h₆.Ns env.locals m₆ ∧ m₆ "key" = some (.ref (nat_lit 295)) ∧ m₆ "marks" = some (.ref D) := ⟨_, ns₆, by show (if _ then _ else _) = _; rw [if_neg (by decide)]; exact eK₅, rfl⟩
  have S₆ : (hideAll s.heap [218, 100, 185]).StaysIn h₆ := fun b o e => k16 _ _ (fun q => by rw [q, BX.n218] at e; cases e) (fun q => by rw [q, BX.n100] at e; cases e) (of_hideAll _ e)
  clear k15 my₅ t100₅ t218₅ K₅ n₅ eN₅ eK₅ ns₆ k₆ l₅ hits
  refine wpAny_execs_cons (wpAny_Expr_any (lam_arg (N := 299 + 5 + its.size) BX S₆ z₆ hkd heg hec kC t218₆ trivial rfl rfl hcl2 rfl fun h₇ tk₇ mn₇ k₇ z₇ t218₇ f₇ r₇ => ?_) hint rfl)
  dsimp only at k₇ z₇
  have k17 : ∀ b o, b ≠ 218 → b ≠ 100 → s.heap.get? b = some o → h₇.get? b = some o := fun b o b1 b2 e => k₇ _ _ b1 (k16 _ _ b1 b2 e)
  have my₇ : MyCmp h₇ (.ref (nat_lit 234)) := my_but my₆ k₇ t218₆ (by intro x t e; cases e)
  have t100₇ := k₇ _ _ (by decide) t100₆
  have K₇ : K1.In h₇ := fun a o e => k₇ _ _ (Nat.ne_of_gt (Nat.lt_of_lt_of_le (by decide) (hlow _ _ e))) (K₆ _ _ e)
  have n₇ : h₇.Ns env.locals m₆ := n₆.at' fun o e => k₇ _ _ (by rw [hL]; decide) e
  have l₇ : h₇.IsList D ys.toArray := l₆.at fun o e => k₇ _ _ (Nat.ne_of_gt (Nat.lt_trans (by decide) lt₆)) e
  have M₇ : MarksFrom 299 h₇ ys := M₆.but k₇ (by decide)
  have S₇ : (hideAll s.heap [218, 100, 185]).StaysIn h₇ := fun b o e => k17 _ _ (fun q => by rw [q, BX.n218] at e; cases e) (fun q => by rw [q, BX.n100] at e; cases e) (of_hideAll _ e)
  have O₇ : OffAt h₇ [218, 100] (hd.heap_251 w.params) := fun a o ne e => k17 _ _ (fun q => ne (by rw [q]; decide)) (fun q => ne (by rw [q]; decide)) (X _ _ e)
  clear k16 my₆ t100₆ t218₆ K₆ n₆ l₆ M₆ S₆ k₇ f₇ r₇
  refine room_of RE (by decide) (wpAny_mono (sec_any (s := { s₄ with heap := h₇, toks := tk₇ }) cd K₇ (BX.F.K.keeps S₇) O₇ t100₇ (by show 315 ≤ h₇.objs.size; omega) (by show h₇.objs.size ≤ 323; omega) (g₄.trans hg)) (fun v s₈ hq => ?_) fun _ _ z => z.elim)
  obtain ⟨g₈, o₈, k₈⟩ := hq
  dsimp only at g₈ o₈ k₈
  have k18 : ∀ b o, b ≠ 218 → b ≠ 100 → s.heap.get? b = some o → s₈.heap.get? b = some o := fun b o b1 b2 e => k₈ _ _ (k17 _ _ b1 b2 e)
  have my₈ : MyCmp s₈.heap (.ref (nat_lit 234)) := my₇.keeps k₈
  have t100₈ := k₈ _ _ t100₇
  have t218₈ := k₈ _ _ t218₇
  have K₈ : K1.In s₈.heap := K₇.keeps k₈
  have n₈ : s₈.heap.Ns env.locals m₆ := n₇.keeps k₈
  have l₈ : s₈.heap.IsList D ys.toArray := l₇.at fun o e => k₈ _ _ e
  have M₈ : MarksFrom 299 s₈.heap ys := fun i v hv => by
    obtain ⟨p, k, y, wr, t1, t2, r1, r2, r3, r4⟩ := M₇ i v hv
    exact ⟨p, k, y, wr, t1, t2, r1, r2, r3, r4.keeps k₈⟩
  have S₈ : (hideAll s.heap [218, 100, 185]).StaysIn s₈.heap := fun b o e => k₈ _ _ (S₇ _ _ e)
  clear k17 my₇ t100₇ t218₇ K₇ n₇ l₇ M₇ S₇ O₇ k₈ z₇ z₆ z₅
  obtain ⟨mg', hmg', _, hb'⟩ := BX.mg
  refine wpAny_execs_cons (wpAny_Assign_Name (wpAny_Call_ofName (ev_glob BX.F S₈ hkd heg kW (v := .ref 190) (by kernel_rfl) ?_)) rfl)
  refine callWith_K0 (K := KK w.params) (BX.F.K.keeps S₈) (by kernel_rfl) ?_
  refine wpAny_mono (twelve_call (by show A.depth + 1 < 900; omega) (BX.F.K.keeps S₈) (BX.F.lim.keeps S₈) (hmg'.keeps S₈) ((code189 BX.F).keeps S₈) (hb'.keeps S₈) (k18 _ _ (by decide) (by decide) t3)) (fun v s₉ kt => ?_) fun _ _ z => z.elim
  obtain ⟨k₉, t185₉, g₉, o₉, T, items, rfl, tw₉⟩ := kt
  have x₉ : Heap.ExtBut 185 s₈.heap s₉.heap := k₉
  have n₉ : s₉.heap.Ns env.locals m₆ := n₈.at' fun o e => k₉ _ _ (by rw [hL]; decide) e
  have my₉ : MyCmp s₉.heap (.ref (nat_lit 234)) := my_but my₈ k₉ (k18 _ _ (by decide) (by decide) t3) (by intro x t e; cases e)
  refine wpAny_storeName_local kT n₉ (fun h₁₀ ns₁₀ sb₁₀ => ?_) (by rw [hkd]; rfl)
  have y : Heap.ExtBut 223 s₉.heap h₁₀ := by rw [← hL]; exact sb₁₀.extBut
  have n₉' : s₉.heap.Ns 223 m₆ := by rw [← hL]; exact n₉
  rw [hL] at ns₁₀
  have kk : ∀ b o, b ≠ 185 → b ≠ 223 → s₈.heap.get? b = some o → h₁₀.get? b = some o := fun b o b1 b2 e => y _ _ b2 (k₉ _ _ b1 e)
  have l₉ : s₉.heap.IsList D ys.toArray := l₈.extBut x₉ (Nat.ne_of_gt (Nat.lt_trans (by decide) lt₆))
  have M₉ : MarksFrom 299 s₉.heap ys := M₈.but x₉ (by decide)
  have rd : Ready w s.heap 223 (fun z => if z = "twelve" then some (.ref T) else m₆ z) h₁₀ := {
    ns := ns₁₀
    old := fun b o b1 b2 b3 e => kk _ _ b3 (Nat.ne_of_lt (by rw [← hz]; exact Heap.lt_size e)) (k18 _ _ b1 b2 e)
    t218 := ⟨_, kk _ _ (by decide) (by decide) t218₈⟩
    t100 := ⟨_, kk _ _ (by decide) (by decide) t100₈⟩
    t185 := let ⟨ps, e⟩ := t185₉; ⟨ps, y _ _ (by decide) e⟩
    key := by show (if _ then _ else _) = _; rw [if_neg (by decide)]; exact eK₆
    made := ⟨K1, hlow, fun a o e => kk _ _ (Nat.ne_of_gt (Nat.lt_of_lt_of_le (by decide) (hlow _ _ e))) (Nat.ne_of_gt (hlow _ _ e)) (K₈ _ _ e), KG⟩
    my := off_my n₉' (off_but y) my₉
    marks := ⟨D, ys, by show (if _ then _ else _) = _; rw [if_neg (by decide)]; exact eM₆, off_list n₉' (off_but y) l₉, by rw [len₆]; omega, (off_marks n₉' (off_but y) M₉).mono (by decide)⟩
    twelve := ⟨T, items, rfl, off_twelves n₉' (off_but y) tw₉⟩ }
  have os₁₀ : s₉.os = s.os := o₉.trans (o₈.trans o₄)
  have gn₁₀ : s₉.gens = #[] := g₉.trans (g₈.trans (g₄.trans hg))
  clear kk M₉ l₉ n₉' y n₉ my₉ x₉ k₉ S₈ M₈ l₈ n₈ K₈ t218₈ t100₈ my₈ k18 tw₉ t185₉
  refine wpAny_mono (law_loop (s := { s₉ with heap := h₁₀, toks := _ }) BX hz t1 t2 t3 hL hkd hef heg heb gn₁₀ rd (fun {B M items} W I hM hl hm hsz => for_j hK W RE I hM hl hm hsz fun W I hM hl hm hz hj h0 h1 => turn_j hK W RE I hM hl hm hz hj h0 h1 ?hl hint fun W I MA hO hol hoo => for_others hK W RE (by decide) I MA hO hol hoo fun W I hM hl hj h0 h1 hv hp ho hq hk hk2 => other_body hK hbk W RE (by decide) I hM hl hj h0 h1 hv hp ho hq hk hk2 (fun F KB I hT C TB => for12 hK F KB RE (by decide) I hT C TB) ?sw2 ?ss)) (fun fl s' hq => ?_) fun _ _ z => z
  case hl => rfl
  case sw2 => rfl
  case ss => rw [henv]; rfl
  obtain ⟨rfl, q1, q2, q3⟩ := hq
  exact ⟨rfl, q1, q2.trans os₁₀, q3⟩
end
end Mine
end
section
open PySem PySem.W PySem.W.X PyProof.Rows PySem.Calls PySem.Spec
namespace Mine
set_option maxRecDepth 100000
theorem good_true {c : ClaimW} {cl : Str → Option Addr} {mean : ExcName → Option Value} {args : List WData} {s₁ s' : Shared} (hr : ∀ cls, c.raises args cls = false) (hp : c.post args (.bool true) args = true) (o : OldK s₁.heap s'.heap) (ho : s'.os = s₁.os) (hg : s'.gens = #[]) :
    GoodWG c cl mean args s₁ (.ok (.ret (.bool true))) s' :=
  ⟨.inl ⟨_, _, [], rfl, hr, ReadsW.bool true, hp, fun _ => ⟨List.nodup_nil, fun _ hm => (nomatch hm)⟩⟩, o, ho, .of_eq hg⟩
end Mine
end
open PySem PySem.W PySem.W.X PyProof.Rows PySem.Calls PySem.Spec
set_option maxRecDepth 100000 in
set_option maxHeartbeats 8000000 in
theorem PySem.Challenge.cw_nq0073_01_holds : PySem.Challenge.rw_nq0073_01.Holds := by
  refine Mine.hd ?_
  intro w s₀ s₁ mg mb G y fa o pm cd doc dV kV ho hd' hcd hD hmg hg args vals as L hpre hlay hrd hwl hlo
  obtain ⟨_, ZI, ZN, _⟩ := z_facts (K := Mine.hd.heap_251) (fun P => by kernel_rfl) y
  have X := InK.keeps w _ _ ZI L.keeps
  clear y ZI
  refine Ground.open G ?_
  intro T B D TE TW
  wrow_args hpre hlay hrd hwl hlo
  obtain ⟨hat, hsz⟩ := script_at L
  rename IntsAre _ _ => hI
  rename Heap.IsList _ _ _ => hl
  rename ¬ (_ < _) => hc
  have e : some (Value.ref fa) = some (Value.ref 221) := hmg.symm.trans (Mine.ns_val (n := Str.ofString "law") X T.g (by kernel_rfl))
  cases e
  have hlen := hI.length
  have hln := Nat.le_trans (Nat.le_of_eq hlen) (show _ ≤ 1000 by omega)
  refine wpAny_mono (Mine.law_call (A := callerA) rfl rfl (by show 1 + 300 ≤ 400; omega) (by show 4 ≤ 400; omega) X T.g T.b T.nolimit (by rw [hsz, ZN]) hg hl hI hln) (fun v s' hq => ?_) fun _ _ z => z.elim
  obtain ⟨rfl, q1, q2, q3⟩ := hq
  exact Mine.good_true (fun _ => rfl) (by wrow_post) q1 q2 q3
